/- Plain words on memory: what stays as it was, slices of bytes that read as a list, blocks known whole. No program in sight. -/
import Derived.WalkKit
import Derived.WalkLawsBesides
import Derived.WalkSpells
import Derived.Below
import Derived.Laws.OwnMore
import Derived.Laws.IdiomStrings
import Derived.Deep.Draws
import Derived.Lib.Hide
import Derived.Lib.Strings
import Derived.Laws.IdiomCopy
import Derived.Laws.Rows
import Derived.Deep.MidRow
namespace Go.Proofs.YtfagjhgmmaebfaaGreatDoor
open Go.RowKit

theorem at_cells {W w1 : World} (hb : Below W.heap.size W w1) : (∀ b o, b < W.heap.size → w1.cell? ⟨b, o, none⟩ = W.cell? ⟨b, o, none⟩) ∧ (∀ b o, b < W.heap.size → w1.frozen? ⟨b, o, none⟩ = W.frozen? ⟨b, o, none⟩) :=
  ⟨fun b o h => hb.cell (p := ⟨b, o, none⟩) h, fun b o h => hb.frozen (p := ⟨b, o, none⟩) h⟩
theorem below_new {w w' : World} {o : Obj} (h : Below (w.alloc o).heap.size (w.alloc o) w') : Below w.heap.size w w' :=
  ((Below.refl _ _).alloc (Nat.le_refl _) _).trans (h.mono (by simp))
theorem below_drewN {B : Nat} {a w : World} (h : Below B a w) (n : Nat) : Below B a (w.drewN n) := ⟨h.os, h.tape, h.output, h.size, h.block⟩
theorem below_self (B : Nat) (w : World) (n : Nat) : Below B w (w.drewN n) := below_drewN (Below.refl _ _) n

/-- A byte as a cell. -/
def byteV (b : UInt8) : Value := .int .u8 (b.toNat : Int)
theorem byteV_one (l : List UInt8) : ∀ u ∈ l.map byteV, u.oneCell' = true := by
  intro u hu; obtain ⟨_, _, rfl⟩ := List.mem_map.1 hu; rfl
/-- The cells from 'a' on are the bytes l. -/
def BytesAt (w : World) (a : Addr) (l : List UInt8) : Prop := ∀ j (h : j < l.length), w.cell? (a.add j) = some (byteV l[j])
theorem BytesAt.below {w w' : World} {a : Addr} {l : List UInt8} {B : Nat} (h : BytesAt w a l) (hb : Below B w w') (ha : a.block < B) : BytesAt w' a l := fun j hj => by
  have e : (a.add j).block = a.block := by unfold Addr.add; split <;> rfl
  exact (hb.cell (by rw [e]; exact ha)).trans (h j hj)
theorem ownsRow_bytes {w : World} {base : Nat} {e : TypeId} {g n cap : Nat} {l : List UInt8} (h : w.ownsRow base e 1 (.slice (some ⟨g, 0, none⟩) n cap) n (l.map byteV)) : BytesAt w ⟨g, 0, none⟩ l := fun j hj =>
  h.cells (g := g) rfl j _ (by rw [List.getElem?_map, List.getElem?_eq_getElem hj]; rfl)
/-- 'string(b)', b a slice of one's own that holds l (nil too). -/
theorem run_string_own {P : Program} (w : World) (src dst e : TypeId) (base : Nat) (v : Value) (l : List UInt8) (hs : P.underlying src = some (.slice e)) (he : P.underlying e = some (.int .u8)) (hd : P.underlying dst = some .string)
    (h : w.ownsRow base e 1 v l.length (l.map byteV)) : (convert src dst v).run P w = .ok (.string ⟨l.toArray⟩) w := by
  rcases h.2 with ⟨rfl, hl⟩ | ⟨g, cap, cur, rfl, _⟩
  · have : l = [] := List.eq_nil_of_length_eq_zero hl
    subst this
    rw [run_convert_bytes_string w src dst e _ _ _ hs he hd]
    rfl
  · exact run_convert_bytes_back w src dst e ⟨g, 0, none⟩ cap l hs he hd (ownsRow_bytes h)

/-- The lowest byte first. -/
def leB : Nat → Nat → List UInt8
  | _, 0 => []
  | n, k + 1 => UInt8.ofNat (n % 256) :: leB (n / 256) k
theorem leB_length (n k : Nat) : (leB n k).length = k := by
  induction k generalizing n with
  | zero => rfl
  | succ k ih => simp [leB, ih]
end Go.Proofs.YtfagjhgmmaebfaaGreatDoor
/- Plain words on memory: blocks known whole, what a call may have changed. No program in sight. -/
namespace Go.Proofs.YtfagjhgmmaebfaaGreatDoor
open Go.RowKit

/-- Block g is just the cells cs of element type t, none frozen. -/
def Blk (w : World) (g : Nat) (t : TypeId) (cs : Array Value) : Prop := w.heap[g]? = some (.cells cs t (0, 0))
section
variable {w w' : World} {g : Nat} {t : TypeId} {cs : Array Value}
theorem Blk.lt (h : Blk w g t cs) : g < w.heap.size := by
  rcases Nat.lt_or_ge g w.heap.size with hlt | hge
  · exact hlt
  · unfold Blk at h; rw [Array.getElem?_eq_none hge] at h; cases h
theorem Blk.cell (h : Blk w g t cs) (i : Nat) : w.cell? ⟨g, i, none⟩ = cs[i]? := cell_of_row w g i cs t (0, 0) h
theorem Blk.frozen (h : Blk w g t cs) (i : Nat) : w.frozen? ⟨g, i, none⟩ = false := by
  unfold Blk at h
  simp [World.frozen?, h]
theorem Blk.new (w : World) (t : TypeId) (cs : Array Value) : Blk (w.alloc (.cells cs t)) w.heap.size t cs := heap_alloc_new w _
theorem Blk.cast {cs' : Array Value} (h : Blk w g t cs) (e : cs = cs') : Blk w g t cs' := e ▸ h
theorem Blk.drew (h : Blk w g t cs) : Blk w.drew g t cs := h
theorem Blk.drewN (h : Blk w g t cs) (n : Nat) : Blk (w.drewN n) g t cs := h
theorem Blk.alloc (h : Blk w g t cs) (o : Obj) : Blk (w.alloc o) g t cs := (Below.heap_alloc w o g h.lt).trans h
theorem Blk.set_ (h : Blk w g t cs) (i : Nat) (u : Value) : Blk (w.setCell ⟨g, i, none⟩ u) g t (cs.setIfInBounds i u) := by
  unfold Blk at h ⊢
  simp [World.setCell, Array.getElem?_modify, h]
theorem Blk.far (h : Blk w g t cs) {p : Addr} (hp : g ≠ p.block) (u : Value) : Blk (w.setCell p u) g t cs := (Below.heap_setCell w p u g hp).trans h
theorem Blk.below {B : Nat} (h : Blk w g t cs) (hb : Below B w w') (hg : g < B) : Blk w' g t cs := (hb.block g hg).trans h
theorem Blk.grown {row : Option Nat} (h : Blk w g t cs) (hb : w.grownBy w' row) (hg : some g ≠ row) : Blk w' g t cs := (hb.block g h.lt hg).trans h
theorem Blk.ne_ {g' : Nat} {t' : TypeId} {cs' : Array Value} (h : Blk w g t cs) (h' : Blk w g' t' cs') (hne : t ≠ t') : g ≠ g' := by
  rintro rfl
  unfold Blk at h h'
  rw [h] at h'
  injection h' with h'
  injection h' with _ ht
  exact hne ht
/-- Values written one behind the other. -/
def putAll (cs : Array Value) : Nat → List Value → Array Value
  | _, [] => cs
  | o, v :: r => putAll (cs.setIfInBounds o v) (o + 1) r
theorem putAll_size : ∀ (vs : List Value) (cs : Array Value) (o : Nat), (putAll cs o vs).size = cs.size
  | [], _, _ => rfl
  | v :: r, cs, o => by rw [putAll, putAll_size r]; simp
theorem putAll_append : ∀ (a b : List Value) (cs : Array Value) (o : Nat), putAll cs o (a ++ b) = putAll (putAll cs o a) (o + a.length) b
  | [], _, _, _ => rfl
  | v :: r, b, cs, o => by
    rw [List.cons_append, putAll, putAll_append r b, putAll, List.length_cons, Nat.add_assoc, Nat.add_comm 1]
theorem putAll_get : ∀ (vs : List Value) (cs : Array Value) (o i : Nat), o + vs.length ≤ cs.size → (putAll cs o vs)[i]? = if o ≤ i ∧ i < o + vs.length then vs[i - o]? else cs[i]?
  | [], cs, o, i, _ => by rw [if_neg (by simp)]; rfl
  | v :: r, cs, o, i, h => by
    rw [putAll, putAll_get r _ _ _ (by simp at h ⊢; omega), Array.getElem?_setIfInBounds]
    simp only [List.length_cons] at h ⊢
    by_cases h1 : o + 1 ≤ i ∧ i < o + 1 + r.length
    · rw [if_pos h1, if_pos (by omega), show i - o = (i - (o + 1)) + 1 by omega]
      rfl
    · rw [if_neg h1]
      by_cases h2 : o = i
      · subst h2
        rw [if_pos rfl, if_pos (by omega), if_pos (by omega)]
        simp
      · rw [if_neg h2, if_neg (by omega)]
/-- The same of lists of bytes. -/
def putB (l : List UInt8) (o : Nat) (b : List UInt8) : List UInt8 := l.take o ++ b ++ l.drop (o + b.length)
theorem putB_length (l : List UInt8) (o : Nat) (b : List UInt8) (h : o + b.length ≤ l.length) : (putB l o b).length = l.length := by
  simp [putB]; omega
theorem putAll_bytes (l b : List UInt8) (o : Nat) (h : o + b.length ≤ l.length) : putAll (l.map byteV).toArray o (b.map byteV) = ((putB l o b).map byteV).toArray := by
  apply Array.ext_getElem?
  intro i
  rw [putAll_get _ _ _ _ (by simpa using h)]
  simp only [List.length_map, List.getElem?_map, List.getElem?_toArray, putB]
  by_cases h1 : o ≤ i ∧ i < o + b.length
  · rw [if_pos h1, List.append_assoc, List.getElem?_append_right (by simp; omega), List.getElem?_append_left (by simp; omega)]
    simp; congr 1; congr 1; omega
  · rw [if_neg h1]
    by_cases h2 : i < o
    · rw [List.append_assoc, List.getElem?_append_left (by simp; omega), List.getElem?_take_of_lt h2]
    · rw [List.getElem?_append_right (by simp; omega), List.getElem?_drop]
      simp; congr 1; congr 1; omega
theorem Blk.setCells (h : Blk w g t cs) (o : Nat) (vs : List Value) : Blk (w.setCells g o vs) g t (putAll cs o vs) := by
  induction vs generalizing w cs o with
  | nil => exact h
  | cons v r ih => exact ih (h.set_ o v) (o + 1)
theorem heap_setCells (b : Nat) : ∀ (vs : List Value) (o : Nat) (w : World) (k : Nat), k ≠ b → (w.setCells b o vs).heap[k]? = w.heap[k]?
  | [], _, _, _, _ => rfl
  | v :: r, o, w, k, hk => (heap_setCells b r (o + 1) _ k hk).trans (Below.heap_setCell w ⟨b, o, none⟩ v k hk)
theorem size_setCells (b : Nat) : ∀ (vs : List Value) (o : Nat) (w : World), (w.setCells b o vs).heap.size = w.heap.size
  | [], _, _ => rfl
  | v :: r, o, w => (size_setCells b r (o + 1) _).trans (by simp [World.setCell])
theorem Blk.fars (h : Blk w g t cs) {b : Nat} (hb : g ≠ b) (o : Nat) (vs : List Value) : Blk (w.setCells b o vs) g t cs := (heap_setCells b vs o w g hb).trans h
theorem Blk.bytes {l : List UInt8} (h : Blk w g t (l.map byteV).toArray) : BytesAt w ⟨g, 0, none⟩ l := fun j hj => by
  have e : (⟨g, 0, none⟩ : Addr).add j = ⟨g, j, none⟩ := by
    unfold Addr.add
    split
    · subst_vars; rfl
    · simp
  rw [e, h.cell]
  simp [List.getElem?_eq_getElem hj]
theorem Blk.byte {l : List UInt8} (h : Blk w g t (l.map byteV).toArray) (j : Nat) (hj : j < l.length) : w.cell? ⟨g, j, none⟩ = some (.int .u8 (l[j].toNat : Int)) := by
  rw [h.cell]
  simp [List.getElem?_eq_getElem hj, byteV]
end

/-- All but the blocks of S is as it was; new blocks may be there. -/
structure Kept (S : List Nat) (w w' : World) : Prop where
  os : w'.os = w.os
  tape : w'.tape = w.tape
  output : w'.output = w.output
  size : w.heap.size ≤ w'.heap.size
  block : ∀ k, k < w.heap.size → k ∉ S → w'.heap[k]? = w.heap[k]?
section
variable {S T : List Nat} {a b w w' : World}
theorem Kept.refl (S : List Nat) (w : World) : Kept S w w := ⟨rfl, rfl, rfl, Nat.le_refl _, fun _ _ _ => rfl⟩
theorem Kept.trans {c : World} (h : Kept S a b) (k : Kept S b c) : Kept S a c :=
  ⟨k.os.trans h.os, k.tape.trans h.tape, k.output.trans h.output, Nat.le_trans h.size k.size, fun i hi hs => (k.block i (Nat.lt_of_lt_of_le hi h.size) hs).trans (h.block i hi hs)⟩
/-- Blocks of T that are new do not count. -/
theorem Kept.trans' {c : World} (h : Kept S a b) (k : Kept T b c) (hT : ∀ x ∈ T, x ∈ S ∨ a.heap.size ≤ x) : Kept S a c :=
  ⟨k.os.trans h.os, k.tape.trans h.tape, k.output.trans h.output, Nat.le_trans h.size k.size, fun i hi hs => (k.block i (Nat.lt_of_lt_of_le hi h.size) (fun hx => by
    rcases hT i hx with h1 | h1
    · exact hs h1
    · omega)).trans (h.block i hi hs)⟩
theorem Kept.mono (h : Kept S a b) (hT : ∀ x ∈ S, x ∈ T ∨ a.heap.size ≤ x) : Kept T a b := (Kept.refl T a).trans' h hT
theorem Kept.drew (h : Kept S a w) : Kept S a w.drew := ⟨h.os, h.tape, h.output, h.size, h.block⟩
theorem Kept.drewN (h : Kept S a w) (n : Nat) : Kept S a (w.drewN n) := ⟨h.os, h.tape, h.output, h.size, h.block⟩
theorem Kept.alloc (h : Kept S a w) (o : Obj) : Kept S a (w.alloc o) :=
  ⟨h.os, h.tape, h.output, Nat.le_trans h.size (by simp), fun i hi hs => (Below.heap_alloc w o i (Nat.lt_of_lt_of_le hi h.size)).trans (h.block i hi hs)⟩
theorem Kept.setCell (h : Kept S a w) {p : Addr} (hp : p.block ∈ S ∨ a.heap.size ≤ p.block) (u : Value) : Kept S a (w.setCell p u) :=
  ⟨h.os, h.tape, h.output, by simpa [World.setCell] using h.size, fun i hi hs => (Below.heap_setCell w p u i (by
    rintro rfl
    rcases hp with hp | hp
    · exact hs hp
    · omega)).trans (h.block i hi hs)⟩
theorem Kept.setCells {b : Nat} (hb : b ∈ S ∨ a.heap.size ≤ b) : ∀ (vs : List Value) (o : Nat) (w : World), Kept S a w → Kept S a (w.setCells b o vs)
  | [], _, _, h => h
  | v :: r, o, _, h => Kept.setCells hb r (o + 1) _ (h.setCell (p := ⟨b, o, none⟩) hb v)
theorem Kept.grown (h : Kept S a w) {row : Option Nat} (hg : w.grownBy w' row) (hr : ∀ g, row = some g → g ∈ S ∨ a.heap.size ≤ g) : Kept S a w' :=
  ⟨hg.os.trans h.os, hg.tape.trans h.tape, hg.output.trans h.output, Nat.le_trans h.size hg.size, fun i hi hs => (hg.block i (Nat.lt_of_lt_of_le hi h.size) (fun e => by
    rcases hr i e.symm with h1 | h1
    · exact hs h1
    · omega)).trans (h.block i hi hs)⟩
theorem Kept.below (h : Kept S a w) {B : Nat} (hb : Below B w w') (hB : a.heap.size ≤ B) : Kept S a w' :=
  ⟨hb.os.trans h.os, hb.tape.trans h.tape, hb.output.trans h.output, Nat.le_trans h.size hb.size, fun i hi hs => (hb.block i (by omega)).trans (h.block i hi hs)⟩
theorem Kept.of_below (hb : Below a.heap.size a w) (S : List Nat) : Kept S a w := (Kept.refl S a).below hb (Nat.le_refl _)
theorem Kept.to_below (h : Kept S a w) {B : Nat} (hB : B ≤ a.heap.size) (hS : ∀ x ∈ S, B ≤ x) : Below B a w :=
  ⟨h.os, h.tape, h.output, h.size, fun k hk => h.block k (by omega) (fun hx => by have := hS k hx; omega)⟩
theorem Kept.blk (h : Kept S a w) {g : Nat} {t : TypeId} {cs : Array Value} (hb : Blk a g t cs) (hg : g ∉ S) : Blk w g t cs := (h.block g hb.lt hg).trans hb
theorem Kept.cell (h : Kept S a w) {p : Addr} (hp : p.block < a.heap.size) (hg : p.block ∉ S) : w.cell? p = a.cell? p := World.cell?_of_block (w := a) (h.block _ hp hg)
theorem Kept.frozen (h : Kept S a w) {p : Addr} (hp : p.block < a.heap.size) (hg : p.block ∉ S) : w.frozen? p = a.frozen? p := World.frozen?_of_block (w := a) (h.block _ hp hg)
end
end Go.Proofs.YtfagjhgmmaebfaaGreatDoor
