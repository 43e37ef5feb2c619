/- Plain words on memory: what stays as it was, slices of bytes that read as a list, blocks known whole. No program in sight. -/
import Derived.WalkKit
import Derived.WalkLawsBesides
import Derived.WalkSpells
import Derived.Below
import Derived.Laws.OwnMore
import Derived.Laws.IdiomStrings
import Derived.Deep.Draws
import Derived.Lib.Hide
import Derived.Lib.Strings
namespace Go.Proofs.YtkkdblifgekmkaaDoor
open Go.RowKit

theorem at_cells {W w1 : World} (hb : Below W.heap.size W w1) : (∀ b o, b < W.heap.size → w1.cell? ⟨b, o, none⟩ = W.cell? ⟨b, o, none⟩) ∧ (∀ b o, b < W.heap.size → w1.frozen? ⟨b, o, none⟩ = W.frozen? ⟨b, o, none⟩) :=
  ⟨fun b o h => hb.cell (p := ⟨b, o, none⟩) h, fun b o h => hb.frozen (p := ⟨b, o, none⟩) h⟩
theorem below_new {w w' : World} {o : Obj} (h : Below (w.alloc o).heap.size (w.alloc o) w') : Below w.heap.size w w' :=
  ((Below.refl _ _).alloc (Nat.le_refl _) _).trans (h.mono (by simp))
theorem below_drewN {B : Nat} {a w : World} (h : Below B a w) (n : Nat) : Below B a (w.drewN n) := ⟨h.os, h.tape, h.output, h.size, h.block⟩
theorem below_self (B : Nat) (w : World) (n : Nat) : Below B w (w.drewN n) := below_drewN (Below.refl _ _) n

/-- A byte as a cell. -/
def byteV (b : UInt8) : Value := .int .u8 (b.toNat : Int)
theorem byteV_one (l : List UInt8) : ∀ u ∈ l.map byteV, u.oneCell' = true := by
  intro u hu; obtain ⟨_, _, rfl⟩ := List.mem_map.1 hu; rfl
/-- The cells from 'a' on are the bytes l. -/
def BytesAt (w : World) (a : Addr) (l : List UInt8) : Prop := ∀ j (h : j < l.length), w.cell? (a.add j) = some (byteV l[j])
theorem BytesAt.below {w w' : World} {a : Addr} {l : List UInt8} {B : Nat} (h : BytesAt w a l) (hb : Below B w w') (ha : a.block < B) : BytesAt w' a l := fun j hj => by
  have e : (a.add j).block = a.block := by unfold Addr.add; split <;> rfl
  exact (hb.cell (by rw [e]; exact ha)).trans (h j hj)
theorem ownsRow_bytes {w : World} {base : Nat} {e : TypeId} {g n cap : Nat} {l : List UInt8} (h : w.ownsRow base e 1 (.slice (some ⟨g, 0, none⟩) n cap) n (l.map byteV)) : BytesAt w ⟨g, 0, none⟩ l := fun j hj =>
  h.cells (g := g) rfl j _ (by rw [List.getElem?_map, List.getElem?_eq_getElem hj]; rfl)
/-- 'string(b)', b a slice of one's own that holds l (nil too). -/
theorem run_string_own {P : Program} (w : World) (src dst e : TypeId) (base : Nat) (v : Value) (l : List UInt8) (hs : P.underlying src = some (.slice e)) (he : P.underlying e = some (.int .u8)) (hd : P.underlying dst = some .string)
    (h : w.ownsRow base e 1 v l.length (l.map byteV)) : (convert src dst v).run P w = .ok (.string ⟨l.toArray⟩) w := by
  rcases h.2 with ⟨rfl, hl⟩ | ⟨g, cap, cur, rfl, _⟩
  · have : l = [] := List.eq_nil_of_length_eq_zero hl
    subst this
    rw [run_convert_bytes_string w src dst e _ _ _ hs he hd]
    rfl
  · exact run_convert_bytes_back w src dst e ⟨g, 0, none⟩ cap l hs he hd (ownsRow_bytes h)

/-- The lowest byte first. -/
def leB : Nat → Nat → List UInt8
  | _, 0 => []
  | n, k + 1 => UInt8.ofNat (n % 256) :: leB (n / 256) k
theorem leB_length (n k : Nat) : (leB n k).length = k := by
  induction k generalizing n with
  | zero => rfl
  | succ k ih => simp [leB, ih]
end Go.Proofs.YtkkdblifgekmkaaDoor
