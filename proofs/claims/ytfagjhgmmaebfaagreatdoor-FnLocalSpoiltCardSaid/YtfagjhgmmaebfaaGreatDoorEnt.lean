/- Plain words: where the parts of an archive stand. No program in sight. -/
import Derived.Test.YtfagjhgmmaebfaaGreatDoorArch
import Derived.Test.YtfagjhgmmaebfaaGreatDoorBlk
import Derived.StillTailTactics
import Derived.Deep.QuietTactic
import Derived.BigQuiet
import Derived.Deep.RegionHeld3
import Derived.Outline
import Derived.Deep.CutRange
import Derived.Deep.CutBlock
import Derived.Test.YtfagjhgmmaebfaaGreatDoorEnd
import Derived.Test.YtfagjhgmmaebfaaGreatDoorReads
import Derived.Test.YtfagjhgmmaebfaaGreatDoorCrcLaw
namespace Go.Proofs.YtfagjhgmmaebfaaGreatDoor
/-- An archive of items with a comment. -/
def archB (is : List Item) (cl : List UInt8) : List UInt8 := filesB is ++ dirB 0 is ++ endL is.length (dirB 0 is).length (filesB is).length cl
structure ItemOk (i : Item) : Prop where
  loc : i.loc.Fits
  cen : i.cen.Fits
  name : i.loc.name = i.cen.name
  method : i.loc.method = i.cen.method
  packed : i.cen.packed = i.data.length
theorem ext_sub (l : List UInt8) (a n : Nat) : (ByteArray.mk l.toArray).extract a (a + n) = ⟨(sub l a n).toArray⟩ := by
  rw [Lib.extract_eq, show a + n - a = n by omega]
  rfl
theorem sub_length {l : List UInt8} {a n : Nat} (h : a + n ≤ l.length) : (sub l a n).length = n := by
  unfold sub; rw [List.length_take, List.length_drop]; omega
theorem sub_le (l : List UInt8) (a n : Nat) : (sub l a n).length ≤ n := by
  unfold sub; rw [List.length_take]; omega
theorem Blk.newAt (w : World) (t : TypeId) (cs : Array Value) (n : Nat) (h : w.heap.size = n) : Blk (w.alloc (.cells cs t)) n t cs := h ▸ Blk.new w t cs
structure ArchAt (l : List UInt8) (F D n : Nat) (cl : List UInt8) : Prop where
  len : l.length = F + D + 22 + cl.length
  sig : sub l (F + D) 4 = [80, 75, 5, 6]
  many0 : numL (sub l (F + D + 8) 2) = n
  many : numL (sub l (F + D + 10) 2) = n
  size : numL (sub l (F + D + 12) 4) = D
  at_ : numL (sub l (F + D + 16) 4) = F
  clen : numL (sub l (F + D + 20) 2) = cl.length
  rest : l.drop (F + D + 22) = cl
theorem endL_length (n d f : Nat) (cl : List UInt8) : (endL n d f cl).length = 22 + cl.length := by
  simp [endL, leB_length]; omega
theorem arch_parts {l : List UInt8} (is : List Item) (cl : List UInt8) {F D : Nat} (hl : l = archB is cl) (hF : F = (filesB is).length) (hD : D = (dirB 0 is).length) (hb : F + D ≤ 4294967295) (hm : is.length < 65536) (hcl : cl.length < 65536) : ArchAt l F D is.length cl := by
  have e : l.drop (F + D) = endL is.length D F cl := by
    rw [hl, archB, hF, hD, ← List.length_append, List.drop_left]
  have g : ∀ {a b c : List UInt8} {i n : Nat}, l.drop (F + D) = a ++ (b ++ c) → a.length = i → b.length = n → sub l (F + D + i) n = b := sub_mid
  have e2 := e
  simp only [endL, List.append_assoc] at e2
  have s8 : sub l (F + D + 8) 2 = leB is.length 2 := g (a := [80, 75, 5, 6] ++ (leB 0 2 ++ leB 0 2)) (by simpa only [List.append_assoc] using e2) (by simp [leB_length]) (leB_length _ _)
  have s10 : sub l (F + D + 10) 2 = leB is.length 2 := g (a := [80, 75, 5, 6] ++ (leB 0 2 ++ (leB 0 2 ++ leB is.length 2))) (by simpa only [List.append_assoc] using e2) (by simp [leB_length]) (leB_length _ _)
  have s12 : sub l (F + D + 12) 4 = leB D 4 := g (a := [80, 75, 5, 6] ++ (leB 0 2 ++ (leB 0 2 ++ (leB is.length 2 ++ leB is.length 2)))) (by simpa only [List.append_assoc] using e2) (by simp [leB_length]) (leB_length _ _)
  have s16 : sub l (F + D + 16) 4 = leB F 4 := g (a := [80, 75, 5, 6] ++ (leB 0 2 ++ (leB 0 2 ++ (leB is.length 2 ++ (leB is.length 2 ++ leB D 4))))) (by simpa only [List.append_assoc] using e2) (by simp [leB_length]) (leB_length _ _)
  have s20 : sub l (F + D + 20) 2 = leB cl.length 2 := g (a := [80, 75, 5, 6] ++ (leB 0 2 ++ (leB 0 2 ++ (leB is.length 2 ++ (leB is.length 2 ++ (leB D 4 ++ leB F 4)))))) (by simpa only [List.append_assoc] using e2) (by simp [leB_length]) (leB_length _ _)
  have s22 : l.drop (F + D + 22) = cl := drop_mid (a := [80, 75, 5, 6] ++ (leB 0 2 ++ (leB 0 2 ++ (leB is.length 2 ++ (leB is.length 2 ++ (leB D 4 ++ (leB F 4 ++ leB cl.length 2))))))) (by simpa only [List.append_assoc] using e2) (by simp [leB_length])
  refine ⟨?_, ?_, ?_, ?_, ?_, ?_, ?_, s22⟩
  · rw [hl, archB, List.length_append, List.length_append, endL_length, ← hF, ← hD]; omega
  · unfold sub
    rw [e]; rfl
  · rw [s8]; exact leB2 _ hm
  · rw [s10]; exact leB2 _ hm
  · rw [s12]; exact leB4 _ (by omega)
  · rw [s16]; exact leB4 _ (by omega)
  · rw [s20]; exact leB2 _ hcl
theorem arch_take {l : List UInt8} (is : List Item) (cl : List UInt8) {F D : Nat} (hl : l = archB is cl) (hF : F = (filesB is).length) (hD : D = (dirB 0 is).length) : l.take (F + D) = filesB is ++ dirB 0 is := by
  rw [hl, archB, hF, hD, ← List.length_append, List.take_left]
end Go.Proofs.YtfagjhgmmaebfaaGreatDoor
/- Words: an entry of the thin package, stored as it is; the item of an archive that it is. No program in sight. -/
namespace Go.Proofs.YtfagjhgmmaebfaaGreatDoor
open Go.RowKit
theorem add_off (a : Addr) (n j : Nat) (hj : 0 < j) : (⟨(a.add n).block, (a.add n).off + j, none⟩ : Addr) = a.add (n + j) := by
  unfold Addr.add
  by_cases hn : n = 0
  · subst hn
    have : ¬ j = 0 := by omega
    simp [this]
  · have : ¬ (n + j = 0) := by omega
    simp [hn, Nat.add_assoc]
    try omega
structure En where
  name : List UInt8
  comment : List UInt8
  extra : List UInt8
  nu : Bool
  creator : Int
  reader : Int
  flags : Int
  method : Int
  time : Int
  date : Int
  crc : Int
  packed : Int
  size : Int
  external : Int
  data : List UInt8
def strV (l : List UInt8) : Value := .string ⟨l.toArray⟩
def En.cells (e : En) : List Value :=
  [.string ⟨e.name.toArray⟩, .string ⟨e.comment.toArray⟩, .string ⟨e.extra.toArray⟩, .bool e.nu, .int .i64 e.creator, .int .i64 e.reader, .int .i64 e.flags, .int .i64 e.method, .int .i64 e.time, .int .i64 e.date, .int .i64 e.crc, .int .i64 e.packed, .int .i64 e.size, .int .i64 e.external, .string ⟨e.data.toArray⟩]
theorem En.cells_length (e : En) : e.cells.length = 15 := rfl
theorem flat_cells (L : List En) (k j : Nat) (h : k < L.length) (hj : j < 15) : (L.flatMap En.cells)[k * 15 + j]? = L[k].cells[j]? := by
  induction L generalizing k with
  | nil => simp at h
  | cons e r ih =>
    rw [List.flatMap_cons]
    rcases k with _ | k
    · rw [List.getElem?_append_left (by rw [En.cells_length]; omega)]
      simp
    · rw [List.getElem?_append_right (by rw [En.cells_length]; omega), En.cells_length]
      have := ih k (by simpa using h)
      rw [show (k + 1) * 15 + j - 15 = k * 15 + j by omega, this]
      rfl
theorem flat_length (L : List En) : (L.flatMap En.cells).length = L.length * 15 := by
  induction L with
  | nil => rfl
  | cons e r ih => rw [List.flatMap_cons, List.length_append, ih, En.cells_length, List.length_cons]; omega
/-- The entry with the method, the sizes and the checksum of its content as it is. -/
def En.st (e : En) : En := { e with method := 0, packed := e.data.length, size := e.data.length, crc := crcOf e.data }
/-- The header that is told of it. -/
def hdR (e : En) : Hd := ⟨e.name, e.comment, e.extra, e.creator.toNat, e.reader.toNat, e.flags.toNat, e.method.toNat, e.time.toNat, e.date.toNat, e.crc.toNat, e.packed.toNat, e.size.toNat, e.external.toNat⟩
def itemR (e : En) : Item := ⟨hdR e, hdR e, e.data, []⟩
/-- Entries that are good, stored as they are. -/
structure En.OkA (e : En) : Prop where
  name : e.name.length ≤ 60000
  comment : e.comment.length ≤ 60000
  extra : e.extra.length ≤ 60000
  data : e.data.length ≤ 1048576
  creator : 0 ≤ e.creator ∧ e.creator ≤ 65535
  reader : 0 ≤ e.reader ∧ e.reader ≤ 65535
  flags : 0 ≤ e.flags ∧ e.flags ≤ 65535
  method : 0 ≤ e.method ∧ e.method ≤ 65535
  time : 0 ≤ e.time ∧ e.time ≤ 65535
  date : 0 ≤ e.date ∧ e.date ≤ 65535
  crc : 0 ≤ e.crc ∧ e.crc ≤ 4294967295
  packed : e.packed = (e.data.length : Int)
  size : e.size = (e.data.length : Int)
  external : 0 ≤ e.external ∧ e.external ≤ 4294967295
theorem hdR_fits {e : En} (h : e.OkA) : (hdR e).Fits := by
  have h1 := h.creator; have h2 := h.reader; have h3 := h.flags; have h4 := h.method; have h5 := h.time; have h6 := h.date
  have h7 := h.crc; have h8 := h.packed; have h9 := h.size; have h10 := h.external; have h11 := h.name; have h12 := h.comment; have h13 := h.extra; have h14 := h.data
  refine ⟨?_, ?_, ?_, ?_, ?_, ?_, ?_, ?_, ?_, ?_, ?_, ?_, ?_⟩ <;> simp only [hdR] <;> omega
theorem itemR_packed {e : En} (h : e.OkA) : (itemR e).cen.packed = e.data.length := by
  have h8 := h.packed
  show e.packed.toNat = _
  omega
theorem itemR_fit {e : En} (h : e.OkA) : (itemR e).cen.Fits ∧ (itemR e).cen.packed < 4294967295 ∧ (itemR e).cen.size < 4294967295 := by
  have h9 := h.size; have h14 := h.data
  refine ⟨hdR_fits h, by rw [itemR_packed h]; omega, ?_⟩
  show e.size.toNat < _
  omega
theorem itemR_len {e : En} (h : e.OkA) : (itemR e).bytes.length ≤ 1200000 ∧ ∀ o, (centralB (itemR e).cen o).length ≤ 181000 := by
  have h11 := h.name; have h12 := h.comment; have h13 := h.extra; have h14 := h.data
  refine ⟨?_, fun o => ?_⟩
  · simp only [Item.bytes, itemR, List.length_append, localB_length, hdR, List.length_nil]; omega
  · rw [centralB_length]; simp only [itemR, hdR]; omega
theorem items_lenR (is : List Item) (h : ∀ i ∈ is, i.bytes.length ≤ 1200000 ∧ ∀ o, (centralB i.cen o).length ≤ 181000) : (filesB is).length ≤ is.length * 1200000 ∧ ∀ o, (dirB o is).length ≤ is.length * 181000 := by
  induction is with
  | nil => simp [filesB, dirB]
  | cons i r ih =>
    obtain ⟨h1, h2⟩ := ih (fun j hj => h j (List.mem_cons_of_mem _ hj))
    obtain ⟨h3, h4⟩ := h i (by simp)
    refine ⟨?_, fun o => ?_⟩
    · rw [filesB, List.length_append, List.length_cons]; omega
    · have := h2 (o + i.bytes.length)
      have := h4 o
      rw [dirB, List.length_append, List.length_cons]; omega
def cellsH (h : Hd) (nu : Bool) (d : List UInt8) : List Value := [.string ⟨h.name.toArray⟩, .string ⟨h.comment.toArray⟩, .string ⟨h.extra.toArray⟩, .bool nu, .int .i64 h.creator, .int .i64 h.reader, .int .i64 h.flags, .int .i64 h.method, .int .i64 h.time, .int .i64 h.date, .int .i64 h.crc, .int .i64 h.packed, .int .i64 h.size, .int .i64 h.external, .string ⟨d.toArray⟩]
theorem cells_R {e : En} (h : e.OkA) : e.cells = cellsH (hdR e) e.nu e.data := by
  have h1 := h.creator; have h2 := h.reader; have h3 := h.flags; have h4 := h.method; have h5 := h.time; have h6 := h.date
  have h7 := h.crc; have h8 := h.packed; have h9 := h.size; have h10 := h.external
  unfold En.cells cellsH hdR
  dsimp only
  rw [Int.toNat_of_nonneg (show 0 ≤ e.creator by omega), Int.toNat_of_nonneg (show 0 ≤ e.reader by omega), Int.toNat_of_nonneg (show 0 ≤ e.flags by omega), Int.toNat_of_nonneg (show 0 ≤ e.method by omega), Int.toNat_of_nonneg (show 0 ≤ e.time by omega), Int.toNat_of_nonneg (show 0 ≤ e.date by omega), Int.toNat_of_nonneg (show 0 ≤ e.crc by omega), Int.toNat_of_nonneg (show 0 ≤ e.packed by omega), Int.toNat_of_nonneg (show 0 ≤ e.size by omega), Int.toNat_of_nonneg (show 0 ≤ e.external by omega)]
def slashL (l : List UInt8) : Bool := Lib.hasSuffix l [47]
theorem add_atW (b o j : Nat) : (⟨b, o, none⟩ : Addr).add j = ⟨b, o + j, none⟩ := by
  unfold Addr.add
  split
  · subst_vars; rfl
  · rfl
end Go.Proofs.YtfagjhgmmaebfaaGreatDoor
