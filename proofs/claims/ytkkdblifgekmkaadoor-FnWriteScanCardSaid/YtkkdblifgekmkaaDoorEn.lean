/- Words: an entry of the thin package; the item that Write and WriteRaw make of it. No program in sight. -/
import Derived.Test.YtkkdblifgekmkaaDoorArch
import Derived.Test.YtkkdblifgekmkaaDoorChh
import Derived.Test.YtkkdblifgekmkaaDoorWdd
import Derived.Test.YtkkdblifgekmkaaDoorFcl
namespace Go.Proofs.YtkkdblifgekmkaaDoor
open Go.RowKit
theorem add_off (a : Addr) (n j : Nat) (hj : 0 < j) : (⟨(a.add n).block, (a.add n).off + j, none⟩ : Addr) = a.add (n + j) := by
  unfold Addr.add
  by_cases hn : n = 0
  · subst hn
    have : ¬ j = 0 := by omega
    simp [this]
  · have : ¬ (n + j = 0) := by omega
    simp [hn, Nat.add_assoc]
    try omega
structure En where
  name : List UInt8
  comment : List UInt8
  extra : List UInt8
  nu : Bool
  creator : Int
  reader : Int
  flags : Int
  method : Int
  time : Int
  date : Int
  crc : Int
  packed : Int
  size : Int
  external : Int
  data : List UInt8
def strV (l : List UInt8) : Value := .string ⟨l.toArray⟩
def En.cells (e : En) : List Value :=
  [.string ⟨e.name.toArray⟩, .string ⟨e.comment.toArray⟩, .string ⟨e.extra.toArray⟩, .bool e.nu, .int .i64 e.creator, .int .i64 e.reader, .int .i64 e.flags, .int .i64 e.method, .int .i64 e.time, .int .i64 e.date, .int .i64 e.crc, .int .i64 e.packed, .int .i64 e.size, .int .i64 e.external, .string ⟨e.data.toArray⟩]
theorem En.cells_length (e : En) : e.cells.length = 15 := rfl
theorem flat_cells (L : List En) (k j : Nat) (h : k < L.length) (hj : j < 15) : (L.flatMap En.cells)[k * 15 + j]? = L[k].cells[j]? := by
  induction L generalizing k with
  | nil => simp at h
  | cons e r ih =>
    rw [List.flatMap_cons]
    rcases k with _ | k
    · rw [List.getElem?_append_left (by rw [En.cells_length]; omega)]
      simp
    · rw [List.getElem?_append_right (by rw [En.cells_length]; omega), En.cells_length]
      have := ih k (by simpa using h)
      rw [show (k + 1) * 15 + j - 15 = k * 15 + j by omega, this]
      rfl
theorem flat_length (L : List En) : (L.flatMap En.cells).length = L.length * 15 := by
  induction L with
  | nil => rfl
  | cons e r ih => rw [List.flatMap_cons, List.length_append, ih, En.cells_length, List.length_cons]; omega
/-- The header that Write sets. -/
def hdW (e : En) : Hd := if slashL e.name then hd1 e.name e.comment e.external.toNat (uOf e.nu e.name e.comment) else hd1 e.name e.comment e.external.toNat (uOf e.nu e.name e.comment + 8)
/-- What Write makes of an entry. -/
def itemW (e : En) : Item :=
  if slashL e.name then ⟨hdW e, hdW e, [], []⟩ else ⟨hdW e, (hdW e).done e.data.length (crcOf e.data), e.data, tailB ((hdW e).done e.data.length (crcOf e.data))⟩
/-- Entries as Write takes them. -/
structure En.OkW (e : En) : Prop where
  name : e.name.length ≤ 60001
  comment : e.comment.length ≤ 60000
  data : e.data.length ≤ 1048576
  lo : 0 ≤ e.external
  hi : e.external < 4294967296
  dir : slashL e.name = true → e.data = []
theorem uOf_cases (nu : Bool) (name comment : List UInt8) : uOf nu name comment = 0 ∨ uOf nu name comment = 2048 := uflag_cases _ _ _ _ _
theorem uOf_le (nu : Bool) (name comment : List UInt8) : uOf nu name comment ≤ 2048 := by
  rcases uOf_cases nu name comment with h | h <;> omega
theorem hdW_fits {e : En} (h : e.OkW) : (hdW e).Fits := by
  have := uOf_le e.nu e.name e.comment
  have := h.hi
  have := h.lo
  unfold hdW
  split
  · exact hd1_fits h.name h.comment (by omega) (by omega)
  · exact hd1_fits h.name h.comment (by omega) (by omega)
theorem itemW_fit {e : En} (h : e.OkW) : (itemW e).cen.Fits ∧ (itemW e).cen.packed < 4294967295 ∧ (itemW e).cen.size < 4294967295 ∧ (itemW e).data.length < 4294967295 := by
  have hf := hdW_fits h
  have hd := h.data
  unfold itemW
  split
  · next hs =>
    refine ⟨hf, ?_, ?_, by simp⟩
    · simp only [hdW, hs, if_true]; simp [hd1]
    · simp only [hdW, hs, if_true]; simp [hd1]
  · refine ⟨Hd.done_fits hf (by omega) (crcOf_lt _), ?_, ?_, ?_⟩
    · show e.data.length < _; omega
    · show e.data.length < _; omega
    · show e.data.length < _; omega
theorem itemW_len {e : En} (h : e.OkW) : (itemW e).bytes.length ≤ 1200000 ∧ ∀ o, (centralB (itemW e).cen o).length ≤ 121000 := by
  have hd := h.data
  have hn := h.name
  have hc := h.comment
  unfold itemW
  have e1 : (hdW e).name = e.name := by unfold hdW; split <;> rfl
  have e2 : (hdW e).extra = [] := by unfold hdW; split <;> rfl
  have e3 : (hdW e).comment = e.comment := by unfold hdW; split <;> rfl
  split
  · refine ⟨?_, fun o => ?_⟩
    · simp only [Item.bytes, List.length_append, localB_length, e1, e2, List.length_nil]; omega
    · rw [centralB_length]; simp only [e1, e2, e3, List.length_nil]; omega
  · refine ⟨?_, fun o => ?_⟩
    · simp only [Item.bytes, List.length_append, localB_length, e1, e2, tailB_length, List.length_nil]; omega
    · rw [centralB_length]; simp only [Hd.done, e1, e2, e3, List.length_nil]; omega
theorem items_len (is : List Item) (h : ∀ i ∈ is, i.bytes.length ≤ 1200000 ∧ ∀ o, (centralB i.cen o).length ≤ 121000) : (filesB is).length ≤ is.length * 1200000 ∧ ∀ o, (dirB o is).length ≤ is.length * 121000 := by
  induction is with
  | nil => simp [filesB, dirB]
  | cons i r ih =>
    obtain ⟨h1, h2⟩ := ih (fun j hj => h j (List.mem_cons_of_mem _ hj))
    obtain ⟨h3, h4⟩ := h i (by simp)
    refine ⟨?_, fun o => ?_⟩
    · rw [filesB, List.length_append, List.length_cons]; omega
    · have := h2 (o + i.bytes.length)
      have := h4 o
      rw [dirB, List.length_append, List.length_cons]; omega
theorem take_snoc_map {α β : Type} (f : α → β) (L : List α) (k : Nat) (h : k < L.length) : (L.take (k + 1)).map f = (L.take k).map f ++ [f L[k]] := by
  rw [List.take_succ_eq_append_getElem h, List.map_append]; rfl
theorem notU_zero : notU 0 = 4294967295 := by decide
theorem crcOf_eq (l : List UInt8) : notU (crcFold (notU 0) l) = crcOf l := by rw [notU_zero]; rfl
end Go.Proofs.YtkkdblifgekmkaaDoor
