/- Contract: writeHeader. -/
import Derived.Test.YtkkdblifgekmkaaDoorCw
import Derived.Test.YtkkdblifgekmkaaDoorWb
import Derived.Test.YtkkdblifgekmkaaDoorLay
import Derived.Outline
import Derived.Deep.RegionHeld3
namespace Go.Proofs.YtkkdblifgekmkaaDoor
open Go.RowKit
/-- The cells of a FileHeader. -/
def fhCells (h : Hd) (nu : Bool) (cs us : Nat) (X : Value) : Array Value :=
  #[.string ⟨h.name.toArray⟩, .string ⟨h.comment.toArray⟩, .bool nu, .int .u16 h.creator, .int .u16 h.reader, .int .u16 h.flags, .int .u16 h.method, .int .u64 0, .int .i64 0, .pointer none, .int .u16 h.time, .int .u16 h.date, .int .u32 h.crc, .int .u32 cs, .int .u32 us, .int .u64 h.packed, .int .u64 h.size, X, .int .u32 h.external]
theorem put_next {Z : Array Value} {A B : List UInt8} {o : Nat} (h : A.length = o) : putAll (putAll Z 0 (A.map byteV)) o (B.map byteV) = putAll Z 0 ((A ++ B).map byteV) := by
  subst h
  rw [List.map_append, putAll_append, List.length_map, Nat.zero_add]
theorem put_whole (cs : Array Value) (l : List UInt8) (h : l.length = cs.size) : putAll cs 0 (l.map byteV) = (l.map byteV).toArray := by
  apply Array.ext_getElem?
  intro i
  rw [putAll_get _ _ _ _ (by simp; omega)]
  by_cases hi : i < l.length
  · rw [if_pos (by simp; omega)]; simp
  · rw [if_neg (by simp; omega), Array.getElem?_eq_none (by omega), List.getElem?_toArray, List.getElem?_eq_none (by simp; omega)]
theorem method_WriteC (a : Addr) (w : World) : (method 404 104 (.pointer (some a)) "Write").run Tryd.prog w = .ok (81, .pointer (some a)) w := by kernel_rfl
theorem ahead_WriteC (a : Addr) (w : World) : (nilAhead 404 104 (.pointer (some a)) "Write").run Tryd.prog w = .ok (some false) w := by kernel_rfl
theorem Snk.kept {w w' : World} {ob bw gb cw : Nat} {ro : Option Nat} {out : List UInt8} {S : List Nat} (h : Snk w ob bw gb cw ro out) (k : Kept S w w') (h1 : ob ∉ S) (h2 : bw ∉ S) (h3 : gb ∉ S) (h4 : cw ∉ S) (h5 : ∀ g, ro = some g → g ∉ S) : Snk w' ob bw gb cw ro out := ⟨h.buf.kept k h1 h2 h3 h5, k.blk h.cnt h4⟩
theorem Snk.not {w : World} {ob bw gb cw b t : Nat} {ro : Option Nat} {out : List UInt8} {cs : Array Value} (h : Snk w ob bw gb cw ro out) (hb : Blk w b t cs) (h1 : 79 ≠ t) (h2 : 207 ≠ t) (h3 : 5 ≠ t) (h4 : 108 ≠ t) : b ∉ ob :: bw :: gb :: cw :: ro.toList := by
  have := h.buf.ob_ne hb h1 h2 h3
  have h5 := h.cnt.ne_ hb h4
  simp only [List.mem_cons, not_or] at this ⊢
  exact ⟨this.1, this.2.1, this.2.2.1, h5.symm, this.2.2.2⟩
theorem Snk.drew {w : World} {ob bw gb cw : Nat} {ro : Option Nat} {out : List UInt8} (h : Snk w ob bw gb cw ro out) : Snk w.drew ob bw gb cw ro out := h.kept ((Kept.refl [] w).drew) (by simp) (by simp) (by simp) (by simp) (by simp)
theorem Snk.lt {w : World} {ob bw gb cw : Nat} {ro : Option Nat} {out : List UInt8} (h : Snk w ob bw gb cw ro out) : ∀ x ∈ ob :: bw :: gb :: ro.toList, x < w.heap.size := by
  obtain ⟨done, l, n, hb, _⟩ := h.buf
  obtain ⟨ad, v, hob, _⟩ := hb.bld
  intro x hx
  simp only [List.mem_cons] at hx
  rcases hx with rfl | rfl | rfl | hx
  · exact hob.lt
  · exact hb.buf.lt
  · exact hb.row.lt
  · exact hb.bld.lt x (by simpa using hx)
/-- The bytes of a block of whatever type as a source. -/
theorem readsT {w : World} {g t : Nat} {l : List UInt8} (h : Blk w g t (l.map byteV).toArray) (o m : Nat) (hm : o + m ≤ l.length) : Reads w w.heap.size 1 (some ⟨g, o, none⟩) m (((l.drop o).take m).map byteV) := by
  refine ⟨by rw [List.length_map, List.length_take, List.length_drop]; omega, fun _ => ⟨_, rfl, h.lt, fun j u hu => ?_⟩⟩
  have hj : j < m := by
    have := (List.getElem?_eq_some_iff.1 hu).1
    rw [List.length_map, List.length_take, List.length_drop] at this
    omega
  rw [add_atW, h.cell, ← hu]
  simp [List.getElem?_take_of_lt hj]
theorem reads_conv {w : World} {e : TypeId} (l : List UInt8) (c : Nat) (m : Nat × Nat) : Reads ((w.alloc (.cells (bytesRow ⟨l.toArray⟩ c) e m)).drew.drew) ((w.alloc (.cells (bytesRow ⟨l.toArray⟩ c) e m)).drew.drew).heap.size 1 (some ⟨w.heap.size, 0, none⟩) l.length (l.map byteV) := by
  refine ⟨by simp, fun _ => ⟨_, rfl, by simp, fun j u hu => ?_⟩⟩
  have hj : j < l.length := by have := (List.getElem?_eq_some_iff.1 hu).1; simpa using this
  rw [List.getElem?_map, List.getElem?_eq_getElem hj] at hu
  rw [Addr.add_lit]
  show (w.alloc (.cells (bytesRow ⟨l.toArray⟩ c) e m)).cell? _ = _
  rw [World.cell?_alloc_mark]
  unfold bytesRow
  rw [show 0 + j = j by omega, Array.getElem?_append_left (by simpa using hj), ← hu]
  simp [hj, byteV]
theorem Blk.new1 (w : World) (o : Obj) (t : TypeId) (cs : Array Value) : Blk ((w.alloc o).alloc (.cells cs t)) (w.heap.size + 1) t cs := by
  have := Blk.new (w.alloc o) t cs
  simpa using this
end Go.Proofs.YtkkdblifgekmkaaDoor
