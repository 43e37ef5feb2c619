/- Contracts: bufio.NewWriter, zip.NewWriter over a new strings.Builder. -/
import Derived.Test.YtkkdblifgekmkaaDoorCw
import Derived.Laws.MakeOwn
namespace Go.Proofs.YtkkdblifgekmkaaDoor
open Go.RowKit
theorem rowW0 {w : World} {base g n : Nat} {z : Value} (hz : z = .int .u8 0) (h : w.ownsRow base 5 1 (.slice (some ⟨g, 0, none⟩) n n) n (madeCells z.cells (n * 1)).toList) : Blk w g 5 ((List.replicate n (0 : UInt8)).map byteV).toArray := by
  subst hz
  rcases h.2 with ⟨h0, _⟩ | ⟨g', cap', cur, hv, hb, hh, _, _, hs, ht⟩
  · cases h0
  · injection hv with h1 h2 h3
    injection h1 with h1
    injection h1 with h1
    subst h1
    subst h3
    have e : cur.toList = (madeCells (Value.int .u8 0).cells (n * 1)).toList := by
      rw [← ht, List.take_of_length_le (by simp; omega)]
    have e2 : cur = madeCells (Value.int .u8 0).cells (n * 1) := Array.toList_inj.1 e
    refine Blk.cast (show Blk w g 5 cur from hh) ?_
    rw [e2]
    apply Array.ext_getElem?
    intro i
    simp [madeCells, byteV, Value.cells]
    by_cases hin : i < n
    · rw [Array.getElem?_eq_getElem (by simpa using hin), Array.getElem?_eq_getElem (by simpa using hin)]
      simp [Nat.mod_one]
    · rw [Array.getElem?_eq_none (by simp; omega), Array.getElem?_eq_none (by simp; omega)]
      rfl
theorem assert_bldW (a : Addr) (w : World) : (Instr.typeAssert (.iface 77 (.pointer (some a))) 83 105 true).run Tryd.prog w = .ok (.tuple #[.pointer none, .bool false]) w := by kernel_rfl
set_option maxRecDepth 100000 in
set_option maxHeartbeats 400000 in
theorem NewWriterSize_any {w : World} {ob : Nat} {ro : Option Nat} {out : List UInt8} (h : Bld w ob ro out) :
    Calls Tryd.prog 64 #[.iface 77 (.pointer (some ⟨ob, 0, none⟩)), .int .i64 4096] w fun e w' => ∃ bw gb, e = .returned (.pointer (some ⟨bw, 0, none⟩)) ∧ w.heap.size ≤ bw ∧ w.heap.size ≤ gb ∧ BW w' ob bw gb ro out ∧ Below w.heap.size w w' := by
  obtain ⟨i0, hi, hz0, hz1, hz2⟩ := info_parts infoU8
  have hta := assert_bldW
  have H := Lib.hid h
  clear h
  go_enter Tryd.func64, Tryd.ntmps64
  go_wp2_with (at_make; refine wpList_make_full _ rfl _ _ 30 rfl w.heap.size 5 i0 (.int .u8 0) 1 Tryd.underlying30 hi hz0 hz1 .i64 .i64 _ _ 4096 rfl rfl ?m1 ?m2 ?m3 ?m4 ?m5 ?_)
  case m1 => rfl
  case m2 => rfl
  case m3 => rw [hz2]; decide
  case m4 => decide
  case m5 => simp
  intro w0 hown hgr
  have hg := rowW0 rfl hown
  have hb0 : Below w.heap.size w w0 := (Below.refl _ _).grown hgr (Nat.le_refl _) (fun q hq => by cases hq)
  have HX := Lib.hid (And.intro hg hb0)
  clear hg hb0 hown hgr
  go_wp2
  go_ret
  have hk : Kept [] w w0 := Kept.of_below HX.out.2 _
  have hbl := H.out.kept hk (by simp) (by simp)
  refine ⟨w0.heap.size, w.heap.size, rfl, HX.out.2.size, Nat.le_refl _, ⟨out, List.replicate 4096 0, 0, ⟨?_, ?_, HX.out.1.alloc _, List.length_replicate, Nat.zero_le _, ?_⟩, by simp⟩, HX.out.2.alloc (HX.out.2.size) _⟩
  · exact hbl.kept ((Kept.refl [] w0).alloc _) (by simp) (by simp)
  · exact Blk.cast (Blk.new w0 _ _) (by simp)
  · intro e
    have := H.out.lt _ e
    omega
theorem NewWriterB {w : World} {ob : Nat} {ro : Option Nat} {out : List UInt8} (h : Bld w ob ro out) :
    Calls Tryd.prog 40 #[.iface 77 (.pointer (some ⟨ob, 0, none⟩))] w fun e w' => ∃ bw gb, e = .returned (.pointer (some ⟨bw, 0, none⟩)) ∧ w.heap.size ≤ bw ∧ w.heap.size ≤ gb ∧ BW w' ob bw gb ro out ∧ Below w.heap.size w w' := by
  have H := Lib.hid (NewWriterSize_any h)
  clear h
  go_enter Tryd.func40, Tryd.ntmps40
  go_wp2_with fail
  refine H.out.mono ?_
  rintro e w1 ⟨bw, gb, rfl, h1, h2, hb, hbel⟩
  have HX := Lib.hid (And.intro hb hbel)
  clear hb hbel
  go_wp2
  go_ret
  exact ⟨bw, gb, rfl, h1, h2, HX.out.1, HX.out.2⟩
set_option maxRecDepth 100000 in
set_option maxHeartbeats 400000 in
theorem NewWriterZ {w : World} {ob : Nat} {ro : Option Nat} (h : Bld w ob ro []) :
    Calls Tryd.prog 25 #[.iface 77 (.pointer (some ⟨ob, 0, none⟩))] w fun e w' => ∃ zw bw gb cw, e = .returned (.pointer (some ⟨zw, 0, none⟩)) ∧ w.heap.size ≤ zw ∧ w.heap.size ≤ bw ∧ w.heap.size ≤ gb ∧ w.heap.size ≤ cw ∧ Snk w' ob bw gb cw ro [] ∧
      Blk w' zw 114 #[.pointer (some ⟨cw, 0, none⟩), .slice none 0 0, .pointer none, .bool false, .map none, .string ⟨#[]⟩, .nilFunc] ∧ Below w.heap.size w w' := by
  have H := Lib.hid (NewWriterB h)
  clear h
  go_enter Tryd.func25, Tryd.ntmps25
  go_wp2_with fail
  refine H.out.mono ?_
  rintro e w1 ⟨bw, gb, rfl, h1, h2, hb, hbel⟩
  have HX := Lib.hid (And.intro hb hbel)
  clear hb hbel
  go_wp2
  go_ret
  have hz := HX.out.2.size
  refine ⟨w1.heap.size + 1, bw, gb, w1.heap.size, rfl, by omega, h1, h2, hz, ⟨?_, ?_⟩, ?_, (HX.out.2.alloc hz _).alloc (by simp; omega) _⟩
  · exact HX.out.1.kept (((Kept.refl [] w1).alloc _).alloc _) (by simp) (by simp) (by simp) (by simp)
  · exact (Blk.new w1 _ _).alloc _
  · have := Blk.new (w1.alloc (.cells #[.iface 105 (.pointer (some ⟨bw, 0, none⟩)), .int .i64 0] 108)) 114 #[.pointer (some ⟨w1.heap.size, 0, none⟩), .slice none 0 0, .pointer none, .bool false, .map none, .string ⟨#[]⟩, .nilFunc]
    simpa using this
end Go.Proofs.YtkkdblifgekmkaaDoor
