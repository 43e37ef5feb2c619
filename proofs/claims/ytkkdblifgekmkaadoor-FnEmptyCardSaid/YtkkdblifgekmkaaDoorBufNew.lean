/- Contracts: bufio.NewReaderSize, bufio.NewReader: the blocks known whole. -/
import Derived.Test.YtkkdblifgekmkaaDoorFull
import Derived.Laws.MakeOwn
namespace Go.Proofs.YtkkdblifgekmkaaDoor
open Go.RowKit
theorem row_bytes0 {w : World} {base g n : Nat} {z : Value} (hz : z = .int .u8 0) (h : w.ownsRow base 5 1 (.slice (some ⟨g, 0, none⟩) n n) n (madeCells z.cells (n * 1)).toList) : Blk w g 5 ((List.replicate n (0 : UInt8)).map byteV).toArray := by
  subst hz
  rcases h.2 with ⟨h0, _⟩ | ⟨g', cap', cur, hv, hb, hh, _, _, hs, ht⟩
  · cases h0
  · injection hv with h1 h2 h3
    injection h1 with h1
    injection h1 with h1
    subst h1
    subst h3
    have e : cur.toList = (madeCells (Value.int .u8 0).cells (n * 1)).toList := by
      rw [← ht, List.take_of_length_le (by simp; omega)]
    have e2 : cur = madeCells (Value.int .u8 0).cells (n * 1) := Array.toList_inj.1 e
    refine Blk.cast (show Blk w g 5 cur from hh) ?_
    rw [e2]
    apply Array.ext_getElem?
    intro i
    simp [madeCells, byteV, Value.cells]
    by_cases hin : i < n
    · rw [Array.getElem?_eq_getElem (by simpa using hin), Array.getElem?_eq_getElem (by simpa using hin)]
      simp [Nat.mod_one]
    · rw [Array.getElem?_eq_none (by simp; omega), Array.getElem?_eq_none (by simp; omega)]
      rfl
/-- bufio.NewReaderSize over a section that stands at q: a reader that stands there. -/
theorem Buf_newB {w : World} {sb rb : Nat} {s : List UInt8} {L q : Nat} {b0 n0 i0 p0 : Value} (hs : Blk w sb 188 #[.iface 54 (.pointer (some ⟨rb, 0, none⟩)), b0, .int .i64 q, .int .i64 L, n0])
    (hr : Blk w rb 100 #[.string ⟨s.toArray⟩, i0, p0]) (hL : L ≤ s.length) (hq : q ≤ L) (h32 : s.length ≤ 4294967295) :
    Calls Tryd.prog 88 #[.iface 155 (.pointer (some ⟨sb, 0, none⟩)), .int .i64 4096] w fun e w' => ∃ bb gb, w.heap.size ≤ bb ∧ w.heap.size ≤ gb ∧ bb < w'.heap.size ∧ gb < w'.heap.size ∧ e = .returned (.pointer (some ⟨bb, 0, none⟩)) ∧ Below w.heap.size w w' ∧ BR w' bb gb sb rb s L q := by
  obtain ⟨i0', hi, hz0, hz1, hz2⟩ := info_parts infoU8
  have hta := assert_sect
  have HS := Lib.hid (And.intro hs hr)
  clear hs hr
  go_enter Tryd.func88, Tryd.ntmps88
  go_wp2_with (at_make; refine wpList_make_full _ rfl _ _ 30 rfl w.heap.size 5 i0' (.int .u8 0) 1 Tryd.underlying30 hi hz0 hz1 .i64 .i64 _ _ 4096 rfl rfl ?m1 ?m2 ?m3 ?m4 ?m5 ?_)
  case m1 => rfl
  case m2 => rfl
  case m3 => rw [hz2]; decide
  case m4 => decide
  case m5 => simp
  intro w0 hown hgr
  have hg := row_bytes0 rfl hown
  have hb := (Blk.new w 234 _).grown hgr (by simp)
  have hb0 : Below w.heap.size w w0 := (((Below.refl _ _).alloc (Nat.le_refl _) _).trans ((Below.refl _ _).grown hgr (by simp) (fun q hq => by cases hq)))
  have hz0 : w.heap.size + 1 ≤ w0.heap.size := hb.lt
  have hgl : w.heap.size + 1 < w0.heap.size := by have := hg.lt; simpa using this
  have HX := Lib.hid (And.intro hg (And.intro hb hb0))
  clear hg hb hb0 hown hgr
  go_wp2_with (go_at_call 116; refine (Buf_reset _ _ _ _ _ _ _ _ _ _ _ (HX.out.2.1.cell 0) (HX.out.2.1.cell 1) (HX.out.2.1.cell 2) (HX.out.2.1.cell 3) (HX.out.2.1.cell 4) (HX.out.2.1.cell 5) (HX.out.2.1.cell 6) HX.out.2.1.frozen).mono ?_; rintro e w1 ⟨rfl, rfl⟩)
  go_ret
  have hg1 := HX.out.1
  have hne : w.heap.size + 1 ≠ w.heap.size := by omega
  have hsl : sb < w.heap.size := HS.out.1.lt
  have hrl : rb < w.heap.size := HS.out.2.lt
  have hs0 := HS.out.1.below HX.out.2.2 hsl
  have hr0 := HS.out.2.below HX.out.2.2 hrl
  have hse : sb ≠ w.heap.size := by omega
  have hre : rb ≠ w.heap.size := by omega
  refine ⟨w.heap.size, w.heap.size + 1, Nat.le_refl _, Nat.le_succ _, ?_, ?_, rfl, ?_, 0, 0, List.replicate 4096 0, .int .i64 (-1), .int .i64 (-1), b0, n0, i0, p0, ⟨?_, ?_, List.length_replicate, Nat.le_refl _, Nat.zero_le _, rfl, by simpa using hq, hL, h32, ?_, ?_⟩⟩
  · simp; omega
  · simp; omega
  · exact ((((((HX.out.2.2.setCell (Nat.le_refl _) _).setCell (Nat.le_refl _) _).setCell (Nat.le_refl _) _).setCell (Nat.le_refl _) _).setCell (Nat.le_refl _) _).setCell (Nat.le_refl _) _).setCell (Nat.le_refl _) _
  · exact Blk.cast (((((((HX.out.2.1.set_ 0 _).set_ 1 _).set_ 2 _).set_ 3 _).set_ 4 _).set_ 5 _).set_ 6 _) (by simp)
  · exact ((((((hg1.far hne _).far hne _).far hne _).far hne _).far hne _).far hne _).far hne _
  · exact Blk.cast (((((((hs0.far hse _).far hse _).far hse _).far hse _).far hse _).far hse _).far hse _) (by simp)
  · exact ((((((hr0.far hre _).far hre _).far hre _).far hre _).far hre _).far hre _).far hre _
theorem Buf_newRB {w : World} {sb rb : Nat} {s : List UInt8} {L q : Nat} {b0 n0 i0 p0 : Value} (hs : Blk w sb 188 #[.iface 54 (.pointer (some ⟨rb, 0, none⟩)), b0, .int .i64 q, .int .i64 L, n0])
    (hr : Blk w rb 100 #[.string ⟨s.toArray⟩, i0, p0]) (hL : L ≤ s.length) (hq : q ≤ L) (h32 : s.length ≤ 4294967295) :
    Calls Tryd.prog 61 #[.iface 155 (.pointer (some ⟨sb, 0, none⟩))] w fun e w' => ∃ bb gb, w.heap.size ≤ bb ∧ w.heap.size ≤ gb ∧ bb < w'.heap.size ∧ gb < w'.heap.size ∧ e = .returned (.pointer (some ⟨bb, 0, none⟩)) ∧ Below w.heap.size w w' ∧ BR w' bb gb sb rb s L q := by
  have H := Lib.hid (Buf_newB hs hr hL hq h32)
  clear hs hr
  go_enter Tryd.func61, Tryd.ntmps61
  go_wp2_with fail
  refine H.out.mono ?_
  rintro e w1 ⟨bb, gb, h1, h2, h3, h4, rfl, hb, hB⟩
  have HB := Lib.hid (And.intro hb hB)
  clear hb hB
  go_wp2
  go_ret
  exact ⟨bb, gb, h1, h2, h3, h4, rfl, HB.out.1, HB.out.2⟩
end Go.Proofs.YtkkdblifgekmkaaDoor
