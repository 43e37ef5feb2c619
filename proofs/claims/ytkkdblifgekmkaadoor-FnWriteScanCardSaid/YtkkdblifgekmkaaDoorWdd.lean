/- Contracts: fileWriter.writeDataDescriptor. -/
import Derived.Test.YtkkdblifgekmkaaDoorFw
import Derived.Test.YtkkdblifgekmkaaDoorNewW
namespace Go.Proofs.YtkkdblifgekmkaaDoor
open Go.RowKit
/-- What stands behind a content. -/
def tailB (h : Hd) : List UInt8 := [80, 75, 7, 8] ++ leB h.crc 4 ++ leB h.packed 4 ++ leB h.size 4
theorem tailB_length (h : Hd) : (tailB h).length = 16 := by simp [tailB, leB_length]
theorem Wdd_no {w : World} {fw hb fb : Nat} {h : Hd} {nu : Bool} {cs us : Nat} {X c1 c2 : Value} {cells : Array Value} (hw : Blk w fw 137 cells) (hc0 : cells[0]? = some (.pointer (some ⟨hb, 0, none⟩))) (hh : Blk w hb 128 #[.pointer (some ⟨fb, 0, none⟩), c1, c2]) (hf : Blk w fb 72 (fhCells h nu cs us X)) (hF : h.flags < 65536) (h0 : h.flags / 8 % 2 = 0) :
    Calls Tryd.prog 101 #[.pointer (some ⟨fw, 0, none⟩)] w fun e w' => e = .returned .nilIface ∧ w = w' := by
  have f0 : w.cell? ⟨fw, 0, none⟩ = some (.pointer (some ⟨hb, 0, none⟩)) := (hw.cell 0).trans hc0
  have g0 : w.cell? ⟨hb, 0, none⟩ = some (.pointer (some ⟨fb, 0, none⟩)) := hh.cell 0
  have HN := Lib.hid (has_no hf hF h0)
  clear hw hc0 hh hf h0
  go_enter Tryd.func101, Tryd.ntmps101
  go_wp2_with fail
  refine HN.out.mono ?_
  rintro e w1 ⟨rfl, rfl⟩
  go_wp2
  go_ret
  exact ⟨rfl, rfl⟩
set_option maxRecDepth 100000 in
set_option maxHeartbeats 1000000 in
theorem Wdd_yes {w : World} {ob bw gb cw fw hb fb : Nat} {ro : Option Nat} {out : List UInt8} {h : Hd} {nu : Bool} {X c1 c2 : Value} {cells : Array Value} (hS : Snk w ob bw gb cw ro out) (hw : Blk w fw 137 cells) (hc0 : cells[0]? = some (.pointer (some ⟨hb, 0, none⟩))) (hc1 : cells[1]? = some (.iface 104 (.pointer (some ⟨cw, 0, none⟩))))
    (hh : Blk w hb 128 #[.pointer (some ⟨fb, 0, none⟩), c1, c2]) (hf : Blk w fb 72 (fhCells h nu h.packed h.size X)) (hF : h.Fits) (h0 : h.flags / 8 % 2 = 1) (hlen : out.length + 16 ≤ 140737488355328) :
    Calls Tryd.prog 101 #[.pointer (some ⟨fw, 0, none⟩)] w fun e w' => e = .returned .nilIface ∧ ∃ ro', (ro' = ro ∨ ∃ n, ro' = some n ∧ w.heap.size ≤ n) ∧ Snk w' ob bw gb cw ro' (out ++ tailB h) ∧ Kept (ob :: bw :: gb :: cw :: ro.toList) w w' := by
  obtain ⟨i0, hi, hz0, hz1, hz2⟩ := info_parts infoU8
  have f0 : w.cell? ⟨fw, 0, none⟩ = some (.pointer (some ⟨hb, 0, none⟩)) := (hw.cell 0).trans hc0
  have g0 : w.cell? ⟨hb, 0, none⟩ = some (.pointer (some ⟨fb, 0, none⟩)) := hh.cell 0
  have q13 : w.cell? ⟨fb, 13, none⟩ = some (.int .u32 h.packed) := hf.cell 13
  have q12 : w.cell? ⟨fb, 12, none⟩ = some (.int .u32 h.crc) := hf.cell 12
  have q14 : w.cell? ⟨fb, 14, none⟩ = some (.int .u32 h.size) := hf.cell 14
  have q15 : w.cell? ⟨fb, 15, none⟩ = some (.int .u64 h.packed) := hf.cell 15
  have q16 : w.cell? ⟨fb, 16, none⟩ = some (.int .u64 h.size) := hf.cell 16
  have hcp : h.packed < 4294967296 := hF.packed
  have hcz : h.size < 4294967296 := hF.size
  have HN := Lib.hid (has_yes hf hF.flags h0)
  have HX := Lib.hid (And.intro hS (And.intro hw (And.intro hh (And.intro hf (And.intro hlen (And.intro hc0 hc1))))))
  have HF := Lib.hid hF
  clear hw hc0 hc1 hh hf h0 hS hF hlen
  go_enter Tryd.func101, Tryd.ntmps101
  go_wp2_with fail
  refine HN.out.mono ?_
  rintro e w1 ⟨rfl, rfl⟩
  clear HN
  go_wp2_with (at_make; refine wpList_make_full _ rfl _ _ 30 rfl w.heap.size 5 i0 (.int .u8 0) 1 Tryd.underlying30 hi hz0 hz1 .i64 .i64 _ _ 16 rfl rfl ?m1 ?m2 ?m3 ?m4 ?m5 ?_)
  case m1 => rfl
  case m2 => rfl
  case m3 => rw [hz2]; decide
  case m4 => decide
  case m5 => simp
  intro w0 hown hgr
  have hg := rowW0 rfl hown
  have hk0 : Kept [] w w0 := (Kept.refl _ _).grown hgr (fun q hq => by cases hq)
  clear f0 g0 q12 q13 q14 q15 q16 hown hgr
  have hfl := HX.out.2.1.lt
  have hbl := HX.out.2.2.1.lt
  have fbl := HX.out.2.2.2.1.lt
  have HX0 := Lib.hid (And.intro (show Blk w0 w.heap.size 5 (putAll ((List.replicate 16 (0 : UInt8)).map byteV).toArray 0 (([] : List UInt8).map byteV)) from hg) hk0)
  have hwl : w.heap.size < w0.heap.size := hg.lt
  clear hg hk0
  go_wp2_with fail
  refine callsW (fun W => Blk W w0.heap.size 122 #[.slice (some ⟨w.heap.size, 0, none⟩) 16 16] ∧ Blk W w.heap.size 5 (putAll ((List.replicate 16 (0 : UInt8)).map byteV).toArray 0 (([] : List UInt8).map byteV)) ∧ Kept [] w W) ⟨Blk.new _ _ _, HX0.out.1.alloc _, HX0.out.2.alloc _⟩ ?_
  rintro W0 ⟨hr, hg, hk⟩
  have hr0 : w.heap.size ≤ w0.heap.size := by omega
  have hr1 : w0.heap.size ≠ w.heap.size := by omega
  have HXa := Lib.hid (And.intro hr (And.intro hg hk))
  clear hr hg hk HX0
  refine (wb32 (o := 0) (n := 16) (c := 16) HXa.out.1 HXa.out.2.1 hr1 (by omega) (by omega) (by rw [putAll_size]; simp) (134695760) _ (by first | rfl | omega) (by decide)).mono ?_
  rintro e W1 ⟨rfl, hg, ⟨o', ho, hr⟩, hk⟩
  obtain rfl : o' = 4 := ho.out (by decide)
  have hg2 := Blk.cast hg (put_next (A := []) (by simp))
  have hk2 : Kept [] w W1 := HXa.out.2.2.trans' hk (fun x hx => .inr (by simp at hx; omega))
  have f0 : W1.cell? ⟨fw, 0, none⟩ = some (.pointer (some ⟨hb, 0, none⟩)) := ((hk2.blk HX.out.2.1 (by simp)).cell 0).trans HX.out.2.2.2.2.2.1
  have f1 : W1.cell? ⟨fw, 1, none⟩ = some (.iface 104 (.pointer (some ⟨cw, 0, none⟩))) := ((hk2.blk HX.out.2.1 (by simp)).cell 1).trans HX.out.2.2.2.2.2.2
  have g0 : W1.cell? ⟨hb, 0, none⟩ = some (.pointer (some ⟨fb, 0, none⟩)) := (hk2.blk HX.out.2.2.1 (by simp)).cell 0
  have q12 : W1.cell? ⟨fb, 12, none⟩ = some (.int .u32 h.crc) := (hk2.blk HX.out.2.2.2.1 (by simp)).cell 12
  have q13 : W1.cell? ⟨fb, 13, none⟩ = some (.int .u32 h.packed) := (hk2.blk HX.out.2.2.2.1 (by simp)).cell 13
  have q14 : W1.cell? ⟨fb, 14, none⟩ = some (.int .u32 h.size) := (hk2.blk HX.out.2.2.2.1 (by simp)).cell 14
  have q15 : W1.cell? ⟨fb, 15, none⟩ = some (.int .u64 h.packed) := (hk2.blk HX.out.2.2.2.1 (by simp)).cell 15
  have q16 : W1.cell? ⟨fb, 16, none⟩ = some (.int .u64 h.size) := (hk2.blk HX.out.2.2.2.1 (by simp)).cell 16
  have HXb := Lib.hid (And.intro hr (And.intro hg2 hk2))
  clear hr hg hg2 hk hk2 ho
  go_wp2_with fail
  clear f0 f1 g0 q12 q13 q14 q15 q16
  refine (wb32 (o := 4) (n := 12) (c := 12) HXb.out.1 HXb.out.2.1 hr1 (by omega) (by omega) (by rw [putAll_size]; simp) (h.crc) _ (by first | rfl | omega) (HF.out.crc)).mono ?_
  rintro e W2 ⟨rfl, hg, ⟨o', ho, hr⟩, hk⟩
  obtain rfl : o' = 8 := ho.out (by decide)
  have hg2 := Blk.cast hg (put_next (A := [] ++ leB (134695760) 4) (by simp [leB_length]))
  have hk2 : Kept [] w W2 := HXb.out.2.2.trans' hk (fun x hx => .inr (by simp at hx; omega))
  have f0 : W2.cell? ⟨fw, 0, none⟩ = some (.pointer (some ⟨hb, 0, none⟩)) := ((hk2.blk HX.out.2.1 (by simp)).cell 0).trans HX.out.2.2.2.2.2.1
  have f1 : W2.cell? ⟨fw, 1, none⟩ = some (.iface 104 (.pointer (some ⟨cw, 0, none⟩))) := ((hk2.blk HX.out.2.1 (by simp)).cell 1).trans HX.out.2.2.2.2.2.2
  have g0 : W2.cell? ⟨hb, 0, none⟩ = some (.pointer (some ⟨fb, 0, none⟩)) := (hk2.blk HX.out.2.2.1 (by simp)).cell 0
  have q12 : W2.cell? ⟨fb, 12, none⟩ = some (.int .u32 h.crc) := (hk2.blk HX.out.2.2.2.1 (by simp)).cell 12
  have q13 : W2.cell? ⟨fb, 13, none⟩ = some (.int .u32 h.packed) := (hk2.blk HX.out.2.2.2.1 (by simp)).cell 13
  have q14 : W2.cell? ⟨fb, 14, none⟩ = some (.int .u32 h.size) := (hk2.blk HX.out.2.2.2.1 (by simp)).cell 14
  have q15 : W2.cell? ⟨fb, 15, none⟩ = some (.int .u64 h.packed) := (hk2.blk HX.out.2.2.2.1 (by simp)).cell 15
  have q16 : W2.cell? ⟨fb, 16, none⟩ = some (.int .u64 h.size) := (hk2.blk HX.out.2.2.2.1 (by simp)).cell 16
  have HXc := Lib.hid (And.intro hr (And.intro hg2 hk2))
  clear hr hg hg2 hk hk2 ho
  go_wp2_with fail
  clear f0 f1 g0 q12 q13 q14 q15 q16
  refine (wb32 (o := 8) (n := 8) (c := 8) HXc.out.1 HXc.out.2.1 hr1 (by omega) (by omega) (by rw [putAll_size]; simp) (h.packed) _ (by first | rfl | omega) (HF.out.packed)).mono ?_
  rintro e W3 ⟨rfl, hg, ⟨o', ho, hr⟩, hk⟩
  obtain rfl : o' = 12 := ho.out (by decide)
  have hg2 := Blk.cast hg (put_next (A := [] ++ leB (134695760) 4 ++ leB (h.crc) 4) (by simp [leB_length]))
  have hk2 : Kept [] w W3 := HXc.out.2.2.trans' hk (fun x hx => .inr (by simp at hx; omega))
  have f0 : W3.cell? ⟨fw, 0, none⟩ = some (.pointer (some ⟨hb, 0, none⟩)) := ((hk2.blk HX.out.2.1 (by simp)).cell 0).trans HX.out.2.2.2.2.2.1
  have f1 : W3.cell? ⟨fw, 1, none⟩ = some (.iface 104 (.pointer (some ⟨cw, 0, none⟩))) := ((hk2.blk HX.out.2.1 (by simp)).cell 1).trans HX.out.2.2.2.2.2.2
  have g0 : W3.cell? ⟨hb, 0, none⟩ = some (.pointer (some ⟨fb, 0, none⟩)) := (hk2.blk HX.out.2.2.1 (by simp)).cell 0
  have q12 : W3.cell? ⟨fb, 12, none⟩ = some (.int .u32 h.crc) := (hk2.blk HX.out.2.2.2.1 (by simp)).cell 12
  have q13 : W3.cell? ⟨fb, 13, none⟩ = some (.int .u32 h.packed) := (hk2.blk HX.out.2.2.2.1 (by simp)).cell 13
  have q14 : W3.cell? ⟨fb, 14, none⟩ = some (.int .u32 h.size) := (hk2.blk HX.out.2.2.2.1 (by simp)).cell 14
  have q15 : W3.cell? ⟨fb, 15, none⟩ = some (.int .u64 h.packed) := (hk2.blk HX.out.2.2.2.1 (by simp)).cell 15
  have q16 : W3.cell? ⟨fb, 16, none⟩ = some (.int .u64 h.size) := (hk2.blk HX.out.2.2.2.1 (by simp)).cell 16
  have HXd := Lib.hid (And.intro hr (And.intro hg2 hk2))
  clear hr hg hg2 hk hk2 ho
  go_wp2_with fail
  clear f0 f1 g0 q12 q13 q14 q15 q16
  refine (wb32 (o := 12) (n := 4) (c := 4) HXd.out.1 HXd.out.2.1 hr1 (by omega) (by omega) (by rw [putAll_size]; simp) (h.size) _ (by first | rfl | omega) (HF.out.size)).mono ?_
  rintro e W4 ⟨rfl, hg, ⟨o', ho, hr⟩, hk⟩
  have hg2 := Blk.cast hg (put_next (A := [] ++ leB (134695760) 4 ++ leB (h.crc) 4 ++ leB (h.packed) 4) (by simp [leB_length]))
  have hk2 : Kept [] w W4 := HXd.out.2.2.trans' hk (fun x hx => .inr (by simp at hx; omega))
  have f0 : W4.cell? ⟨fw, 0, none⟩ = some (.pointer (some ⟨hb, 0, none⟩)) := ((hk2.blk HX.out.2.1 (by simp)).cell 0).trans HX.out.2.2.2.2.2.1
  have f1 : W4.cell? ⟨fw, 1, none⟩ = some (.iface 104 (.pointer (some ⟨cw, 0, none⟩))) := ((hk2.blk HX.out.2.1 (by simp)).cell 1).trans HX.out.2.2.2.2.2.2
  have g0 : W4.cell? ⟨hb, 0, none⟩ = some (.pointer (some ⟨fb, 0, none⟩)) := (hk2.blk HX.out.2.2.1 (by simp)).cell 0
  have q12 : W4.cell? ⟨fb, 12, none⟩ = some (.int .u32 h.crc) := (hk2.blk HX.out.2.2.2.1 (by simp)).cell 12
  have q13 : W4.cell? ⟨fb, 13, none⟩ = some (.int .u32 h.packed) := (hk2.blk HX.out.2.2.2.1 (by simp)).cell 13
  have q14 : W4.cell? ⟨fb, 14, none⟩ = some (.int .u32 h.size) := (hk2.blk HX.out.2.2.2.1 (by simp)).cell 14
  have q15 : W4.cell? ⟨fb, 15, none⟩ = some (.int .u64 h.packed) := (hk2.blk HX.out.2.2.2.1 (by simp)).cell 15
  have q16 : W4.cell? ⟨fb, 16, none⟩ = some (.int .u64 h.size) := (hk2.blk HX.out.2.2.2.1 (by simp)).cell 16
  have HXe := Lib.hid (And.intro hr (And.intro hg2 hk2))
  clear hr hg hg2 hk hk2 ho
  go_wp2_with fail
  have S1 : Snk W4 ob bw gb cw ro out := HX.out.1.kept HXe.out.2.2 (by simp) (by simp) (by simp) (by simp) (by simp)
  have hbuf : Reads W4 W4.heap.size 1 (some ⟨w.heap.size, 0, none⟩) 16 (([] ++ leB (134695760) 4 ++ leB (h.crc) 4 ++ leB (h.packed) 4 ++ leB (h.size) 4).map byteV) := by
    have e := put_whole ((List.replicate 16 (0 : UInt8)).map byteV).toArray ([] ++ leB (134695760) 4 ++ leB (h.crc) 4 ++ leB (h.packed) 4 ++ leB (h.size) 4) (by simp [leB_length])
    have := readsT (Blk.cast HXe.out.2.1 e) 0 16 (by simp [leB_length])
    rw [List.drop_zero, List.take_of_length_le (by simp [leB_length])] at this
    exact this
  refine (Cw_write S1 (some ⟨w.heap.size, 0, none⟩) 16 16 ([] ++ leB (134695760) 4 ++ leB (h.crc) 4 ++ leB (h.packed) 4 ++ leB (h.size) 4) (by decide) hbuf (fun ad e _ => by injection e with e; subst e; exact fun hm => Nat.lt_irrefl _ (HX.out.1.lt _ hm)) (by have := HX.out.2.2.2.2.1; simp [leB_length]; omega)).mono ?_
  rintro e W5 ⟨rfl, ro', h1, h2, h3⟩
  have HY := Lib.hid (And.intro h1 (And.intro h2 h3))
  clear h1 h2 h3 S1 hbuf f0 f1 g0 q12 q13 q14 q15 q16
  go_wp2
  go_ret
  obtain ⟨h1, h2, h3⟩ := HY.out
  refine ⟨rfl, ro', fresh_trans (.inl rfl) h1 HXe.out.2.2.size, ?_, (HXe.out.2.2.mono (by simp)).trans h3⟩
  rw [show leB 134695760 4 = [80, 75, 7, 8] from rfl] at h2
  simpa only [tailB, List.nil_append, List.append_assoc] using h2
end Go.Proofs.YtkkdblifgekmkaaDoor
