/- Contracts: fileWriter.close. -/
import Derived.Test.YtkkdblifgekmkaaDoorWdd
namespace Go.Proofs.YtkkdblifgekmkaaDoor
open Go.RowKit
/-- A header's cells with the sizes and the checksum that are found at the end. -/
def Hd.done (h : Hd) (n crc : Nat) : Hd := { h with crc := crc, packed := n, size := n }
theorem Hd.done_fits {h : Hd} (hF : h.Fits) {n crc : Nat} (hn : n < 4294967296) (hc : crc < 4294967296) : (h.done n crc).Fits :=
  ⟨hF.name, hF.comment, hF.extra, hF.creator, hF.reader, hF.flags, hF.method, hF.time, hF.date, hc, hn, hn, hF.external⟩
set_option maxRecDepth 100000 in
theorem close_raw {w : World} {fw hb fb : Nat} {h : Hd} {nu : Bool} {cs us : Nat} {X c1 v1 v2 v3 v4 v5 : Value} (hw : Blk w fw 137 #[.pointer (some ⟨hb, 0, none⟩), v1, v2, v3, v4, v5, .bool false]) (hh : Blk w hb 128 #[.pointer (some ⟨fb, 0, none⟩), c1, .bool true]) (hf : Blk w fb 72 (fhCells h nu cs us X)) (hF : h.flags < 65536) (h0 : h.flags / 8 % 2 = 0) :
    Calls Tryd.prog 65 #[.pointer (some ⟨fw, 0, none⟩)] w fun e w' => e = .returned .nilIface ∧ Kept [fw] w w' := by
  have f0 : w.cell? ⟨fw, 0, none⟩ = some (.pointer (some ⟨hb, 0, none⟩)) := hw.cell 0
  have f6 : w.cell? ⟨fw, 6, none⟩ = some (.bool false) := hw.cell 6
  have hz : w.frozen? ⟨fw, 6, none⟩ = false := hw.frozen 6
  have g2 : w.cell? ⟨hb, 2, none⟩ = some (.bool true) := hh.cell 2
  have hne : hb ≠ fw := hh.ne_ hw (by decide)
  have hne2 : fb ≠ fw := hf.ne_ hw (by decide)
  have hw2 := Blk.cast (hw.set_ 6 (.bool true)) (cs' := #[.pointer (some ⟨hb, 0, none⟩), v1, v2, v3, v4, v5, .bool true]) (by simp)
  have HC := Lib.hid (Wdd_no hw2 rfl (hh.far (p := ⟨fw, 6, none⟩) hne _) (hf.far (p := ⟨fw, 6, none⟩) hne2 _) hF h0)
  clear hw hh hf h0 hw2
  go_enter Tryd.func65, Tryd.ntmps65
  go_wp2_with fail
  refine HC.out.mono ?_
  rintro e w1 ⟨rfl, rfl⟩
  go_wp2
  go_ret
  exact ⟨rfl, (Kept.refl _ _).setCell (by simp) _⟩
set_option maxRecDepth 100000 in
set_option maxHeartbeats 1000000 in
theorem close_any {w : World} {ob bw gb cw fw hb fb rc nc cc hh n crc : Nat} {ro : Option Nat} {out : List UInt8} {h : Hd} {nu : Bool} {cs us : Nat} {X c1 : Value} (hS : Snk w ob bw gb cw ro out) (hw : FwO w fw hb rc nc cc hh cw n crc) (hh0 : Blk w hb 128 #[.pointer (some ⟨fb, 0, none⟩), c1, .bool false]) (hf : Blk w fb 72 (fhCells h nu cs us X)) (hF : h.Fits) (h0 : h.flags / 8 % 2 = 1) (hn : n < 4294967296) (hc : crc < 4294967296) (hlen : out.length + 16 ≤ 140737488355328) :
    Calls Tryd.prog 65 #[.pointer (some ⟨fw, 0, none⟩)] w fun e w' => e = .returned .nilIface ∧ ∃ ro', (ro' = ro ∨ ∃ n, ro' = some n ∧ w.heap.size ≤ n) ∧ Snk w' ob bw gb cw ro' (out ++ tailB (h.done n crc)) ∧ Blk w' fb 72 (fhCells (h.done n crc) nu n n X) ∧ Kept (ob :: bw :: gb :: cw :: fw :: fb :: ro.toList) w w' := by
  have f0 : w.cell? ⟨fw, 0, none⟩ = some (.pointer (some ⟨hb, 0, none⟩)) := hw.fwb.cell 0
  have f3 : w.cell? ⟨fw, 3, none⟩ = some (.iface 225 (.pointer (some ⟨nc, 0, none⟩))) := hw.fwb.cell 3
  have f6 : w.cell? ⟨fw, 6, none⟩ = some (.bool false) := hw.fwb.cell 6
  have hz : w.frozen? ⟨fw, 6, none⟩ = false := hw.fwb.frozen 6
  have g2 : w.cell? ⟨hb, 2, none⟩ = some (.bool false) := hh0.cell 2
  have n0 : w.cell? ⟨nc, 0, none⟩ = some (.iface 104 (.pointer (some ⟨cc, 0, none⟩))) := hw.ncb.cell 0
  have hnef : nc ≠ fw := hw.ncb.ne_ hw.fwb (by decide)
  have hmC : (method 404 225 (.pointer (some ⟨nc, 0, none⟩)) "Close").run Tryd.prog (w.setCell ⟨fw, 6, none⟩ (.bool true)) = .ok (191, .agg #[.iface 104 (.pointer (some ⟨cc, 0, none⟩))]) (w.setCell ⟨fw, 6, none⟩ (.bool true)) :=
    method_nopC ((hw.ncb.far (p := ⟨fw, 6, none⟩) hnef _).cell 0)
  have HX := Lib.hid (And.intro hS (And.intro hw (And.intro hh0 (And.intro hf (And.intro hlen (And.intro hF (And.intro h0 (And.intro hn hc))))))))
  clear hS hw hh0 hf hlen hF h0 hc
  go_enter Tryd.func65, Tryd.ntmps65
  go_wp2_with fail
  refine (nopClose_any _ _).mono ?_
  rintro e w1 ⟨rfl, hb1⟩
  clear f0 f3 f6 hz g2 n0 hmC
  have hk1 : Kept [fw] w w1 := ((Kept.refl [fw] w).setCell (p := ⟨fw, 6, none⟩) (by simp) (.bool true)).below hb1 (by simp [World.setCell])
  have hw2 : Blk w1 fw 137 #[.pointer (some ⟨hb, 0, none⟩), .iface 104 (.pointer (some ⟨cw, 0, none⟩)), .pointer (some ⟨rc, 0, none⟩), .iface 225 (.pointer (some ⟨nc, 0, none⟩)), .pointer (some ⟨cc, 0, none⟩), .pointer (some ⟨hh, 0, none⟩), .bool true] :=
    (Blk.cast (HX.out.2.1.fwb.set_ 6 (.bool true)) (by simp)).below hb1 (by simpa [World.setCell] using HX.out.2.1.fwb.lt)
  have e1 := hk1.blk HX.out.2.2.1 (by simpa using HX.out.2.2.1.ne_ HX.out.2.1.fwb (by decide))
  have e2 := hk1.blk HX.out.2.2.2.1 (by simpa using HX.out.2.2.2.1.ne_ HX.out.2.1.fwb (by decide))
  have e3 := hk1.blk HX.out.2.1.rcb (by simpa using HX.out.2.1.rcb.ne_ HX.out.2.1.fwb (by decide))
  have e4 := hk1.blk HX.out.2.1.ccb (by simpa using HX.out.2.1.ccb.ne_ HX.out.2.1.fwb (by decide))
  have e5 := hk1.blk HX.out.2.1.hhb (by simpa using HX.out.2.1.hhb.ne_ HX.out.2.1.fwb (by decide))
  have f0 : w1.cell? ⟨fw, 0, none⟩ = some (.pointer (some ⟨hb, 0, none⟩)) := hw2.cell 0
  have f2 : w1.cell? ⟨fw, 2, none⟩ = some (.pointer (some ⟨rc, 0, none⟩)) := hw2.cell 2
  have f4 : w1.cell? ⟨fw, 4, none⟩ = some (.pointer (some ⟨cc, 0, none⟩)) := hw2.cell 4
  have f5 : w1.cell? ⟨fw, 5, none⟩ = some (.pointer (some ⟨hh, 0, none⟩)) := hw2.cell 5
  have g0 : w1.cell? ⟨hb, 0, none⟩ = some (.pointer (some ⟨fb, 0, none⟩)) := e1.cell 0
  have r1 : w1.cell? ⟨rc, 1, none⟩ = some (.int .i64 n) := e3.cell 1
  have k1 : w1.cell? ⟨cc, 1, none⟩ = some (.int .i64 n) := e4.cell 1
  have q12 : w1.cell? ⟨fb, 12, none⟩ = some (.int .u32 h.crc) := e2.cell 12
  have q13 : w1.cell? ⟨fb, 13, none⟩ = some (.int .u32 cs) := e2.cell 13
  have q14 : w1.cell? ⟨fb, 14, none⟩ = some (.int .u32 us) := e2.cell 14
  have q15 : w1.cell? ⟨fb, 15, none⟩ = some (.int .u64 h.packed) := e2.cell 15
  have q16 : w1.cell? ⟨fb, 16, none⟩ = some (.int .u64 h.size) := e2.cell 16
  have hfz : ∀ i, w1.frozen? ⟨fb, i, none⟩ = false := e2.frozen
  have nf1 : fw ≠ fb := hw2.ne_ e2 (by decide)
  have nf2 : hb ≠ fb := e1.ne_ e2 (by decide)
  have nf3 : rc ≠ fb := e3.ne_ e2 (by decide)
  have nf4 : cc ≠ fb := e4.ne_ e2 (by decide)
  have nf5 : hh ≠ fb := e5.ne_ e2 (by decide)
  have HS := Lib.hid (Sum32_any e5)
  have HY := Lib.hid (And.intro hk1 (And.intro hw2 (And.intro e1 (And.intro e2 hb1))))
  clear hk1 hw2 e1 e2 e3 e4 e5 hb1
  go_wp2_with fail
  refine HS.out.mono ?_
  rintro e w2 ⟨rfl, rfl⟩
  clear HS
  go_wp2_with fail
  refine callsW (fun W => Blk W fb 72 (fhCells (h.done n crc) nu n n X) ∧ Kept [fb] w1 W) ⟨Blk.cast (((((HY.out.2.2.2.1.set_ 12 _).set_ 15 _).set_ 16 _).set_ 13 _).set_ 14 _) (by simp [fhCells, Hd.done]), (((((Kept.refl [fb] w1).setCell (by simp) _).setCell (by simp) _).setCell (by simp) _).setCell (by simp) _).setCell (by simp) _⟩ ?_
  rintro W ⟨hb2, hk2⟩
  have S1 : Snk w1 ob bw gb cw ro out := by
    have := HX.out.1.not HX.out.2.1.fwb (by decide) (by decide) (by decide) (by decide)
    simp only [List.mem_cons, Option.mem_toList, not_or] at this
    exact HX.out.1.kept HY.out.1 (by simp; omega) (by simp; omega) (by simp; omega) (by simp; omega) (fun g hg hm => this.2.2.2.2 (by simp at hm; rw [hg, hm]))
  have S2 : Snk W ob bw gb cw ro out := by
    have := S1.not HY.out.2.2.2.1 (by decide) (by decide) (by decide) (by decide)
    simp only [List.mem_cons, Option.mem_toList, not_or] at this
    exact S1.kept hk2 (by simp; omega) (by simp; omega) (by simp; omega) (by simp; omega) (fun g hg hm => this.2.2.2.2 (by simp at hm; rw [hg, hm]))
  have HW := Lib.hid (Wdd_yes (c1 := c1) S2 (hk2.blk HY.out.2.1 (by simpa using nf1)) rfl rfl (hk2.blk HY.out.2.2.1 (by simpa using nf2)) hb2 (Hd.done_fits HX.out.2.2.2.2.2.1 hn HX.out.2.2.2.2.2.2.2.2) HX.out.2.2.2.2.2.2.1 HX.out.2.2.2.2.1)
  have HZ := Lib.hid (And.intro hb2 hk2)
  clear hb2 hk2 S1 f0 f2 f4 f5 g0 r1 k1 q12 q13 q14 q15 q16 hfz
  refine HW.out.mono ?_
  rintro e w3 ⟨rfl, ro', h1, h2, h3⟩
  have HV := Lib.hid (And.intro h1 (And.intro h2 h3))
  clear h1 h2 h3 HW
  go_wp2
  go_ret
  obtain ⟨h1, h2, h3⟩ := HV.out
  have hfbn := S2.not HZ.out.1 (by decide) (by decide) (by decide) (by decide)
  have hsz : w.heap.size ≤ W.heap.size := Nat.le_trans HY.out.1.size HZ.out.2.size
  refine ⟨rfl, ro', fresh_trans (.inl rfl) h1 hsz, h2, h3.blk HZ.out.1 hfbn, ?_⟩
  have k1 : Kept (ob :: bw :: gb :: cw :: fw :: fb :: ro.toList) w w1 := HY.out.1.mono (by grind)
  have k2 : Kept (ob :: bw :: gb :: cw :: fw :: fb :: ro.toList) w1 W := HZ.out.2.mono (by grind)
  have k3 : Kept (ob :: bw :: gb :: cw :: fw :: fb :: ro.toList) W w3 := h3.mono (by grind)
  exact (k1.trans k2).trans k3
end Go.Proofs.YtkkdblifgekmkaaDoor
