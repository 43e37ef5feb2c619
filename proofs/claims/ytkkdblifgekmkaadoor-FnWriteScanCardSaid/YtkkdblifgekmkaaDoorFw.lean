/- Contracts: fileWriter.Write. -/
import Derived.Test.YtkkdblifgekmkaaDoorCw2
import Derived.Test.YtkkdblifgekmkaaDoorCrc4
namespace Go.Proofs.YtkkdblifgekmkaaDoor
open Go.RowKit
theorem Src.reads {w : World} {A : Option Addr} {n : Nat} {l : List UInt8} (h : Src w A n l) : Reads w w.heap.size 1 A n (l.map byteV) := by
  refine ⟨by simpa using h.1, fun hn => ?_⟩
  obtain ⟨g, o, e, hg, hc⟩ := h.2 hn
  refine ⟨_, e, hg, fun j u hu => ?_⟩
  have hj : j < l.length := by have := (List.getElem?_eq_some_iff.1 hu).1; simpa using this
  rw [add_atW, hc j hj, ← hu]
  simp [List.getElem?_eq_getElem hj]
theorem Src.kept {w w' : World} {A : Option Addr} {n : Nat} {l : List UInt8} {S : List Nat} (h : Src w A n l) (k : Kept S w w') (hS : ∀ ad, A = some ad → 0 < n → ad.block ∉ S) : Src w' A n l :=
  ⟨h.1, fun hn => by
    obtain ⟨g, o, e, hg, hc⟩ := h.2 hn
    have hs := hS _ e hn
    exact ⟨g, o, e, Nat.lt_of_lt_of_le hg k.size, fun j hj => (k.cell (p := ⟨g, o + j, none⟩) hg hs).trans (hc j hj)⟩⟩
/-- A fileWriter that is open: n bytes have been written, crc is their running checksum. -/
structure FwO (w : World) (fw hb rc nc cc hh cw n crc : Nat) : Prop where
  fwb : Blk w fw 137 #[.pointer (some ⟨hb, 0, none⟩), .iface 104 (.pointer (some ⟨cw, 0, none⟩)), .pointer (some ⟨rc, 0, none⟩), .iface 225 (.pointer (some ⟨nc, 0, none⟩)), .pointer (some ⟨cc, 0, none⟩), .pointer (some ⟨hh, 0, none⟩), .bool false]
  rcb : Blk w rc 108 #[.iface 225 (.pointer (some ⟨nc, 0, none⟩)), .int .i64 n]
  ncb : Blk w nc 227 #[.iface 104 (.pointer (some ⟨cc, 0, none⟩))]
  ccb : Blk w cc 108 #[.iface 104 (.pointer (some ⟨cw, 0, none⟩)), .int .i64 n]
  hhb : Blk w hh 133 #[.int .u32 crc]
  ne1 : cc ≠ cw
  ne2 : rc ≠ cw
  ne3 : rc ≠ cc
theorem FwO.kept {w w' : World} {fw hb rc nc cc hh cw n crc : Nat} {S : List Nat} (h : FwO w fw hb rc nc cc hh cw n crc) (k : Kept S w w') (hS : ∀ x ∈ [fw, rc, nc, cc, hh], x ∉ S) : FwO w' fw hb rc nc cc hh cw n crc :=
  ⟨k.blk h.fwb (hS _ (by simp)), k.blk h.rcb (hS _ (by simp)), k.blk h.ncb (hS _ (by simp)), k.blk h.ccb (hS _ (by simp)), k.blk h.hhb (hS _ (by simp)), h.ne1, h.ne2, h.ne3⟩
set_option maxRecDepth 100000 in
set_option maxHeartbeats 1000000 in
theorem Fw_write {w : World} {ob bw gb cw fw hb rc nc cc hh n crc : Nat} {ro : Option Nat} {out : List UInt8} {c0 c1 : Value} (h : Snk w ob bw gb cw ro out) (hw : FwO w fw hb rc nc cc hh cw n crc) (hh0 : Blk w hb 128 #[c0, c1, .bool false]) (A : Option Addr) (m c : Nat) (p : List UInt8) (hmc : m ≤ c) (hs : Src w A m p) (hap : ∀ ad, A = some ad → 0 < m → ad.block ∉ hh :: ob :: bw :: gb :: ro.toList) (hcrc : crc < 4294967296) (hlen : out.length + p.length ≤ 140737488355328) (hn1 : n + p.length ≤ 140737488355328) :
    Calls Tryd.prog 168 #[.pointer (some ⟨fw, 0, none⟩), .slice A m c] w fun e w' => e = .returned (.tuple #[.int .i64 m, .nilIface]) ∧ ∃ ro', (ro' = ro ∨ ∃ n, ro' = some n ∧ w.heap.size ≤ n) ∧ Snk w' ob bw gb cw ro' (out ++ p) ∧ FwO w' fw hb rc nc cc hh cw (n + m) (notU (crcFold (notU crc) p)) ∧ Kept (ob :: bw :: gb :: cw :: cc :: rc :: hh :: ro.toList) w w' := by
  have hmp : m = p.length := hs.1.symm
  have f0 : w.cell? ⟨fw, 0, none⟩ = some (.pointer (some ⟨hb, 0, none⟩)) := hw.fwb.cell 0
  have f5 : w.cell? ⟨fw, 5, none⟩ = some (.pointer (some ⟨hh, 0, none⟩)) := hw.fwb.cell 5
  have f6 : w.cell? ⟨fw, 6, none⟩ = some (.bool false) := hw.fwb.cell 6
  have g2 : w.cell? ⟨hb, 2, none⟩ = some (.bool false) := hh0.cell 2
  have HC := Lib.hid (crcW_any hw.hhb hs hcrc hmc (by omega))
  have HX := Lib.hid (And.intro h (And.intro hw (And.intro hs (And.intro hap (And.intro hlen hn1)))))
  have HM := Lib.hid hmp
  clear h hw hs hap hlen hn1 hh0 hcrc hmp
  go_enter Tryd.func168, Tryd.ntmps168
  go_wp2_with fail
  refine HC.out.mono ?_
  rintro e w1 ⟨rfl, hb1, hk1⟩
  have hw1 : FwO w1 fw hb rc nc cc hh cw n (notU (crcFold (notU crc) p)) := ⟨hk1.blk HX.out.2.1.fwb (by simpa using HX.out.2.1.fwb.ne_ HX.out.2.1.hhb (by decide)), hk1.blk HX.out.2.1.rcb (by simpa using HX.out.2.1.rcb.ne_ HX.out.2.1.hhb (by decide)), hk1.blk HX.out.2.1.ncb (by simpa using HX.out.2.1.ncb.ne_ HX.out.2.1.hhb (by decide)), hk1.blk HX.out.2.1.ccb (by simpa using HX.out.2.1.ccb.ne_ HX.out.2.1.hhb (by decide)), hb1, HX.out.2.1.ne1, HX.out.2.1.ne2, HX.out.2.1.ne3⟩
  have hs1 : Snk w1 ob bw gb cw ro out := by
    have := HX.out.1.not HX.out.2.1.hhb (by decide) (by decide) (by decide) (by decide)
    simp only [List.mem_cons, Option.mem_toList, not_or] at this
    exact HX.out.1.kept hk1 (by simp; omega) (by simp; omega) (by simp; omega) (by simp; omega) (fun g hg hm => this.2.2.2.2 (by simp at hm; rw [hg, hm]))
  have hp1 := HX.out.2.2.1.kept hk1 (fun ad e h0 hm => HX.out.2.2.2.1 ad e h0 (by simp at hm; simp [hm]))
  have f2 : w1.cell? ⟨fw, 2, none⟩ = some (.pointer (some ⟨rc, 0, none⟩)) := hw1.fwb.cell 2
  have HC2 := Lib.hid (Cw_write3 hs1 hw1.ccb hw1.ne1 hw1.ncb hw1.rcb hw1.ne2 hw1.ne3 A m c p ⟨hmc, hp1.reads, fun ad e h0 hm => HX.out.2.2.2.1 ad e h0 (List.mem_cons_of_mem _ hm)⟩ HX.out.2.2.2.2.1 HX.out.2.2.2.2.2)
  have HY := Lib.hid (And.intro hs1 (And.intro hw1 hk1))
  clear hs1 hw1 hk1 hb1 hp1 f0 f5 f6 g2 HC
  go_wp2_with fail
  refine HC2.out.mono ?_
  rintro e w2 ⟨rfl, ro', r1, r2, r3, r4, r5⟩
  have HZ := Lib.hid (And.intro r1 (And.intro r2 (And.intro r3 (And.intro r4 r5))))
  clear r1 r2 r3 r4 r5 HC2 f2
  go_wp2
  go_ret2
  obtain ⟨r1, r2, r3, r4, r5⟩ := HZ.out
  obtain ⟨y1, y2, y3⟩ := HY.out
  have hS : ∀ x, x ≠ cc → x ≠ rc → (∀ t cs, Blk w1 x t cs → 79 ≠ t → 207 ≠ t → 5 ≠ t → 108 ≠ t → x ∉ ob :: bw :: gb :: cw :: cc :: rc :: ro.toList) := by
    intro x h1 h2 t cs hb q1 q2 q3 q4
    have := y1.not hb q1 q2 q3 q4
    simp only [List.mem_cons, not_or] at this ⊢
    exact ⟨this.1, this.2.1, this.2.2.1, this.2.2.2.1, h1, h2, this.2.2.2.2⟩
  refine ⟨rfl, ro', ?_, r2, ⟨?_, r4, ?_, r3, ?_, y2.ne1, y2.ne2, y2.ne3⟩, ?_⟩
  · exact fresh_trans (.inl rfl) r1 y3.size
  · exact r5.blk y2.fwb (hS _ (y2.fwb.ne_ y2.ccb (by decide)) (y2.fwb.ne_ y2.rcb (by decide)) _ _ y2.fwb (by decide) (by decide) (by decide) (by decide))
  · exact r5.blk y2.ncb (hS _ (y2.ncb.ne_ y2.ccb (by decide)) (y2.ncb.ne_ y2.rcb (by decide)) _ _ y2.ncb (by decide) (by decide) (by decide) (by decide))
  · exact r5.blk y2.hhb (hS _ (y2.hhb.ne_ y2.ccb (by decide)) (y2.hhb.ne_ y2.rcb (by decide)) _ _ y2.hhb (by decide) (by decide) (by decide) (by decide))
  · exact (y3.mono (by grind)).trans (r5.mono (by grind))
end Go.Proofs.YtkkdblifgekmkaaDoor
