/- Contracts: bufio.Reader.Read past an empty buffer; io.ReadAtLeast, io.ReadFull whatever the size. -/
import Derived.Test.YtfagjhgmmaebfaaGreatDoorFull
import Derived.Deep.CutRange
import Derived.Deep.CutBlock
import Derived.Test.YtfagjhgmmaebfaaGreatDoorRba
import Derived.Test.YtfagjhgmmaebfaaGreatDoorDirEnd
namespace Go.Proofs.YtfagjhgmmaebfaaGreatDoor
open Go.RowKit
set_option maxRecDepth 100000 in
set_option maxHeartbeats 2000000 in
theorem Buf_direct (bb gb sb rb : Nat) (s : List UInt8) (L q r : Nat) (l : List UInt8) (v5 v6 b0 n0 i0 p0 : Value) (w : World) (h : BufR w bb gb sb rb s L q r r l v5 v6 b0 n0 i0 p0) (hq : q < L)
    (g o n c tg : Nat) (cs : Array Value) (hn2 : 4096 ≤ n) (hnc : n ≤ c) (hc : c ≤ 4294967295) (hd : Blk w g tg cs) (ho : o + n ≤ cs.size) (hg1 : g ≠ bb) (hg2 : g ≠ gb) (hg3 : g ≠ sb) (hg4 : g ≠ rb) :
    Calls Tryz.prog 123 #[.pointer (some ⟨bb, 0, none⟩), .slice (some ⟨g, o, none⟩) n c] w fun e w' => e = .returned (.tuple #[.int .i64 (min n (L - q) : Nat), .nilIface]) ∧
      (∃ v, BufR w' bb gb sb rb s L (q + min n (L - q)) r r l v (.int .i64 (-1)) b0 n0 i0 p0) ∧ Blk w' g tg (putAll cs o (((s.drop q).take (min n (L - q))).map byteV)) ∧ Kept [bb, gb, sb, g] w w' := by
  obtain ⟨k, hk⟩ : ∃ k, min n (L - q) = k + 1 := ⟨min n (L - q) - 1, by omega⟩
  rw [hk]
  have HK := Lib.hid hk
  have hkn : k + 1 ≤ n := by omega
  have hkL : q + (k + 1) ≤ L := by omega
  clear hk
  have hm := method_ReadS
  have b0' : w.cell? ⟨bb, 0, none⟩ = some (.slice (some ⟨gb, 0, none⟩) 4096 4096) := h.buf.cell 0
  have b1 : w.cell? ⟨bb, 1, none⟩ = some (.iface 94 (.pointer (some ⟨sb, 0, none⟩))) := h.buf.cell 1
  have b2 : w.cell? ⟨bb, 2, none⟩ = some (.int .i64 r) := h.buf.cell 2
  have b3 : w.cell? ⟨bb, 3, none⟩ = some (.int .i64 r) := h.buf.cell 3
  have b4 : w.cell? ⟨bb, 4, none⟩ = some .nilIface := h.buf.cell 4
  have hfb : ∀ i, w.frozen? ⟨bb, i, none⟩ = false := h.buf.frozen
  have hn4 : (4096 : Int) ≤ n := by omega
  have hn0 : 0 < n := by omega
  have H := Lib.hid h
  have HD := Lib.hid hd
  clear h hd
  go_enter Tryz.func123, Tryz.ntmps123
  have hgb : gb ≠ bb := H.out.row.ne_ H.out.buf (by decide)
  have hsb : sb ≠ bb := H.out.sec.ne_ H.out.buf (by decide)
  have hrb : rb ≠ bb := H.out.str.ne_ H.out.buf (by decide)
  have hsg : sb ≠ gb := H.out.sec.ne_ H.out.row (by decide)
  have hrg : rb ≠ gb := H.out.str.ne_ H.out.row (by decide)
  have hrs : rb ≠ sb := H.out.str.ne_ H.out.sec (by decide)
  have hS := fun k => Sect_read_some sb rb s L q g o n c H.out.hs H.out.hL hq hnc hc (w.drewN k) (by have := H.out.sec.cell 0; simpa using this) (by have := H.out.sec.cell 2; simpa using this) (by have := H.out.sec.cell 3; simpa using this) (by have := H.out.sec.frozen 2; simpa using this) (by have := H.out.str.cell 0; simpa using this) hg3.symm (fun j hj => by rw [World.cell?_drewN, HD.out.cell]; simp; omega) (fun j hj => by have := HD.out.frozen (o + j); simpa using this)
  rw [HK.out] at hS
  have HS := Lib.hid hS
  have hF : ∀ nq k1 w1, w1 = (((w.drewN nq).drewN k1).setCells g o (((s.drop q).take (k + 1)).map byteV)).setCell ⟨sb, 2, none⟩ (.int .i64 ((q + (k + 1) : Nat) : Int)) →
      BufR w1 bb gb sb rb s L (q + (k + 1)) r r l v5 v6 b0 n0 i0 p0 ∧ Kept [bb, gb, sb, g] w w1 ∧ Blk w1 g tg (putAll cs o (((s.drop q).take (k + 1)).map byteV)) := by
    intro nq k1 w1 e
    subst e
    have e0 : r - r = 0 := Nat.sub_self r
    refine ⟨⟨?_, ?_, H.out.len, Nat.le_refl _, H.out.hw, by rw [e0]; rfl, by rw [e0]; omega, H.out.hL, H.out.hs, ?_, ?_⟩, ?_, ?_⟩
    · exact (((H.out.buf.drewN _).drewN _).fars hg1.symm _ _).far hsb.symm _
    · exact (((H.out.row.drewN _).drewN _).fars hg2.symm _ _).far hsg.symm _
    · exact Blk.cast ((((H.out.sec.drewN _).drewN _).fars hg3.symm _ _).set_ 2 _) (by simp)
    · exact (((H.out.str.drewN _).drewN _).fars hg4.symm _ _).far hrs _
    · exact (Kept.setCells (by simp) _ _ _ (((Kept.refl _ _).drewN _).drewN _)).setCell (by simp) _
    · exact (((HD.out.drewN _).drewN _).setCells _ _).far hg3 _
  have HF := Lib.hid hF
  clear hS hF
  go_wp2_with fail
  go_quiet (fail)
  go_upto_region 11 with (go_at_call 119; refine (HS.out _).mono ?_; rintro e w1 ⟨rfl, k1, hw1⟩; have F := Lib.hid (HF.out _ k1 w1 hw1); have d4 : w1.cell? ⟨bb, 4, none⟩ = some .nilIface := F.out.1.buf.cell 4; have hf4 : w1.frozen? ⟨bb, 4, none⟩ = false := F.out.1.buf.frozen 4; clear hw1)
  refine at_world (fun W => BufR W bb gb sb rb s L (q + (k + 1)) r r l v5 v6 b0 n0 i0 p0 ∧ Kept [bb, gb, sb, g] w W ∧ Blk W g tg (putAll cs o (((s.drop q).take (k + 1)).map byteV))) ⟨F.out.1.err4, F.out.2.1.setCell (by simp) _, F.out.2.2.far hg1 _⟩ ?_
  rintro W2 ⟨B2, K2, D2⟩
  clear HS HF F d4 hf4 b0' b1 b2 b3 b4 hfb
  have c4 : W2.cell? ⟨bb, 4, none⟩ = some .nilIface := B2.buf.cell 4
  have c5 : W2.cell? ⟨bb, 5, none⟩ = some v5 := B2.buf.cell 5
  have c6 : W2.cell? ⟨bb, 6, none⟩ = some v6 := B2.buf.cell 6
  have hfb : ∀ i, W2.frozen? ⟨bb, i, none⟩ = false := B2.buf.frozen
  obtain ⟨x, hx⟩ : ∃ x : Nat, W2.cell? ⟨g, o + k, none⟩ = some (.int .u8 x) := by
    have hlen : (((s.drop q).take (k + 1)).map byteV).length = k + 1 := by rw [List.length_map, List.length_take, List.length_drop]; have := B2.hL; omega
    rw [D2.cell, putAll_get _ _ _ _ (by rw [hlen]; omega), if_pos (by rw [hlen]; omega), show o + k - o = k by omega, List.getElem?_map]
    rw [List.getElem?_eq_getElem (by rw [List.length_take, List.length_drop]; have := B2.hL; omega)]
    exact ⟨_, rfl⟩
  have HB := Lib.hid (And.intro B2 (And.intro K2 D2))
  clear B2 K2 D2
  have hk0 : ¬ ((k : Int) + 1 < 0) := by omega
  have hk1 : 0 < (k : Int) + 1 := by omega
  have hwr : IntKind.i64.wrap ((k : Int) + 1 - 1) = (k : Int) := by rw [IntWalk.i64_in _ (by omega)]; omega
  have hq1 : k < n := by omega
  have hq2 : (k : Int) < n := by omega
  have hq0 : 0 ≤ (k : Int) := by omega
  go_wp2
  go_ret2
  refine ⟨rfl, ⟨.int .i64 (wrap64 x), ⟨?_, ?_, HB.out.1.len, HB.out.1.le, HB.out.1.hw, HB.out.1.eq, HB.out.1.fit, HB.out.1.hL, HB.out.1.hs, ?_, ?_⟩⟩, ?_, ?_⟩
  · exact Blk.cast (((HB.out.1.buf.set_ 5 _).set_ 6 _).set_ 4 _) (by simp)
  · exact ((HB.out.1.row.far hgb _).far hgb _).far hgb _
  · exact ((HB.out.1.sec.far hsb _).far hsb _).far hsb _
  · exact ((HB.out.1.str.far hrb _).far hrb _).far hrb _
  · rw [← List.map_drop, ← List.map_take]
    exact ((HB.out.2.2.far hg1 _).far hg1 _).far hg1 _
  · exact ((HB.out.2.1.setCell (by simp) _).setCell (by simp) _).setCell (by simp) _
theorem Buf_readA {w : World} {bb gb sb rb : Nat} {s : List UInt8} {L q : Nat} (h : BR w bb gb sb rb s L q) (hq : q < L) (g o n c tg : Nat) (cs : Array Value) (hn : 0 < n) (hnc : n ≤ c) (hc : c ≤ 4294967295) (hd : Blk w g tg cs) (ho : o + n ≤ cs.size) (hg : g ∉ [bb, gb, sb, rb]) :
    Calls Tryz.prog 123 #[.pointer (some ⟨bb, 0, none⟩), .slice (some ⟨g, o, none⟩) n c] w fun e w' => ReadSome w w' e bb gb sb rb s L q g o n tg cs := by
  by_cases hn2 : n < 4096
  · exact Buf_read h hq g o n c tg cs hn hn2 hd ho hg
  obtain ⟨r, wr, l, v5, v6, b0, n0, i0, p0, h⟩ := h
  simp only [List.mem_cons, List.not_mem_nil, or_false, not_or] at hg
  obtain ⟨hg1, hg2, hg3, hg4⟩ := hg
  by_cases hr : r < wr
  · refine (Buf_copy bb gb sb rb s L q r wr l v5 v6 b0 n0 i0 p0 w h hr g o n c tg cs hn (by omega) hd ho hg1 hg2 hg3 hg4).mono ?_
    rintro e w' ⟨rfl, ⟨v, hb⟩, hd', hk⟩
    refine ⟨min n (wr - r), by omega, by omega, ?_, rfl, ⟨_, _, _, _, _, _, _, _, _, hb⟩, hd', hk.mono (fun x hx => .inl (by simp at hx ⊢; omega))⟩
    have := h.fit
    omega
  · obtain rfl : r = wr := by have := h.le; omega
    refine (Buf_direct bb gb sb rb s L q r l v5 v6 b0 n0 i0 p0 w h hq g o n c tg cs (by omega) hnc hc hd ho hg1 hg2 hg3 hg4).mono ?_
    rintro e w' ⟨rfl, ⟨v, hb⟩, hd', hk⟩
    exact ⟨min n (L - q), by omega, by omega, by omega, rfl, ⟨_, _, _, _, _, _, _, _, _, hb⟩, hd', hk⟩
set_option maxRecDepth 100000 in
set_option maxHeartbeats 2000000 in
theorem ReadAtLeast_fullA {w : World} {bb gb sb rb : Nat} {s : List UInt8} {L q : Nat} (h : BR w bb gb sb rb s L q) (g o n c tg : Nat) (cs : Array Value) (hq : q + n ≤ L) (hnc : n ≤ c) (hc : c ≤ 4294967295) (hd : Blk w g tg cs) (ho : o + n ≤ cs.size) (hg : g ∉ [bb, gb, sb, rb]) :
    Calls Tryz.prog 70 #[.iface 108 (.pointer (some ⟨bb, 0, none⟩)), .slice (some ⟨g, o, none⟩) n c, .int .i64 n] w fun e w' => e = .returned (.tuple #[.int .i64 n, .nilIface]) ∧ BR w' bb gb sb rb s L (q + n) ∧ Blk w' g tg (putAll cs o (((s.drop q).take n).map byteV)) ∧ Kept [bb, gb, sb, g] w w' := by
  have hm := method_ReadB
  have hma := ahead_ReadB
  have hLs := Lib.hid h.hL
  have H := Lib.hid h
  have HD := Lib.hid hd
  clear h hd
  go_enter Tryz.func70, Tryz.ntmps70
  go_wp2
  go_loopw [6, 7, 8] (fun c6 c7 _ W => ∃ d : Nat, d ≤ n ∧ c6 = .int .i64 d ∧ c7 = .nilIface ∧ Hid (BR W bb gb sb rb s L (q + d)) ∧ Hid (Blk W g tg (putAll cs o (((s.drop q).take d).map byteV))) ∧ Hid (Kept [bb, gb, sb, g] w W)) (fun c6 _ _ _ => n - (intOf c6).toNat)
  case atStart => exact ⟨0, Nat.zero_le _, rfl, rfl, H, HD, Lib.hid (Kept.refl _ _)⟩
  case round =>
    obtain ⟨d, hd, rfl, rfl, HB, HD1, HK⟩ := hrel
    by_cases hlt : d < n
    · have hlt' : (d : Int) < n := by omega
      have hcd : ¬ c = d := by omega
      have hR := Lib.hid (Buf_readA HB.out.drew (by omega) g (o + d) (n - d) (c - d) tg _ (by omega) (by omega) (by omega) HD1.out.drew (by rw [putAll_size]; omega) hg)
      go_wp2
      go_region_with (go_at_call 123; refine hR.out.mono ?_; rintro e w1 ⟨k, hk0, hk1, hk2, rfl, hB1, hD1, hK1⟩; have HB1 := Lib.hid hB1; have HD2 := Lib.hid hD1; have HK1 := Lib.hid hK1; clear hB1 hD1 hK1)
      all_goals go_wp2
      all_goals go_roundw
      case rel =>
        refine ⟨d + k, by omega, by go_num, rfl, ?_, ?_, ?_⟩
        · exact Lib.hid (by have := HB1.out; rwa [Nat.add_assoc] at this)
        · exact Lib.hid (Blk.cast HD2.out (put_more hLs.out (by omega)))
        · exact Lib.hid (HK.out.drew.trans HK1.out)
      case measure => simp [intOf]; omega
    · obtain rfl : d = n := by omega
      go_wp2
      go_ret2
      exact ⟨rfl, HB.out, HD1.out, HK.out⟩
theorem ReadFull_fullA {w : World} {bb gb sb rb : Nat} {s : List UInt8} {L q : Nat} (h : BR w bb gb sb rb s L q) (g o n c tg : Nat) (cs : Array Value) (hq : q + n ≤ L) (hnc : n ≤ c) (hc : c ≤ 4294967295) (hd : Blk w g tg cs) (ho : o + n ≤ cs.size) (hg : g ∉ [bb, gb, sb, rb]) :
    Calls Tryz.prog 52 #[.iface 108 (.pointer (some ⟨bb, 0, none⟩)), .slice (some ⟨g, o, none⟩) n c] w fun e w' => e = .returned (.tuple #[.int .i64 n, .nilIface]) ∧ BR w' bb gb sb rb s L (q + n) ∧ Blk w' g tg (putAll cs o (((s.drop q).take n).map byteV)) ∧ Kept [bb, gb, sb, g] w w' := by
  have H := Lib.hid (ReadAtLeast_fullA h g o n c tg cs hq hnc hc hd ho hg)
  clear h hd
  go_enter Tryz.func52, Tryz.ntmps52
  go_wp2_with fail
  refine H.out.mono ?_
  rintro e w1 ⟨rfl, hb⟩
  have HB := Lib.hid hb
  clear hb
  go_wp2
  go_ret2
  exact ⟨rfl, HB.out⟩
end Go.Proofs.YtfagjhgmmaebfaaGreatDoor
/- Contracts: readBuf.uint16, uint32 over a row of whatever type; File.findBodyOffset. -/
namespace Go.Proofs.YtfagjhgmmaebfaaGreatDoor
open Go.RowKit
theorem rb16t {w : World} {r g o n c t tl : Nat} {l : List UInt8} (hr : Blk w r t #[.slice (some ⟨g, o, none⟩) n c]) (hl : Blk w g tl (l.map byteV).toArray) (hn : 2 ≤ n) (hc : n ≤ c) (ho : o + 2 ≤ l.length) (v : Nat) (hv : numL (sub l o 2) = v) :
    Calls Tryz.prog 47 #[.pointer (some ⟨r, 0, none⟩)] w fun e w' => e = .returned (.int .u16 v) ∧ (∃ o', Hid (2 < c → o' = o + 2) ∧ Blk w' r t #[.slice (some ⟨g, o', none⟩) (n - 2) (c - 2)]) ∧ Kept [r] w w' := by
  rw [num2 ho] at hv
  refine (rb16_v r g o n c _ _ v hv.symm hn hc (l[o]'(by omega)).toNat_lt (l[o + 1]'(by omega)).toNat_lt w (hr.cell 0) (hr.frozen 0) (hl.byte o (by omega)) (hl.byte (o + 1) (by omega))).mono ?_
  rintro e w' ⟨rfl, k, o', rfl, ho'⟩
  exact ⟨rfl, ⟨o', ho', Blk.cast ((hr.drewN k).set_ 0 _) (by simp)⟩, ((Kept.refl _ _).drewN k).setCell (by simp) _⟩
theorem rb32t {w : World} {r g o n c t tl : Nat} {l : List UInt8} (hr : Blk w r t #[.slice (some ⟨g, o, none⟩) n c]) (hl : Blk w g tl (l.map byteV).toArray) (hn : 4 ≤ n) (hc : n ≤ c) (ho : o + 4 ≤ l.length) (v : Nat) (hv : numL (sub l o 4) = v) :
    Calls Tryz.prog 46 #[.pointer (some ⟨r, 0, none⟩)] w fun e w' => e = .returned (.int .u32 v) ∧ (∃ o', Hid (4 < c → o' = o + 4) ∧ Blk w' r t #[.slice (some ⟨g, o', none⟩) (n - 4) (c - 4)]) ∧ Kept [r] w w' := by
  rw [num4 ho] at hv
  refine (rb32_v r g o n c _ _ _ _ v hv.symm hn hc (l[o]'(by omega)).toNat_lt (l[o + 1]'(by omega)).toNat_lt (l[o + 2]'(by omega)).toNat_lt (l[o + 3]'(by omega)).toNat_lt w (hr.cell 0) (hr.frozen 0) (hl.byte o (by omega)) (hl.byte (o + 1) (by omega)) (hl.byte (o + 2) (by omega)) (hl.byte (o + 3) (by omega))).mono ?_
  rintro e w' ⟨rfl, k, o', rfl, ho'⟩
  exact ⟨rfl, ⟨o', ho', Blk.cast ((hr.drewN k).set_ 0 _) (by simp)⟩, ((Kept.refl _ _).drewN k).setCell (by simp) _⟩
theorem sub_take {s : List UInt8} {q N a n : Nat} (h : a + n ≤ N) : sub ((s.drop q).take N) a n = sub s (q + a) n := by
  unfold sub
  rw [List.drop_take, List.drop_drop, List.take_take, Nat.min_eq_left (by omega)]
set_option maxRecDepth 100000 in
set_option maxHeartbeats 2000000 in
theorem Fbo_any {w : World} {fb rb off nm xn : Nat} {s : List UInt8} {cs : Array Value} {i0 p0 : Value} (hf : Blk w fb 74 cs) (h20 : cs[20]? = some (.iface 54 (.pointer (some ⟨rb, 0, none⟩)))) (h21 : cs[21]? = some (.int .i64 off)) (hr : Blk w rb 89 #[.string ⟨s.toArray⟩, i0, p0]) (hs : s.length ≤ 4294967294) (ho : off + 30 ≤ s.length)
    (v : Nat) (h1 : numL (sub s off 4) = v) (h2 : numL (sub s (off + 26) 2) = nm) (h3 : numL (sub s (off + 28) 2) = xn) (b : Bool) (hb : (v != 67324752) = b) (ef : Addr) (hE : ErrAt w 1 ef) :
    Calls Tryz.prog 39 #[.pointer (some ⟨fb, 0, none⟩)] w fun e w' => e = (if b then .returned (.tuple #[.int .i64 0, .iface 99 (.pointer (some ef))]) else .returned (.tuple #[.int .i64 (30 + nm + xn : Nat), .nilIface])) ∧ Kept [] w w' := by
  have hm := method_ReadAt
  have HF := Lib.hid (And.intro hf (And.intro h20 (And.intro h21 (And.intro hr hE))))
  obtain ⟨l, hl⟩ : ∃ l, l = (s.drop off).take 30 := ⟨_, rfl⟩
  have hll : l.length = 30 := by rw [hl, List.length_take, List.length_drop]; omega
  have n1 : numL (sub l 0 4) = v := by rw [hl, sub_take (by decide), Nat.add_zero]; exact h1
  have n2 : numL (sub l 26 2) = nm := by rw [hl, sub_take (by decide)]; exact h2
  have n3 : numL (sub l 28 2) = xn := by rw [hl, sub_take (by decide)]; exact h3
  have hv : v < 4294967296 := by
    have := numL_lt (sub l 0 4)
    rw [n1, show (sub l 0 4).length = 4 by unfold sub; rw [List.length_take, List.length_drop]; omega] at this
    exact this
  have hnm : nm < 65536 := by
    have := numL_lt (sub l 26 2)
    rw [n2, show (sub l 26 2).length = 2 by unfold sub; rw [List.length_take, List.length_drop]; omega] at this
    exact this
  have hxn : xn < 65536 := by
    have := numL_lt (sub l 28 2)
    rw [n3, show (sub l 28 2).length = 2 by unfold sub; rw [List.length_take, List.length_drop]; omega] at this
    exact this
  have HL := Lib.hid (And.intro hl (And.intro hll (And.intro n1 (And.intro n2 n3))))
  clear hf h20 h21 hr hE h1 h2 h3 hl hll n1 n2 n3
  go_enter Tryz.func39, Tryz.ntmps39
  go_upto_region 2 with (fail)
  refine at_world (fun W => (∃ tl cs0, Blk W w.heap.size tl cs0 ∧ cs0.size = 30 ∧ tl ≠ 113) ∧ Kept [] w W) ⟨⟨_, _, Blk.new _ _ _, rfl, by decide⟩, (Kept.refl _ _).alloc _⟩ ?_
  rintro W ⟨⟨tl, cs0, hB, hc0, htl⟩, hK⟩
  obtain ⟨g, hg⟩ : ∃ g, g = w.heap.size := ⟨_, rfl⟩
  rw [← hg] at hB ⊢
  have k20 : W.cell? ⟨fb, 20, none⟩ = some (.iface 54 (.pointer (some ⟨rb, 0, none⟩))) := ((hK.blk HF.out.1 (by simp)).cell 20).trans HF.out.2.1
  have k21 : W.cell? ⟨fb, 21, none⟩ = some (.int .i64 off) := ((hK.blk HF.out.1 (by simp)).cell 21).trans HF.out.2.2.1
  have hR := ReadAt_str rb s g 0 30 30 off W.drew (by omega) (by have := (hK.blk HF.out.2.2.2.1 (by simp)).cell 0; simpa using this) (by omega) (by omega) (fun j hj => by rw [World.cell?_drew, hB.cell]; simp; omega) (fun j hj => by have := hB.frozen (0 + j); simpa using this)
  have HR := Lib.hid hR
  have HP := Lib.hid (show Blk (W.drew.setCells g 0 (((s.drop off).take 30).map byteV)) g tl (l.map byteV).toArray ∧ Kept [] w (W.drew.setCells g 0 (((s.drop off).take 30).map byteV)) from ⟨Blk.cast (hB.drew.setCells 0 _) (by rw [← HL.out.1]; exact putAll_whole _ _ (by rw [List.length_map, HL.out.2.1, hc0])), Kept.setCells (.inr (by omega)) _ _ _ hK.drew⟩)
  have HG := Lib.hid hg
  clear hR hB hK hc0 hg
  apply pass_world (fun W => Blk W g tl (l.map byteV).toArray ∧ Kept [] w W)
  case k =>
    intro key
    have KEY := Lib.hid key
    clear key
    go_region_with (go_at_call 114; refine HR.out.mono ?_; rintro e w1 ⟨rfl, hw1⟩; have F := Lib.hid (show Blk w1 g tl (l.map byteV).toArray ∧ Kept [] w w1 by rw [hw1]; exact HP.out); clear hw1)
    all_goals exact KEY.out _ F.out
  clear HR HP k20 k21
  rintro W2 ⟨hB2, hK2⟩
  have HB := Lib.hid (And.intro hB2 hK2)
  clear hB2 hK2
  go_upto_region 6 with (fail)
  have hrw : w.heap.size ≤ W2.heap.size := HB.out.2.size
  have HR0 := Lib.hid (Blk.new W2 113 #[.slice (some ⟨g, 0, none⟩) 30 30])
  have HB2 := Lib.hid (And.intro (HB.out.1.alloc (.cells #[.slice (some ⟨g, 0, none⟩) 30 30] 113)) (HB.out.2.alloc (.cells #[.slice (some ⟨g, 0, none⟩) 30 30] 113)))
  obtain ⟨r, hr⟩ : ∃ r, r = W2.heap.size := ⟨_, rfl⟩
  rw [← hr] at HR0 hrw ⊢
  have hgr : g ≠ r := by rw [hr]; exact Nat.ne_of_lt HB.out.1.lt
  clear hr HB
  obtain ⟨W3, hW3⟩ : ∃ W3, W3 = W2.alloc (.cells #[.slice (some ⟨g, 0, none⟩) 30 30] 113) := ⟨_, rfl⟩
  rw [← hW3] at HR0 HB2 ⊢
  clear hW3
  have hvb : ((v : Int) != 67324752) = b := by rw [← hb, Bool.eq_iff_iff]; simp; omega
  go_wp2_with fail
  refine (rb32t HR0.out HB2.out.1 (by decide) (by decide) (by have := HL.out.2.1; omega) v HL.out.2.2.1).mono ?_
  rintro e w4 ⟨rfl, ⟨o4, ho4, hr4⟩, hk4⟩
  obtain rfl : o4 = 4 := ho4.out (by decide)
  have hB4 := hk4.blk HB2.out.1 (by simpa using hgr)
  have hK4 := HB2.out.2.trans' hk4 (by simpa using hrw)
  have hE4 := HF.out.2.2.2.2.kept hK4 (by simp) (by simp)
  have e4 : w4.cell? ⟨1, 0, none⟩ = some (.iface 99 (.pointer (some ef))) := hE4.1
  have r4 : w4.cell? ⟨r, 0, none⟩ = some (.slice (some ⟨g, 4, none⟩) 26 26) := hr4.cell 0
  have f4 : w4.frozen? ⟨r, 0, none⟩ = false := hr4.frozen 0
  have HX := Lib.hid (And.intro hr4 (And.intro hB4 hK4))
  clear hr4 hB4 hK4 hk4 hE4 HR0 HB2 ho4 hb
  cases b
  · go_upto_region 10 with (fail)
    refine at_world (fun W5 => Blk W5 r 113 #[.slice (some ⟨g, 26, none⟩) 4 4] ∧ (∃ tl, Blk W5 g tl (l.map byteV).toArray) ∧ Kept [] w W5) ⟨Blk.cast (HX.out.1.set_ 0 _) (by simp), ⟨_, HX.out.2.1.far hgr _⟩, HX.out.2.2.setCell (.inr hrw) _⟩ ?_
    rintro W5 ⟨h5, ⟨tl5, hB5⟩, hK5⟩
    have HX5 := Lib.hid (And.intro h5 (And.intro hB5 hK5))
    clear h5 hB5 hK5 HX r4 f4 e4
    go_wp2_with fail
    refine (rb16t HX5.out.1 HX5.out.2.1 (by decide) (by decide) (by have := HL.out.2.1; omega) nm HL.out.2.2.2.1).mono ?_
    rintro e w6 ⟨rfl, ⟨o6, ho6, hr6⟩, hk6⟩
    obtain rfl : o6 = 28 := ho6.out (by decide)
    have HX6 := Lib.hid (And.intro hr6 (And.intro (hk6.blk HX5.out.2.1 (by simpa using hgr)) (HX5.out.2.2.trans' hk6 (by simpa using hrw))))
    clear hr6 hk6 ho6 HX5
    go_wp2_with fail
    refine (rb16t HX6.out.1 HX6.out.2.1 (by decide) (by decide) (by have := HL.out.2.1; omega) xn HL.out.2.2.2.2).mono ?_
    rintro e w7 ⟨rfl, ⟨o7, ho7, hr7⟩, hk7⟩
    have HX7 := Lib.hid (HX6.out.2.2.trans' hk7 (by simpa using hrw))
    clear hr7 hk7 ho7 HX6
    go_wp2
    go_ret2
    exact ⟨by first | rfl | (congr 3; omega), HX7.out⟩
  · go_wp2
    go_quiet (fail)
    go_wp2
    go_ret2
    exact ⟨by rfl, HX.out.2.2.drewN _⟩
end Go.Proofs.YtfagjhgmmaebfaaGreatDoor
