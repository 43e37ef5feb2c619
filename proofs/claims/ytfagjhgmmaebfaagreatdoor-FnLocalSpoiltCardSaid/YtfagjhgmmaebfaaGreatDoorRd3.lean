/- Contract: bufio.Reader.Read where the buffer is filled first. -/
import Derived.Test.YtfagjhgmmaebfaaGreatDoorRd2
import Derived.Test.YtfagjhgmmaebfaaGreatDoorRead
namespace Go.Proofs.YtfagjhgmmaebfaaGreatDoor
open Go.RowKit
theorem pass_world {T : World → Prop} {G : Prop} (S : World → Prop) (p : ∀ W, S W → T W) (k : (∀ W, S W → T W) → G) : G := k p
set_option maxRecDepth 100000 in
set_option maxHeartbeats 2000000 in
theorem Buf_fill (bb gb sb rb : Nat) (s : List UInt8) (L q r : Nat) (l : List UInt8) (v5 v6 b0 n0 i0 p0 : Value) (w : World) (h : BufR w bb gb sb rb s L q r r l v5 v6 b0 n0 i0 p0) (hq : q < L)
    (g o n c tg : Nat) (cs : Array Value) (hn : 0 < n) (hn2 : n < 4096) (hd : Blk w g tg cs) (ho : o + n ≤ cs.size) (hg1 : g ≠ bb) (hg2 : g ≠ gb) (hg3 : g ≠ sb) (hg4 : g ≠ rb) :
    Calls Tryz.prog 123 #[.pointer (some ⟨bb, 0, none⟩), .slice (some ⟨g, o, none⟩) n c] w fun e w' => e = .returned (.tuple #[.int .i64 (min n (min 4096 (L - q)) : Nat), .nilIface]) ∧
      (∃ l' v, BufR w' bb gb sb rb s L (q + min n (min 4096 (L - q))) (min n (min 4096 (L - q))) (min 4096 (L - q)) l' v (.int .i64 (-1)) b0 n0 i0 p0) ∧ Blk w' g tg (putAll cs o (((s.drop q).take (min n (min 4096 (L - q)))).map byteV)) ∧ Kept [bb, gb, sb, g] w w' := by
  obtain ⟨m, hmm⟩ : ∃ m, m = min 4096 (L - q) := ⟨_, rfl⟩
  have hm0 : 0 < m := by omega
  have hm1 : m ≤ 4096 := by omega
  have hmL : q + m ≤ L := by omega
  rw [← hmm]
  have HM := Lib.hid hmm
  clear hmm
  obtain ⟨k, hk⟩ : ∃ k, min n m = k + 1 := ⟨min n m - 1, by omega⟩
  rw [hk]
  have HK := Lib.hid hk
  have hkm : k + 1 ≤ m := by omega
  clear hk
  have hm := method_ReadS
  have b0' : w.cell? ⟨bb, 0, none⟩ = some (.slice (some ⟨gb, 0, none⟩) 4096 4096) := h.buf.cell 0
  have b1 : w.cell? ⟨bb, 1, none⟩ = some (.iface 94 (.pointer (some ⟨sb, 0, none⟩))) := h.buf.cell 1
  have b2 : w.cell? ⟨bb, 2, none⟩ = some (.int .i64 r) := h.buf.cell 2
  have b3 : w.cell? ⟨bb, 3, none⟩ = some (.int .i64 r) := h.buf.cell 3
  have b4 : w.cell? ⟨bb, 4, none⟩ = some .nilIface := h.buf.cell 4
  have hfb : ∀ i, w.frozen? ⟨bb, i, none⟩ = false := h.buf.frozen
  have H := Lib.hid h
  have HD := Lib.hid hd
  clear h hd
  go_enter Tryz.func123, Tryz.ntmps123
  go_wp2
  go_quiet (fail)
  go_wp2
  have hgb : gb ≠ bb := H.out.row.ne_ H.out.buf (by decide)
  have hsb : sb ≠ bb := H.out.sec.ne_ H.out.buf (by decide)
  have hrb : rb ≠ bb := H.out.str.ne_ H.out.buf (by decide)
  have hsg : sb ≠ gb := H.out.sec.ne_ H.out.row (by decide)
  have hrg : rb ≠ gb := H.out.str.ne_ H.out.row (by decide)
  have hrs : rb ≠ sb := H.out.str.ne_ H.out.sec (by decide)
  refine at_world (fun W => BufR W bb gb sb rb s L q 0 0 l v5 v6 b0 n0 i0 p0 ∧ Kept [bb] w W) ⟨⟨?_, ?_, H.out.len, Nat.le_refl _, Nat.zero_le _, rfl, Nat.le_of_lt hq, H.out.hL, H.out.hs, ?_, ?_⟩, ?_⟩ ?_
  · exact Blk.cast (((H.out.buf.drewN _).set_ 2 _).set_ 3 _) (by simp)
  · exact ((H.out.row.drewN _).far hgb _).far hgb _
  · exact Blk.cast (((H.out.sec.drewN _).far hsb _).far hsb _) (by simp)
  · exact ((H.out.str.drewN _).far hrb _).far hrb _
  · exact ((((Kept.refl _ _).drewN _).setCell (by simp) _).setCell (by simp) _)
  rintro W1 ⟨B1, K1⟩
  clear b0' b1 b2 b3 b4 hfb
  have c0 : W1.cell? ⟨bb, 0, none⟩ = some (.slice (some ⟨gb, 0, none⟩) 4096 4096) := B1.buf.cell 0
  have c1 : W1.cell? ⟨bb, 1, none⟩ = some (.iface 94 (.pointer (some ⟨sb, 0, none⟩))) := B1.buf.cell 1
  have c4 : W1.cell? ⟨bb, 4, none⟩ = some .nilIface := B1.buf.cell 4
  have hfb : ∀ i, W1.frozen? ⟨bb, i, none⟩ = false := B1.buf.frozen
  have HB1 := Lib.hid B1
  have HK1 := Lib.hid K1
  clear B1 K1
  have hS := fun W => Sect_read_some sb rb s L q gb 0 4096 4096 HB1.out.hs HB1.out.hL hq (Nat.le_refl _) (by decide) W
  rw [← HM.out] at hS
  have HS := Lib.hid hS
  clear hS
  have hF : ∀ k1 w1, w1 = ((W1.drew.drewN k1).setCells gb 0 (((s.drop q).take m).map byteV)).setCell ⟨sb, 2, none⟩ (.int .i64 ((q + m : Nat) : Int)) →
      BufR w1 bb gb sb rb s L (q + m) 0 0 (putB l 0 ((s.drop q).take m)) v5 v6 b0 n0 i0 p0 ∧ Kept [bb, gb, sb] w w1 := by
    intro k1 w1 e
    subst e
    have hlen : ((s.drop q).take m).length = m := by rw [List.length_take, List.length_drop]; have := HB1.out.hL; omega
    refine ⟨⟨?_, ?_, ?_, Nat.le_refl _, Nat.zero_le _, rfl, hmL, HB1.out.hL, HB1.out.hs, ?_, ?_⟩, ?_⟩
    · exact (((HB1.out.buf.drew.drewN _).fars hgb.symm _ _).far hsb.symm _)
    · exact Blk.cast ((((HB1.out.row.drew.drewN _).setCells _ _).far hsg.symm _)) (putAll_bytes _ _ _ (by rw [hlen, HB1.out.len]; omega))
    · rw [putB_length _ _ _ (by rw [hlen, HB1.out.len]; omega)]; exact HB1.out.len
    · exact Blk.cast (((HB1.out.sec.drew.drewN _).fars hsg _ _).set_ 2 _) (by simp)
    · exact (((HB1.out.str.drew.drewN _).fars hrg _ _).far hrs _)
    · exact (Kept.setCells (by simp) _ _ _ ((HK1.out.mono (by simp)).drew.drewN _)).setCell (by simp) _
  have HF := Lib.hid hF
  clear hF
  apply pass_world (fun W => BufR W bb gb sb rb s L (q + m) 0 0 (putB l 0 ((s.drop q).take m)) v5 v6 b0 n0 i0 p0 ∧ Kept [bb, gb, sb] w W)
  case k =>
    intro key
    have KEY := Lib.hid key
    clear key
    go_region_with (
      go_at_call 119
      refine (HS.out _ (by simpa using HB1.out.sec.cell 0) (by simpa using HB1.out.sec.cell 2) (by simpa using HB1.out.sec.cell 3) (by simpa using HB1.out.sec.frozen 2) (by simpa using HB1.out.str.cell 0) hsg (by intro j hj; rw [World.cell?_drew, HB1.out.row.cell]; simp [HB1.out.len, hj]) (by intro j hj; simpa using HB1.out.row.frozen _)).mono ?_
      rintro e w1 ⟨rfl, k1, hw1⟩
      have F := Lib.hid (HF.out k1 w1 hw1)
      have d4 : w1.cell? ⟨bb, 4, none⟩ = some .nilIface := F.out.1.buf.cell 4
      have hf4 : w1.frozen? ⟨bb, 4, none⟩ = false := F.out.1.buf.frozen 4
      clear hw1)
    all_goals exact KEY.out _ ⟨F.out.1.err4, F.out.2.setCell (by simp) _⟩
  clear HS HF HB1 HK1 c0 c1 c4 hfb
  rintro W2 ⟨B2, K2⟩
  have d3 : W2.cell? ⟨bb, 3, none⟩ = some (.int .i64 0) := B2.buf.cell 3
  have hfb : ∀ i, W2.frozen? ⟨bb, i, none⟩ = false := B2.buf.frozen
  have hz : ((m : Int) == 0) = false := by simp; omega
  have hlt : ¬ ((m : Int) < 0) := by omega
  have HB2 := Lib.hid B2
  have HK2 := Lib.hid K2
  clear B2 K2
  go_wp2
  refine at_world (fun W => ∃ r l', r = 0 ∧ BufR W bb gb sb rb s L q r m l' v5 v6 b0 n0 i0 p0 ∧ Kept [bb, gb, sb] w W) ⟨0, putB l 0 ((s.drop q).take m), rfl, ⟨?_, ?_, HB2.out.len, Nat.zero_le _, hm1, ?_, ?_, HB2.out.hL, HB2.out.hs, ?_, ?_⟩, ?_⟩ ?_
  · exact Blk.cast (HB2.out.buf.set_ 3 _) (by simp)
  · exact HB2.out.row.far hgb _
  · have hlen : ((s.drop q).take m).length = m := by rw [List.length_take, List.length_drop]; have := HB2.out.hL; omega
    simp [putB, hlen]
  · omega
  · exact Blk.cast (HB2.out.sec.far hsb _) (by simp)
  · exact HB2.out.str.far hrb _
  · exact HK2.out.setCell (by simp) _
  rintro wo ⟨r0, l0, hr00, h, hKo⟩
  have HR0 := Lib.hid hr00
  have HKO := Lib.hid hKo
  have b0' : wo.cell? ⟨bb, 0, none⟩ = some (.slice (some ⟨gb, 0, none⟩) 4096 4096) := h.buf.cell 0
  have b2 : wo.cell? ⟨bb, 2, none⟩ = some (.int .i64 r0) := h.buf.cell 2
  have b3 : wo.cell? ⟨bb, 3, none⟩ = some (.int .i64 m) := h.buf.cell 3
  have b5 : wo.cell? ⟨bb, 5, none⟩ = some v5 := h.buf.cell 5
  have b6 : wo.cell? ⟨bb, 6, none⟩ = some v6 := h.buf.cell 6
  have hfb : ∀ i, wo.frozen? ⟨bb, i, none⟩ = false := h.buf.frozen
  have hd : Blk wo g tg cs := hKo.blk HD.out (by simp [hg1, hg2, hg3])
  have hw := hm1
  have hr : r0 < m := by omega
  have hr4 : r0 < 4096 := by omega
  have hcp : ∀ (ty : TypeId) (a : Nat), (Builtin.copy_ #[46, 46] ty #[.slice (some ⟨g, o, none⟩) n c, .slice (some ⟨gb, r0, none⟩) (m - r0) (4096 - r0)]).run Tryz.prog (wo.drewN a) = .ok (goInt (k + 1 : Nat)) ((wo.drewN a).setCells g o (((s.drop q).take (k + 1)).map byteV)) := fun ty a => by
    have e1 : (((l0.drop r0).take (min n (m - r0))).map byteV) = (((s.drop q).take (k + 1)).map byteV) := by
      have hk2 : min n (m - r0) = k + 1 := by have := HK.out; omega
      have := congrArg (List.take (k + 1)) h.eq
      rw [List.take_take, List.take_take, Nat.min_eq_left (by omega)] at this
      rw [hk2, this]
    have := copy_row (W := wo.drewN a) (hd.drewN a) (h.row.drewN a) o n c r0 (m - r0) (4096 - r0) ho (by rw [h.len]; omega) ty
    rw [e1, show min n (m - r0) = k + 1 by have := HK.out; omega] at this
    exact this
  have HT := Lib.hid h
  have HD := Lib.hid hd
  clear h hd hr00 hKo HB2 HK2 d3 hz hlt
  refine at_world (fun W => ∃ a, W = wo.drewN a) ⟨0, rfl⟩ ?_
  rintro W ⟨a, hW⟩
  have c0 : W.cell? ⟨bb, 0, none⟩ = some (.slice (some ⟨gb, 0, none⟩) 4096 4096) := by rw [hW]; exact b0'
  have c2 : W.cell? ⟨bb, 2, none⟩ = some (.int .i64 r0) := by rw [hW]; exact b2
  have c3 : W.cell? ⟨bb, 3, none⟩ = some (.int .i64 m) := by rw [hW]; exact b3
  have HW := Lib.hid hW
  clear hW b0' b2 b3
  have hsl := slice_lh gb 0 r0 m 4096 4096 (by omega) (by omega) (by omega)
  rw [Nat.zero_add] at hsl
  go_still_tail 14, (by kernel_rfl)
  change wpList _ _ _ _ _ W.drew
  clear hsl
  refine at_list (fun W => ∃ a, W = wo.drewN a) ⟨a + 1, by rw [HW.out]; rfl⟩ ?_
  clear c0 c2 c3 HW
  rintro W ⟨a, rfl⟩
  obtain ⟨W2, hW2⟩ : ∃ W2, W2 = (wo.drewN a).setCells g o (((s.drop q).take (k + 1)).map byteV) := ⟨_, rfl⟩
  have hcp1 := fun ty => hcp ty a
  rw [← hW2] at hcp1
  have K2 : Kept [g] wo W2 := by rw [hW2]; exact Kept.setCells (by simp) _ _ _ ((Kept.refl _ _).drewN a)
  have D2 : Blk W2 g tg (putAll cs o (((s.drop q).take (k + 1)).map byteV)) := by rw [hW2]; exact (HD.out.drewN a).setCells _ _
  have B2 : BufR W2 bb gb sb rb s L q r0 m l0 v5 v6 b0 n0 i0 p0 := HT.out.kept K2 (by simpa using hg1.symm) (by simpa using hg2.symm) (by simpa using hg3.symm) (by simpa using hg4.symm)
  clear hcp hW2
  have d0 : W2.cell? ⟨bb, 0, none⟩ = some (.slice (some ⟨gb, 0, none⟩) 4096 4096) := B2.buf.cell 0
  have d2 : W2.cell? ⟨bb, 2, none⟩ = some (.int .i64 r0) := B2.buf.cell 2
  have d5 : W2.cell? ⟨bb, 5, none⟩ = some v5 := B2.buf.cell 5
  have d6 : W2.cell? ⟨bb, 6, none⟩ = some v6 := B2.buf.cell 6
  have hfb2 : ∀ i, W2.frozen? ⟨bb, i, none⟩ = false := B2.buf.frozen
  have HB2 := Lib.hid B2
  have HD2 := Lib.hid D2
  have HK2 := Lib.hid K2
  have hkw : r0 + (k + 1) ≤ m := by have := HR0.out; omega
  clear B2 D2 K2 b5 b6 hfb
  go_wp2
  refine at_world (fun W => W = W2.setCell ⟨bb, 2, none⟩ (.int .i64 (r0 + (k + 1)))) rfl ?_
  intro W3 hW3
  have f0 : W3.cell? ⟨bb, 0, none⟩ = some (.slice (some ⟨gb, 0, none⟩) 4096 4096) := by rw [hW3]; simpa [go_sem] using d0
  have f2 : W3.cell? ⟨bb, 2, none⟩ = some (.int .i64 (r0 + (k + 1))) := by rw [hW3]; simp [go_sem, d2]
  have f5 : W3.cell? ⟨bb, 5, none⟩ = some v5 := by rw [hW3]; simpa [go_sem] using d5
  have f6 : W3.cell? ⟨bb, 6, none⟩ = some v6 := by rw [hW3]; simpa [go_sem] using d6
  have hfb3 : ∀ i, W3.frozen? ⟨bb, i, none⟩ = false := fun i => by rw [hW3, World.frozen?_setCell]; exact hfb2 i
  have fg : W3.cell? ⟨gb, r0 + k, none⟩ = some (.int .u8 (l0[r0 + k]'(by rw [HB2.out.len]; omega)).toNat) := by
    rw [hW3, World.cell?_setCell_other _ _ _ _ (by intro e; injection e with e; exact hgb e.symm)]
    exact HB2.out.row.byte _ _
  obtain ⟨x, hx⟩ : ∃ x : Int, W3.cell? ⟨gb, r0 + k, none⟩ = some (.int .u8 x) := ⟨_, fg⟩
  have HW3 := Lib.hid hW3
  clear fg hW3 d0 d2 d5 d6 hfb2 hcp1
  obtain ⟨j, hj⟩ : ∃ j, j = r0 + k := ⟨_, rfl⟩
  rw [← hj] at hx
  have hwr : IntKind.i64.wrap ((r0 : Int) + ((k : Int) + 1) - 1) = (j : Int) := by rw [IntWalk.i64_in _ (by omega)]; omega
  have hq1 : j < 4096 := by omega
  have hq2 : (j : Int) < 4096 := by omega
  have hq0 : 0 ≤ (j : Int) := by omega
  clear hj
  go_still_tail 15, (by kernel_rfl)
  change wpList _ _ _ _ _ W3.drew
  clear hwr hq1 hq2 hq0 hx
  go_wp2
  go_ret2
  have er := HR0.out
  refine ⟨rfl, ⟨l0, .int .i64 (wrap64 x), ⟨?_, ?_, HB2.out.len, by omega, HB2.out.hw, ?_, ?_, HB2.out.hL, HB2.out.hs, ?_, ?_⟩⟩, ?_, ?_⟩
  · rw [HW3.out]
    exact Blk.cast (((HB2.out.buf.set_ 2 _).set_ 5 _).set_ 6 _).drew (by simp [er])
  · rw [HW3.out]
    exact (((HB2.out.row.far hgb _).far hgb _).far hgb _).drew
  · have e := congrArg (List.drop (k + 1)) HB2.out.eq
    rw [List.drop_take, List.drop_take, List.drop_drop, List.drop_drop, Nat.sub_sub, er, Nat.zero_add] at e
    exact e
  · have := HB2.out.fit
    omega
  · rw [HW3.out]
    exact Blk.cast (((HB2.out.sec.far hsb _).far hsb _).far hsb _).drew (by rw [show q + (k + 1) + (m - (k + 1)) = q + (m - r0) by omega])
  · rw [HW3.out]
    exact (((HB2.out.str.far hrb _).far hrb _).far hrb _).drew
  · rw [HW3.out]
    exact (((HD2.out.far hg1 _).far hg1 _).far hg1 _).drew
  · rw [HW3.out]
    exact (((((HKO.out.mono (T := [bb, gb, sb, g]) (fun x hx => .inl (by simp at hx ⊢; omega))).trans (HK2.out.mono (fun x hx => .inl (by simp at hx ⊢; omega)))).setCell (by simp) _).setCell (by simp) _).setCell (by simp) _).drew
end Go.Proofs.YtfagjhgmmaebfaaGreatDoor
