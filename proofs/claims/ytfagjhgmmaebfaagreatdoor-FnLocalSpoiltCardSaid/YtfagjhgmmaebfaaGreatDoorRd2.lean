/- Contract: bufio.Reader.Read where bytes lie in the buffer. -/
import Derived.Test.YtfagjhgmmaebfaaGreatDoorRd
import Derived.StillTailTactics
namespace Go.Proofs.YtfagjhgmmaebfaaGreatDoor
open Go.RowKit
theorem at_world {P : Program} {c : Code} {Q : Exit → Act → World → Prop} {a : Act} {W : World} (S : World → Prop) (hS : S W) (key : ∀ W1, S W1 → Code.wp P c Q a W1) : Code.wp P c Q a W := key _ hS
theorem at_list {P : Program} {ops : Array Oper} {c : List Oper} {Q : Exit → Act → World → Prop} {a : Act} {W : World} (S : World → Prop) (hS : S W) (key : ∀ W1, S W1 → wpList P ops Q c a W1) : wpList P ops Q c a W := key _ hS
set_option maxRecDepth 100000 in
set_option maxHeartbeats 2000000 in
theorem Buf_copy (bb gb sb rb : Nat) (s : List UInt8) (L q r wr : Nat) (l : List UInt8) (v5 v6 b0 n0 i0 p0 : Value) (w : World) (h : BufR w bb gb sb rb s L q r wr l v5 v6 b0 n0 i0 p0) (hr : r < wr)
    (g o n c tg : Nat) (cs : Array Value) (hn : 0 < n) (hnc : n ≤ 4294967295) (hd : Blk w g tg cs) (ho : o + n ≤ cs.size) (hg1 : g ≠ bb) (hg2 : g ≠ gb) (hg3 : g ≠ sb) (hg4 : g ≠ rb) :
    Calls Tryz.prog 123 #[.pointer (some ⟨bb, 0, none⟩), .slice (some ⟨g, o, none⟩) n c] w fun e w' => e = .returned (.tuple #[.int .i64 (min n (wr - r) : Nat), .nilIface]) ∧
      (∃ v, BufR w' bb gb sb rb s L (q + min n (wr - r)) (r + min n (wr - r)) wr l v (.int .i64 (-1)) b0 n0 i0 p0) ∧ Blk w' g tg (putAll cs o (((s.drop q).take (min n (wr - r))).map byteV)) ∧ Kept [bb, g] w w' := by
  have b0' : w.cell? ⟨bb, 0, none⟩ = some (.slice (some ⟨gb, 0, none⟩) 4096 4096) := h.buf.cell 0
  have b2 : w.cell? ⟨bb, 2, none⟩ = some (.int .i64 r) := h.buf.cell 2
  have b3 : w.cell? ⟨bb, 3, none⟩ = some (.int .i64 wr) := h.buf.cell 3
  have b5 : w.cell? ⟨bb, 5, none⟩ = some v5 := h.buf.cell 5
  have b6 : w.cell? ⟨bb, 6, none⟩ = some v6 := h.buf.cell 6
  have hfb : ∀ i, w.frozen? ⟨bb, i, none⟩ = false := h.buf.frozen
  have hw := h.hw
  have hrw : ((r : Int) == wr) = false := by simp; omega
  have hr4 : r < 4096 := by omega
  obtain ⟨k, hk⟩ : ∃ k, min n (wr - r) = k + 1 := ⟨min n (wr - r) - 1, by omega⟩
  have e1 : (((l.drop r).take (min n (wr - r))).map byteV) = (((s.drop q).take (k + 1)).map byteV) := by
    have := congrArg (List.take (k + 1)) h.eq
    rw [List.take_take, List.take_take, Nat.min_eq_left (by omega)] at this
    rw [hk, this]
  have hcp : ∀ (ty : TypeId) (a : Nat), (Builtin.copy_ #[46, 46] ty #[.slice (some ⟨g, o, none⟩) n c, .slice (some ⟨gb, r, none⟩) (wr - r) (4096 - r)]).run Tryz.prog (w.drewN a) = .ok (goInt (k + 1 : Nat)) ((w.drewN a).setCells g o (((s.drop q).take (k + 1)).map byteV)) := fun ty a => by
    have := copy_row (W := w.drewN a) (hd.drewN a) (h.row.drewN a) o n c r (wr - r) (4096 - r) ho (by rw [h.len]; omega) ty
    rw [e1, hk] at this
    exact this
  clear e1
  have H := Lib.hid h
  have HD := Lib.hid hd
  have HK := Lib.hid hk
  clear h hd
  rw [hk]
  clear hk
  go_enter Tryz.func123, Tryz.ntmps123
  go_wp2
  go_quiet (fail)
  go_wp2
  refine at_world (fun W => ∃ a, W = w.drewN a) ⟨_, rfl⟩ ?_
  rintro W ⟨a, hW⟩
  have c0 : W.cell? ⟨bb, 0, none⟩ = some (.slice (some ⟨gb, 0, none⟩) 4096 4096) := by rw [hW]; exact b0'
  have c2 : W.cell? ⟨bb, 2, none⟩ = some (.int .i64 r) := by rw [hW]; exact b2
  have c3 : W.cell? ⟨bb, 3, none⟩ = some (.int .i64 wr) := by rw [hW]; exact b3
  have HW := Lib.hid hW
  clear hW b0' b2 b3
  have hsl := slice_lh gb 0 r wr 4096 4096 (by omega) (by omega) (by omega)
  rw [Nat.zero_add] at hsl
  go_still_tail 14, (by kernel_rfl)
  change wpList _ _ _ _ _ W.drew
  clear hsl
  refine at_list (fun W => ∃ a, W = w.drewN a) ⟨a + 1, by rw [HW.out]; rfl⟩ ?_
  clear c0 c2 c3 HW
  rintro W ⟨a, rfl⟩
  obtain ⟨W2, hW2⟩ : ∃ W2, W2 = (w.drewN a).setCells g o (((s.drop q).take (k + 1)).map byteV) := ⟨_, rfl⟩
  have hcp1 := fun ty => hcp ty a
  rw [← hW2] at hcp1
  have K2 : Kept [g] w W2 := by rw [hW2]; exact Kept.setCells (by simp) _ _ _ ((Kept.refl _ _).drewN a)
  have D2 : Blk W2 g tg (putAll cs o (((s.drop q).take (k + 1)).map byteV)) := by rw [hW2]; exact (HD.out.drewN a).setCells _ _
  have B2 : BufR W2 bb gb sb rb s L q r wr l v5 v6 b0 n0 i0 p0 := H.out.kept K2 (by simpa using hg1.symm) (by simpa using hg2.symm) (by simpa using hg3.symm) (by simpa using hg4.symm)
  clear hcp hW2
  have d0 : W2.cell? ⟨bb, 0, none⟩ = some (.slice (some ⟨gb, 0, none⟩) 4096 4096) := B2.buf.cell 0
  have d2 : W2.cell? ⟨bb, 2, none⟩ = some (.int .i64 r) := B2.buf.cell 2
  have d5 : W2.cell? ⟨bb, 5, none⟩ = some v5 := B2.buf.cell 5
  have d6 : W2.cell? ⟨bb, 6, none⟩ = some v6 := B2.buf.cell 6
  have hfb2 : ∀ i, W2.frozen? ⟨bb, i, none⟩ = false := B2.buf.frozen
  have HB2 := Lib.hid B2
  have HD2 := Lib.hid D2
  have HK2 := Lib.hid K2
  have hkw : r + (k + 1) ≤ wr := by have := HK.out; omega
  clear B2 D2 K2 b5 b6 hfb
  go_wp2
  refine at_world (fun W => W = W2.setCell ⟨bb, 2, none⟩ (.int .i64 (r + (k + 1)))) rfl ?_
  intro W3 hW3
  have f0 : W3.cell? ⟨bb, 0, none⟩ = some (.slice (some ⟨gb, 0, none⟩) 4096 4096) := by rw [hW3]; simpa [go_sem] using d0
  have f2 : W3.cell? ⟨bb, 2, none⟩ = some (.int .i64 (r + (k + 1))) := by rw [hW3]; simp [go_sem, d2]
  have f5 : W3.cell? ⟨bb, 5, none⟩ = some v5 := by rw [hW3]; simpa [go_sem] using d5
  have f6 : W3.cell? ⟨bb, 6, none⟩ = some v6 := by rw [hW3]; simpa [go_sem] using d6
  have hfb3 : ∀ i, W3.frozen? ⟨bb, i, none⟩ = false := fun i => by rw [hW3, World.frozen?_setCell]; exact hfb2 i
  have hnb : gb ≠ bb := HB2.out.row.ne_ HB2.out.buf (by decide)
  have fg : W3.cell? ⟨gb, r + k, none⟩ = some (.int .u8 (l[r + k]'(by rw [HB2.out.len]; omega)).toNat) := by
    rw [hW3, World.cell?_setCell_other _ _ _ _ (by intro e; injection e with e; exact hnb e.symm)]
    exact HB2.out.row.byte _ _
  obtain ⟨x, hx⟩ : ∃ x : Int, W3.cell? ⟨gb, r + k, none⟩ = some (.int .u8 x) := ⟨_, fg⟩
  have HW3 := Lib.hid hW3
  clear fg hW3 d0 d2 d5 d6 hfb2 hcp1
  obtain ⟨j, hj⟩ : ∃ j, j = r + k := ⟨_, rfl⟩
  rw [← hj] at hx
  have hwr : IntKind.i64.wrap ((r : Int) + ((k : Int) + 1) - 1) = (j : Int) := by rw [IntWalk.i64_in _ (by omega)]; omega
  have hq1 : j < 4096 := by omega
  have hq2 : (j : Int) < 4096 := by omega
  have hq0 : 0 ≤ (j : Int) := by omega
  clear hj
  go_still_tail 15, (by kernel_rfl)
  change wpList _ _ _ _ _ W3.drew
  clear hwr hq1 hq2 hq0 hx
  go_wp2
  go_ret2
  have hbs : sb ≠ bb := HB2.out.sec.ne_ HB2.out.buf (by decide)
  have hbr : rb ≠ bb := HB2.out.str.ne_ HB2.out.buf (by decide)
  refine ⟨rfl, ⟨.int .i64 (wrap64 x), ⟨?_, ?_, HB2.out.len, hkw, HB2.out.hw, ?_, ?_, HB2.out.hL, HB2.out.hs, ?_, ?_⟩⟩, ?_, ?_⟩
  · rw [HW3.out]
    exact Blk.cast (((HB2.out.buf.set_ 2 _).set_ 5 _).set_ 6 _).drew (by simp)
  · rw [HW3.out]
    exact (((HB2.out.row.far hnb _).far hnb _).far hnb _).drew
  · have e := congrArg (List.drop (k + 1)) HB2.out.eq
    rw [List.drop_take, List.drop_take, List.drop_drop, List.drop_drop, Nat.sub_sub] at e
    exact e
  · have := HB2.out.fit
    omega
  · rw [HW3.out]
    exact Blk.cast (((HB2.out.sec.far hbs _).far hbs _).far hbs _).drew (by rw [show q + (k + 1) + (wr - (r + (k + 1))) = q + (wr - r) by omega])
  · rw [HW3.out]
    exact (((HB2.out.str.far hbr _).far hbr _).far hbr _).drew
  · rw [HW3.out]
    exact (((HD2.out.far hg1 _).far hg1 _).far hg1 _).drew
  · rw [HW3.out]
    exact ((((HK2.out.mono (by simp)).setCell (by simp) _).setCell (by simp) _).setCell (by simp) _).drew
end Go.Proofs.YtfagjhgmmaebfaaGreatDoor
