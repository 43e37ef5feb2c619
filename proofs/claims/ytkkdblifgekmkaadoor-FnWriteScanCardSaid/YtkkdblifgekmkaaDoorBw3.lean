/- Contract: bufio.Writer.Write over a strings.Builder. -/
import Derived.Test.YtkkdblifgekmkaaDoorBw2
import Derived.LoopTactic
namespace Go.Proofs.YtkkdblifgekmkaaDoor
open Go.RowKit
/-- How far Write has come: k bytes of p are written, the others are still to come. -/
def WrSt (w W : World) (ob bw gb : Nat) (ro : Option Nat) (out p : List UInt8) (m k : Nat) (c1 c4 : Value) : Prop :=
  ∃ m' A' c' ro', k + m' = m ∧ m' ≤ c' ∧ c1 = .slice A' m' c' ∧ c4 = .int .i64 k ∧ Reads W W.heap.size 1 A' m' ((p.drop k).map byteV) ∧ (∀ ad, A' = some ad → 0 < m' → ad.block ∉ ob :: bw :: gb :: ro.toList ∧ ad.block < w.heap.size) ∧
    (ro' = ro ∨ ∃ n, ro' = some n ∧ w.heap.size ≤ n) ∧ BW W ob bw gb ro' (out ++ p.take k) ∧ Kept (ob :: bw :: gb :: ro.toList) w W
def wfull (W : World) (bw : Nat) : Nat := if intOf ((W.cell? ⟨bw, 2, none⟩).getD .nilIface) = 0 then 0 else 1
theorem wfull_le (W : World) (bw : Nat) : wfull W bw ≤ 1 := by unfold wfull; split <;> omega
theorem wfull_zero {W : World} {ob bw gb : Nat} {ro : Option Nat} {done l : List UInt8} (h : BWx W ob bw gb ro done l 0) : wfull W bw = 0 := by
  have := h.buf.cell 2
  unfold wfull
  rw [this]
  rfl
theorem wfull_pos {W : World} {ob bw gb n : Nat} {ro : Option Nat} {done l : List UInt8} (h : BWx W ob bw gb ro done l n) (hn : ¬ n = 0) : wfull W bw = 1 := by
  have := h.buf.cell 2
  unfold wfull
  rw [this]
  show (if (n : Int) = 0 then 0 else 1) = 1
  rw [if_neg (by omega)]
theorem put_take {l seg : List UInt8} {n o av : Nat} (hs : seg.length = av) (hn : n ≤ l.length) (ho : 0 < av → o = n) : (putB l o seg).take (n + av) = l.take n ++ seg := by
  rcases Nat.eq_zero_or_pos av with h | h
  · subst h
    have : seg = [] := List.eq_nil_of_length_eq_zero hs
    subst this
    simp [putB]
  · obtain rfl := ho h
    unfold putB
    rw [List.take_append_of_le_length (by simp; omega), List.take_of_length_le (by simp; omega)]
theorem fresh_trans {a b : Nat} {r0 r1 r2 : Option Nat} (h1 : r1 = r0 ∨ ∃ n, r1 = some n ∧ a ≤ n) (h2 : r2 = r1 ∨ ∃ n, r2 = some n ∧ b ≤ n) (hab : a ≤ b) : r2 = r0 ∨ ∃ n, r2 = some n ∧ a ≤ n := by
  rcases h2 with rfl | ⟨n, rfl, hn⟩
  · exact h1
  · exact .inr ⟨n, rfl, by omega⟩
theorem fresh_mem {a : Nat} {r0 r1 : Option Nat} (h1 : r1 = r0 ∨ ∃ n, r1 = some n ∧ a ≤ n) : ∀ x ∈ r1.toList, x ∈ r0.toList ∨ a ≤ x := by
  rcases h1 with rfl | ⟨n, rfl, hn⟩
  · exact fun x hx => .inl hx
  · intro x hx
    simp at hx
    exact .inr (by omega)
set_option maxRecDepth 100000 in
set_option maxHeartbeats 2000000 in
theorem Bw_write {w : World} {ob bw gb : Nat} {ro : Option Nat} {out : List UInt8} (h : BW w ob bw gb ro out) (A : Option Addr) (m c : Nat) (p : List UInt8) (hmc : m ≤ c) (hp : Reads w w.heap.size 1 A m (p.map byteV)) (hpb : ∀ ad, A = some ad → 0 < m → ad.block ∉ ob :: bw :: gb :: ro.toList) (hlen : out.length + p.length ≤ 140737488355328) :
    Calls Tryd.prog 166 #[.pointer (some ⟨bw, 0, none⟩), .slice A m c] w fun e w' => e = .returned (.tuple #[.int .i64 m, .nilIface]) ∧ ∃ ro', (ro' = ro ∨ ∃ n, ro' = some n ∧ w.heap.size ≤ n) ∧ BW w' ob bw gb ro' (out ++ p) ∧ Kept (ob :: bw :: gb :: ro.toList) w w' := by
  have hm := method_WriteB
  have hma := ahead_WriteB
  have hmp : m = p.length := by simpa using hp.1.symm
  have hm63 : m ≤ 140737488355328 := by omega
  have H0 : WrSt w w ob bw gb ro out p m 0 (.slice A m c) (.int .i64 0) :=
    ⟨m, A, c, ro, by omega, hmc, rfl, rfl, by simpa using hp, fun ad e h0 => ⟨hpb ad e h0, by obtain ⟨ad', e', hb, _⟩ := hp.2 h0; rw [e] at e'; injection e' with e'; rw [e']; exact hb⟩, .inl rfl, by simpa using h, Kept.refl _ _⟩
  have HM := Lib.hid (And.intro hmp hlen)
  have HH0 := Lib.hid H0
  clear hmp H0 h hp hpb hlen hmc
  go_enter Tryd.func166, Tryd.ntmps166
  go_wp2_with fail
  go_loopw [1, 4, 6] (fun c1 c4 _ W => ∃ k, Hid (WrSt w W ob bw gb ro out p m k c1 c4)) (fun _ c4 _ W => 2 * (m - (intOf c4).toNat) + wfull W bw)
  case atStart => exact ⟨0, HH0⟩
  case round =>
    obtain ⟨k, HS⟩ := hrel
    obtain ⟨W, rfl⟩ : ∃ W, W = wr := ⟨_, rfl⟩
    obtain ⟨m', A', c', ro', hkm, hmc, rfl, rfl, hrd, hpb, hro, hBW, hK⟩ := HS.out
    obtain ⟨done, l, n, hB, hout⟩ := hBW
    have hn := hB.le
    obtain ⟨av, hav⟩ : ∃ av, av = 4096 - n := ⟨_, rfl⟩
    have HA := Lib.hid (Avail_any hB)
    rw [← hav] at HA
    have b0 : W.cell? ⟨bw, 0, none⟩ = some .nilIface := hB.buf.cell 0
    have b1 : W.cell? ⟨bw, 1, none⟩ = some (.slice (some ⟨gb, 0, none⟩) 4096 4096) := hB.buf.cell 1
    have b2 : W.cell? ⟨bw, 2, none⟩ = some (.int .i64 n) := hB.buf.cell 2
    have b3 : W.cell? ⟨bw, 3, none⟩ = some (.iface 77 (.pointer (some ⟨ob, 0, none⟩))) := hB.buf.cell 3
    have hfb : ∀ i, W.frozen? ⟨bw, i, none⟩ = false := hB.buf.frozen
    have HX := Lib.hid (And.intro hkm (And.intro hrd (And.intro hpb (And.intro hro (And.intro hB (And.intro hout (And.intro hK hav)))))))
    have hkm1 : k ≤ m := by omega
    have hm1 : m' ≤ m := by omega
    clear hrd hpb hro hB hout hK HS hkm
    by_cases hlt : av < m'
    · have hlt' : (av : Int) < m' := by omega
      have HAV := Lib.hid hav
      clear hav
      by_cases hn0 : n = 0
      · have hnz : ((n : Int) == 0) = true := by simp [hn0]
        have HN0 := Lib.hid hn0
        clear hn0
        go_wp2_with (first | (go_at_call 165; refine HA.out.mono ?_; rintro e w1 ⟨rfl, q, rfl⟩) | (go_at_call 167; refine (Buffered_any (HX.out.2.2.2.2.1.kept ((Kept.refl [] W).drewN _) (by simp) (by simp) (by simp) (by simp))).mono ?_; rintro e w1 ⟨rfl, rfl⟩))
        have hsl := fun W => slice_from A' m' c' m' (Nat.le_refl _) W
        refine (Bld_write (HX.out.2.2.2.2.1.bld.kept ((Kept.refl [] W).drewN q) (by simp) (by simp)) A' m' c' (p.drop k) (HX.out.2.1.drewN q) (fun h0 ad e => by have := (HX.out.2.2.1 ad e h0).1; simp at this; exact this.1) (by have h1 := congrArg List.length HX.out.2.2.2.2.2.1; have h2 := HM.out.2; have h3 := HM.out.1; simp only [List.length_append, List.length_take, List.length_drop] at h1 ⊢; omega)).mono ?_
        rintro e w2 ⟨rfl, ro2, hr2, hb2, hk2⟩
        have hbx := HX.out.2.2.2.2.1
        have hbo : bw ≠ ob := (hbx.bld.ne hbx.buf (by decide)).symm
        have hgo : gb ≠ ob := (hbx.bld.ne hbx.row (by decide)).symm
        have hrw := hbx.bld.row hbx.buf (by decide)
        have hB2 : Blk w2 bw _ _ := hk2.blk (hbx.buf.drewN q) (by simp; exact ⟨hbo, hrw⟩)
        have hG2 : Blk w2 gb _ _ := hk2.blk (hbx.row.drewN q) (by simp; exact ⟨hgo, hbx.ne⟩)
        have d0 : w2.cell? ⟨bw, 0, none⟩ = some .nilIface := hB2.cell 0
        have hf2 : ∀ i, w2.frozen? ⟨bw, i, none⟩ = false := hB2.frozen
        have HY := Lib.hid (And.intro hr2 (And.intro hb2 (And.intro hk2 (And.intro hB2 hG2))))
        have HN := Lib.hid (And.intro hbo (And.intro hgo hrw))
        clear hr2 hb2 hk2 hB2 hG2 hbx hbo hgo hrw b0 b1 b2 b3 hfb
        go_wp2_with fail
        obtain ⟨x1, x2, x3, x4, x5, x6, x7, x8⟩ := HX.out
        obtain ⟨y1, y2, y3, y4, y5⟩ := HY.out
        have hz := wfull_le (w2.setCell ⟨bw, 0, none⟩ .nilIface) bw
        have hnn := HN0.out
        have h1 := HAV.out
        have hpl := HM.out.1
        have y1' : ro2 = ro' ∨ ∃ n, ro2 = some n ∧ W.heap.size ≤ n := y1
        refine ⟨⟨k + m', Lib.hid ⟨0, _, _, ro2, x1, Nat.zero_le _, rfl, by rw [Int.natCast_add], ?_, fun ad _ h0 => absurd h0 (Nat.lt_irrefl 0), fresh_trans x4 y1' x7.size, ⟨done ++ p.drop k, l, 0, ⟨?_, ?_, ?_, x5.len, Nat.zero_le _, ?_⟩, ?_⟩, ?_⟩⟩, ?_⟩
        · rw [List.drop_of_length_le (by omega)]
          exact ⟨by simp, fun h => absurd h (by omega)⟩
        · exact y2.kept ((Kept.refl [bw] w2).setCell (by simp) _) (by simpa using HN.out.1.symm) (fun g hg hm => y2.row y4 (by decide) (by simp at hm; rw [hg, hm]))
        · exact Blk.cast (y4.set_ 0 _) (by simp [hnn])
        · exact y5.far (x5.row.ne_ x5.buf (by decide)) _
        · rcases y1' with rfl | ⟨j, rfl, hj⟩
          · exact x5.ne
          · have := x5.row.lt
            simp; omega
        · rw [hnn, List.take_zero, List.append_nil] at x6
          rw [List.take_zero, List.append_nil, ← x6, List.append_assoc, List.take_of_length_le (by omega), List.take_append_drop]
        · exact ((x7.drewN q).trans' y3 (fun x hx => by
            simp only [List.mem_cons] at hx ⊢
            rcases hx with rfl | hx
            · exact .inl (.inl rfl)
            · rcases fresh_mem x4 x hx with h | h
              · exact .inl (.inr (.inr (.inr h)))
              · exact .inr h)).setCell (by simp) _
        · simp [intOf]; omega
      · have hnz : ((n : Int) == 0) = false := by simpa using hn0
        obtain ⟨o, ho1, ho2, hsr⟩ := slice_rest gb n 4096 hn
        rw [← HAV.out] at hsr ho2
        have hov : 0 < av → o = n := fun h => ho1 (by have := HAV.out; omega)
        have HO := Lib.hid (And.intro hov ho2)
        have hcp : ∀ (ty : TypeId) (q : Nat), (Builtin.copy_ #[30, 30] ty #[.slice (some ⟨gb, o, none⟩) av av, .slice A' m' c']).run Tryd.prog (W.drewN q) = .ok (goInt (av : Nat)) ((W.drewN q).setCells gb o (((p.drop k).take av).map byteV)) := fun ty q => by
          have := copy_reads (HX.out.2.2.2.2.1.row.drewN q) o av av (by have := HX.out.2.2.2.2.1.len; simp; omega) A' m' c' (p.drop k) (HX.out.2.1.drewN q) ty
          rw [Nat.min_eq_left (by omega)] at this
          exact this
        clear ho1 ho2 hov
        go_wp2_with (first | (go_at_call 165; refine HA.out.mono ?_; rintro e w1 ⟨rfl, q, rfl⟩) | (go_at_call 167; refine (Buffered_any (HX.out.2.2.2.2.1.kept ((Kept.refl [] W).drewN _) (by simp) (by simp) (by simp) (by simp))).mono ?_; rintro e w1 ⟨rfl, rfl⟩))
        refine atW (fun V => ∃ q, V = W.drewN q) ⟨_, rfl⟩ ?_
        rintro V ⟨q1, hV⟩
        have e1 : V.cell? ⟨bw, 1, none⟩ = some (.slice (some ⟨gb, 0, none⟩) 4096 4096) := by rw [hV]; exact b1
        have e2 : V.cell? ⟨bw, 2, none⟩ = some (.int .i64 n) := by rw [hV]; exact b2
        have HV := Lib.hid hV
        clear hV b0 b1 b2 b3 hfb
        go_still_tail 10, (by kernel_rfl)
        change wpList _ _ _ _ _ V.drew
        refine atL (fun V => ∃ q, V = W.drewN q) ⟨q1 + 1, by rw [HV.out]; rfl⟩ ?_
        clear e1 e2 HV hsr
        rintro V ⟨q2, rfl⟩
        obtain ⟨W2, hW2⟩ : ∃ W2, W2 = (W.drewN q2).setCells gb o (((p.drop k).take av).map byteV) := ⟨_, rfl⟩
        have hcp1 := fun ty => hcp ty q2
        rw [← hW2] at hcp1
        have hbx := HX.out.2.2.2.2.1
        have hgo : gb ≠ ob := (hbx.bld.ne hbx.row (by decide)).symm
        have hgw : gb ≠ bw := hbx.row.ne_ hbx.buf (by decide)
        have K2 : Kept [gb] W W2 := by rw [hW2]; exact Kept.setCells (by simp) _ _ _ ((Kept.refl _ _).drewN q2)
        have L2 : Bld W2 ob ro' done := hbx.bld.kept K2 (by simpa using hgo.symm) (fun g hg hm => hbx.ne (by simp at hm; rw [hg, hm]))
        have B2 := K2.blk hbx.buf (by simpa using hgw.symm)
        have hsl2 : ((p.drop k).take av).length = av := by have h1 := HM.out.1; have h2 := HX.out.1; rw [List.length_take, List.length_drop]; omega
        have G2 : Blk W2 gb 5 ((putB l o ((p.drop k).take av)).map byteV).toArray := by
          rw [hW2]
          exact Blk.cast ((hbx.row.drewN q2).setCells _ _) (putAll_bytes _ _ _ (by rw [hsl2, hbx.len]; exact HO.out.2))
        have b2 : W2.cell? ⟨bw, 2, none⟩ = some (.int .i64 n) := B2.cell 2
        have hfb : ∀ i, W2.frozen? ⟨bw, i, none⟩ = false := B2.frozen
        have hnav : n + av ≤ 4096 := by have := HAV.out; omega
        have HY := Lib.hid (And.intro K2 (And.intro L2 (And.intro B2 (And.intro G2 hsl2))))
        clear hcp hW2 hbx hgo hgw K2 L2 B2 G2 hsl2
        go_wp2_with fail
        obtain ⟨y1, y2, y3, y4, y5⟩ := HY.out
        have hbx := HX.out.2.2.2.2.1
        have BX : BWx (W2.setCell ⟨bw, 2, none⟩ (.int .i64 ((n : Int) + av))) ob bw gb ro' done (putB l o ((p.drop k).take av)) (n + av) := by
          refine ⟨?_, Blk.cast (y3.set_ 2 _) (by simp), y4.far (y4.ne_ y3 (by decide)) _, ?_, hnav, hbx.ne⟩
          · exact y2.kept ((Kept.refl [bw] W2).setCell (by simp) _) (by simpa using y2.ne y3 (by decide)) (fun g hg hm => y2.row y3 (by decide) (by simp at hm; rw [hg, hm]))
          · rw [putB_length _ _ _ (by rw [y5, hbx.len]; exact HO.out.2)]; exact hbx.len
        refine (Bw_flush BX (by have h1 := congrArg List.length HX.out.2.2.2.2.2.1; have h2 := HM.out.2; have h3 := HM.out.1; have h4 := hbx.len; have h5 := HX.out.1; simp only [List.length_append, List.length_take] at h1; omega)).mono ?_
        rintro e w3 ⟨rfl, ro3, hr3, hb3, hk3⟩
        have hslk := fun W => slice_from A' m' c' av (by omega) W
        have hca : ¬ c' = av := by omega
        have HZ := Lib.hid (And.intro hr3 (And.intro hb3 hk3))
        clear hr3 hb3 hk3 BX hbx y1 y2 y3 y4 y5 b2 hfb hcp1
        go_wp2_with fail
        obtain ⟨x1, x2, x3, x4, x5, x6, x7, x8⟩ := HX.out
        obtain ⟨y1, y2, y3, y4, y5⟩ := HY.out
        obtain ⟨z1, z2, z3⟩ := HZ.out
        have hpl := HM.out.1
        have hsz2 : W.heap.size ≤ W2.heap.size := y1.size
        have z1' : ro3 = ro' ∨ ∃ n, ro3 = some n ∧ W.heap.size ≤ n := by
          rcases z1 with h | ⟨j, h, hj⟩
          · exact .inl h
          · exact .inr ⟨j, h, by simp [World.setCell] at hj; omega⟩
        have k03 : Kept (ob :: bw :: gb :: ro.toList) w w3 := ((x7.trans (y1.mono (fun x hx => .inl (by simp at hx ⊢; exact .inr (.inr (.inl hx)))))).setCell (p := ⟨bw, 2, none⟩) (by simp) _).trans' z3 (fun x hx => by
          simp only [List.mem_cons] at hx ⊢
          rcases hx with rfl | rfl | hx
          · exact .inl (.inl rfl)
          · exact .inl (.inr (.inl rfl))
          · rcases fresh_mem x4 x hx with h | h
            · exact .inl (.inr (.inr (.inr h)))
            · exact .inr h)
        have hcut := Reads.cut x2 (k := av) (cap := c') (by omega) hmc
        rw [if_neg hca, Nat.mul_one] at hcut
        have kW3 : Kept (ob :: bw :: gb :: ro'.toList) W w3 := ((y1.mono (fun x hx => .inl (by simp at hx ⊢; exact .inr (.inr (.inl hx))))).setCell (p := ⟨bw, 2, none⟩) (by simp) _).trans' z3 (fun x hx => .inl (by
          simp only [List.mem_cons] at hx ⊢
          rcases hx with h | h | h
          · exact .inl h
          · exact .inr (.inl h)
          · exact .inr (.inr (.inr h))))
        have hnot : ∀ ad, A' = some ad → 0 < m' → ad.block ∉ ob :: bw :: gb :: ro'.toList := fun ad e h0 hm => by
          obtain ⟨q3, q4⟩ := x3 ad e h0
          simp only [List.mem_cons, not_or] at hm q3
          rcases hm with h | h | h | h
          · exact q3.1 h
          · exact q3.2.1 h
          · exact q3.2.2.1 h
          · rcases fresh_mem x4 _ h with h | h
            · exact q3.2.2.2 h
            · omega
        refine ⟨⟨k + av, Lib.hid ⟨m' - av, _, _, ro3, by omega, by omega, rfl, by rw [Int.natCast_add], ?_, ?_, fresh_trans x4 z1' x7.size, ⟨_, _, 0, z2, ?_⟩, k03⟩⟩, ?_⟩
        · have h := hcut.kept kW3 (fun h0 ad e => by
            obtain ⟨ad0, rfl, _⟩ := x2.2 (by omega)
            simp at e
            subst e
            rw [block_of_add]
            exact hnot ad0 rfl (by omega))
          rw [← List.map_drop, List.drop_drop] at h
          simpa using h
        · intro ad e h0
          obtain ⟨ad0, rfl, _⟩ := x2.2 (by omega)
          simp at e
          subst e
          rw [block_of_add]
          exact x3 ad0 rfl (by omega)
        · rw [List.take_zero, List.append_nil, List.take_add, ← List.append_assoc, x6, List.append_assoc]
          rw [put_take y5 (by rw [x5.len]; exact hn) HO.out.1]
        · have h1 := wfull_zero z2
          have h2 := wfull_pos x5 hn0
          simp [intOf, h1, h2]; omega
    · have hlt' : ¬ (av : Int) < m' := by omega
      obtain ⟨o, ho1, ho2, hsr⟩ := slice_rest gb n 4096 hn
      rw [← hav] at hsr ho2
      have hov : 0 < m' → o = n := fun h => ho1 (by omega)
      have HO := Lib.hid (And.intro hov ho2)
      have hnm : n + m' ≤ 4096 := by omega
      have hcp : ∀ (ty : TypeId) (q : Nat), (Builtin.copy_ #[30, 30] ty #[.slice (some ⟨gb, o, none⟩) av av, .slice A' m' c']).run Tryd.prog (W.drewN q) = .ok (goInt (m' : Nat)) ((W.drewN q).setCells gb o (((p.drop k).take m').map byteV)) := fun ty q => by
        have := copy_reads (HX.out.2.2.2.2.1.row.drewN q) o av av (by have := HX.out.2.2.2.2.1.len; simp; omega) A' m' c' (p.drop k) (HX.out.2.1.drewN q) ty
        rw [Nat.min_eq_right (by omega)] at this
        exact this
      have HAV := Lib.hid hav
      clear ho1 ho2 hov hav
      go_wp2_with (go_at_call 165; refine HA.out.mono ?_; rintro e w1 ⟨rfl, q, rfl⟩)
      refine atW (fun V => ∃ q, V = W.drewN q) ⟨_, rfl⟩ ?_
      rintro V ⟨q1, hV⟩
      have e1 : V.cell? ⟨bw, 1, none⟩ = some (.slice (some ⟨gb, 0, none⟩) 4096 4096) := by rw [hV]; exact b1
      have e2 : V.cell? ⟨bw, 2, none⟩ = some (.int .i64 n) := by rw [hV]; exact b2
      have HV := Lib.hid hV
      clear hV b0 b1 b2 b3 hfb
      go_still_tail 10, (by kernel_rfl)
      change wpList _ _ _ _ _ V.drew
      refine atL (fun V => ∃ q, V = W.drewN q) ⟨q1 + 1, by rw [HV.out]; rfl⟩ ?_
      clear e1 e2 HV hsr
      rintro V ⟨q2, rfl⟩
      obtain ⟨W2, hW2⟩ : ∃ W2, W2 = (W.drewN q2).setCells gb o (((p.drop k).take m').map byteV) := ⟨_, rfl⟩
      have hcp1 := fun ty => hcp ty q2
      rw [← hW2] at hcp1
      have hbx := HX.out.2.2.2.2.1
      have hgo : gb ≠ ob := (hbx.bld.ne hbx.row (by decide)).symm
      have hgw : gb ≠ bw := hbx.row.ne_ hbx.buf (by decide)
      have K2 : Kept [gb] W W2 := by rw [hW2]; exact Kept.setCells (by simp) _ _ _ ((Kept.refl _ _).drewN q2)
      have L2 : Bld W2 ob ro' done := hbx.bld.kept K2 (by simpa using hgo.symm) (fun g hg hm => hbx.ne (by simp at hm; rw [hg, hm]))
      have B2 := K2.blk hbx.buf (by simpa using hgw.symm)
      have hsl2 : ((p.drop k).take m').length = m' := by have h1 := HM.out.1; have h2 := HX.out.1; rw [List.length_take, List.length_drop]; omega
      have hob : o + m' ≤ 4096 := by have := HO.out.2; omega
      have G2 : Blk W2 gb 5 ((putB l o ((p.drop k).take m')).map byteV).toArray := by
        rw [hW2]
        exact Blk.cast ((hbx.row.drewN q2).setCells _ _) (putAll_bytes _ _ _ (by rw [hsl2, hbx.len]; exact hob))
      have b2 : W2.cell? ⟨bw, 2, none⟩ = some (.int .i64 n) := B2.cell 2
      have hfb : ∀ i, W2.frozen? ⟨bw, i, none⟩ = false := B2.frozen
      have HY := Lib.hid (And.intro K2 (And.intro L2 (And.intro B2 (And.intro G2 hsl2))))
      clear hcp hW2 hbx hgo hgw K2 L2 B2 G2 hsl2
      go_wp2
      go_ret2
      obtain ⟨x1, x2, x3, x4, x5, x6, x7, x8⟩ := HX.out
      obtain ⟨y1, y2, y3, y4, y5⟩ := HY.out
      have hpl := HM.out.1
      refine ⟨by rw [← x1, Int.natCast_add]; rfl, ro', x4, ⟨done, putB l o ((p.drop k).take m'), n + m', ⟨?_, Blk.cast (y3.set_ 2 _) (by simp), y4.far (y4.ne_ y3 (by decide)) _, ?_, hnm, x5.ne⟩, ?_⟩, ?_⟩
      · exact y2.kept ((Kept.refl [bw] W2).setCell (by simp) _) (by simpa using y2.ne y3 (by decide)) (fun g hg hm => y2.row y3 (by decide) (by simp at hm; rw [hg, hm]))
      · rw [putB_length _ _ _ (by rw [y5, x5.len]; exact hob)]; exact x5.len
      · rw [put_take y5 (by rw [x5.len]; exact hn) HO.out.1, ← List.append_assoc, ← x6, List.append_assoc, ← List.take_add, List.take_of_length_le (by omega)]
      · exact (x7.trans (y1.mono (fun x hx => .inl (by simp at hx ⊢; exact .inr (.inr (.inl hx)))))).setCell (p := ⟨bw, 2, none⟩) (by simp) _
end Go.Proofs.YtkkdblifgekmkaaDoor
