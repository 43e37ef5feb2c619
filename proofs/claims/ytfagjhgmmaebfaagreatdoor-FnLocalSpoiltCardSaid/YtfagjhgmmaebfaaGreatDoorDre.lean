/- Contract: readDirectoryEnd over an archive. -/
import Derived.Test.YtfagjhgmmaebfaaGreatDoorDirEnd
import Derived.Test.YtfagjhgmmaebfaaGreatDoorSpt
import Derived.Test.YtfagjhgmmaebfaaGreatDoorFbo
namespace Go.Proofs.YtfagjhgmmaebfaaGreatDoor
open Go.RowKit
/-- What the end of an archive tells: it stands at E; the files take F bytes, the directory D. -/
structure EndAt (s : List UInt8) (E F D N : Nat) (c : List UInt8) : Prop where
  len : s.length = E + 22 + c.length
  eq : E = F + D
  sig : sigAt s E = true
  one : endsL s = 1
  n4 : numL (sub s (E + 4) 2) = 0
  n6 : numL (sub s (E + 6) 2) = 0
  n8 : numL (sub s (E + 8) 2) = N
  n10 : numL (sub s (E + 10) 2) = N
  n12 : numL (sub s (E + 12) 4) = D
  n16 : numL (sub s (E + 16) 4) = F
  n20 : numL (sub s (E + 20) 2) = c.length
  rest : s.drop (E + 22) = c
  many : N ≤ 1000
  cl : c.length ≤ 65535
  short : s.length ≤ 4294967294
theorem rds_end {s : List UInt8} {is : List Item} {cl : List UInt8} (h : RdS s is cl) : EndAt s ((filesB is).length + (dirB 0 is).length) (filesB is).length (dirB 0 is).length is.length cl := by
  have e := h.end_
  obtain ⟨F, hF⟩ : ∃ F, F = (filesB is).length := ⟨_, rfl⟩
  obtain ⟨D, hD⟩ : ∃ D, D = (dirB 0 is).length := ⟨_, rfl⟩
  have hlen := h.len
  have hsh := h.short
  have hm := h.many
  have hcl := h.cl
  rw [← hF, ← hD] at e hlen ⊢
  have g : ∀ {a b c : List UInt8} {i n : Nat}, s.drop (F + D) = a ++ (b ++ c) → a.length = i → b.length = n → sub s (F + D + i) n = b := sub_mid
  have e2 := e
  simp only [endL, List.append_assoc] at e2
  have s4 : sub s (F + D + 4) 2 = leB 0 2 := g (a := [80, 75, 5, 6]) (by simpa only [List.append_assoc] using e2) rfl (leB_length _ _)
  have s6 : sub s (F + D + 6) 2 = leB 0 2 := g (a := [80, 75, 5, 6] ++ leB 0 2) (by simpa only [List.append_assoc] using e2) (by simp [leB_length]) (leB_length _ _)
  have s8 : sub s (F + D + 8) 2 = leB is.length 2 := g (a := [80, 75, 5, 6] ++ (leB 0 2 ++ leB 0 2)) (by simpa only [List.append_assoc] using e2) (by simp [leB_length]) (leB_length _ _)
  have s10 : sub s (F + D + 10) 2 = leB is.length 2 := g (a := [80, 75, 5, 6] ++ (leB 0 2 ++ (leB 0 2 ++ leB is.length 2))) (by simpa only [List.append_assoc] using e2) (by simp [leB_length]) (leB_length _ _)
  have s12 : sub s (F + D + 12) 4 = leB D 4 := g (a := [80, 75, 5, 6] ++ (leB 0 2 ++ (leB 0 2 ++ (leB is.length 2 ++ leB is.length 2)))) (by simpa only [List.append_assoc] using e2) (by simp [leB_length]) (leB_length _ _)
  have s16 : sub s (F + D + 16) 4 = leB F 4 := g (a := [80, 75, 5, 6] ++ (leB 0 2 ++ (leB 0 2 ++ (leB is.length 2 ++ (leB is.length 2 ++ leB D 4))))) (by simpa only [List.append_assoc] using e2) (by simp [leB_length]) (leB_length _ _)
  have s20 : sub s (F + D + 20) 2 = leB cl.length 2 := g (a := [80, 75, 5, 6] ++ (leB 0 2 ++ (leB 0 2 ++ (leB is.length 2 ++ (leB is.length 2 ++ (leB D 4 ++ leB F 4)))))) (by simpa only [List.append_assoc] using e2) (by simp [leB_length]) (leB_length _ _)
  have s22 : s.drop (F + D + 22) = cl := drop_mid (a := [80, 75, 5, 6] ++ (leB 0 2 ++ (leB 0 2 ++ (leB is.length 2 ++ (leB is.length 2 ++ (leB D 4 ++ (leB F 4 ++ leB cl.length 2))))))) (by simpa only [List.append_assoc] using e2) (by simp [leB_length])
  refine ⟨by omega, rfl, ?_, h.one, ?_, ?_, ?_, ?_, ?_, ?_, ?_, s22, hm, hcl, hsh⟩
  · unfold sigAt; rw [e]; rfl
  · rw [s4]; rfl
  · rw [s6]; rfl
  · rw [s8]; exact leB2 _ (by omega)
  · rw [s10]; exact leB2 _ (by omega)
  · rw [s12]; exact leB4 _ (by omega)
  · rw [s16]; exact leB4 _ (by omega)
  · rw [s20]; exact leB2 _ (by omega)
section
variable {s c : List UInt8} {E F D N : Nat}
theorem sub_drop (m a n : Nat) : sub (s.drop m) a n = sub s (m + a) n := by unfold sub; rw [List.drop_drop]
theorem sig_drop (m i : Nat) : sigAt (s.drop m) i = sigAt s (m + i) := by unfold sigAt; rw [List.drop_drop]
theorem find_blk (h : EndAt s E F D N c) (m : Nat) (hm : m + 22 ≤ s.length) : findL (s.drop m) = if m ≤ E then ((E - m : Nat) : Int) else -1 := by
  have hl : (s.drop m).length = s.length - m := List.length_drop
  have hlen := h.len
  unfold findL
  rw [hl]
  by_cases hE : m ≤ E
  · rw [if_pos hE, find_at (s.length - m - 21) (E - m) (by omega) (by rw [sig_drop, show m + (E - m) = E by omega]; exact h.sig) (fun i _ hi => by
      rw [sig_drop] at hi
      have := only_one h.one hi h.sig
      omega)]
    have hle : le2 (s.drop m) (E - m + 20) = c.length := by
      rw [← h.n20, num2 (by omega)]
      unfold le2
      have g : ∀ i (hi : E + i < s.length), (s.drop m).getD (E - m + i) 0 = s[E + i] := fun i hi => by
        simp only [List.getD_eq_getElem?_getD, List.getElem?_drop]
        rw [show m + (E - m + i) = E + i by omega, List.getElem?_eq_getElem hi]
        rfl
      rw [g 20 (by omega), show E - m + 20 + 1 = E - m + 21 by omega, g 21 (by omega)]
    rw [hle, hl, if_neg (by omega)]
  · rw [if_neg hE, find_none]
    intro i hi
    rw [sig_drop]
    rcases hs : sigAt s (m + i) with _ | _
    · rfl
    · have := only_one h.one hs h.sig
      omega
theorem find_dre {w : World} (h : EndAt s E F D N c) (g m b P : Nat) (hP : P = E - m) (hn : m + b = s.length ∧ 22 ≤ b) (hm : m ≤ E) (hd : Blk w g 5 ((s.drop m).map byteV).toArray) :
    Calls Tryz.prog 48 #[.slice (some ⟨g, 0, none⟩) b b] w fun e w' => e = .returned (.int .i64 P) ∧ Below w.heap.size w w' := by
  have hs := h.short
  have hl : (s.drop m).length = b := by rw [List.length_drop]; omega
  have h2 := find_long g 0 b (s.drop m) (by omega) (by omega) w hd.bytes
  rw [find_blk h m (by omega), if_pos hm, hl, ← hP] at h2
  exact h2
theorem find_dre_no {w : World} (h : EndAt s E F D N c) (g m b : Nat) (hn : m + b = s.length ∧ 22 ≤ b) (hm : ¬ m ≤ E) (hd : Blk w g 5 ((s.drop m).map byteV).toArray) :
    Calls Tryz.prog 48 #[.slice (some ⟨g, 0, none⟩) b b] w fun e w' => e = .returned (.int .i64 (-1)) ∧ Below w.heap.size w w' := by
  have hs := h.short
  have hl : (s.drop m).length = b := by rw [List.length_drop]; omega
  have h2 := find_long g 0 b (s.drop m) (by omega) (by omega) w hd.bytes
  rw [find_blk h m (by omega), if_neg hm, hl] at h2
  exact h2
theorem tail_bytes2 {w : World} {g t o m P : Nat} (h : EndAt s E F D N c) (hm : m + P = E) (hl : Blk w g t ((s.drop m).map byteV).toArray) (ho : 0 < c.length → o = P + 22) : BytesAt w ⟨g, o, none⟩ c := fun j hj => by
  obtain rfl := ho (by omega)
  have hlen := h.len
  have hls : P + 22 + j < (s.drop m).length := by rw [List.length_drop]; omega
  have e : (s.drop m)[P + 22 + j] = c[j] := by
    have : (s.drop m)[P + 22 + j]? = some c[j] := by
      have e1 := congrArg (fun l => l[j]?) h.rest
      simp only [List.getElem?_drop] at e1
      rw [List.getElem?_drop, show m + (P + 22 + j) = E + 22 + j by omega, e1, List.getElem?_eq_getElem hj]
    rw [List.getElem?_eq_getElem hls] at this
    exact Option.some.inj this
  rw [add_at, hl.byte (P + 22 + j) hls, e]
  rfl
end
set_option maxRecDepth 100000 in
set_option maxHeartbeats 4000000 in
theorem Dre {E F D N : Nat} (rb n : Nat) (s c : List UInt8) (h : EndAt s E F D N c) (hn : n = s.length) (w : World) (hr : w.cell? ⟨rb, 0, none⟩ = some (.string ⟨s.toArray⟩)) (hrb : rb < w.heap.size) :
    Calls Tryz.prog 41 #[.iface 54 (.pointer (some ⟨rb, 0, none⟩)), .int .i64 n] w fun e w' => ∃ d, e = .returned (.tuple #[.pointer (some ⟨d, 0, none⟩), .int .i64 0, .nilIface]) ∧ w.heap.size ≤ d ∧
      Blk w' d 106 #[.int .u32 0, .int .u32 0, .int .u64 N, .int .u64 N, .int .u64 D, .int .u64 F, .int .u16 c.length, .string ⟨c.toArray⟩] ∧ Below w.heap.size w w' := by
  obtain ⟨i0, hi, hz0, hz1, hz2⟩ := info_parts infoU8
  have hm := method_ReadAt
  have hlen := h.len
  have hEq := h.eq
  have hN1 := h.many
  have hc1 := h.cl
  have hs1 := h.short
  have HN := Lib.hid h
  have HR := Lib.hid hr
  have HM := Lib.hid (And.intro hn (And.intro hlen (And.intro hEq (And.intro hc1 hs1))))
  clear h hr
  have hnlo : E + 22 ≤ n := by omega
  have hnhi : n ≤ E + 65557 := by omega
  have hn4 : n ≤ 4294967294 := by omega
  clear hn hlen hEq hc1 hs1
  go_enter Tryz.func41, Tryz.ntmps41
  go_wp2_with fail
  go_loopw [25] (fun c25 W => ∃ k : Nat, k ≤ 1 ∧ c25 = .int .i64 k ∧ Hid (Below (w.heap.size + 1) (w.alloc (.cells #[.int .i64 1024, .int .i64 66560] 2)) W)) (fun c25 _ => 2 - (intOf c25).toNat)
  case atStart => exact ⟨0, by decide, rfl, Lib.hid (Below.refl _ _)⟩
  case round =>
    obtain ⟨W, rfl⟩ : ∃ W, W = wr := ⟨_, rfl⟩
    obtain ⟨k, hk, rfl, HB⟩ := hrel
    obtain ⟨X, hX⟩ : ∃ X : Nat, X = if k = 0 then 1024 else 66560 := ⟨_, rfl⟩
    have ak : W.cell? ⟨w.heap.size, k, none⟩ = some (.int .i64 X) := by
      rcases (show k = 0 ∨ k = 1 by omega) with rfl | rfl
      · rw [hX]; exact (HB.out.cell (p := ⟨w.heap.size, 0, none⟩) (Nat.lt_succ_self _)).trans ((Blk.new w _ _).cell 0)
      · rw [hX]; exact (HB.out.cell (p := ⟨w.heap.size, 1, none⟩) (Nat.lt_succ_self _)).trans ((Blk.new w _ _).cell 1)
    have hX1 : 1024 ≤ X := by rw [hX]; split <;> omega
    have hX2 : X ≤ 66560 := by rw [hX]; split <;> omega
    have hX3 : k = 1 → 66560 ≤ X := fun h => by rw [hX, if_neg (by omega)]; exact Nat.le_refl _
    have HX3 := Lib.hid hX3
    clear hX hX3
    have hk2 : k < 2 := by omega
    have hrw : W.cell? ⟨rb, 0, none⟩ = some (.string ⟨s.toArray⟩) := (HB.out.cell (p := ⟨rb, 0, none⟩) (by show rb < _; omega)).trans ((World.cell?_alloc_lt w _ ⟨rb, 0, none⟩ hrb).trans HR.out)
    have hsz := HB.out.size
    have hsz : w.heap.size + 1 ≤ W.heap.size := by simpa using hsz
    by_cases hA : n < X
    · have hA1 : (n : Int) < X := by omega
      obtain ⟨m, hmm⟩ : ∃ m, m = 0 := ⟨_, rfl⟩
      obtain ⟨P, hP⟩ : ∃ P, P = E - m := ⟨_, rfl⟩
      obtain ⟨T, hT⟩ : ∃ T, T = 22 + c.length := ⟨_, rfl⟩
      have hmb : m + n = n := by omega
      have hmE : m ≤ E := by omega
      have hbT : n - P = T := by have := HM.out; omega
      have hPb : P ≤ n := by omega
      have hPb1 : ¬ n = P := by omega
      have hT4 : 4 ≤ T := by omega
      have hT1 : ¬ T = 4 := by omega
      have HP := Lib.hid (And.intro hmm (And.intro hP (And.intro hT (And.intro hmb hmE))))
      clear hmm hP hT hmb hmE
      go_wp2_with (first
        | (at_make; refine wpList_make_full _ rfl _ _ 46 rfl W.heap.size 5 i0 (.int .u8 0) 1 Tryz.underlying46 hi hz0 hz1 .i64 .i64 _ _ n rfl rfl rfl rfl (by rw [hz2]; omega) (by unfold maxLen; omega) (Nat.le_refl _) ?_; intro w0 hown hgr
           obtain ⟨cur, hcur, hcs, hlt0⟩ := row_of_own hown
           have hb0 : Below W.heap.size W w0 := (Below.refl _ _).grown hgr (Nat.le_refl _) (fun q hq => by cases hq)
           have HRA := Lib.hid (read_part rb s 0 n W.heap.size cur (0) (by omega) (by have := HM.out; omega) w0 ((hb0.cell (p := ⟨rb, 0, none⟩) (by show rb < _; omega)).trans hrw) hcur hcs)
           have HB0 := Lib.hid hb0
           clear hown hgr hcur hb0)
        | (go_at_call 114; refine HRA.out.mono ?_; rintro e w1 ⟨rfl, hD, hK⟩
           have hD' : Blk w1 W.heap.size 5 ((s.drop m).map byteV).toArray := by rw [HP.out.1]; exact hD
           have HFI := Lib.hid (find_dre HN.out W.heap.size m n P HP.out.2.1 (by have := HM.out; have := HP.out; omega) HP.out.2.2.2.2 hD')
           have HD := Lib.hid hD'
           have HK := Lib.hid hK
           clear hD hD' hK)
        | (go_at_call 48; refine HFI.out.mono ?_; rintro e w2 ⟨rfl, hb2⟩
           have HD2 := Lib.hid (HD.out.below hb2 HD.out.lt)
           have HB2 := Lib.hid (dir_world HB.out HB0.out HK.out hb2 (by omega))
           clear hb2))
      have hGR : W.heap.size ≠ w2.heap.size := Nat.ne_of_lt HD2.out.lt
      have hlm : (s.drop m).length = n := by rw [List.length_drop]; have := HM.out; have := HP.out; omega
      have hnum : ∀ a v k, numL (sub s (E + a) k) = v → numL (sub (s.drop m) (P + a) k) = v := fun a v k h => by rw [sub_drop, show m + (P + a) = E + a by have := HP.out; omega]; exact h
      have HNUM := Lib.hid (And.intro hnum hlm)
      clear hnum hlm
      have HX3 := Lib.hid (And.intro (Blk.new w2 113 #[.slice (some ⟨W.heap.size, P + 4, none⟩) (T - 4) (T - 4)]) (And.intro (HD2.out.alloc (.cells #[.slice (some ⟨W.heap.size, P + 4, none⟩) (T - 4) (T - 4)] 113)) ((Kept.refl [] w2).alloc (.cells #[.slice (some ⟨W.heap.size, P + 4, none⟩) (T - 4) (T - 4)] 113))))
      refine (rb16 (o := P + 4) (n := T - 4) (c := T - 4) HX3.out.1 HX3.out.2.1 (by have := HP.out; omega) (by omega) (by have := HNUM.out.2; have := HP.out; omega) (0) (HNUM.out.1 _ _ _ HN.out.n4)).mono ?_
      rintro e w4 ⟨rfl, ⟨o4, ho4, hr4⟩, hk4⟩
      obtain rfl : o4 = P + 6 := ho4.out (by have := HP.out; omega)
      rw [show T - 4 - 2 = T - 6 by omega] at hr4
      have HX4 := Lib.hid (And.intro hr4 (And.intro (hk4.blk HX3.out.2.1 (by simpa using hGR)) (HX3.out.2.2.trans' hk4 (fun x hx => .inr (by simp at hx; omega)))))
      clear hr4 hk4 ho4
      go_wp2_with fail
      refine (rb16 (o := P + 6) (n := T - 6) (c := T - 6) HX4.out.1 HX4.out.2.1 (by have := HP.out; omega) (by omega) (by have := HNUM.out.2; have := HP.out; omega) (0) (HNUM.out.1 _ _ _ HN.out.n6)).mono ?_
      rintro e w5 ⟨rfl, ⟨o5, ho5, hr5⟩, hk5⟩
      obtain rfl : o5 = P + 8 := ho5.out (by have := HP.out; omega)
      rw [show T - 6 - 2 = T - 8 by omega] at hr5
      have HX5 := Lib.hid (And.intro hr5 (And.intro (hk5.blk HX4.out.2.1 (by simpa using hGR)) (HX4.out.2.2.trans' hk5 (fun x hx => .inr (by simp at hx; omega)))))
      clear hr5 hk5 ho5
      go_wp2_with fail
      refine (rb16 (o := P + 8) (n := T - 8) (c := T - 8) HX5.out.1 HX5.out.2.1 (by have := HP.out; omega) (by omega) (by have := HNUM.out.2; have := HP.out; omega) (N) (HNUM.out.1 _ _ _ HN.out.n8)).mono ?_
      rintro e w6 ⟨rfl, ⟨o6, ho6, hr6⟩, hk6⟩
      obtain rfl : o6 = P + 10 := ho6.out (by have := HP.out; omega)
      rw [show T - 8 - 2 = T - 10 by omega] at hr6
      have HX6 := Lib.hid (And.intro hr6 (And.intro (hk6.blk HX5.out.2.1 (by simpa using hGR)) (HX5.out.2.2.trans' hk6 (fun x hx => .inr (by simp at hx; omega)))))
      clear hr6 hk6 ho6
      go_wp2_with fail
      refine (rb16 (o := P + 10) (n := T - 10) (c := T - 10) HX6.out.1 HX6.out.2.1 (by have := HP.out; omega) (by omega) (by have := HNUM.out.2; have := HP.out; omega) (N) (HNUM.out.1 _ _ _ HN.out.n10)).mono ?_
      rintro e w7 ⟨rfl, ⟨o7, ho7, hr7⟩, hk7⟩
      obtain rfl : o7 = P + 12 := ho7.out (by have := HP.out; omega)
      rw [show T - 10 - 2 = T - 12 by omega] at hr7
      have HX7 := Lib.hid (And.intro hr7 (And.intro (hk7.blk HX6.out.2.1 (by simpa using hGR)) (HX6.out.2.2.trans' hk7 (fun x hx => .inr (by simp at hx; omega)))))
      clear hr7 hk7 ho7
      go_wp2_with fail
      refine (rb32 (o := P + 12) (n := T - 12) (c := T - 12) HX7.out.1 HX7.out.2.1 (by have := HP.out; omega) (by omega) (by have := HNUM.out.2; have := HP.out; omega) (D) (HNUM.out.1 _ _ _ HN.out.n12)).mono ?_
      rintro e w8 ⟨rfl, ⟨o8, ho8, hr8⟩, hk8⟩
      obtain rfl : o8 = P + 16 := ho8.out (by have := HP.out; omega)
      rw [show T - 12 - 4 = T - 16 by omega] at hr8
      have HX8 := Lib.hid (And.intro hr8 (And.intro (hk8.blk HX7.out.2.1 (by simpa using hGR)) (HX7.out.2.2.trans' hk8 (fun x hx => .inr (by simp at hx; omega)))))
      clear hr8 hk8 ho8
      go_wp2_with fail
      refine (rb32 (o := P + 16) (n := T - 16) (c := T - 16) HX8.out.1 HX8.out.2.1 (by have := HP.out; omega) (by omega) (by have := HNUM.out.2; have := HP.out; omega) (F) (HNUM.out.1 _ _ _ HN.out.n16)).mono ?_
      rintro e w9 ⟨rfl, ⟨o9, ho9, hr9⟩, hk9⟩
      obtain rfl : o9 = P + 20 := ho9.out (by have := HP.out; omega)
      rw [show T - 16 - 4 = T - 20 by omega] at hr9
      have HX9 := Lib.hid (And.intro hr9 (And.intro (hk9.blk HX8.out.2.1 (by simpa using hGR)) (HX8.out.2.2.trans' hk9 (fun x hx => .inr (by simp at hx; omega)))))
      clear hr9 hk9 ho9
      go_wp2_with fail
      refine (rb16 (o := P + 20) (n := T - 20) (c := T - 20) HX9.out.1 HX9.out.2.1 (by have := HP.out; omega) (by omega) (by have := HNUM.out.2; have := HP.out; omega) (c.length) (HNUM.out.1 _ _ _ HN.out.n20)).mono ?_
      rintro e w10 ⟨rfl, ⟨o10, ho10, hr10⟩, hk10⟩
      rw [show T - 20 - 2 = c.length by have := HP.out; omega] at hr10
      have HX10 := Lib.hid (And.intro hr10 (And.intro (hk10.blk HX9.out.2.1 (by simpa using hGR)) (HX9.out.2.2.trans' hk10 (fun x hx => .inr (by simp at hx; omega)))))
      have hbc : BytesAt w10 ⟨W.heap.size, o10, none⟩ c := tail_bytes2 (m := m) (P := P) HN.out (by have := HP.out; omega) HX10.out.2.1 (fun h => (ho10.out (by have := HP.out; omega)).trans (by omega))
      have hG10 : W.heap.size < w10.heap.size := HX10.out.2.1.lt
      have hR10 : w2.heap.size < w10.heap.size := HX10.out.1.lt
      have hcl : w10.cell? ⟨w2.heap.size, 0, none⟩ = some (.slice (some ⟨W.heap.size, o10, none⟩) c.length c.length) := HX10.out.1.cell 0
      have hconv := fun ob => conv_str (w := w10.alloc ob) (hbc.below ((Below.refl w10.heap.size w10).alloc (Nat.le_refl _) ob) hG10) rfl (cap := c.length)
      clear hr10 hk10 ho10 hbc
      have wN : IntKind.u64.wrap (N : Int) = (N : Int) := by rw [IntKind.wrap_u64]; omega
      have wD : IntKind.u64.wrap (D : Int) = (D : Int) := by rw [IntKind.wrap_u64]; have := HM.out; omega
      have wF : IntKind.u64.wrap (F : Int) = (F : Int) := by rw [IntKind.wrap_u64]; have := HM.out; omega
      have vD : IntKind.i64.wrap (D : Int) = (D : Int) := IntWalk.i64_in _ (by have := HM.out; omega)
      have vF : IntKind.i64.wrap (F : Int) = (F : Int) := IntWalk.i64_in _ (by have := HM.out; omega)
      have bN : ((N : Int) == 65535) = false := by simp; omega
      have bD : ((D : Int) == 4294967295) = false := by have := HM.out; simp; omega
      have bF : ((F : Int) == 4294967295) = false := by have := HM.out; simp; omega
      have cD : ¬ ((9223372036854775807 : Int) < D) := by have := HM.out; omega
      have cF : ¬ ((9223372036854775807 : Int) < F) := by have := HM.out; omega
      have hcc : c.length ≤ 65535 := HM.out.2.2.2.1
      have eD : (P : Int) - D = (F : Int) := by have := HM.out; have := HP.out; omega
      have hF9 : ¬ ((n : Int) ≤ (F : Int)) := by have := HM.out; omega
      have hF8 : ¬ (n ≤ F) := by have := HM.out; omega
      clear hX1 hX2 hnlo hnhi
      go_wp2
      go_quiet (fail)
      go_wp2
      go_ret3
      refine ⟨w10.heap.size, rfl, ?_, (Blk.new w10 _ _).drewN _, ?_⟩
      · have z2 := HB2.out.size
        have z10 := HX10.out.2.2.size
        simp at z2
        omega
      · have z2 := HB2.out.size
        simp at z2
        have h2 : Below w.heap.size w w2 := below_new (by simpa using HB2.out)
        exact below_drewN ((h2.trans (HX10.out.2.2.to_below (by omega) (by simp))).alloc (by have := HX10.out.2.2.size; omega) _) _
    · have hA1 : ¬ ((n : Int) < X) := by omega
      by_cases hF : n ≤ X + E
      · have hnX : 0 ≤ (n : Int) - X := by omega
        obtain ⟨m, hmm⟩ : ∃ m, m = (n - X) := ⟨_, rfl⟩
        obtain ⟨P, hP⟩ : ∃ P, P = E - m := ⟨_, rfl⟩
        obtain ⟨T, hT⟩ : ∃ T, T = 22 + c.length := ⟨_, rfl⟩
        have hmb : m + X = n := by omega
        have hmE : m ≤ E := by omega
        have hbT : X - P = T := by have := HM.out; omega
        have hPb : P ≤ X := by omega
        have hPb1 : ¬ X = P := by omega
        have hT4 : 4 ≤ T := by omega
        have hT1 : ¬ T = 4 := by omega
        have hEO : (n : Int) - X + P = (E : Int) := by omega
        have HP := Lib.hid (And.intro hmm (And.intro hP (And.intro hT (And.intro hmb hmE))))
        clear hmm hP hT hmb hmE
        go_wp2_with (first
          | (at_make; refine wpList_make_full _ rfl _ _ 46 rfl W.heap.size 5 i0 (.int .u8 0) 1 Tryz.underlying46 hi hz0 hz1 .i64 .i64 _ _ X rfl rfl rfl rfl (by rw [hz2]; omega) (by unfold maxLen; omega) (Nat.le_refl _) ?_; intro w0 hown hgr
             obtain ⟨cur, hcur, hcs, hlt0⟩ := row_of_own hown
             have hb0 : Below W.heap.size W w0 := (Below.refl _ _).grown hgr (Nat.le_refl _) (fun q hq => by cases hq)
             have HRA := Lib.hid (read_part rb s (n - X) X W.heap.size cur ((n : Int) - X) (by omega) (by have := HM.out; omega) w0 ((hb0.cell (p := ⟨rb, 0, none⟩) (by show rb < _; omega)).trans hrw) hcur hcs)
             have HB0 := Lib.hid hb0
             clear hown hgr hcur hb0)
          | (go_at_call 114; refine HRA.out.mono ?_; rintro e w1 ⟨rfl, hD, hK⟩
             have hD' : Blk w1 W.heap.size 5 ((s.drop m).map byteV).toArray := by rw [HP.out.1]; exact hD
             have HFI := Lib.hid (find_dre HN.out W.heap.size m X P HP.out.2.1 (by have := HM.out; have := HP.out; omega) HP.out.2.2.2.2 hD')
             have HD := Lib.hid hD'
             have HK := Lib.hid hK
             clear hD hD' hK)
          | (go_at_call 48; refine HFI.out.mono ?_; rintro e w2 ⟨rfl, hb2⟩
             have HD2 := Lib.hid (HD.out.below hb2 HD.out.lt)
             have HB2 := Lib.hid (dir_world HB.out HB0.out HK.out hb2 (by omega))
             clear hb2))
        have hGR : W.heap.size ≠ w2.heap.size := Nat.ne_of_lt HD2.out.lt
        have hlm : (s.drop m).length = X := by rw [List.length_drop]; have := HM.out; have := HP.out; omega
        have hnum : ∀ a v k, numL (sub s (E + a) k) = v → numL (sub (s.drop m) (P + a) k) = v := fun a v k h => by rw [sub_drop, show m + (P + a) = E + a by have := HP.out; omega]; exact h
        have HNUM := Lib.hid (And.intro hnum hlm)
        clear hnum hlm
        have HX3 := Lib.hid (And.intro (Blk.new w2 113 #[.slice (some ⟨W.heap.size, P + 4, none⟩) (T - 4) (T - 4)]) (And.intro (HD2.out.alloc (.cells #[.slice (some ⟨W.heap.size, P + 4, none⟩) (T - 4) (T - 4)] 113)) ((Kept.refl [] w2).alloc (.cells #[.slice (some ⟨W.heap.size, P + 4, none⟩) (T - 4) (T - 4)] 113))))
        refine (rb16 (o := P + 4) (n := T - 4) (c := T - 4) HX3.out.1 HX3.out.2.1 (by have := HP.out; omega) (by omega) (by have := HNUM.out.2; have := HP.out; omega) (0) (HNUM.out.1 _ _ _ HN.out.n4)).mono ?_
        rintro e w4 ⟨rfl, ⟨o4, ho4, hr4⟩, hk4⟩
        obtain rfl : o4 = P + 6 := ho4.out (by have := HP.out; omega)
        rw [show T - 4 - 2 = T - 6 by omega] at hr4
        have HX4 := Lib.hid (And.intro hr4 (And.intro (hk4.blk HX3.out.2.1 (by simpa using hGR)) (HX3.out.2.2.trans' hk4 (fun x hx => .inr (by simp at hx; omega)))))
        clear hr4 hk4 ho4
        go_wp2_with fail
        refine (rb16 (o := P + 6) (n := T - 6) (c := T - 6) HX4.out.1 HX4.out.2.1 (by have := HP.out; omega) (by omega) (by have := HNUM.out.2; have := HP.out; omega) (0) (HNUM.out.1 _ _ _ HN.out.n6)).mono ?_
        rintro e w5 ⟨rfl, ⟨o5, ho5, hr5⟩, hk5⟩
        obtain rfl : o5 = P + 8 := ho5.out (by have := HP.out; omega)
        rw [show T - 6 - 2 = T - 8 by omega] at hr5
        have HX5 := Lib.hid (And.intro hr5 (And.intro (hk5.blk HX4.out.2.1 (by simpa using hGR)) (HX4.out.2.2.trans' hk5 (fun x hx => .inr (by simp at hx; omega)))))
        clear hr5 hk5 ho5
        go_wp2_with fail
        refine (rb16 (o := P + 8) (n := T - 8) (c := T - 8) HX5.out.1 HX5.out.2.1 (by have := HP.out; omega) (by omega) (by have := HNUM.out.2; have := HP.out; omega) (N) (HNUM.out.1 _ _ _ HN.out.n8)).mono ?_
        rintro e w6 ⟨rfl, ⟨o6, ho6, hr6⟩, hk6⟩
        obtain rfl : o6 = P + 10 := ho6.out (by have := HP.out; omega)
        rw [show T - 8 - 2 = T - 10 by omega] at hr6
        have HX6 := Lib.hid (And.intro hr6 (And.intro (hk6.blk HX5.out.2.1 (by simpa using hGR)) (HX5.out.2.2.trans' hk6 (fun x hx => .inr (by simp at hx; omega)))))
        clear hr6 hk6 ho6
        go_wp2_with fail
        refine (rb16 (o := P + 10) (n := T - 10) (c := T - 10) HX6.out.1 HX6.out.2.1 (by have := HP.out; omega) (by omega) (by have := HNUM.out.2; have := HP.out; omega) (N) (HNUM.out.1 _ _ _ HN.out.n10)).mono ?_
        rintro e w7 ⟨rfl, ⟨o7, ho7, hr7⟩, hk7⟩
        obtain rfl : o7 = P + 12 := ho7.out (by have := HP.out; omega)
        rw [show T - 10 - 2 = T - 12 by omega] at hr7
        have HX7 := Lib.hid (And.intro hr7 (And.intro (hk7.blk HX6.out.2.1 (by simpa using hGR)) (HX6.out.2.2.trans' hk7 (fun x hx => .inr (by simp at hx; omega)))))
        clear hr7 hk7 ho7
        go_wp2_with fail
        refine (rb32 (o := P + 12) (n := T - 12) (c := T - 12) HX7.out.1 HX7.out.2.1 (by have := HP.out; omega) (by omega) (by have := HNUM.out.2; have := HP.out; omega) (D) (HNUM.out.1 _ _ _ HN.out.n12)).mono ?_
        rintro e w8 ⟨rfl, ⟨o8, ho8, hr8⟩, hk8⟩
        obtain rfl : o8 = P + 16 := ho8.out (by have := HP.out; omega)
        rw [show T - 12 - 4 = T - 16 by omega] at hr8
        have HX8 := Lib.hid (And.intro hr8 (And.intro (hk8.blk HX7.out.2.1 (by simpa using hGR)) (HX7.out.2.2.trans' hk8 (fun x hx => .inr (by simp at hx; omega)))))
        clear hr8 hk8 ho8
        go_wp2_with fail
        refine (rb32 (o := P + 16) (n := T - 16) (c := T - 16) HX8.out.1 HX8.out.2.1 (by have := HP.out; omega) (by omega) (by have := HNUM.out.2; have := HP.out; omega) (F) (HNUM.out.1 _ _ _ HN.out.n16)).mono ?_
        rintro e w9 ⟨rfl, ⟨o9, ho9, hr9⟩, hk9⟩
        obtain rfl : o9 = P + 20 := ho9.out (by have := HP.out; omega)
        rw [show T - 16 - 4 = T - 20 by omega] at hr9
        have HX9 := Lib.hid (And.intro hr9 (And.intro (hk9.blk HX8.out.2.1 (by simpa using hGR)) (HX8.out.2.2.trans' hk9 (fun x hx => .inr (by simp at hx; omega)))))
        clear hr9 hk9 ho9
        go_wp2_with fail
        refine (rb16 (o := P + 20) (n := T - 20) (c := T - 20) HX9.out.1 HX9.out.2.1 (by have := HP.out; omega) (by omega) (by have := HNUM.out.2; have := HP.out; omega) (c.length) (HNUM.out.1 _ _ _ HN.out.n20)).mono ?_
        rintro e w10 ⟨rfl, ⟨o10, ho10, hr10⟩, hk10⟩
        rw [show T - 20 - 2 = c.length by have := HP.out; omega] at hr10
        have HX10 := Lib.hid (And.intro hr10 (And.intro (hk10.blk HX9.out.2.1 (by simpa using hGR)) (HX9.out.2.2.trans' hk10 (fun x hx => .inr (by simp at hx; omega)))))
        have hbc : BytesAt w10 ⟨W.heap.size, o10, none⟩ c := tail_bytes2 (m := m) (P := P) HN.out (by have := HP.out; omega) HX10.out.2.1 (fun h => (ho10.out (by have := HP.out; omega)).trans (by omega))
        have hG10 : W.heap.size < w10.heap.size := HX10.out.2.1.lt
        have hR10 : w2.heap.size < w10.heap.size := HX10.out.1.lt
        have hcl : w10.cell? ⟨w2.heap.size, 0, none⟩ = some (.slice (some ⟨W.heap.size, o10, none⟩) c.length c.length) := HX10.out.1.cell 0
        have hconv := fun ob => conv_str (w := w10.alloc ob) (hbc.below ((Below.refl w10.heap.size w10).alloc (Nat.le_refl _) ob) hG10) rfl (cap := c.length)
        clear hr10 hk10 ho10 hbc
        have wN : IntKind.u64.wrap (N : Int) = (N : Int) := by rw [IntKind.wrap_u64]; omega
        have wD : IntKind.u64.wrap (D : Int) = (D : Int) := by rw [IntKind.wrap_u64]; have := HM.out; omega
        have wF : IntKind.u64.wrap (F : Int) = (F : Int) := by rw [IntKind.wrap_u64]; have := HM.out; omega
        have vD : IntKind.i64.wrap (D : Int) = (D : Int) := IntWalk.i64_in _ (by have := HM.out; omega)
        have vF : IntKind.i64.wrap (F : Int) = (F : Int) := IntWalk.i64_in _ (by have := HM.out; omega)
        have bN : ((N : Int) == 65535) = false := by simp; omega
        have bD : ((D : Int) == 4294967295) = false := by have := HM.out; simp; omega
        have bF : ((F : Int) == 4294967295) = false := by have := HM.out; simp; omega
        have cD : ¬ ((9223372036854775807 : Int) < D) := by have := HM.out; omega
        have cF : ¬ ((9223372036854775807 : Int) < F) := by have := HM.out; omega
        have hcc : c.length ≤ 65535 := HM.out.2.2.2.1
        have eD : (E : Int) - D = (F : Int) := by have := HM.out; have := HP.out; omega
        have hF9 : ¬ ((n : Int) ≤ (F : Int)) := by have := HM.out; omega
        have hF8 : ¬ (n ≤ F) := by have := HM.out; omega
        clear hX1 hX2 hnlo hnhi
        go_wp2
        go_quiet (fail)
        go_wp2
        go_ret3
        refine ⟨w10.heap.size, rfl, ?_, (Blk.new w10 _ _).drewN _, ?_⟩
        · have z2 := HB2.out.size
          have z10 := HX10.out.2.2.size
          simp at z2
          omega
        · have z2 := HB2.out.size
          simp at z2
          have h2 : Below w.heap.size w w2 := below_new (by simpa using HB2.out)
          exact below_drewN ((h2.trans (HX10.out.2.2.to_below (by omega) (by simp))).alloc (by have := HX10.out.2.2.size; omega) _) _
      · obtain rfl : k = 0 := by
          rcases (show k = 0 ∨ k = 1 by omega) with rfl | rfl
          · rfl
          · have := HX3.out rfl; omega
        have hnX : 0 ≤ (n : Int) - X := by omega
        have hne : ((X : Int) == (n : Int)) = false := by simp; omega
        clear hnhi
        go_wp2_with (first
          | (at_make; refine wpList_make_full _ rfl _ _ 46 rfl W.heap.size 5 i0 (.int .u8 0) 1 Tryz.underlying46 hi hz0 hz1 .i64 .i64 _ _ X rfl rfl rfl rfl (by rw [hz2]; omega) (by unfold maxLen; omega) (Nat.le_refl _) ?_; intro w0 hown hgr
             obtain ⟨cur, hcur, hcs, hlt0⟩ := row_of_own hown
             have hb0 : Below W.heap.size W w0 := (Below.refl _ _).grown hgr (Nat.le_refl _) (fun q hq => by cases hq)
             have HRA := Lib.hid (read_part rb s (n - X) X W.heap.size cur ((n : Int) - X) (by omega) (by have := HM.out; omega) w0 ((hb0.cell (p := ⟨rb, 0, none⟩) (by show rb < _; omega)).trans hrw) hcur hcs)
             have HB0 := Lib.hid hb0
             clear hown hgr hcur hb0)
          | (go_at_call 114; refine HRA.out.mono ?_; rintro e w1 ⟨rfl, hD, hK⟩
             have HFI := Lib.hid (find_dre_no HN.out W.heap.size (n - X) X (by have := HM.out; omega) (by omega) hD)
             have HD := Lib.hid hD
             have HK := Lib.hid hK
             clear hD hK)
          | (go_at_call 48; refine HFI.out.mono ?_; rintro e w2 ⟨rfl, hb2⟩
             have HB2 := Lib.hid (dir_world HB.out HB0.out HK.out hb2 (by omega))
             clear hb2))
        go_roundw
        case rel => exact ⟨1, Nat.le_refl _, rfl, HB2⟩
        case measure => simp [intOf]
end Go.Proofs.YtfagjhgmmaebfaaGreatDoor
