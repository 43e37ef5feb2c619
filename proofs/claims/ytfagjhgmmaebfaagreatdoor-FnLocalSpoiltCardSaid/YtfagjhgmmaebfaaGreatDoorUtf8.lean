/- Contracts on UTF-8: spec.Within, spec.rune1. -/
import Derived.Test.YtfagjhgmmaebfaaGreatDoorDetect
namespace Go.Proofs.YtfagjhgmmaebfaaGreatDoor
open Go.RowKit
theorem Within_any (n lo hi : Int) (w : World) : Calls Tryz.prog 32 #[.int .i64 n, .int .i64 lo, .int .i64 hi] w fun e w' => e = .returned (.bool (decide (lo ≤ n ∧ n ≤ hi))) ∧ w = w' := by
  by_cases h1 : lo ≤ n <;> by_cases h2 : n ≤ hi
  all_goals
    go_enter Tryz.func32, Tryz.ntmps32
    go_wp2
    go_ret
    exact ⟨by simp [h1, h2], rfl⟩
theorem Within_yes (n lo hi : Int) (h1 : lo ≤ n) (h2 : n ≤ hi) (w : World) : Calls Tryz.prog 32 #[.int .i64 n, .int .i64 lo, .int .i64 hi] w fun e w' => e = .returned (.bool true) ∧ w = w' := by
  have := Within_any n lo hi w
  rw [decide_eq_true ⟨h1, h2⟩] at this; exact this
theorem Within_no (n lo hi : Int) (h : ¬ (lo ≤ n ∧ n ≤ hi)) (w : World) : Calls Tryz.prog 32 #[.int .i64 n, .int .i64 lo, .int .i64 hi] w fun e w' => e = .returned (.bool false) ∧ w = w' := by
  have := Within_any n lo hi w
  rw [decide_eq_false h] at this; exact this


set_option maxRecDepth 100000 in
set_option maxHeartbeats 400000 in
theorem rune1_1 (b : UInt8) (t : List UInt8) (h : b.toNat < 128) (_hmax : t.length ≤ 4294967295) (w : World) : Calls Tryz.prog 45 #[.string ⟨(b :: t).toArray⟩] w fun e w' => e = .returned (.int .i64 (rune1N (b :: t))) ∧ w = w' := by
  have hr : Hid (rune1N (b :: t) = 1) := Lib.hid (by simp only [rune1N]; rw [if_pos h])
  obtain ⟨s, hs, hsz, hp, hb0⟩ := named b t
  have hx : (s[0]'hp).toNat < 128 := by rw [hb0]; exact h
  rw [← hs]
  clear h hs hb0
  go_enter Tryz.func45, Tryz.ntmps45
  go_wp2_with fail
  go_ret
  exact ⟨by rw [hr.out]; rfl, rfl⟩
theorem head_none {c : Nat} (h : headR c = none) : ¬ (194 ≤ c ∧ c ≤ 223) ∧ ¬ (224 ≤ c ∧ c ≤ 239) ∧ ¬ (240 ≤ c ∧ c ≤ 244) := by
  unfold headR at h
  refine ⟨fun q => ?_, fun q => ?_, fun q => ?_⟩
  · rw [if_pos q] at h; cases h
  · rw [if_neg (by omega), if_pos q] at h; cases h
  · rw [if_neg (by omega), if_neg (by omega), if_pos q] at h; cases h
set_option maxRecDepth 100000 in
set_option maxHeartbeats 400000 in
theorem rune1_none (b : UInt8) (t : List UInt8) (h : ¬ b.toNat < 128) (hn : headR b.toNat = none) (_hmax : t.length ≤ 4294967295) (w : World) : Calls Tryz.prog 45 #[.string ⟨(b :: t).toArray⟩] w fun e w' => e = .returned (.int .i64 (rune1N (b :: t))) ∧ w = w' := by
  have hr : Hid (rune1N (b :: t) = 0) := Lib.hid (by simp only [rune1N]; rw [if_neg h, hn])
  obtain ⟨n1, n2, n3⟩ := head_none hn
  have hb : b.toNat ≤ 255 := by have := UInt8.toNat_lt b; omega
  obtain ⟨s, hs, hsz, hp, hb0⟩ := named b t
  rw [← hb0] at h n1 n2 n3 hb
  rw [← hs]
  clear hn hs hb0
  go_enter Tryz.func45, Tryz.ntmps45
  go_wp2_with fail
  refine (Within_no _ _ _ (by omega) _).mono ?_
  rintro e w' ⟨rfl, rfl⟩
  go_wp2_with fail
  refine (Within_no _ _ _ (by omega) _).mono ?_
  rintro e w' ⟨rfl, rfl⟩
  go_wp2_with fail
  refine (Within_no _ _ _ (by omega) _).mono ?_
  rintro e w' ⟨rfl, rfl⟩
  go_wp2_with fail
  go_ret
  exact ⟨by rw [hr.out]; rfl, rfl⟩
/-- The signs that are left, from byte k on. -/
def leftR (t : List UInt8) (n k c : Nat) : Option Nat := contR ((t.drop (k - 1)).take (n - k)) c
theorem leftR_end (t : List UInt8) (n c : Nat) : leftR t n n c = some c := by unfold leftR; simp [contR]
theorem leftR_step {t : List UInt8} {n k c : Nat} (h1 : 1 ≤ k) (hk : k < n) (hl : n ≤ t.length + 1) : leftR t n k c = if 128 ≤ (t[k - 1]'(by omega)).toNat ∧ (t[k - 1]'(by omega)).toNat ≤ 191 then leftR t n (k + 1) (c * 64 + (t[k - 1]'(by omega)).toNat - 128) else none := by
  unfold leftR
  rw [List.drop_eq_getElem_cons (by omega), show n - k = (n - (k + 1)) + 1 by omega, List.take_succ_cons, contR, show k - 1 + 1 = k + 1 - 1 by omega]
def bdR : Nat → Nat
  | 1 => 31
  | 2 => 2047
  | 3 => 131071
  | _ => 8388607
theorem bdR_le (k : Nat) : bdR k ≤ 8388607 := by unfold bdR; split <;> omega
theorem bdR_step {k c x : Nat} (h1 : 1 ≤ k) (h : k ≤ 3) (hc : c ≤ bdR k) (hx : x ≤ 191) : c * 64 + x - 128 ≤ bdR (k + 1) ∧ c ≤ 131071 := by
  have : k = 1 ∨ k = 2 ∨ k = 3 := by omega
  rcases this with rfl | rfl | rfl <;> simp only [bdR] at * <;> omega

set_option maxRecDepth 100000 in
set_option maxHeartbeats 1000000 in
theorem rune1_2 (b : UInt8) (t : List UInt8) (hlo : 194 ≤ b.toNat) (hhi : b.toNat ≤ 223) (hmax : t.length ≤ 4294967295) (w : World) : Calls Tryz.prog 45 #[.string ⟨(b :: t).toArray⟩] w fun e w' => e = .returned (.int .i64 (rune1N (b :: t))) ∧ w = w' := by
  have hh : headR b.toNat = some (2, 192, 128) := by
    unfold headR
    rw [if_pos ⟨hlo, hhi⟩]
  have hr : rune1N (b :: t) = if t.length + 1 < 2 then 0 else match leftR t 2 1 (b.toNat - 192) with | none => 0 | some c => finR 2 128 c := by
    simp only [rune1N]; rw [if_neg (by omega), hh]; rfl
  obtain ⟨s, hs, hsz, hp, hb0⟩ := named b t
  rw [← hb0] at hlo hhi
  rw [← hs]
  have HS := Lib.hid hs
  have HB := Lib.hid hb0
  clear hh hs hb0
  by_cases hlen : t.length + 1 < 2
  · rw [if_pos hlen] at hr
    have HR := Lib.hid hr
    clear hr
    go_enter Tryz.func45, Tryz.ntmps45
    go_wp2_with fail
    refine (Within_yes _ _ _ (by omega) (by omega) _).mono ?_
    rintro e w' ⟨rfl, rfl⟩
    go_wp2_with fail
    go_ret
    exact ⟨by rw [HR.out]; rfl, rfl⟩
  · rw [if_neg hlen] at hr
    have HR := Lib.hid hr
    clear hr
    go_enter Tryz.func45, Tryz.ntmps45
    go_wp2_with fail
    refine (Within_yes _ _ _ (by omega) (by omega) _).mono ?_
    rintro e w' ⟨rfl, rfl⟩
    go_wp2_with fail
    go_loop [3, 6] (fun s3 s6 => ∃ k c : Nat, s3 = .int .i64 c ∧ s6 = .int .i64 k ∧ 1 ≤ k ∧ k ≤ 2 ∧ c ≤ bdR k ∧ Hid (leftR t 2 1 (b.toNat - 192) = leftR t 2 k c)) (fun _ s6 => (2 - intOf s6).toNat)
    case atStart =>
      refine ⟨1, b.toNat - 192, ?_, rfl, by omega, by omega, ?_, Lib.hid rfl⟩
      · rw [← HB.out, show (((s[0]'hp).toNat - 192 : Nat) : Int) = ((s[0]'hp).toNat : Int) - 192 by omega]
      · show b.toNat - 192 ≤ 31
        rw [← HB.out]; omega
    case round =>
      obtain ⟨k, c, rfl, rfl, hk1, hkn, hcb, HL⟩ := hrel
      have hcm := bdR_le k
      by_cases hlt : k < 2
      · have hx := leftR_step (t := t) (n := 2) (c := c) hk1 hlt (by omega)
        have hks : k < s.size := by omega
        have hxe : (t[k - 1]'(by omega)).toNat = (s[k]'hks).toNat := by
          have : ∀ s' : ByteArray, s' = ⟨(b :: t).toArray⟩ → ∀ h : k < s'.size, (t[k - 1]'(by omega)).toNat = (s'[k]'h).toNat := by
            rintro s' rfl h
            show _ = ((b :: t)[k]'(by simp; omega)).toNat
            rw [List.getElem_cons, dif_neg (by omega)]
          exact this s HS.out hks
        rw [hxe] at hx
        have hx2 : (s[k]'hks).toNat ≤ 255 := by have := UInt8.toNat_lt (s[k]'hks); omega
        by_cases q : 128 ≤ (s[k]'hks).toNat ∧ (s[k]'hks).toNat ≤ 191
        · rw [if_pos q] at hx
          have hst := bdR_step hk1 (by omega) hcb q.2
          have HN := Lib.hid (HL.out.trans hx)
          obtain ⟨q1, q2⟩ := q
          clear hx hxe HL
          go_wp2_with fail
          refine (Within_yes _ _ _ (by omega) (by omega) _).mono ?_
          rintro e w' ⟨rfl, rfl⟩
          go_wp2_with fail
          go_round
          case rel => exact ⟨k + 1, c * 64 + (s[k]'hks).toNat - 128, by go_num, by go_num, by omega, by omega, hst.1, HN⟩
          case measure => simp [intOf]; omega
        · rw [if_neg q] at hx
          have HN := Lib.hid (HL.out.trans hx)
          clear hx hxe HL
          go_wp2_with fail
          refine (Within_no _ _ _ (by omega) _).mono ?_
          rintro e w' ⟨rfl, rfl⟩
          go_wp2_with fail
          go_ret
          exact ⟨by rw [HR.out, HN.out]; rfl, rfl⟩
      · obtain rfl : k = 2 := by omega
        rw [leftR_end] at HL
        by_cases q1 : c < 128 ∨ 1114111 < c
        · have HF : Hid (rune1N (b :: t) = 0) := Lib.hid (by rw [HR.out, HL.out]; show finR 2 128 c = 0; unfold finR; rw [if_pos (by omega)])
          clear HR HL
          rcases q1 with q1 | q1
          · go_wp2_with fail
            go_ret
            exact ⟨by rw [HF.out]; rfl, rfl⟩
          · have q2 : ¬ c < 128 := by omega
            go_wp2_with fail
            go_ret
            exact ⟨by rw [HF.out]; rfl, rfl⟩
        · by_cases q2 : 55296 ≤ c ∧ c ≤ 57343
          · have HF : Hid (rune1N (b :: t) = 0) := Lib.hid (by rw [HR.out, HL.out]; show finR 2 128 c = 0; unfold finR; rw [if_pos (by omega)])
            clear HR HL
            go_wp2_with fail
            refine (Within_yes _ _ _ (by omega) (by omega) _).mono ?_
            rintro e w' ⟨rfl, rfl⟩
            go_wp2_with fail
            go_ret
            exact ⟨by rw [HF.out]; rfl, rfl⟩
          · have HF : Hid (rune1N (b :: t) = 2) := Lib.hid (by rw [HR.out, HL.out]; show finR 2 128 c = 2; unfold finR; rw [if_neg (by omega)])
            clear HR HL
            go_wp2_with fail
            refine (Within_no _ _ _ (by omega) _).mono ?_
            rintro e w' ⟨rfl, rfl⟩
            go_wp2_with fail
            go_ret
            exact ⟨by rw [HF.out]; rfl, rfl⟩

set_option maxRecDepth 100000 in
set_option maxHeartbeats 1000000 in
theorem rune1_3 (b : UInt8) (t : List UInt8) (hlo : 224 ≤ b.toNat) (hhi : b.toNat ≤ 239) (hmax : t.length ≤ 4294967295) (w : World) : Calls Tryz.prog 45 #[.string ⟨(b :: t).toArray⟩] w fun e w' => e = .returned (.int .i64 (rune1N (b :: t))) ∧ w = w' := by
  have hh : headR b.toNat = some (3, 224, 2048) := by
    unfold headR
    rw [if_neg (by omega), if_pos ⟨hlo, hhi⟩]
  have hr : rune1N (b :: t) = if t.length + 1 < 3 then 0 else match leftR t 3 1 (b.toNat - 224) with | none => 0 | some c => finR 3 2048 c := by
    simp only [rune1N]; rw [if_neg (by omega), hh]; rfl
  obtain ⟨s, hs, hsz, hp, hb0⟩ := named b t
  rw [← hb0] at hlo hhi
  rw [← hs]
  have HS := Lib.hid hs
  have HB := Lib.hid hb0
  clear hh hs hb0
  by_cases hlen : t.length + 1 < 3
  · rw [if_pos hlen] at hr
    have HR := Lib.hid hr
    clear hr
    go_enter Tryz.func45, Tryz.ntmps45
    go_wp2_with fail
    refine (Within_no _ _ _ (by omega) _).mono ?_
    rintro e w' ⟨rfl, rfl⟩
    go_wp2_with fail
    refine (Within_yes _ _ _ (by omega) (by omega) _).mono ?_
    rintro e w' ⟨rfl, rfl⟩
    go_wp2_with fail
    go_ret
    exact ⟨by rw [HR.out]; rfl, rfl⟩
  · rw [if_neg hlen] at hr
    have HR := Lib.hid hr
    clear hr
    go_enter Tryz.func45, Tryz.ntmps45
    go_wp2_with fail
    refine (Within_no _ _ _ (by omega) _).mono ?_
    rintro e w' ⟨rfl, rfl⟩
    go_wp2_with fail
    refine (Within_yes _ _ _ (by omega) (by omega) _).mono ?_
    rintro e w' ⟨rfl, rfl⟩
    go_wp2_with fail
    go_loop [3, 6] (fun s3 s6 => ∃ k c : Nat, s3 = .int .i64 c ∧ s6 = .int .i64 k ∧ 1 ≤ k ∧ k ≤ 3 ∧ c ≤ bdR k ∧ Hid (leftR t 3 1 (b.toNat - 224) = leftR t 3 k c)) (fun _ s6 => (3 - intOf s6).toNat)
    case atStart =>
      refine ⟨1, b.toNat - 224, ?_, rfl, by omega, by omega, ?_, Lib.hid rfl⟩
      · rw [← HB.out, show (((s[0]'hp).toNat - 224 : Nat) : Int) = ((s[0]'hp).toNat : Int) - 224 by omega]
      · show b.toNat - 224 ≤ 31
        rw [← HB.out]; omega
    case round =>
      obtain ⟨k, c, rfl, rfl, hk1, hkn, hcb, HL⟩ := hrel
      have hcm := bdR_le k
      by_cases hlt : k < 3
      · have hx := leftR_step (t := t) (n := 3) (c := c) hk1 hlt (by omega)
        have hks : k < s.size := by omega
        have hxe : (t[k - 1]'(by omega)).toNat = (s[k]'hks).toNat := by
          have : ∀ s' : ByteArray, s' = ⟨(b :: t).toArray⟩ → ∀ h : k < s'.size, (t[k - 1]'(by omega)).toNat = (s'[k]'h).toNat := by
            rintro s' rfl h
            show _ = ((b :: t)[k]'(by simp; omega)).toNat
            rw [List.getElem_cons, dif_neg (by omega)]
          exact this s HS.out hks
        rw [hxe] at hx
        have hx2 : (s[k]'hks).toNat ≤ 255 := by have := UInt8.toNat_lt (s[k]'hks); omega
        by_cases q : 128 ≤ (s[k]'hks).toNat ∧ (s[k]'hks).toNat ≤ 191
        · rw [if_pos q] at hx
          have hst := bdR_step hk1 (by omega) hcb q.2
          have HN := Lib.hid (HL.out.trans hx)
          obtain ⟨q1, q2⟩ := q
          clear hx hxe HL
          go_wp2_with fail
          refine (Within_yes _ _ _ (by omega) (by omega) _).mono ?_
          rintro e w' ⟨rfl, rfl⟩
          go_wp2_with fail
          go_round
          case rel => exact ⟨k + 1, c * 64 + (s[k]'hks).toNat - 128, by go_num, by go_num, by omega, by omega, hst.1, HN⟩
          case measure => simp [intOf]; omega
        · rw [if_neg q] at hx
          have HN := Lib.hid (HL.out.trans hx)
          clear hx hxe HL
          go_wp2_with fail
          refine (Within_no _ _ _ (by omega) _).mono ?_
          rintro e w' ⟨rfl, rfl⟩
          go_wp2_with fail
          go_ret
          exact ⟨by rw [HR.out, HN.out]; rfl, rfl⟩
      · obtain rfl : k = 3 := by omega
        rw [leftR_end] at HL
        by_cases q1 : c < 2048 ∨ 1114111 < c
        · have HF : Hid (rune1N (b :: t) = 0) := Lib.hid (by rw [HR.out, HL.out]; show finR 3 2048 c = 0; unfold finR; rw [if_pos (by omega)])
          clear HR HL
          rcases q1 with q1 | q1
          · go_wp2_with fail
            go_ret
            exact ⟨by rw [HF.out]; rfl, rfl⟩
          · have q2 : ¬ c < 2048 := by omega
            go_wp2_with fail
            go_ret
            exact ⟨by rw [HF.out]; rfl, rfl⟩
        · by_cases q2 : 55296 ≤ c ∧ c ≤ 57343
          · have HF : Hid (rune1N (b :: t) = 0) := Lib.hid (by rw [HR.out, HL.out]; show finR 3 2048 c = 0; unfold finR; rw [if_pos (by omega)])
            clear HR HL
            go_wp2_with fail
            refine (Within_yes _ _ _ (by omega) (by omega) _).mono ?_
            rintro e w' ⟨rfl, rfl⟩
            go_wp2_with fail
            go_ret
            exact ⟨by rw [HF.out]; rfl, rfl⟩
          · have HF : Hid (rune1N (b :: t) = 3) := Lib.hid (by rw [HR.out, HL.out]; show finR 3 2048 c = 3; unfold finR; rw [if_neg (by omega)])
            clear HR HL
            go_wp2_with fail
            refine (Within_no _ _ _ (by omega) _).mono ?_
            rintro e w' ⟨rfl, rfl⟩
            go_wp2_with fail
            go_ret
            exact ⟨by rw [HF.out]; rfl, rfl⟩

set_option maxRecDepth 100000 in
set_option maxHeartbeats 1000000 in
theorem rune1_4 (b : UInt8) (t : List UInt8) (hlo : 240 ≤ b.toNat) (hhi : b.toNat ≤ 244) (hmax : t.length ≤ 4294967295) (w : World) : Calls Tryz.prog 45 #[.string ⟨(b :: t).toArray⟩] w fun e w' => e = .returned (.int .i64 (rune1N (b :: t))) ∧ w = w' := by
  have hh : headR b.toNat = some (4, 240, 65536) := by
    unfold headR
    rw [if_neg (by omega), if_neg (by omega), if_pos ⟨hlo, hhi⟩]
  have hr : rune1N (b :: t) = if t.length + 1 < 4 then 0 else match leftR t 4 1 (b.toNat - 240) with | none => 0 | some c => finR 4 65536 c := by
    simp only [rune1N]; rw [if_neg (by omega), hh]; rfl
  obtain ⟨s, hs, hsz, hp, hb0⟩ := named b t
  rw [← hb0] at hlo hhi
  rw [← hs]
  have HS := Lib.hid hs
  have HB := Lib.hid hb0
  clear hh hs hb0
  by_cases hlen : t.length + 1 < 4
  · rw [if_pos hlen] at hr
    have HR := Lib.hid hr
    clear hr
    go_enter Tryz.func45, Tryz.ntmps45
    go_wp2_with fail
    refine (Within_no _ _ _ (by omega) _).mono ?_
    rintro e w' ⟨rfl, rfl⟩
    go_wp2_with fail
    refine (Within_no _ _ _ (by omega) _).mono ?_
    rintro e w' ⟨rfl, rfl⟩
    go_wp2_with fail
    refine (Within_yes _ _ _ (by omega) (by omega) _).mono ?_
    rintro e w' ⟨rfl, rfl⟩
    go_wp2_with fail
    go_ret
    exact ⟨by rw [HR.out]; rfl, rfl⟩
  · rw [if_neg hlen] at hr
    have HR := Lib.hid hr
    clear hr
    go_enter Tryz.func45, Tryz.ntmps45
    go_wp2_with fail
    refine (Within_no _ _ _ (by omega) _).mono ?_
    rintro e w' ⟨rfl, rfl⟩
    go_wp2_with fail
    refine (Within_no _ _ _ (by omega) _).mono ?_
    rintro e w' ⟨rfl, rfl⟩
    go_wp2_with fail
    refine (Within_yes _ _ _ (by omega) (by omega) _).mono ?_
    rintro e w' ⟨rfl, rfl⟩
    go_wp2_with fail
    go_loop [3, 6] (fun s3 s6 => ∃ k c : Nat, s3 = .int .i64 c ∧ s6 = .int .i64 k ∧ 1 ≤ k ∧ k ≤ 4 ∧ c ≤ bdR k ∧ Hid (leftR t 4 1 (b.toNat - 240) = leftR t 4 k c)) (fun _ s6 => (4 - intOf s6).toNat)
    case atStart =>
      refine ⟨1, b.toNat - 240, ?_, rfl, by omega, by omega, ?_, Lib.hid rfl⟩
      · rw [← HB.out, show (((s[0]'hp).toNat - 240 : Nat) : Int) = ((s[0]'hp).toNat : Int) - 240 by omega]
      · show b.toNat - 240 ≤ 31
        rw [← HB.out]; omega
    case round =>
      obtain ⟨k, c, rfl, rfl, hk1, hkn, hcb, HL⟩ := hrel
      have hcm := bdR_le k
      by_cases hlt : k < 4
      · have hx := leftR_step (t := t) (n := 4) (c := c) hk1 hlt (by omega)
        have hks : k < s.size := by omega
        have hxe : (t[k - 1]'(by omega)).toNat = (s[k]'hks).toNat := by
          have : ∀ s' : ByteArray, s' = ⟨(b :: t).toArray⟩ → ∀ h : k < s'.size, (t[k - 1]'(by omega)).toNat = (s'[k]'h).toNat := by
            rintro s' rfl h
            show _ = ((b :: t)[k]'(by simp; omega)).toNat
            rw [List.getElem_cons, dif_neg (by omega)]
          exact this s HS.out hks
        rw [hxe] at hx
        have hx2 : (s[k]'hks).toNat ≤ 255 := by have := UInt8.toNat_lt (s[k]'hks); omega
        by_cases q : 128 ≤ (s[k]'hks).toNat ∧ (s[k]'hks).toNat ≤ 191
        · rw [if_pos q] at hx
          have hst := bdR_step hk1 (by omega) hcb q.2
          have HN := Lib.hid (HL.out.trans hx)
          obtain ⟨q1, q2⟩ := q
          clear hx hxe HL
          go_wp2_with fail
          refine (Within_yes _ _ _ (by omega) (by omega) _).mono ?_
          rintro e w' ⟨rfl, rfl⟩
          go_wp2_with fail
          go_round
          case rel => exact ⟨k + 1, c * 64 + (s[k]'hks).toNat - 128, by go_num, by go_num, by omega, by omega, hst.1, HN⟩
          case measure => simp [intOf]; omega
        · rw [if_neg q] at hx
          have HN := Lib.hid (HL.out.trans hx)
          clear hx hxe HL
          go_wp2_with fail
          refine (Within_no _ _ _ (by omega) _).mono ?_
          rintro e w' ⟨rfl, rfl⟩
          go_wp2_with fail
          go_ret
          exact ⟨by rw [HR.out, HN.out]; rfl, rfl⟩
      · obtain rfl : k = 4 := by omega
        rw [leftR_end] at HL
        by_cases q1 : c < 65536 ∨ 1114111 < c
        · have HF : Hid (rune1N (b :: t) = 0) := Lib.hid (by rw [HR.out, HL.out]; show finR 4 65536 c = 0; unfold finR; rw [if_pos (by omega)])
          clear HR HL
          rcases q1 with q1 | q1
          · go_wp2_with fail
            go_ret
            exact ⟨by rw [HF.out]; rfl, rfl⟩
          · have q2 : ¬ c < 65536 := by omega
            go_wp2_with fail
            go_ret
            exact ⟨by rw [HF.out]; rfl, rfl⟩
        · by_cases q2 : 55296 ≤ c ∧ c ≤ 57343
          · exfalso; omega
          · have HF : Hid (rune1N (b :: t) = 4) := Lib.hid (by rw [HR.out, HL.out]; show finR 4 65536 c = 4; unfold finR; rw [if_neg (by omega)])
            clear HR HL
            go_wp2_with fail
            refine (Within_no _ _ _ (by omega) _).mono ?_
            rintro e w' ⟨rfl, rfl⟩
            go_wp2_with fail
            go_ret
            exact ⟨by rw [HF.out]; rfl, rfl⟩

theorem rune1_any (b : UInt8) (t : List UInt8) (hmax : t.length ≤ 4294967295) (w : World) : Calls Tryz.prog 45 #[.string ⟨(b :: t).toArray⟩] w fun e w' => e = .returned (.int .i64 (rune1N (b :: t))) ∧ w = w' := by
  by_cases h : b.toNat < 128
  · exact rune1_1 b t h hmax w
  · by_cases h2 : 194 ≤ b.toNat ∧ b.toNat ≤ 223
    · exact rune1_2 b t h2.1 h2.2 hmax w
    · by_cases h3 : 224 ≤ b.toNat ∧ b.toNat ≤ 239
      · exact rune1_3 b t h3.1 h3.2 hmax w
      · by_cases h4 : 240 ≤ b.toNat ∧ b.toNat ≤ 244
        · exact rune1_4 b t h4.1 h4.2 hmax w
        · exact rune1_none b t h (by unfold headR; rw [if_neg h2, if_neg h3, if_neg h4]) hmax w
end Go.Proofs.YtfagjhgmmaebfaaGreatDoor
