/- Contract: spec.Valid. -/
import Derived.Test.YtfagjhgmmaebfaaGreatDoorUtf8
namespace Go.Proofs.YtfagjhgmmaebfaaGreatDoor
open Go.RowKit
set_option maxRecDepth 100000 in
set_option maxHeartbeats 1000000 in
theorem Valid_any (l : List UInt8) (hmax : l.length ≤ 4294967295) (w : World) : Calls Tryz.prog 38 #[.string ⟨l.toArray⟩] w fun e w' => e = .returned (.tuple #[.bool (validL l).1, .bool (validL l).2]) ∧ w = w' := by
  obtain ⟨s, hs, hsz, hat, hex⟩ := nameds l
  rw [← hs]
  have HAT := Lib.hid hat
  have HEX := Lib.hid hex
  clear hs hat hex
  go_enter Tryz.func38, Tryz.ntmps38
  go_wp2_with fail
  go_loop [4, 5] (fun s4 s5 => ∃ (k f : Nat) (q : Bool), s4 = .bool q ∧ s5 = .int .i64 k ∧ k ≤ l.length ∧ l.length ≤ k + f ∧ Hid (validL l = valF f (l.drop k) q)) (fun _ s5 => l.length - (intOf s5).toNat)
  case atStart => exact ⟨0, l.length, false, rfl, rfl, Nat.zero_le _, by omega, Lib.hid (by rw [List.drop_zero]; rfl)⟩
  case round =>
    obtain ⟨k, f, q, rfl, rfl, hk, hf, HV⟩ := hrel
    by_cases hlt : k < l.length
    · obtain ⟨t, ht, htl⟩ := drop_cons l k hlt
      have hks : k < s.size := by omega
      have hx : (s[k]'hks).toNat = (l[k]).toNat := HAT.out k hlt hks
      have hext := HEX.out k
      rw [ht] at hext
      obtain ⟨b, hb⟩ : ∃ b, b = l[k] := ⟨_, rfl⟩
      rw [← hb] at ht hx hext
      obtain ⟨f, rfl⟩ : ∃ g, f = g + 1 := ⟨f - 1, by omega⟩
      have hv : valF (f + 1) (l.drop k) q = if rune1N (b :: t) == 0 then (false, false) else valF f (l.drop (k + rune1N (b :: t))) (q || (decide (1 < rune1N (b :: t)) || oddR b.toNat)) := by
        rw [← List.drop_drop, ht]; rfl
      have hr := rune1_any b t (by omega)
      have hrl := rune_le b t
      rw [← hx] at hv
      obtain ⟨n, hn⟩ : ∃ n, n = rune1N (b :: t) := ⟨_, rfl⟩
      rw [← hn] at hr hrl hv
      have Hr := Lib.hid hr
      have Hv := Lib.hid (HV.out.trans hv)
      clear hr hv hx hb ht HV hn
      by_cases h0 : n = 0
      · have h0' : ((n : Int) == 0) = true := by rw [h0]; rfl
        have HR : Hid (validL l = (false, false)) := Lib.hid (by rw [Hv.out, h0]; rfl)
        clear h0 Hv
        go_wp2_with fail
        refine (Hr.out _).mono ?_
        rintro e w' ⟨rfl, rfl⟩
        go_wp2_with fail
        go_ret2
        exact ⟨by rw [HR.out]; rfl, rfl⟩
      · have h0' : ((n : Int) == 0) = false := by rw [beq_eq_false_iff_ne]; omega
        have h0n : ¬ ((n == 0) = true) := by rw [beq_iff_eq]; exact h0
        have Hv2 : Hid (validL l = valF f (l.drop (k + n)) (q || (decide (1 < n) || oddR (s[k]'hks).toNat))) := Lib.hid (by rw [Hv.out, if_neg h0n])
        clear Hv h0n
        by_cases c1 : 1 < n
        · have Hv3 := Hv2
          rw [odd_or q _ n (.inl c1)] at Hv3
          clear Hv2
          go_wp2_with fail
          refine (Hr.out _).mono ?_
          rintro e w' ⟨rfl, rfl⟩
          go_wp2_with fail
          go_round
          case rel => exact ⟨k + n, f, true, rfl, by go_num, by omega, by omega, Hv3⟩
          case measure => simp [intOf]; omega
        by_cases c2 : (s[k]'hks).toNat < 32
        · have Hv3 := Hv2
          rw [odd_or q _ n (.inr (.inl c2))] at Hv3
          clear Hv2
          go_wp2_with fail
          refine (Hr.out _).mono ?_
          rintro e w' ⟨rfl, rfl⟩
          go_wp2_with fail
          go_round
          case rel => exact ⟨k + n, f, true, rfl, by go_num, by omega, by omega, Hv3⟩
          case measure => simp [intOf]; omega
        by_cases c3 : 125 < (s[k]'hks).toNat
        · have Hv3 := Hv2
          rw [odd_or q _ n (.inr (.inr (.inl c3)))] at Hv3
          clear Hv2
          go_wp2_with fail
          refine (Hr.out _).mono ?_
          rintro e w' ⟨rfl, rfl⟩
          go_wp2_with fail
          go_round
          case rel => exact ⟨k + n, f, true, rfl, by go_num, by omega, by omega, Hv3⟩
          case measure => simp [intOf]; omega
        by_cases c4 : (s[k]'hks).toNat = 92
        · have Hv3 := Hv2
          rw [odd_or q _ n (.inr (.inr (.inr c4)))] at Hv3
          have c4' : (((s[k]'hks).toNat : Int) == 92) = true := by rw [c4]; rfl
          clear Hv2 c4
          go_wp2_with fail
          refine (Hr.out _).mono ?_
          rintro e w' ⟨rfl, rfl⟩
          go_wp2_with fail
          go_round
          case rel => exact ⟨k + n, f, true, rfl, by go_num, by omega, by omega, Hv3⟩
          case measure => simp [intOf]; omega
        · have Hv3 := Hv2
          rw [odd_no q _ n c1 c2 c3 c4] at Hv3
          have c4' : (((s[k]'hks).toNat : Int) == 92) = false := by rw [beq_eq_false_iff_ne]; omega
          clear Hv2 c4
          go_wp2_with fail
          refine (Hr.out _).mono ?_
          rintro e w' ⟨rfl, rfl⟩
          go_wp2_with fail
          go_round
          case rel => exact ⟨k + n, f, q, rfl, by go_num, by omega, by omega, Hv3⟩
          case measure => simp [intOf]; omega
    · have hk' : k = l.length := by omega
      have HR : Hid (validL l = (true, q)) := Lib.hid (by rw [HV.out, hk', List.drop_length]; cases f <;> rfl)
      clear HV hk'
      go_wp2_with fail
      go_ret2
      exact ⟨by rw [HR.out]; rfl, rfl⟩
/-! detectUTF8 -/
end Go.Proofs.YtfagjhgmmaebfaaGreatDoor
