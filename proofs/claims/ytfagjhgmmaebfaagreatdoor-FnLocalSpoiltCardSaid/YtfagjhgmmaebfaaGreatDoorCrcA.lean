/- Contract: spec.CRC. -/
import Derived.Test.YtfagjhgmmaebfaaGreatDoorReads
import Derived.Test.YtfagjhgmmaebfaaGreatDoorEnd
import Derived.Test.YtfagjhgmmaebfaaGreatDoorCrcLaw
import Derived.LoopTactic
import Derived.Laws.BitsAllLaws
import Derived.Outline
namespace Go.Proofs.YtfagjhgmmaebfaaGreatDoor
open Go.RowKit
theorem and_one_even (c : Nat) (hc : c < 4294967296) (h : c % 2 = 0) : bits .and .u32 (c : Int) 1 = 0 := by
  have := u32_and_nat c 1 hc (by decide)
  rw [Nat.and_one_is_mod, h] at this
  exact this
theorem and_one_odd (c : Nat) (hc : c < 4294967296) (h : c % 2 = 1) : bits .and .u32 (c : Int) 1 = 1 := by
  have := u32_and_nat c 1 hc (by decide)
  rw [Nat.and_one_is_mod, h] at this
  exact this
theorem steps_next (j i c : Nat) (h : c = crcSteps j i) : crcSteps (j + 1) i = crcStep c := by
  rw [crcSteps_add, ← h]; rfl
theorem step_even (c : Nat) (h : c % 2 = 0) : ((c : Int) / 2) = ((crcStep c : Nat) : Int) := by
  unfold crcStep
  rw [if_neg (by omega), Nat.xor_zero, Nat.shiftRight_eq_div_pow]
  simp
theorem step_odd (c : Nat) (hc : c < 4294967296) (h : c % 2 = 1) : bits .xor .u32 ((c : Int) / 2) 3988292384 = ((crcStep c : Nat) : Int) := by
  unfold crcStep
  rw [if_pos h, Nat.shiftRight_eq_div_pow]
  have := u32_xor_nat (c / 2) 3988292384 (by omega) (by decide)
  simpa using this
theorem fold_step (l : List UInt8) (k : Nat) (h : k < l.length) (c : Nat) (hc : c = crcFold 4294967295 (l.take k)) : crcSteps 8 (c ^^^ l[k].toNat) = crcFold 4294967295 (l.take (k + 1)) := by
  rw [List.take_succ_eq_append_getElem h, crcFold_append, ← hc]; rfl
set_option maxHeartbeats 1000000 in
theorem CRC_any (l : List UInt8) (hl : l.length ≤ 4294967295) (w : World) : Calls Tryz.prog 31 #[.string ⟨l.toArray⟩] w fun e w' => e = .returned (.int .i64 (crcOf l)) ∧ w = w' := by
  have hsz : (ByteArray.mk l.toArray).size = l.length := rfl
  go_enter Tryz.func31, Tryz.ntmps31
  go_wp2
  go_loop [3, 4] (fun s3 s4 => ∃ (k c : Nat), k ≤ l.length ∧ s4 = .int .i64 k ∧ s3 = .int .u32 c ∧ c < 4294967296 ∧ Hid (c = crcFold 4294967295 (l.take k))) (fun _ s4 => l.length - (intOf s4).toNat)
  case atStart => exact ⟨0, 4294967295, Nat.zero_le _, rfl, rfl, by decide, Lib.hid rfl⟩
  case round =>
    obtain ⟨k, c, hk, rfl, rfl, hc, HC⟩ := hrel
    by_cases hlt : k < l.length
    · have hg : (ByteArray.mk l.toArray)[k]'(by simpa [hsz] using hlt) = l[k] := rfl
      have hb := l[k].toNat_lt
      have hx := u32_xor_nat c l[k].toNat hc (by omega)
      obtain ⟨c0, hc0⟩ : ∃ c0, c0 = c ^^^ l[k].toNat := ⟨_, rfl⟩
      have hc0l : c0 < 4294967296 := by rw [hc0]; exact xor_lt32 hc (by omega)
      rw [← hc0] at hx
      have HS := Lib.hid (fold_step l k hlt c HC.out)
      have HC0 := Lib.hid hc0
      clear hc0 HC
      go_wp2
      clear hx hg
      go_loop [3, 5] (fun s3 s5 => ∃ (j d : Nat), j ≤ 8 ∧ Hid (d = crcSteps j c0) ∧ d < 4294967296 ∧ s5 = .int .i64 j ∧ s3 = .int .u32 d) (fun _ s5 => 8 - (intOf s5).toNat)
      case atStart => exact ⟨0, c0, by omega, Lib.hid rfl, hc0l, rfl, rfl⟩
      case round =>
        obtain ⟨j, d, hj, hd, hdl, rfl, rfl⟩ := hrel
        by_cases hl8 : j < 8
        · rcases Nat.mod_two_eq_zero_or_one d with hp | hp
          · have ha := and_one_even d hdl hp
            have HP := Lib.hid (step_even d hp)
            clear hp
            go_wp2
            go_round
            case rel => exact ⟨j + 1, crcStep d, by omega, Lib.hid (steps_next j c0 d hd.out).symm, crcStep_lt hdl, by go_num, by rw [HP.out]⟩
            case measure => simp [intOf]; omega
          · have ha := and_one_odd d hdl hp
            have HP := Lib.hid (step_odd d hdl hp)
            clear hp
            go_wp2
            go_round
            case rel => exact ⟨j + 1, crcStep d, by omega, Lib.hid (steps_next j c0 d hd.out).symm, crcStep_lt hdl, by go_num, by rw [HP.out]⟩
            case measure => simp [intOf]; omega
        · obtain rfl : j = 8 := by omega
          go_wp2
          go_round
          case rel => exact ⟨k + 1, d, by omega, by go_num, rfl, hdl, Lib.hid (by rw [hd.out, HC0.out]; exact HS.out)⟩
          case measure => simp [intOf]; omega
    · obtain rfl : k = l.length := by omega
      have hx := u32_xor_nat c 4294967295 hc (by decide)
      have hfl : c ^^^ 4294967295 < 4294967296 := xor_lt32 hc (by decide)
      obtain ⟨z, hz⟩ : ∃ z, z = c ^^^ 4294967295 := ⟨_, rfl⟩
      rw [← hz] at hx hfl
      have hx2 : bits .xor .u32 (c : Int) 4294967295 = (z : Int) := hx
      have HZ := Lib.hid hz
      have HCC := HC.out
      rw [List.take_length] at HCC
      have HF := Lib.hid HCC
      clear hz hx HCC HC
      go_wp2
      go_ret
      exact ⟨by rw [HZ.out, HF.out]; rfl, rfl⟩
end Go.Proofs.YtfagjhgmmaebfaaGreatDoor
