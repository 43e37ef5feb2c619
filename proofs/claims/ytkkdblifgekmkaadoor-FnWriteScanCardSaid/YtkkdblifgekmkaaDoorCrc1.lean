/- Contracts: the tables of crc32. -/
import Derived.Test.YtkkdblifgekmkaaDoorReads
import Derived.Test.YtkkdblifgekmkaaDoorBytes
import Derived.Test.YtkkdblifgekmkaaDoorCrcLaw
import Derived.LoopTactic
import Derived.Laws.BitsAllLaws
import Derived.Outline
namespace Go.Proofs.YtkkdblifgekmkaaDoor
open Go.RowKit
theorem and_one_even (c : Nat) (hc : c < 4294967296) (h : c % 2 = 0) : bits .and .u32 (c : Int) 1 = 0 := by
  have := u32_and_nat c 1 hc (by decide)
  rw [Nat.and_one_is_mod, h] at this
  exact this
theorem and_one_odd (c : Nat) (hc : c < 4294967296) (h : c % 2 = 1) : bits .and .u32 (c : Int) 1 = 1 := by
  have := u32_and_nat c 1 hc (by decide)
  rw [Nat.and_one_is_mod, h] at this
  exact this
theorem steps_next (j i c : Nat) (h : c = crcSteps j i) : crcSteps (j + 1) i = crcStep c := by
  rw [crcSteps_add, ← h]; rfl
theorem step_even (c : Nat) (h : c % 2 = 0) : ((c : Int) / 2) = ((crcStep c : Nat) : Int) := by
  unfold crcStep
  rw [if_neg (by omega), Nat.xor_zero, Nat.shiftRight_eq_div_pow]
  simp
theorem step_odd (c : Nat) (hc : c < 4294967296) (h : c % 2 = 1) : bits .xor .u32 ((c : Int) / 2) 3988292384 = ((crcStep c : Nat) : Int) := by
  unfold crcStep
  rw [if_pos h, Nat.shiftRight_eq_div_pow]
  have := u32_xor_nat (c / 2) 3988292384 (by omega) (by decide)
  simpa using this
set_option maxRecDepth 100000 in
set_option maxHeartbeats 1000000 in
theorem populate {w : World} {tb T : Nat} {cs : Array Value} (h : Blk w tb T cs) (hs : cs.size = 2048) :
    Calls Tryd.prog 175 #[.int .u32 3988292384, .pointer (some ⟨tb, 0, none⟩)] w fun e w' => e = .returned (.tuple #[]) ∧ ∃ cs', Blk w' tb T cs' ∧ cs'.size = 2048 ∧ (∀ i, i < 256 → cs'[i]? = some (.int .u32 (crcTab 0 i))) ∧ Kept [tb] w w' := by
  have H0 := Lib.hid (And.intro h hs)
  clear h hs
  go_enter Tryd.func175, Tryd.ntmps175
  go_wp2
  go_loopw [4, 5, 6] (fun s4 s5 s6 W => ∃ (i : Nat) (ds : Array Value), i ≤ 256 ∧ s4 = .int .i64 i ∧ Hid (Blk W tb T ds ∧ ds.size = 2048 ∧ (∀ k, k < i → ds[k]? = some (.int .u32 (crcTab 0 k))) ∧ Kept [tb] w W)) (fun s4 _ _ W => 256 - (intOf s4).toNat)
  case atStart => exact ⟨0, cs, by omega, rfl, Lib.hid ⟨H0.out.1, H0.out.2, fun k hk => absurd hk (by omega), Kept.refl _ _⟩⟩
  case round =>
    obtain ⟨i, ds, hi, rfl, HD⟩ := hrel
    by_cases hlt : i < 256
    · obtain ⟨wo, rfl⟩ : ∃ wo : World, wo = wr := ⟨_, rfl⟩
      go_wp2
      go_loop [5, 6] (fun s5 s6 => ∃ (j c : Nat), j ≤ 8 ∧ Hid (c = crcSteps j i) ∧ c < 4294967296 ∧ s6 = .int .i64 j ∧ s5 = .int .u32 c) (fun _ s6 => 8 - (intOf s6).toNat)
      case atStart => exact ⟨0, i, by omega, Lib.hid rfl, by omega, rfl, rfl⟩
      case round =>
        obtain ⟨j, c, hj, hc, hcl, rfl, rfl⟩ := hrel
        by_cases hl8 : j < 8
        · rcases Nat.mod_two_eq_zero_or_one c with hp | hp
          · have ha := and_one_even c hcl hp
            have HP := Lib.hid (step_even c hp)
            clear hp
            go_wp2
            go_round
            case rel => exact ⟨j + 1, crcStep c, by omega, Lib.hid (steps_next j i c hc.out).symm, crcStep_lt hcl, by go_num, by rw [HP.out]⟩
            case measure => simp [intOf]; omega
          · have ha := and_one_odd c hcl hp
            have HP := Lib.hid (step_odd c hcl hp)
            clear hp
            go_wp2
            go_round
            case rel => exact ⟨j + 1, crcStep c, by omega, Lib.hid (steps_next j i c hc.out).symm, crcStep_lt hcl, by go_num, by rw [HP.out]⟩
            case measure => simp [intOf]; omega
        · obtain rfl : j = 8 := by omega
          have hcell : wo.cell? ⟨tb, i, none⟩ = ds[i]? := HD.out.1.cell i
          have hf : wo.frozen? ⟨tb, i, none⟩ = false := HD.out.1.frozen i
          obtain ⟨dv, hdv⟩ : ∃ v, wo.cell? ⟨tb, i, none⟩ = some v := by
            rw [hcell]; exact ⟨_, Array.getElem?_eq_getElem (by have := HD.out.2.1; omega)⟩
          clear hcell
          go_wp2
          go_roundw
          case rel =>
            refine ⟨i + 1, ds.setIfInBounds i (.int .u32 c), by omega, by go_num, Lib.hid ⟨HD.out.1.set_ i _, by simpa using HD.out.2.1, fun k hk => ?_, HD.out.2.2.2.setCell (by simp) _⟩⟩
            rw [Array.getElem?_setIfInBounds]
            by_cases e : i = k
            · subst e
              rw [if_pos rfl, if_pos (by have := HD.out.2.1; omega), hc.out]
              rfl
            · rw [if_neg e]
              exact HD.out.2.2.1 k (by omega)
          case measure => simp [intOf]; omega
    · obtain rfl : i = 256 := by omega
      go_wp2
      go_end0
      exact ⟨rfl, ds, HD.out⟩
end Go.Proofs.YtkkdblifgekmkaaDoor
