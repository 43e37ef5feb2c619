/- Contracts: spec.Number, spec.At. -/
import Derived.Test.YtkkdblifgekmkaaDoorReads
import Derived.Test.YtkkdblifgekmkaaDoorLay
import Derived.Test.YtkkdblifgekmkaaDoorBytes
import Derived.LoopTactic
namespace Go.Proofs.YtkkdblifgekmkaaDoor
open Go.RowKit
theorem numL_drop {l : List UInt8} {q : Nat} (h : q < l.length) : numL (l.drop q) = l[q].toNat + 256 * numL (l.drop (q + 1)) := by
  rw [List.drop_eq_getElem_cons h, numL]
theorem numL_le5 {l : List UInt8} {q : Nat} (h : l.length ≤ 6) (hq : 1 ≤ q) : numL (l.drop q) ≤ 1099511627775 := by
  have h1 := numL_lt (l.drop q)
  have h2 : 256 ^ (l.drop q).length ≤ 256 ^ 5 := Nat.pow_le_pow_right (by decide) (by rw [List.length_drop]; omega)
  have h3 : (256 : Nat) ^ 5 = 1099511627776 := by decide
  omega
set_option maxHeartbeats 400000 in
theorem Number_any (l : List UInt8) (h : l.length ≤ 6) (w : World) :
    Calls Tryd.prog 30 #[.string ⟨l.toArray⟩] w fun e w' => e = .returned (.int .i64 (numL l)) ∧ w = w' := by
  have hsz : (ByteArray.mk l.toArray).size = l.length := rfl
  go_enter Tryd.func30, Tryd.ntmps30
  go_wp2
  go_loop [3, 4] (fun n k => ∃ (z : Int) (j : Nat), j ≤ l.length ∧ z = (j : Int) - 1 ∧ k = .int .i64 z ∧ n = .int .i64 (numL (l.drop j))) (fun _ k => (intOf k + 1).toNat)
  case atStart => exact ⟨_, l.length, Nat.le_refl _, rfl, rfl, by simp [numL]⟩
  case round =>
    obtain ⟨z, j, hj, hz, rfl, rfl⟩ := hrel
    by_cases h0 : z < 0
    · obtain rfl : j = 0 := by omega
      clear hz hj
      have hz2 : ¬ 0 ≤ z := by omega
      go_wp2
      go_ret
      exact ⟨rfl, rfl⟩
    · obtain ⟨q, rfl⟩ := Int.eq_ofNat_of_zero_le (show 0 ≤ z by omega)
      obtain rfl : j = q + 1 := by omega
      have hq : q < l.length := by omega
      have hN := Lib.hid (numL_drop hq)
      have hb := numL_le5 h (show 1 ≤ q + 1 by omega)
      obtain ⟨N, hNe⟩ : ∃ N, N = numL (l.drop (q + 1)) := ⟨_, rfl⟩
      rw [← hNe] at hN hb ⊢
      have hc := l[q].toNat_lt
      have hg : (ByteArray.mk l.toArray)[q]'(by simpa [hsz] using hq) = l[q] := rfl
      clear hNe hz hj
      go_wp2
      go_round
      case rel => exact ⟨_, q, by omega, rfl, by go_num, by rw [hN.out]; go_num⟩
      case measure => simp [intOf]
theorem At_ext (l : List UInt8) (k n : Nat) : ((ByteArray.mk l.toArray).extract k (k + n)).toList = (l.drop k).take n := by
  rw [Lib.extract_toList]
  rw [show k + n - k = n by omega]
/-- A text stands in another one at a place. -/
def standsL (l p : List UInt8) (k : Nat) : Bool := (l.drop k).take p.length == p
theorem At_any (l p : List UInt8) (k : Nat) (h : l.length ≤ 4611686018427387904) (hp : p.length ≤ 65536) (hk : k ≤ 4611686018427387904) (hkp : k ≤ l.length ∨ 0 < p.length) (w : World) :
    Calls Tryd.prog 29 #[.string ⟨l.toArray⟩, .int .i64 k, .string ⟨p.toArray⟩] w fun e w' => e = .returned (.bool (standsL l p k)) ∧ w = w' := by
  have hsz : ∀ l : List UInt8, (ByteArray.mk l.toArray).size = l.length := fun _ => rfl
  by_cases hlt : k + p.length ≤ l.length
  · have hx := At_ext l k p.length
    clear hkp
    go_enter Tryd.func29, Tryd.ntmps29
    go_wp2
    go_ret
    exact ⟨rfl, rfl⟩
  · have hf : standsL l p k = false := by
      unfold standsL
      have : (l.drop k).take p.length ≠ p := fun e => by
        have := congrArg List.length e
        have h2 : ((l.drop k).take p.length).length ≤ l.length - k := by rw [List.length_take, List.length_drop]; exact Nat.min_le_right _ _
        rw [this] at h2
        rcases hkp with hkp | hkp <;> omega
      simpa using this
    have hd : decide ((k : Int) + p.length ≤ l.length) = false := by simp; omega
    have HF := Lib.hid hf
    clear hf hkp
    go_enter Tryd.func29, Tryd.ntmps29
    go_wp2
    go_ret
    exact ⟨by rw [HF.out]; rfl, rfl⟩
end Go.Proofs.YtkkdblifgekmkaaDoor
