/- Contract of spec.Ends. -/
import Derived.Test.YtkkdblifgekmkaaDoorEnd
namespace Go.Proofs.YtkkdblifgekmkaaDoor
open Go.RowKit
def sigAt (l : List UInt8) (j : Nat) : Bool := (l.drop j).take 4 == [80, 75, 5, 6]
def cnt (l : List UInt8) : Nat → Nat
  | 0 => 0
  | k + 1 => cnt l k + if sigAt l k then 1 else 0
theorem cnt_le (l : List UInt8) (k : Nat) : cnt l k ≤ k := by
  induction k with
  | zero => exact Nat.le_refl _
  | succ k ih => unfold cnt; split <;> omega
/-- How many times the beginning of an end stands in a text. -/
def endsL (l : List UInt8) : Nat := cnt l (l.length - 3)
theorem sig_ext (l : List UInt8) (k : Nat) : (((ByteArray.mk l.toArray).extract k (k + 4)).toList == [80, 75, 5, 6]) = sigAt l k := by
  rw [Lib.extract_toList]
  unfold sigAt
  rw [show k + 4 - k = 4 by omega]
set_option maxHeartbeats 400000 in
theorem Ends_any (l : List UInt8) (h : l.length ≤ 9223372036854775800) (w : World) :
    Calls Tryd.prog 15 #[.string ⟨l.toArray⟩] w fun e w' => e = .returned (.int .i64 (endsL l)) ∧ w = w' := by
  have hsz : ∀ l : List UInt8, (ByteArray.mk l.toArray).size = l.length := fun _ => rfl
  go_enter Tryd.func15, Tryd.ntmps15
  go_wp2
  go_loop [3, 4] (fun s3 s4 => ∃ k : Nat, s4 = .int .i64 k ∧ k ≤ l.length - 3 ∧ s3 = .int .i64 (cnt l k)) (fun _ s4 => l.length - (intOf s4).toNat)
  case atStart => exact ⟨0, rfl, Nat.zero_le _, rfl⟩
  case round =>
    obtain ⟨k, rfl, hk, rfl⟩ := hrel
    have hc := cnt_le l k
    by_cases hlt : k + 4 ≤ l.length
    · have hx := sig_ext l k
      cases hs : sigAt l k
      · have hn : cnt l (k + 1) = cnt l k := by simp [cnt, hs]
        rw [hs] at hx
        have HN := Lib.hid hn
        clear hn hs
        go_wp2
        go_round
        case rel => exact ⟨k + 1, by go_num, by omega, by rw [HN.out]⟩
        case measure => simp [intOf]; omega
      · have hn : cnt l (k + 1) = cnt l k + 1 := by simp [cnt, hs]
        rw [hs] at hx
        have HN := Lib.hid hn
        clear hn hs
        go_wp2
        go_round
        case rel => exact ⟨k + 1, by go_num, by omega, by rw [HN.out]; go_num⟩
        case measure => simp [intOf]; omega
    · have hk' : k = l.length - 3 := by omega
      have HE : Hid (endsL l = cnt l k) := by rw [hk']; exact Lib.hid rfl
      clear hk'
      go_wp2
      go_ret
      exact ⟨by rw [HE.out]; rfl, rfl⟩
end Go.Proofs.YtkkdblifgekmkaaDoor
