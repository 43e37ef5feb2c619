/- Contracts at no entries: spec.Files, Directory, Archive, Good, Same; the walk of laws.FnEmpty. -/
import Derived.Test.YtkkdblifgekmkaaDoorRead0
import Derived.Test.YtkkdblifgekmkaaDoorEnds
namespace Go.Proofs.YtkkdblifgekmkaaDoor
open Go.RowKit
theorem Files_nil (w : World) : Calls Tryd.prog 22 #[.slice none 0 0] w fun e w' => e = .returned (.string ⟨#[]⟩) ∧ w = w' := by
  go_enter Tryd.func22, Tryd.ntmps22
  go_wp2_with fail
  refine wp_loop_rounds 1 ?_
  rw [rounds_succ]
  go_wp2
  go_ret
  exact ⟨rfl, rfl⟩
theorem Directory_nil (w : World) : Calls Tryd.prog 23 #[.slice none 0 0] w fun e w' => e = .returned (.string ⟨#[]⟩) ∧ w = w' := by
  go_enter Tryd.func23, Tryd.ntmps23
  go_wp2_with fail
  refine wp_loop_rounds 1 ?_
  rw [rounds_succ]
  go_wp2
  go_ret
  exact ⟨rfl, rfl⟩
theorem Archive_nil (c : List UInt8) (hc : c.length ≤ 65535) (w : World) : Calls Tryd.prog 10 #[.slice none 0 0, .string ⟨c.toArray⟩] w fun e w' => e = .returned (.string ⟨(endL 0 0 0 c).toArray⟩) ∧ Below w.heap.size w w' := by
  have hcat := cat_mk
  have hsz : ∀ l : List UInt8, (ByteArray.mk l.toArray).size = l.length := fun _ => rfl
  have hel : (endL 0 0 0 c).length ≤ 65557 := by simp [endL, leB_length]; omega
  go_enter Tryd.func10, Tryd.ntmps10
  go_wp2_with fail
  refine (Files_nil _).mono ?_
  rintro e w1 ⟨rfl, rfl⟩
  go_wp2_with fail
  refine (Directory_nil _).mono ?_
  rintro e w1 ⟨rfl, rfl⟩
  go_wp2_with fail
  refine (End_any 0 0 0 c (by decide) (by decide) (by decide) (by omega) _).mono ?_
  rintro e w1 ⟨rfl, hb⟩
  go_wp2
  go_ret
  exact ⟨rfl, hb⟩
theorem Good_yes (c : List UInt8) (hc : c.length ≤ 65535) (h1 : endsL (endL 0 0 0 c) = 1) (w : World) : Calls Tryd.prog 7 #[.slice none 0 0, .string ⟨c.toArray⟩] w fun e w' => e = .returned (.bool true) ∧ Below w.heap.size w w' := by
  have hsz : ∀ l : List UInt8, (ByteArray.mk l.toArray).size = l.length := fun _ => rfl
  have hel : (endL 0 0 0 c).length ≤ 65557 := by simp [endL, leB_length]; omega
  have hE := fun w => Lib.hid (Ends_any (endL 0 0 0 c) (by omega) w)
  rw [h1] at hE
  clear h1
  go_enter Tryd.func7, Tryd.ntmps7
  go_wp2_with fail
  refine wp_loop_rounds 1 ?_
  rw [rounds_succ]
  go_wp2_with fail
  refine (Archive_nil c hc _).mono ?_
  rintro e w1 ⟨rfl, hb⟩
  go_wp2_with fail
  refine (hE _).out.mono ?_
  rintro e w2 ⟨rfl, rfl⟩
  go_wp2
  go_ret
  exact ⟨rfl, hb⟩
theorem Good_no (c : List UInt8) (hc : c.length ≤ 65535) (h1 : endsL (endL 0 0 0 c) ≠ 1) (w : World) : Calls Tryd.prog 7 #[.slice none 0 0, .string ⟨c.toArray⟩] w fun e w' => e = .returned (.bool false) ∧ Below w.heap.size w w' := by
  have hsz : ∀ l : List UInt8, (ByteArray.mk l.toArray).size = l.length := fun _ => rfl
  have hel : (endL 0 0 0 c).length ≤ 65557 := by simp [endL, leB_length]; omega
  have hE := fun w => Lib.hid (Ends_any (endL 0 0 0 c) (by omega) w)
  obtain ⟨k, hk⟩ : ∃ k, k = endsL (endL 0 0 0 c) := ⟨_, rfl⟩
  rw [← hk] at hE h1
  have hne : ((k : Int) == 1) = false := by simp; omega
  clear h1 hk
  go_enter Tryd.func7, Tryd.ntmps7
  go_wp2_with fail
  refine wp_loop_rounds 1 ?_
  rw [rounds_succ]
  go_wp2_with fail
  refine (Archive_nil c hc _).mono ?_
  rintro e w1 ⟨rfl, hb⟩
  go_wp2_with fail
  refine (hE _).out.mono ?_
  rintro e w2 ⟨rfl, rfl⟩
  go_wp2
  go_ret
  exact ⟨rfl, hb⟩
theorem Good_long (c : List UInt8) (hc : ¬ c.length ≤ 65535) (hm : c.length ≤ 2147483647) (w : World) : Calls Tryd.prog 7 #[.slice none 0 0, .string ⟨c.toArray⟩] w fun e w' => e = .returned (.bool false) ∧ Below w.heap.size w w' := by
  have hsz : ∀ l : List UInt8, (ByteArray.mk l.toArray).size = l.length := fun _ => rfl
  have hd : decide ((c.length : Int) ≤ 65535) = false := by simp; omega
  go_enter Tryd.func7, Tryd.ntmps7
  go_wp2_with fail
  refine wp_loop_rounds 1 ?_
  rw [rounds_succ]
  go_wp2
  go_ret
  exact ⟨rfl, Below.refl _ _⟩
theorem Same_nil (c : List UInt8) (w : World) : Calls Tryd.prog 8 #[.agg #[.bool true, .string ⟨c.toArray⟩, .slice none 0 0], .slice none 0 0, .string ⟨c.toArray⟩] w fun e w' => e = .returned (.bool true) ∧ Below w.heap.size w w' := by
  go_enter Tryd.func8, Tryd.ntmps8
  go_wp2_with fail
  refine wp_loop_rounds 1 ?_
  rw [rounds_succ]
  go_wp2
  go_ret
  exact ⟨rfl, (Below.refl _ _).alloc (Nat.le_refl _) _⟩
end Go.Proofs.YtkkdblifgekmkaaDoor
