/- The walk of laws.FnWriteComment. -/
import Derived.Test.YtkkdblifgekmkaaDoorWrites
import Derived.Test.YtkkdblifgekmkaaDoorWre
namespace Go.Proofs.YtkkdblifgekmkaaDoor
open Go.RowKit
theorem Write_cases {w : World} (k : Nat) (hk : k ≤ 1048576) (hT : Lib.Utf8Tabs 10 11 w) : Calls Tryd.prog 11 #[.slice none 0 0, .string ⟨(List.replicate k (0 : UInt8)).toArray⟩] w fun e w' => (∃ s, e = .returned (.tuple #[.string s, .bool (decide ((k : Int) ≤ 65535))])) ∧ Below w.heap.size w w' := by
  by_cases h : k ≤ 65535
  · refine (Write_any none 0 [] (List.replicate k 0) Reads.none_ hT (by simp) (by decide) (by simpa using h)).mono ?_
    rintro e w' ⟨rfl, hb⟩
    exact ⟨⟨_, by rw [decide_eq_true (by omega)]⟩, hb⟩
  · refine (Write_long ⟨(List.replicate k (0 : UInt8)).toArray⟩ (by show 65535 < (List.replicate k (0 : UInt8)).length; simp; omega) (by show (List.replicate k (0 : UInt8)).length ≤ _; simp; omega)).mono ?_
    rintro e w' ⟨rfl, hb⟩
    exact ⟨⟨_, by rw [decide_eq_false (by omega)]⟩, hb⟩
set_option maxRecDepth 100000 in
set_option maxHeartbeats 1000000 in
theorem walkComment (n : Int) (w : World) (hT : Lib.Utf8Tabs 10 11 w) :
    Calls Tryd.prog 4 #[.int .i64 n] w fun e w' => e = .returned (.bool true) ∧ Below w.heap.size w w' := by
  obtain ⟨i0, hi, hz0, hz1, hz2⟩ := info_parts infoU8
  have HT := Lib.hid hT
  clear hT
  by_cases hlo : n < 0
  · go_enter Tryd.func4, Tryd.ntmps4
    go_wp2
    go_ret
    exact ⟨rfl, Below.refl _ _⟩
  · by_cases hhi : 1048576 < n
    · go_enter Tryd.func4, Tryd.ntmps4
      go_wp2
      go_ret
      exact ⟨rfl, Below.refl _ _⟩
    · obtain ⟨k, rfl⟩ := Int.eq_ofNat_of_zero_le (show 0 ≤ n by omega)
      have hk : k ≤ 1048576 := by omega
      clear hlo hhi
      go_enter Tryd.func4, Tryd.ntmps4
      go_wp2_with (at_make; refine wpList_make_full _ rfl _ _ 30 rfl w.heap.size 5 i0 (.int .u8 0) 1 Tryd.underlying30 hi hz0 hz1 .i64 .i64 _ _ k rfl rfl ?m1 ?m2 ?m3 ?m4 ?m5 ?_)
      case m1 => rfl
      case m2 => rfl
      case m3 => rw [hz2]; omega
      case m4 => unfold maxLen; omega
      case m5 => simp
      intro w0 hown hgr
      have hg := rowW0 (z := .int .u8 0) (n := k) rfl (by rw [Nat.mul_one]; exact hown)
      have hb0 : Below w.heap.size w w0 := (Below.refl _ _).grown hgr (Nat.le_refl _) (fun q hq => by cases hq)
      have hcv := run_convert_bytes_back (P := Tryd.prog) w0 30 9 5 ⟨w.heap.size, 0, none⟩ k (List.replicate k (0 : UInt8)) Tryd.underlying30 Tryd.underlying5 Tryd.underlying9 (fun j hj => hg.bytes j hj)
      rw [List.length_replicate] at hcv
      have HW := Lib.hid (Write_cases k hk (tabs_keep HT.out hb0))
      have HB := Lib.hid hb0
      clear hg hb0 hown hgr
      go_wp2_with fail
      refine HW.out.mono ?_
      rintro e w1 ⟨⟨s, rfl⟩, hb1⟩
      have HB1 := Lib.hid (HB.out.trans (hb1.mono HB.out.size))
      clear hb1 hcv HW
      have heq : (decide ((k : Int) ≤ 65535) == decide ((k : Int) ≤ 65535)) = true := by simp
      go_wp2_with fail
      refine (writes_any (tabs_keep HT.out HB1.out)).mono ?_
      rintro e w2 ⟨rfl, hb2⟩
      have HB2 := Lib.hid (HB1.out.trans (hb2.mono HB1.out.size))
      clear hb2
      go_wp2
      go_ret
      exact ⟨rfl, HB2.out⟩
end Go.Proofs.YtkkdblifgekmkaaDoor
