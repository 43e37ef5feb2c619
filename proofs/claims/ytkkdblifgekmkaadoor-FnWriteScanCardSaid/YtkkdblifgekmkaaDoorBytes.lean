/- Contract of spec.Bytes: a number as bytes, the lowest one first. -/
import Derived.Test.YtkkdblifgekmkaaDoorRows
import Derived.Test.YtkkdblifgekmkaaDoorMem
import Derived.Outline
import Derived.Deep.DeepMust
namespace Go.Proofs.YtkkdblifgekmkaaDoor
open Go.RowKit
theorem infoU8 : (Tryd.prog.info? 5).map (fun i => (i.zero, i.size, i.bytes)) = some (some (.int .u8 0), 1, 1) := by kernel_rfl

theorem byte_mod (m : Nat) : byteV (UInt8.ofNat (m % 256)) = .int .u8 ((m : Int) % 256) := by
  have : (UInt8.ofNat (m % 256)).toNat = m % 256 := by simp
  unfold byteV
  rw [this]
  rfl
theorem leB_step {n k m j : Nat} {done : List UInt8} (h : leB n k = done ++ leB m (j + 1)) : leB n k = (done ++ [UInt8.ofNat (m % 256)]) ++ leB (m / 256) j := by
  rw [h]; simp [leB]

set_option maxHeartbeats 400000 in
theorem Bytes_any (n k : Nat) (hn : n ≤ 9223372036854775807) (hk : k ≤ 8) (w : World) :
    Calls Tryd.prog 39 #[.int .i64 n, .int .i64 k] w fun e w' => e = .returned (.string ⟨(leB n k).toArray⟩) ∧ Below w.heap.size w w' := by
  obtain ⟨i0, hi, hz0, hz1, hz2⟩ := info_parts infoU8
  go_enter Tryd.func39, Tryd.ntmps39
  go_wp2
  go_loopw [0, 1, 5] (fun s0 s1 s5 wr => ∃ (m j : Nat) (done : List UInt8), s0 = .int .i64 m ∧ s1 = .int .i64 j ∧ m ≤ 9223372036854775807 ∧ done.length + j = k ∧ Hid (leB n k = done ++ leB m j) ∧ wr.ownsRow w.heap.size 5 1 s5 done.length (done.map byteV) ∧ Below w.heap.size w wr) (fun _ s1 _ _ => (intOf s1).toNat)
  case atStart =>
    refine ⟨n, k, [], rfl, rfl, hn, by simp, Lib.hid rfl, ?_, (Below.refl _ _).alloc (Nat.le_refl _) _⟩
    exact World.ownsRow_made w #[] 0 (Nat.le_refl _) (by decide) rfl
  case round =>
    obtain ⟨m, j, done, rfl, rfl, hm, hl, HE, hown, hb⟩ := hrel
    rcases j with _ | j
    · have hcv := run_string_own (P := Tryd.prog) wr 30 9 5 _ _ done Tryd.underlying30 Tryd.underlying5 Tryd.underlying9 hown
      have HE' : leB n k = done := by rw [HE.out]; simp [leB]
      have HE2 := Lib.hid HE'
      clear HE HE'
      go_wp2
      go_ret
      exact ⟨by rw [HE2.out]; rfl, hb⟩
    · have hB := hb.size
      have HE2 := Lib.hid (leB_step HE.out)
      have hm2 : m / 256 ≤ 9223372036854775807 := by omega
      clear HE
      go_wp2_with (at_builtin; refine wpList_append_own _ rfl _ _ 30 rfl w.heap.size 5 i0 (.int .u8 0) 1 1 Tryd.underlying30 hi hz0 hz1 hz2 rfl (by decide) _ _ _ rfl (hown.alloc _) ⟨wr.heap.size, 0, none⟩ 1 1 [.int .u8 ((m : Int) % 256)] rfl rfl ?c1 ?c2 ?c3 ?c4 ?c5 ?_)
      case c1 => intro q u hu; exact cell_one_new _ _ _ _ _ hu
      case c2 => intro u hu; simp at hu; subst hu; rfl
      case c3 => unfold maxLen; omega
      case c4 => omega
      case c5 => simp; omega
      intro v' w1 hown1 hgrow _
      have hb1 : Below w.heap.size w w1 := (hb.alloc (by omega) _).grown hgrow (by simp; omega) (fun q hq => (hown.lt q hq).1)
      clear hown hgrow hb
      have e1 : (done ++ [UInt8.ofNat (m % 256)]).length = done.length + 1 := by simp
      have e2 : List.map byteV (done ++ [UInt8.ofNat (m % 256)]) = List.map byteV done ++ [.int .u8 ((m : Int) % 256)] := by rw [List.map_append]; simp only [List.map_cons, List.map_nil, byte_mod]
      rw [← e2, ← e1] at hown1
      clear e2
      have E1 := Lib.hid e1
      clear e1
      go_wp2
      go_roundw
      case rel => exact ⟨m / 256, j, done ++ [UInt8.ofNat (m % 256)], by simp, rfl, hm2, by have := E1.out; omega, HE2, hown1, hb1⟩
      case measure => simp [intOf]
end Go.Proofs.YtkkdblifgekmkaaDoor
