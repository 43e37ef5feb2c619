/- Contract of spec.Bytes: a number as bytes, the lowest one first. -/
import Derived.Test.YtfagjhgmmaebfaaGreatDoorRows
import Derived.Test.YtfagjhgmmaebfaaGreatDoorBlk
import Derived.Outline
import Derived.Deep.DeepMust
namespace Go.Proofs.YtfagjhgmmaebfaaGreatDoor
open Go.RowKit
theorem infoU8 : (Tryz.prog.info? 5).map (fun i => (i.zero, i.size, i.bytes)) = some (some (.int .u8 0), 1, 1) := by kernel_rfl

theorem byte_mod (m : Nat) : byteV (UInt8.ofNat (m % 256)) = .int .u8 ((m : Int) % 256) := by
  have : (UInt8.ofNat (m % 256)).toNat = m % 256 := by simp
  unfold byteV
  rw [this]
  rfl
theorem leB_step {n k m j : Nat} {done : List UInt8} (h : leB n k = done ++ leB m (j + 1)) : leB n k = (done ++ [UInt8.ofNat (m % 256)]) ++ leB (m / 256) j := by
  rw [h]; simp [leB]

set_option maxHeartbeats 400000 in
theorem Bytes_any (n k : Nat) (hn : n ≤ 9223372036854775807) (hk : k ≤ 8) (w : World) :
    Calls Tryz.prog 34 #[.int .i64 n, .int .i64 k] w fun e w' => e = .returned (.string ⟨(leB n k).toArray⟩) ∧ Below w.heap.size w w' := by
  obtain ⟨i0, hi, hz0, hz1, hz2⟩ := info_parts infoU8
  go_enter Tryz.func34, Tryz.ntmps34
  go_wp2
  go_loopw [0, 1, 5] (fun s0 s1 s5 wr => ∃ (m j : Nat) (done : List UInt8), s0 = .int .i64 m ∧ s1 = .int .i64 j ∧ m ≤ 9223372036854775807 ∧ done.length + j = k ∧ Hid (leB n k = done ++ leB m j) ∧ wr.ownsRow w.heap.size 5 1 s5 done.length (done.map byteV) ∧ Below w.heap.size w wr) (fun _ s1 _ _ => (intOf s1).toNat)
  case atStart =>
    refine ⟨n, k, [], rfl, rfl, hn, by simp, Lib.hid rfl, ?_, (Below.refl _ _).alloc (Nat.le_refl _) _⟩
    exact World.ownsRow_made w #[] 0 (Nat.le_refl _) (by decide) rfl
  case round =>
    obtain ⟨m, j, done, rfl, rfl, hm, hl, HE, hown, hb⟩ := hrel
    rcases j with _ | j
    · have hcv := run_string_own (P := Tryz.prog) wr 46 9 5 _ _ done Tryz.underlying46 Tryz.underlying5 Tryz.underlying9 hown
      have HE' : leB n k = done := by rw [HE.out]; simp [leB]
      have HE2 := Lib.hid HE'
      clear HE HE'
      go_wp2
      go_ret
      exact ⟨by rw [HE2.out]; rfl, hb⟩
    · have hB := hb.size
      have HE2 := Lib.hid (leB_step HE.out)
      have hm2 : m / 256 ≤ 9223372036854775807 := by omega
      clear HE
      go_wp2_with (at_builtin; refine wpList_append_own _ rfl _ _ 46 rfl w.heap.size 5 i0 (.int .u8 0) 1 1 Tryz.underlying46 hi hz0 hz1 hz2 rfl (by decide) _ _ _ rfl (hown.alloc _) ⟨wr.heap.size, 0, none⟩ 1 1 [.int .u8 ((m : Int) % 256)] rfl rfl ?c1 ?c2 ?c3 ?c4 ?c5 ?_)
      case c1 => intro q u hu; exact cell_one_new _ _ _ _ _ hu
      case c2 => intro u hu; simp at hu; subst hu; rfl
      case c3 => unfold maxLen; omega
      case c4 => omega
      case c5 => simp; omega
      intro v' w1 hown1 hgrow _
      have hb1 : Below w.heap.size w w1 := (hb.alloc (by omega) _).grown hgrow (by simp; omega) (fun q hq => (hown.lt q hq).1)
      clear hown hgrow hb
      have e1 : (done ++ [UInt8.ofNat (m % 256)]).length = done.length + 1 := by simp
      have e2 : List.map byteV (done ++ [UInt8.ofNat (m % 256)]) = List.map byteV done ++ [.int .u8 ((m : Int) % 256)] := by rw [List.map_append]; simp only [List.map_cons, List.map_nil, byte_mod]
      rw [← e2, ← e1] at hown1
      clear e2
      have E1 := Lib.hid e1
      clear e1
      go_wp2
      go_roundw
      case rel => exact ⟨m / 256, j, done ++ [UInt8.ofNat (m % 256)], by simp, rfl, hm2, by have := E1.out; omega, HE2, hown1, hb1⟩
      case measure => simp [intOf]
end Go.Proofs.YtfagjhgmmaebfaaGreatDoor
/- Contract of spec.End. -/
namespace Go.Proofs.YtfagjhgmmaebfaaGreatDoor
open Go.RowKit
theorem cat_mk (a b : List UInt8) : (⟨a.toArray⟩ : ByteArray) ++ ⟨b.toArray⟩ = ⟨(a ++ b).toArray⟩ := by
  apply ByteArray.ext
  simp
/-- The end of an archive. -/
def endL (many size at_ : Nat) (c : List UInt8) : List UInt8 := [80, 75, 5, 6] ++ leB 0 2 ++ leB 0 2 ++ leB many 2 ++ leB many 2 ++ leB size 4 ++ leB at_ 4 ++ leB c.length 2 ++ c

set_option maxHeartbeats 400000 in
theorem End_any (many size at_ : Nat) (c : List UInt8) (h1 : many ≤ 9223372036854775807) (h2 : size ≤ 9223372036854775807) (h3 : at_ ≤ 9223372036854775807) (h4 : c.length ≤ 9223372036854775785) (w : World) :
    Calls Tryz.prog 20 #[.int .i64 many, .int .i64 size, .int .i64 at_, .string ⟨c.toArray⟩] w fun e w' => e = .returned (.string ⟨(endL many size at_ c).toArray⟩) ∧ Below w.heap.size w w' := by
  have hcat := cat_mk
  have hsz : ∀ l : List UInt8, (ByteArray.mk l.toArray).size = l.length := fun _ => rfl
  have hlen := leB_length
  go_enter Tryz.func20, Tryz.ntmps20
  go_wp2_with fail
  refine (Bytes_any 0 2 (by decide) (by decide) _).mono ?_
  rintro e w1 ⟨rfl, hb1⟩
  go_wp2_with fail
  refine (Bytes_any 0 2 (by decide) (by decide) _).mono ?_
  rintro e w2 ⟨rfl, hb2⟩
  go_wp2_with fail
  refine (Bytes_any many 2 h1 (by decide) _).mono ?_
  rintro e w3 ⟨rfl, hb3⟩
  go_wp2_with fail
  refine (Bytes_any many 2 h1 (by decide) _).mono ?_
  rintro e w4 ⟨rfl, hb4⟩
  go_wp2_with fail
  refine (Bytes_any size 4 h2 (by decide) _).mono ?_
  rintro e w5 ⟨rfl, hb5⟩
  go_wp2_with fail
  refine (Bytes_any at_ 4 h3 (by decide) _).mono ?_
  rintro e w6 ⟨rfl, hb6⟩
  go_wp2_with fail
  refine (Bytes_any c.length 2 (by omega) (by decide) _).mono ?_
  rintro e w7 ⟨rfl, hb7⟩
  have s1 := hb1.size
  have s2 := hb2.size
  have s3 := hb3.size
  have s4 := hb4.size
  have s5 := hb5.size
  have s6 := hb6.size
  have hB : Below w.heap.size w w7 := (((((hb1.trans (hb2.mono s1)).trans (hb3.mono (by omega))).trans (hb4.mono (by omega))).trans (hb5.mono (by omega))).trans (hb6.mono (by omega))).trans (hb7.mono (by omega))
  clear hb1 hb2 hb3 hb4 hb5 hb6 hb7 s1 s2 s3 s4 s5 s6
  go_wp2
  go_ret
  exact ⟨by simp [endL], hB⟩
end Go.Proofs.YtfagjhgmmaebfaaGreatDoor
/- Contract of spec.Ends. -/
namespace Go.Proofs.YtfagjhgmmaebfaaGreatDoor
open Go.RowKit
def sigAt (l : List UInt8) (j : Nat) : Bool := (l.drop j).take 4 == [80, 75, 5, 6]
def cnt (l : List UInt8) : Nat → Nat
  | 0 => 0
  | k + 1 => cnt l k + if sigAt l k then 1 else 0
theorem cnt_le (l : List UInt8) (k : Nat) : cnt l k ≤ k := by
  induction k with
  | zero => exact Nat.le_refl _
  | succ k ih => unfold cnt; split <;> omega
/-- How many times the beginning of an end stands in a text. -/
def endsL (l : List UInt8) : Nat := cnt l (l.length - 3)
theorem sig_ext (l : List UInt8) (k : Nat) : (((ByteArray.mk l.toArray).extract k (k + 4)).toList == [80, 75, 5, 6]) = sigAt l k := by
  rw [Lib.extract_toList]
  unfold sigAt
  rw [show k + 4 - k = 4 by omega]
set_option maxHeartbeats 400000 in
theorem Ends_any (l : List UInt8) (h : l.length ≤ 9223372036854775800) (w : World) :
    Calls Tryz.prog 11 #[.string ⟨l.toArray⟩] w fun e w' => e = .returned (.int .i64 (endsL l)) ∧ w = w' := by
  have hsz : ∀ l : List UInt8, (ByteArray.mk l.toArray).size = l.length := fun _ => rfl
  go_enter Tryz.func11, Tryz.ntmps11
  go_wp2
  go_loop [3, 4] (fun s3 s4 => ∃ k : Nat, s4 = .int .i64 k ∧ k ≤ l.length - 3 ∧ s3 = .int .i64 (cnt l k)) (fun _ s4 => l.length - (intOf s4).toNat)
  case atStart => exact ⟨0, rfl, Nat.zero_le _, rfl⟩
  case round =>
    obtain ⟨k, rfl, hk, rfl⟩ := hrel
    have hc := cnt_le l k
    by_cases hlt : k + 4 ≤ l.length
    · have hx := sig_ext l k
      cases hs : sigAt l k
      · have hn : cnt l (k + 1) = cnt l k := by simp [cnt, hs]
        rw [hs] at hx
        have HN := Lib.hid hn
        clear hn hs
        go_wp2
        go_round
        case rel => exact ⟨k + 1, by go_num, by omega, by rw [HN.out]⟩
        case measure => simp [intOf]; omega
      · have hn : cnt l (k + 1) = cnt l k + 1 := by simp [cnt, hs]
        rw [hs] at hx
        have HN := Lib.hid hn
        clear hn hs
        go_wp2
        go_round
        case rel => exact ⟨k + 1, by go_num, by omega, by rw [HN.out]; go_num⟩
        case measure => simp [intOf]; omega
    · have hk' : k = l.length - 3 := by omega
      have HE : Hid (endsL l = cnt l k) := by rw [hk']; exact Lib.hid rfl
      clear hk'
      go_wp2
      go_ret
      exact ⟨by rw [HE.out]; rfl, rfl⟩
end Go.Proofs.YtfagjhgmmaebfaaGreatDoor
