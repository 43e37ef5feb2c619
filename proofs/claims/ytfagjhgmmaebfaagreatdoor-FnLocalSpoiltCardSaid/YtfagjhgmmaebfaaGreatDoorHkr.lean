/- Contracts: spec.Within, spec.HeaderOk. -/
import Derived.Laws.StructEq
import Derived.BigQuiet
import Derived.Test.YtfagjhgmmaebfaaGreatDoorFir
import Derived.Test.YtfagjhgmmaebfaaGreatDoorReads
import Derived.Test.YtfagjhgmmaebfaaGreatDoorOpr
namespace Go.Proofs.YtfagjhgmmaebfaaGreatDoor
open Go.RowKit
def within (n lo hi : Int) : Bool := decide (lo ≤ n) && decide (n ≤ hi)
theorem WithinH_any (n lo hi : Int) (w : World) : Calls Tryz.prog 32 #[.int .i64 n, .int .i64 lo, .int .i64 hi] w fun e' w' => e' = .returned (.bool (within n lo hi)) ∧ w' = w := by
  have hf := Lib.hid (show within n lo hi = (decide (lo ≤ n) && decide (n ≤ hi)) from rfl)
  by_cases a1 : n < lo
  · go_enter Tryz.func32, Tryz.ntmps32
    go_wp2
    go_ret
    have hv : within n lo hi = false := by rw [hf.out]; simp; omega
    exact ⟨by rw [hv]; rfl, rfl⟩
  by_cases a2 : hi < n
  · have hd : decide (n ≤ hi) = false := decide_eq_false (by omega)
    go_enter Tryz.func32, Tryz.ntmps32
    go_wp2
    go_ret
    have hv : within n lo hi = false := by rw [hf.out, hd]; simp
    exact ⟨by rw [hv]; first | rfl | (show Ending.returned (.bool (decide (n ≤ hi))) = _; rw [hd]), rfl⟩
  · have hd : decide (n ≤ hi) = true := decide_eq_true (by omega)
    go_enter Tryz.func32, Tryz.ntmps32
    go_wp2
    go_ret
    have hv : within n lo hi = true := by rw [hf.out, hd]; simp; omega
    exact ⟨by rw [hv]; first | rfl | (show Ending.returned (.bool (decide (n ≤ hi))) = _; rw [hd]), rfl⟩
theorem WithinH_is (n lo hi : Int) (b : Bool) (hb : within n lo hi = b) (w : World) : Calls Tryz.prog 32 #[.int .i64 n, .int .i64 lo, .int .i64 hi] w fun e' w' => e' = .returned (.bool b) ∧ w' = w := hb ▸ WithinH_any n lo hi w
theorem within_iff {n lo hi : Int} : within n lo hi = true ↔ lo ≤ n ∧ n ≤ hi := by simp [within]
def hdOk (e : En) : Bool := (within e.creator 0 65535 && within e.reader 0 65535 && within e.flags 0 65535 && within e.method 0 65535 && within e.time 0 65535 && within e.date 0 65535) && (within e.crc 0 4294967295 && within e.packed 0 4294967294 && within e.size 0 4294967294 && within e.external 0 4294967295) && decide (e.name.length ≤ 60000) && decide (e.comment.length ≤ 60000) && decide (e.extra.length ≤ 60000)
theorem dec_ret {p : Prop} [Decidable p] {b : Bool} (h : decide p = b) : Ending.returned (.bool (decide p)) = Ending.returned (.bool b) := by rw [h]
set_option maxRecDepth 100000 in
set_option maxHeartbeats 4000000 in
theorem HeaderOk_any (e : En) (h : e.Lens) (w : World) : Calls Tryz.prog 18 #[.agg #[.string ⟨e.name.toArray⟩, .string ⟨e.comment.toArray⟩, .string ⟨e.extra.toArray⟩, .bool e.nu, .int .i64 e.creator, .int .i64 e.reader, .int .i64 e.flags, .int .i64 e.method, .int .i64 e.time, .int .i64 e.date, .int .i64 e.crc, .int .i64 e.packed, .int .i64 e.size, .int .i64 e.external]] w fun e' w' => e' = .returned (.bool (hdOk e)) ∧ Below w.heap.size w w' := by
  have hsz : ∀ l : List UInt8, (ByteArray.mk l.toArray).size = l.length := fun _ => rfl
  have l1 := h.name
  have l2 := h.comment
  have l3 := h.extra
  clear h
  obtain ⟨b0, hb0⟩ : ∃ b, within e.creator 0 65535 = b := ⟨_, rfl⟩
  obtain ⟨b1, hb1⟩ : ∃ b, within e.reader 0 65535 = b := ⟨_, rfl⟩
  obtain ⟨b2, hb2⟩ : ∃ b, within e.flags 0 65535 = b := ⟨_, rfl⟩
  obtain ⟨b3, hb3⟩ : ∃ b, within e.method 0 65535 = b := ⟨_, rfl⟩
  obtain ⟨b4, hb4⟩ : ∃ b, within e.time 0 65535 = b := ⟨_, rfl⟩
  obtain ⟨b5, hb5⟩ : ∃ b, within e.date 0 65535 = b := ⟨_, rfl⟩
  obtain ⟨b6, hb6⟩ : ∃ b, within e.crc 0 4294967295 = b := ⟨_, rfl⟩
  obtain ⟨b7, hb7⟩ : ∃ b, within e.packed 0 4294967294 = b := ⟨_, rfl⟩
  obtain ⟨b8, hb8⟩ : ∃ b, within e.size 0 4294967294 = b := ⟨_, rfl⟩
  obtain ⟨b9, hb9⟩ : ∃ b, within e.external 0 4294967295 = b := ⟨_, rfl⟩
  obtain ⟨p2, hp2⟩ : ∃ p, p = (b0 && b1 && b2 && b3 && b4 && b5) := ⟨_, rfl⟩
  obtain ⟨p4, hp4⟩ : ∃ p, p = (b6 && b7 && b8 && b9) := ⟨_, rfl⟩
  have hf := Lib.hid (show hdOk e = (p2 && p4 && decide (e.name.length ≤ 60000) && decide (e.comment.length ≤ 60000) && decide (e.extra.length ≤ 60000)) by unfold hdOk; rw [hb0, hb1, hb2, hb3, hb4, hb5, hb6, hb7, hb8, hb9, hp2, hp4])
  have HW0 := Lib.hid (WithinH_is e.creator 0 65535 b0 hb0)
  have HW1 := Lib.hid (WithinH_is e.reader 0 65535 b1 hb1)
  have HW2 := Lib.hid (WithinH_is e.flags 0 65535 b2 hb2)
  have HW3 := Lib.hid (WithinH_is e.method 0 65535 b3 hb3)
  have HW4 := Lib.hid (WithinH_is e.time 0 65535 b4 hb4)
  have HW5 := Lib.hid (WithinH_is e.date 0 65535 b5 hb5)
  have HW6 := Lib.hid (WithinH_is e.crc 0 4294967295 b6 hb6)
  have HW7 := Lib.hid (WithinH_is e.packed 0 4294967294 b7 hb7)
  have HW8 := Lib.hid (WithinH_is e.size 0 4294967294 b8 hb8)
  have HW9 := Lib.hid (WithinH_is e.external 0 4294967295 b9 hb9)
  have HP2 := Lib.hid hp2
  have HP4 := Lib.hid hp4
  clear hp2 hp4 hb0 hb1 hb2 hb3 hb4 hb5 hb6 hb7 hb8 hb9
  go_enter Tryz.func18, Tryz.ntmps18
  go_upto_region 1 with (fail)
  refine atW (fun W => Blk W w.heap.size 39 #[.string ⟨e.name.toArray⟩, .string ⟨e.comment.toArray⟩, .string ⟨e.extra.toArray⟩, .bool e.nu, .int .i64 e.creator, .int .i64 e.reader, .int .i64 e.flags, .int .i64 e.method, .int .i64 e.time, .int .i64 e.date, .int .i64 e.crc, .int .i64 e.packed, .int .i64 e.size, .int .i64 e.external] ∧ Below w.heap.size w W) ⟨Blk.new _ _ _, (Below.refl _ _).alloc (Nat.le_refl _) _⟩ ?_
  rintro W ⟨hW, hbW⟩
  obtain ⟨g, hg⟩ : ∃ g, g = w.heap.size := ⟨_, rfl⟩
  rw [← hg] at hW ⊢
  have HB := Lib.hid (And.intro hbW hg)
  have c0 : W.cell? ⟨g, 0, none⟩ = some (.string ⟨e.name.toArray⟩) := (hW.cell 0).trans rfl
  have c1 : W.cell? ⟨g, 1, none⟩ = some (.string ⟨e.comment.toArray⟩) := (hW.cell 1).trans rfl
  have c2 : W.cell? ⟨g, 2, none⟩ = some (.string ⟨e.extra.toArray⟩) := (hW.cell 2).trans rfl
  have c3 : W.cell? ⟨g, 3, none⟩ = some (.bool e.nu) := (hW.cell 3).trans rfl
  have c4 : W.cell? ⟨g, 4, none⟩ = some (.int .i64 e.creator) := (hW.cell 4).trans rfl
  have c5 : W.cell? ⟨g, 5, none⟩ = some (.int .i64 e.reader) := (hW.cell 5).trans rfl
  have c6 : W.cell? ⟨g, 6, none⟩ = some (.int .i64 e.flags) := (hW.cell 6).trans rfl
  have c7 : W.cell? ⟨g, 7, none⟩ = some (.int .i64 e.method) := (hW.cell 7).trans rfl
  have c8 : W.cell? ⟨g, 8, none⟩ = some (.int .i64 e.time) := (hW.cell 8).trans rfl
  have c9 : W.cell? ⟨g, 9, none⟩ = some (.int .i64 e.date) := (hW.cell 9).trans rfl
  have c10 : W.cell? ⟨g, 10, none⟩ = some (.int .i64 e.crc) := (hW.cell 10).trans rfl
  have c11 : W.cell? ⟨g, 11, none⟩ = some (.int .i64 e.packed) := (hW.cell 11).trans rfl
  have c12 : W.cell? ⟨g, 12, none⟩ = some (.int .i64 e.size) := (hW.cell 12).trans rfl
  have c13 : W.cell? ⟨g, 13, none⟩ = some (.int .i64 e.external) := (hW.cell 13).trans rfl
  clear hW hbW hg
  go_cut [3] from 5 (fun s3 W' => s3 = .bool p2 ∧ W = W')
  case first =>
    go_wp2_with fail
    refine (HW0.out _).mono ?_
    rintro e' w' ⟨rfl, hw'⟩
    subst w'
    cases b0
    · go_wp2
      go_meet
      exact ⟨by rw [HP2.out]; rfl, rfl⟩
    go_wp2_with fail
    refine (HW1.out _).mono ?_
    rintro e' w' ⟨rfl, hw'⟩
    subst w'
    cases b1
    · go_wp2
      go_meet
      exact ⟨by rw [HP2.out]; rfl, rfl⟩
    go_wp2_with fail
    refine (HW2.out _).mono ?_
    rintro e' w' ⟨rfl, hw'⟩
    subst w'
    cases b2
    · go_wp2
      go_meet
      exact ⟨by rw [HP2.out]; rfl, rfl⟩
    go_wp2_with fail
    refine (HW3.out _).mono ?_
    rintro e' w' ⟨rfl, hw'⟩
    subst w'
    cases b3
    · go_wp2
      go_meet
      exact ⟨by rw [HP2.out]; rfl, rfl⟩
    go_wp2_with fail
    refine (HW4.out _).mono ?_
    rintro e' w' ⟨rfl, hw'⟩
    subst w'
    cases b4
    · go_wp2
      go_meet
      exact ⟨by rw [HP2.out]; rfl, rfl⟩
    go_wp2_with fail
    refine (HW5.out _).mono ?_
    rintro e' w' ⟨rfl, hw'⟩
    subst w'
    cases b5
    · go_wp2
      go_meet
      exact ⟨by rw [HP2.out]; rfl, rfl⟩
    go_wp2
    go_meet
    exact ⟨by rw [HP2.out]; rfl, rfl⟩
  case rest =>
  obtain ⟨rfl, rfl⟩ := hcut
  go_upto_region 2 with (fail)
  go_cut [4] from 5 (fun s4 W' => s4 = .bool p4 ∧ W = W')
  case first =>
    go_wp2_with fail
    refine (HW6.out _).mono ?_
    rintro e' w' ⟨rfl, hw'⟩
    subst w'
    cases b6
    · go_wp2
      go_meet
      exact ⟨by rw [HP4.out]; rfl, rfl⟩
    go_wp2_with fail
    refine (HW7.out _).mono ?_
    rintro e' w' ⟨rfl, hw'⟩
    subst w'
    cases b7
    · go_wp2
      go_meet
      exact ⟨by rw [HP4.out]; rfl, rfl⟩
    go_wp2_with fail
    refine (HW8.out _).mono ?_
    rintro e' w' ⟨rfl, hw'⟩
    subst w'
    cases b8
    · go_wp2
      go_meet
      exact ⟨by rw [HP4.out]; rfl, rfl⟩
    go_wp2_with fail
    refine (HW9.out _).mono ?_
    rintro e' w' ⟨rfl, hw'⟩
    subst w'
    cases b9
    · go_wp2
      go_meet
      exact ⟨by rw [HP4.out]; rfl, rfl⟩
    go_wp2
    go_meet
    exact ⟨by rw [HP4.out]; rfl, rfl⟩
  case rest =>
  obtain ⟨rfl, rfl⟩ := hcut
  cases p2
  · go_wp2
    go_ret
    have hv : hdOk e = false := by rw [hf.out]; simp; try omega
    exact ⟨by rw [hv]; first | rfl | exact dec_ret (by simp; omega), HB.out.1⟩
  cases p4
  · go_wp2
    go_ret
    have hv : hdOk e = false := by rw [hf.out]; simp; try omega
    exact ⟨by rw [hv]; first | rfl | exact dec_ret (by simp; omega), HB.out.1⟩
  by_cases d0 : 60000 < e.name.length
  · go_wp2
    go_ret
    have hv : hdOk e = false := by rw [hf.out]; simp; try omega
    exact ⟨by rw [hv]; first | rfl | exact dec_ret (by simp; omega), HB.out.1⟩
  by_cases d1 : 60000 < e.comment.length
  · go_wp2
    go_ret
    have hv : hdOk e = false := by rw [hf.out]; simp; try omega
    exact ⟨by rw [hv]; first | rfl | exact dec_ret (by simp; omega), HB.out.1⟩
  by_cases d2 : 60000 < e.extra.length
  · go_wp2
    go_ret
    have hv : hdOk e = false := by rw [hf.out]; simp; try omega
    exact ⟨by rw [hv]; first | rfl | exact dec_ret (by simp; omega), HB.out.1⟩
  · go_wp2
    go_ret
    have hv : hdOk e = true := by rw [hf.out]; simp; try omega
    exact ⟨by rw [hv]; first | rfl | exact dec_ret (by simp; omega), HB.out.1⟩
theorem HeaderOk_is (e : En) (h : e.Lens) (b : Bool) (hb : hdOk e = b) (w : World) : Calls Tryz.prog 18 #[.agg #[.string ⟨e.name.toArray⟩, .string ⟨e.comment.toArray⟩, .string ⟨e.extra.toArray⟩, .bool e.nu, .int .i64 e.creator, .int .i64 e.reader, .int .i64 e.flags, .int .i64 e.method, .int .i64 e.time, .int .i64 e.date, .int .i64 e.crc, .int .i64 e.packed, .int .i64 e.size, .int .i64 e.external]] w fun e' w' => e' = .returned (.bool b) ∧ Below w.heap.size w w' := hb ▸ HeaderOk_any e h w
theorem hdOk_parts {e : En} (h : hdOk e = true) : ((0 ≤ e.creator ∧ e.creator ≤ 65535) ∧ (0 ≤ e.reader ∧ e.reader ≤ 65535) ∧ (0 ≤ e.flags ∧ e.flags ≤ 65535) ∧ (0 ≤ e.method ∧ e.method ≤ 65535) ∧ (0 ≤ e.time ∧ e.time ≤ 65535) ∧ (0 ≤ e.date ∧ e.date ≤ 65535)) ∧ ((0 ≤ e.crc ∧ e.crc ≤ 4294967295) ∧ (0 ≤ e.packed ∧ e.packed ≤ 4294967294) ∧ (0 ≤ e.size ∧ e.size ≤ 4294967294) ∧ (0 ≤ e.external ∧ e.external ≤ 4294967295)) ∧ e.name.length ≤ 60000 ∧ e.comment.length ≤ 60000 ∧ e.extra.length ≤ 60000 := by
  unfold hdOk at h
  simp only [Bool.and_eq_true, within_iff, decide_eq_true_eq] at h
  obtain ⟨⟨⟨⟨⟨⟨⟨⟨⟨a1, a2⟩, a3⟩, a4⟩, a5⟩, a6⟩, ⟨⟨b1, b2⟩, b3⟩, b4⟩, c1⟩, c2⟩, c3⟩ := h
  exact ⟨⟨a1, a2, a3, a4, a5, a6⟩, ⟨b1, b2, b3, b4⟩, c1, c2, c3⟩
theorem En.Wf.lensR {e : En} (h : e.Wf) : e.Lens := ⟨h.name, h.comment, h.extra, h.data⟩
end Go.Proofs.YtfagjhgmmaebfaaGreatDoor
