/- Proved: laws.FnModeDirectory returns true for every string and two ints (the statement FnModeDirectorySaid), with no conditions. -/
import Derived.Test.YtdnijpehlahdnaaUnixBack
namespace Go.Proofs.Ytdnijpehlahdnaa.fnModeDirectory
open Go.ChangeMaps (open_string shut_string)
open Go.ChangeShapes Go.WideShapes Go.ChangeAt Go.RowKit

theorem fs_dir : ∀ q : Nat, q < 128 → ((modeKind (fsV ((512 * q : Nat) : Int)) == 0) = false ∧ (modeKind (fsV ((512 * q : Nat) : Int)) == 1) = false) ∨ (modeKind (bits .or .u32 (fsV ((512 * q : Nat) : Int)) 2147483648) = 1) := by
  decide +kernel

/-- What two headers, one with a slash behind its name, tell. -/
theorem dir_law (c x : Int) (x0 : 0 ≤ x) (x1 : x ≤ 4294967295) : attrV c x % 512 = bits .or .u32 (attrV c x) 2147483648 % 512 ∧
    (((modeKind (attrV c x) == 0) = false ∧ (modeKind (attrV c x) == 1) = false) ∨ modeKind (bits .or .u32 (attrV c x) 2147483648) = 1) := by
  have key : ∃ p C : Int, attrV c x = p + C ∧ 0 ≤ p ∧ p ≤ 511 ∧ Hi C ∧ (((modeKind C == 0) = false ∧ (modeKind C == 1) = false) ∨ modeKind (bits .or .u32 C 2147483648) = 1) := by
    have hf : ∃ p C : Int, fsV (x / 65536) = p + C ∧ 0 ≤ p ∧ p ≤ 511 ∧ Hi C ∧ (((modeKind C == 0) = false ∧ (modeKind C == 1) = false) ∨ modeKind (bits .or .u32 C 2147483648) = 1) := by
      obtain ⟨m, hm⟩ := Int.eq_ofNat_of_zero_le (show 0 ≤ x / 65536 by omega)
      rw [hm]
      have h : ((m : Nat) : Int) = ((m % 512 : Nat) : Int) + ((512 * (m / 512) : Nat) : Int) := by omega
      rw [h]
      have hC : Hi ((512 * (m / 512) : Nat) : Int) := ⟨_, rfl, by omega⟩
      obtain ⟨e, hF⟩ := fs_lo (p := ((m % 512 : Nat) : Int)) (by omega) (by omega) hC
      exact ⟨_, _, e, by omega, by omega, hF, fs_dir _ (by omega)⟩
    have hd : ∃ p C : Int, dosV x = p + C ∧ 0 ≤ p ∧ p ≤ 511 ∧ Hi C ∧ (((modeKind C == 0) = false ∧ (modeKind C == 1) = false) ∨ modeKind (bits .or .u32 C 2147483648) = 1) := by
      unfold dosV
      split <;> split
      · exact ⟨365, 2147483648, by decide, by omega, by omega, H31, by decide⟩
      · exact ⟨292, 0, by decide, by omega, by omega, H0, by decide⟩
      · exact ⟨511, 2147483648, by decide, by omega, by omega, H31, by decide⟩
      · exact ⟨438, 0, by decide, by omega, by omega, H0, by decide⟩
    have hz : ∃ p C : Int, 0 = p + C ∧ 0 ≤ p ∧ p ≤ 511 ∧ Hi C ∧ (((modeKind C == 0) = false ∧ (modeKind C == 1) = false) ∨ modeKind (bits .or .u32 C 2147483648) = 1) :=
      ⟨0, 0, by decide, by omega, by omega, H0, by decide⟩
    unfold attrV
    generalize fsV (x / 65536) = f at hf ⊢
    generalize dosV x = d at hd ⊢
    (repeat' split) <;> assumption
  obtain ⟨p, C, e, p0, p1, hC, hk⟩ := key
  rw [e, hi_or p0 p1 hC H31, mod_lo p0 p1 hC, mod_lo p0 p1 (hC.or H31), kind_lo p0 p1 hC, kind_lo p0 p1 (hC.or H31)]
  exact ⟨rfl, hk⟩

def Is13 (s : ByteArray) (c x p k : Int) (a b d : Bool) : Prop := ∀ w, Calls Try.prog 13 #[.string s, .int .i64 c, .int .i64 x] w fun e w' => e = .returned (.agg #[.int .i64 p, .int .i64 k, .bool a, .bool b, .bool d]) ∧ Below w.heap.size w w'
theorem field_1 (v0 v1 v2 v3 v4 : Value) (w : World) : (Instr.field 27 (.agg #[v0, v1, v2, v3, v4]) 1).run Try.prog w = .ok v1 w := by kernel_rfl

theorem not_empty (s : ByteArray) (hpos : 0 < s.size) : s.toList.isEmpty = false := by
  obtain ⟨⟨l⟩⟩ := s
  cases l with
  | nil => exact absurd hpos (by decide)
  | cons b l => rw [ByteArray.toList_eq]; rfl
set_option maxHeartbeats 1000000 in
theorem walk_some (s : ByteArray) (c x p k k' q : Int) (a b d a' b' d' a2 b2 d2 : Bool) (w : World) (hs : s.size ≤ 2147483647) (hpos : 0 < s.size) (hl : (((s[s.size - 1]'(by omega)).toNat : Int) == 47) = false)
    (c0 : 0 ≤ c) (c1 : c ≤ 65535) (x0 : 0 ≤ x) (x1 : x ≤ 4294967295) (ha : Is13 s c x p k a b d) (hb : Is13 (s ++ ⟨#[47]⟩) c x p k' a' b' d') (hd : Is13 ⟨#[100, 47]⟩ 0 0 q 1 a2 b2 d2)
    (hk : k = 0 ∧ k' = 1 ∨ k = 1 ∧ k' = 1 ∨ (k == 0) = false ∧ (k == 1) = false) :
    Calls Try.prog 6 #[.string s, .int .i64 c, .int .i64 x] w fun e w' => e = .returned (.bool true) ∧ Below w.heap.size w w' := by
  have Ha := Lib.hid ha
  have Hb := Lib.hid hb
  have Hd := Lib.hid hd
  clear ha hb hd
  have hne := not_empty s hpos
  have hlt : s.size - 1 < s.size := by omega
  rcases hk with ⟨rfl, rfl⟩ | ⟨rfl, rfl⟩ | ⟨hk0, hk1⟩
  · go_enter Try.func6, Try.ntmps6
    go_wp2_with fail
    refine (Ha.out _).mono ?_
    rintro e w1 ⟨rfl, hb1⟩
    have hz1 := hb1.size
    go_wp2_with fail
    refine (Hb.out _).mono ?_
    rintro e w2 ⟨rfl, hb2⟩
    have hz2 := hb2.size
    simp at hz2
    obtain ⟨hc2, hf2⟩ := bcell hb2
    have n12 : w1.heap.size ≠ w2.heap.size := by omega
    have m0 : w2.cell? ⟨w1.heap.size, 0, none⟩ = some (.int .i64 p) := by rw [hc2 _ _ (by simp)]; simp
    have m1 : w2.cell? ⟨w1.heap.size, 1, none⟩ = some (.int .i64 0) := by rw [hc2 _ _ (by simp)]; simp
    have l12 : w1.heap.size < w2.heap.size := by omega
    have hBB : Below w.heap.size w w2 := hb1.trans ((below_alloc hb2).mono (by omega))
    clear hc2 hf2 hb1 hb2
    have hfd := field_1
    go_wp2_with fail
    refine (Hd.out _).mono ?_
    rintro e w3 ⟨rfl, hb3⟩
    go_wp2
    go_ret
    exact ⟨rfl, ((hBB.alloc (by omega) _)).trans (hb3.mono (by simp; omega))⟩
  · go_enter Try.func6, Try.ntmps6
    go_wp2_with fail
    refine (Ha.out _).mono ?_
    rintro e w1 ⟨rfl, hb1⟩
    have hz1 := hb1.size
    go_wp2_with fail
    refine (Hb.out _).mono ?_
    rintro e w2 ⟨rfl, hb2⟩
    have hz2 := hb2.size
    simp at hz2
    obtain ⟨hc2, hf2⟩ := bcell hb2
    have n12 : w1.heap.size ≠ w2.heap.size := by omega
    have m0 : w2.cell? ⟨w1.heap.size, 0, none⟩ = some (.int .i64 p) := by rw [hc2 _ _ (by simp)]; simp
    have m1 : w2.cell? ⟨w1.heap.size, 1, none⟩ = some (.int .i64 1) := by rw [hc2 _ _ (by simp)]; simp
    have l12 : w1.heap.size < w2.heap.size := by omega
    have hBB : Below w.heap.size w w2 := hb1.trans ((below_alloc hb2).mono (by omega))
    clear hc2 hf2 hb1 hb2
    have hfd := field_1
    go_wp2_with fail
    refine (Hd.out _).mono ?_
    rintro e w3 ⟨rfl, hb3⟩
    go_wp2
    go_ret
    exact ⟨rfl, ((hBB.alloc (by omega) _)).trans (hb3.mono (by simp; omega))⟩
  · have hn0 : (k != 0) = true := by simp at hk0 ⊢; exact hk0
    have hn1 : (k != 1) = true := by simp at hk1 ⊢; exact hk1
    have hN0 : ¬ k = 0 := by simpa using hk0
    have hN1 : ¬ k = 1 := by simpa using hk1
    go_enter Try.func6, Try.ntmps6
    go_wp2_with fail
    refine (Ha.out _).mono ?_
    rintro e w1 ⟨rfl, hb1⟩
    have hz1 := hb1.size
    go_wp2_with fail
    refine (Hb.out _).mono ?_
    rintro e w2 ⟨rfl, hb2⟩
    have hz2 := hb2.size
    simp at hz2
    obtain ⟨hc2, hf2⟩ := bcell hb2
    have n12 : w1.heap.size ≠ w2.heap.size := by omega
    have m0 : w2.cell? ⟨w1.heap.size, 0, none⟩ = some (.int .i64 p) := by rw [hc2 _ _ (by simp)]; simp
    have m1 : w2.cell? ⟨w1.heap.size, 1, none⟩ = some (.int .i64 k) := by rw [hc2 _ _ (by simp)]; simp
    have l12 : w1.heap.size < w2.heap.size := by omega
    have hBB : Below w.heap.size w w2 := hb1.trans ((below_alloc hb2).mono (by omega))
    clear hc2 hf2 hb1 hb2
    have hfd := field_1
    go_wp2_with fail
    refine (Hd.out _).mono ?_
    rintro e w3 ⟨rfl, hb3⟩
    go_wp2
    go_ret
    exact ⟨rfl, ((hBB.alloc (by omega) _)).trans (hb3.mono (by simp; omega))⟩

set_option maxHeartbeats 1000000 in
theorem walk_none (c x p k k' q : Int) (a b d a' b' d' a2 b2 d2 : Bool) (w : World)
    (c0 : 0 ≤ c) (c1 : c ≤ 65535) (x0 : 0 ≤ x) (x1 : x ≤ 4294967295) (ha : Is13 ⟨#[]⟩ c x p k a b d) (hb : Is13 ⟨#[47]⟩ c x p k' a' b' d') (hd : Is13 ⟨#[100, 47]⟩ 0 0 q 1 a2 b2 d2)
    (hk : k = 0 ∧ k' = 1 ∨ k = 1 ∧ k' = 1 ∨ (k == 0) = false ∧ (k == 1) = false) :
    Calls Try.prog 6 #[.string ⟨#[]⟩, .int .i64 c, .int .i64 x] w fun e w' => e = .returned (.bool true) ∧ Below w.heap.size w w' := by
  have Ha := Lib.hid ha
  have Hb := Lib.hid hb
  have Hd := Lib.hid hd
  clear ha hb hd
  rcases hk with ⟨rfl, rfl⟩ | ⟨rfl, rfl⟩ | ⟨hk0, hk1⟩
  · go_enter Try.func6, Try.ntmps6
    go_wp2_with fail
    refine (Ha.out _).mono ?_
    rintro e w1 ⟨rfl, hb1⟩
    have hz1 := hb1.size
    go_wp2_with fail
    refine (Hb.out _).mono ?_
    rintro e w2 ⟨rfl, hb2⟩
    have hz2 := hb2.size
    simp at hz2
    obtain ⟨hc2, hf2⟩ := bcell hb2
    have n12 : w1.heap.size ≠ w2.heap.size := by omega
    have m0 : w2.cell? ⟨w1.heap.size, 0, none⟩ = some (.int .i64 p) := by rw [hc2 _ _ (by simp)]; simp
    have m1 : w2.cell? ⟨w1.heap.size, 1, none⟩ = some (.int .i64 0) := by rw [hc2 _ _ (by simp)]; simp
    have l12 : w1.heap.size < w2.heap.size := by omega
    have hBB : Below w.heap.size w w2 := hb1.trans ((below_alloc hb2).mono (by omega))
    clear hc2 hf2 hb1 hb2
    have hfd := field_1
    go_wp2_with fail
    refine (Hd.out _).mono ?_
    rintro e w3 ⟨rfl, hb3⟩
    go_wp2
    go_ret
    exact ⟨rfl, ((hBB.alloc (by omega) _)).trans (hb3.mono (by simp; omega))⟩
  · go_enter Try.func6, Try.ntmps6
    go_wp2_with fail
    refine (Ha.out _).mono ?_
    rintro e w1 ⟨rfl, hb1⟩
    have hz1 := hb1.size
    go_wp2_with fail
    refine (Hb.out _).mono ?_
    rintro e w2 ⟨rfl, hb2⟩
    have hz2 := hb2.size
    simp at hz2
    obtain ⟨hc2, hf2⟩ := bcell hb2
    have n12 : w1.heap.size ≠ w2.heap.size := by omega
    have m0 : w2.cell? ⟨w1.heap.size, 0, none⟩ = some (.int .i64 p) := by rw [hc2 _ _ (by simp)]; simp
    have m1 : w2.cell? ⟨w1.heap.size, 1, none⟩ = some (.int .i64 1) := by rw [hc2 _ _ (by simp)]; simp
    have l12 : w1.heap.size < w2.heap.size := by omega
    have hBB : Below w.heap.size w w2 := hb1.trans ((below_alloc hb2).mono (by omega))
    clear hc2 hf2 hb1 hb2
    have hfd := field_1
    go_wp2_with fail
    refine (Hd.out _).mono ?_
    rintro e w3 ⟨rfl, hb3⟩
    go_wp2
    go_ret
    exact ⟨rfl, ((hBB.alloc (by omega) _)).trans (hb3.mono (by simp; omega))⟩
  · have hn0 : (k != 0) = true := by simp at hk0 ⊢; exact hk0
    have hn1 : (k != 1) = true := by simp at hk1 ⊢; exact hk1
    have hN0 : ¬ k = 0 := by simpa using hk0
    have hN1 : ¬ k = 1 := by simpa using hk1
    go_enter Try.func6, Try.ntmps6
    go_wp2_with fail
    refine (Ha.out _).mono ?_
    rintro e w1 ⟨rfl, hb1⟩
    have hz1 := hb1.size
    go_wp2_with fail
    refine (Hb.out _).mono ?_
    rintro e w2 ⟨rfl, hb2⟩
    have hz2 := hb2.size
    simp at hz2
    obtain ⟨hc2, hf2⟩ := bcell hb2
    have n12 : w1.heap.size ≠ w2.heap.size := by omega
    have m0 : w2.cell? ⟨w1.heap.size, 0, none⟩ = some (.int .i64 p) := by rw [hc2 _ _ (by simp)]; simp
    have m1 : w2.cell? ⟨w1.heap.size, 1, none⟩ = some (.int .i64 k) := by rw [hc2 _ _ (by simp)]; simp
    have l12 : w1.heap.size < w2.heap.size := by omega
    have hBB : Below w.heap.size w w2 := hb1.trans ((below_alloc hb2).mono (by omega))
    clear hc2 hf2 hb1 hb2
    have hfd := field_1
    go_wp2_with fail
    refine (Hd.out _).mono ?_
    rintro e w3 ⟨rfl, hb3⟩
    go_wp2
    go_ret
    exact ⟨rfl, ((hBB.alloc (by omega) _)).trans (hb3.mono (by simp; omega))⟩

theorem last_slash (s t : ByteArray) (ht : t = s ++ ⟨#[47]⟩) : t.size = s.size + 1 ∧ ∀ h : t.size - 1 < t.size, ((((t[t.size - 1]'h)).toNat : Int) == 47) = true := by
  have e : t.size = s.size + 1 := by rw [ht, ByteArray.size_append]; rfl
  refine ⟨e, ?_⟩
  have e2 : t.size - 1 = s.size := by omega
  rw [e2]
  intro h
  subst ht
  rw [ByteArray.getElem_append_right (by omega)]
  simp
  rfl

theorem is_plain (s : ByteArray) (hs : s.size ≤ 2147483647) (hl : s = ⟨#[]⟩ ∨ ∃ h : 0 < s.size, (((s[s.size - 1]'(by omega)).toNat : Int) == 47) = false) (c x : Int) (c0 : 0 ≤ c) (c1 : c ≤ 65535) (x0 : 0 ≤ x) (x1 : x ≤ 4294967295) :
    Is13 s c x (attrV c x % 512) (modeKind (attrV c x)) (modeU (attrV c x)) (modeG (attrV c x)) (modeS (attrV c x)) := by
  intro w
  rcases hl with rfl | ⟨h, hl⟩
  · exact modeOf_none c x c0 c1 x0 x1 w
  · exact modeOf_core s c x _ (attrV_lt c x) (modeIs_plain s c x c0 x0 h (by omega) hl) c0 c1 x0 x1 w
theorem is_dir (s : ByteArray) (hs : s.size ≤ 2147483647) (c x : Int) (c0 : 0 ≤ c) (c1 : c ≤ 65535) (x0 : 0 ≤ x) (x1 : x ≤ 4294967295) (M : Int) (hM : bits .or .u32 (attrV c x) 2147483648 = M) (t : ByteArray) (ht : t = s ++ ⟨#[47]⟩) :
    Is13 t c x (M % 512) (modeKind M) (modeU M) (modeG M) (modeS M) := by
  intro w
  obtain ⟨e, hl⟩ := last_slash s t ht
  have hM2 : 0 ≤ M ∧ M < 4294967296 := by rw [← hM]; exact bits_u32 _ _ _
  have hm : ModeIs t c x M := by
    rw [← hM]
    exact modeIs_dir t c x c0 x0 (by omega) (by omega) (hl _)
  exact modeOf_core t c x M hM2 hm c0 c1 x0 x1 w

theorem walk (s : ByteArray) (hs : s.size ≤ maxLen) (c : Int) (_wc : (Lit.int .i64 c).wf = true) (x : Int) (_wx : (Lit.int .i64 x).wf = true) (w : World) :
    Calls Try.prog 6 #[.string s, .int .i64 c, .int .i64 x] w fun e w' => e = .returned (.bool true) ∧ Below w.heap.size w w' := by
  unfold maxLen at hs
  by_cases hsz : 2147483647 < s.size
  · go_enter Try.func6, Try.ntmps6
    go_wp2
    all_goals
      go_ret
      exact ⟨rfl, Below.refl _ _⟩
  by_cases h : 0 ≤ c ∧ c ≤ 65535 ∧ 0 ≤ x ∧ x ≤ 4294967295
  · obtain ⟨c0, c1, x0, x1⟩ := h
    obtain ⟨hp, hk⟩ := dir_law c x x0 x1
    have hd : Is13 ⟨#[100, 47]⟩ 0 0 _ _ _ _ _ := is_dir ⟨#[100]⟩ (by decide) 0 0 (by omega) (by omega) (by omega) (by omega) 2147484086 (by decide) ⟨#[100, 47]⟩ (by decide)
    have hk1 : modeKind 2147484086 = 1 := by decide
    rw [hk1] at hd
    obtain ⟨t, ht⟩ : ∃ t, t = s ++ ⟨#[47]⟩ := ⟨_, rfl⟩
    have hb := is_dir s (by omega) c x c0 c1 x0 x1 _ rfl t ht
    rw [← hp] at hb
    have hk' : modeKind (attrV c x) = 0 ∧ modeKind (bits .or .u32 (attrV c x) 2147483648) = 1 ∨ modeKind (attrV c x) = 1 ∧ modeKind (bits .or .u32 (attrV c x) 2147483648) = 1 ∨ (modeKind (attrV c x) == 0) = false ∧ (modeKind (attrV c x) == 1) = false := by
      rcases hk with h | h
      · exact .inr (.inr h)
      · by_cases e0 : modeKind (attrV c x) = 0
        · exact .inl ⟨e0, h⟩
        · by_cases e1 : modeKind (attrV c x) = 1
          · exact .inr (.inl ⟨e1, h⟩)
          · exact .inr (.inr ⟨by simpa using e0, by simpa using e1⟩)
    by_cases h0 : s.size = 0
    · have hs0 : s = ⟨#[]⟩ := by
        obtain ⟨d⟩ := s
        have : d.size = 0 := h0
        have : d = #[] := by simpa using this
        rw [this]
      have ha := is_plain s (by omega) (.inl hs0) c x c0 c1 x0 x1
      have ht' : t = ⟨#[47]⟩ := by rw [ht, hs0]; rfl
      rw [hs0] at ha ⊢
      rw [ht'] at hb
      exact walk_none c x _ _ _ _ _ _ _ _ _ _ _ _ _ w c0 c1 x0 x1 ha hb hd hk'
    · by_cases hl : (((s[s.size - 1]'(by omega)).toNat : Int) == 47) = true
      · have hlt : s.size - 1 < s.size := by omega
        have hne := not_empty s (by omega)
        go_enter Try.func6, Try.ntmps6
        go_wp2
        go_ret
        exact ⟨rfl, Below.refl _ _⟩
      · have hl' := Bool.eq_false_iff.2 hl
        have ha := is_plain s (by omega) (.inr ⟨by omega, hl'⟩) c x c0 c1 x0 x1
        rw [ht] at hb
        exact walk_some s c x _ _ _ _ _ _ _ _ _ _ _ _ _ w (by omega) (by omega) hl' c0 c1 x0 x1 ha hb hd hk'
  · by_cases h0 : s.size = 0
    · have hs0 : s = ⟨#[]⟩ := by
        obtain ⟨d⟩ := s
        have : d.size = 0 := h0
        have : d = #[] := by simpa using this
        rw [this]
      subst hs0
      go_enter Try.func6, Try.ntmps6
      go_wp2
      all_goals
        go_ret
        exact ⟨rfl, Below.refl _ _⟩
    · have hlt : s.size - 1 < s.size := by omega
      have hne := not_empty s (by omega)
      go_enter Try.func6, Try.ntmps6
      go_wp2
      all_goals
        go_ret
        exact ⟨rfl, Below.refl _ _⟩

theorem own : ownKnob Try.prog.godebug = none := by kernel_rfl
theorem laidOut : laidOutB Try.prog = true := by kernel_rfl
set_option maxRecDepth 100000 in
theorem lifted (os : Os) (started : os.Started) (H : Type) (enc : TypeId × Value → H) :
    ReturnsInHanded {} Try.checked os 6 .any (Rows.fnModeDirectorySpec.pre6 enc Try.prog Try.f6 Rows.fnModeDirectoryRow.domain false) (Rows.fnModeDirectorySpec.post enc Try.prog Try.f6 false true false false) := by
  refine returnsInHanded_of_change (C := Try.checked) own started (by kernel_rfl) Try.func6
    (ChangeSpec.witness6 (enc := enc) (C := Try.checked) false ⟨#[], #[.string ⟨#[]⟩, .int .i64 0, .int .i64 0], []⟩ 8 (by kernel_rfl) (by kernel_rfl) (by kernel_rfl) (by kernel_rfl)) ?_
  intro W base args ds gs before hval0 hW hcnd _
  have hval : ∀ (j : Nat) t v, Try.f6.params[j]? = some t → args[j]? = some v → Value.okWide Try.prog W .any base t v := hval0
  have hW' := hW
  obtain ⟨p, q, hA0, hV, rfl, hfz, hnd⟩ := hW
  have hA : DataW.TrodAll enc Try.prog W 0 (fun _ => true) true Try.f6.params.toList args.toList ds p := hA0
  rw [Try.params6] at hA hval
  obtain ⟨v0, vs0, d0, ds0, p0, q0, hargs, rfl, rfl, h0, r0⟩ := trodAll_cons hA
  obtain ⟨v1, vs1, d1, ds1, p1, q1, rfl, rfl, rfl, h1, r1⟩ := trodAll_cons r0
  obtain ⟨v2, vs2, d2, ds2, p2, q2, rfl, rfl, rfl, h2, r2⟩ := trodAll_cons r1
  obtain ⟨rfl, rfl, rfl⟩ := trodAll_nil r2
  obtain rfl : args = #[v0, v1, v2] := by cases args; simp_all
  obtain ⟨rfl, rfl⟩ := trodVars_none hV
  have k0 := h0
  have lt0 : ∀ x ∈ p0, x.block < W.heap.size := by obtain ⟨m, hm⟩ := k0; exact DataW.trod_lt m _ _ _ hm
  obtain ⟨a0, rfl, _, _, w0⟩ := open_string Try.underlying9 (hval 0 9 v0 rfl rfl) h0
  have k1 := h1
  have lt1 : ∀ x ∈ p1, x.block < W.heap.size := by obtain ⟨m, hm⟩ := k1; exact DataW.trod_lt m _ _ _ hm
  obtain ⟨a1, rfl, _, _, w1⟩ := open_int Try.underlying3 (hval 1 3 v1 rfl rfl) h1
  have k2 := h2
  have lt2 : ∀ x ∈ p2, x.block < W.heap.size := by obtain ⟨m, hm⟩ := k2; exact DataW.trod_lt m _ _ _ hm
  obtain ⟨a2, rfl, _, _, w2⟩ := open_int Try.underlying3 (hval 2 3 v2 rfl rfl) h2
  clear hA0 hval0
  refine (walk a0 w0 a1 w1 a2 w2 W).mono fun e W' ⟨he, bel⟩ => ?_
  subst he
  exact ⟨_, rfl, _, _, _, [], _, [], hW', trodAll_mk1 (shut_bool Try.underlying4 _), (trodAll_cons_mk (Below.trod laidOut (by kernel_rfl) (of_decide_eq_true (by kernel_rfl)) k0 bel lt0) (trodAll_cons_mk (Below.trod laidOut (by kernel_rfl) (of_decide_eq_true (by kernel_rfl)) k1 bel lt1) (trodAll_cons_mk (Below.trod laidOut (by kernel_rfl) (of_decide_eq_true (by kernel_rfl)) k2 bel lt2) trodAll_mk0))), rfl, bel.frame _, fun h => by cases h⟩

theorem over : Rows.fnModeDirectoryRow.holds Try.pinned (OpenSpec.ofChange Rows.fnModeDirectorySpec) :=
  OpenClaim.holds_of_wide 6 Try.f6 rfl rfl rfl rfl rfl rfl rfl ⟨rfl, rfl, rfl, rfl, rfl⟩ rfl rfl rfl rfl rfl (by kernel_rfl) Try.func6 (by kernel_rfl)
    (of_decide_eq_true (by kernel_rfl)) (by unfold Func.isWrapper; first | (rw [if_pos (by decide +kernel)]; kernel_rfl) | (rw [if_neg (by decide +kernel)]; exact ⟨rfl, rfl⟩))
    (fun os started H enc _ => lifted os started H enc)

theorem proved : Rows.FnModeDirectorySaid := over
#print axioms proved
end Go.Proofs.Ytdnijpehlahdnaa.fnModeDirectory
