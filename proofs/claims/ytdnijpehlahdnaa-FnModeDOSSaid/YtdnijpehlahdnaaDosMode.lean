/- Proved: laws.FnExactDosMode returns true for every uint32 (the statement FnExactDosModeSaid), with no conditions.
   The frame of the row's proof (lifted, over, proved) was written by the guide's proof-skeleton.mjs; the rest is the walk. -/
import Derived.Test.YtdnijpehlahdnaaModes2
import Derived.WalkKit
import Derived.ProofKit
import Derived.OpenShut
import Derived.ShutString
namespace Go.Proofs.Ytdnijpehlahdnaa.fnExactDosMode
open Go.ChangeShapes Go.WideShapes Go.ChangeAt Go.RowKit
open Go.ChangeMaps (open_string shut_string)
set_option linter.unusedVariables false      -- a walk need not use every 'w<i>' (that an integer argument fits its kind)

theorem own : ownKnob Try.prog.godebug = none := by kernel_rfl

/-! ### THE PLAIN LAW -/
theorem and_pow (N k : Nat) : N &&& 2 ^ k = N / 2 ^ k % 2 * 2 ^ k := by
  apply Nat.eq_of_testBit_eq
  intro i
  rw [Nat.testBit_and, Nat.testBit_two_pow]
  by_cases h : N / 2 ^ k % 2 = 1
  · have hb : N.testBit k = true := by rw [Nat.testBit_eq_decide_div_mod_eq]; simp [h]
    rw [h, Nat.one_mul, Nat.testBit_two_pow]
    by_cases hi : k = i
    · rw [← hi, hb]; simp
    · simp [hi]
  · have hb : N.testBit k = false := by rw [Nat.testBit_eq_decide_div_mod_eq]; simp [h]
    have h0 : N / 2 ^ k % 2 = 0 := by omega
    rw [h0, Nat.zero_mul, Nat.zero_testBit]
    by_cases hi : k = i
    · rw [← hi, hb]; simp
    · simp [hi]
theorem and_bit (k : Nat) (hk : 2 ^ k < 4294967296) (n : Int) (h0 : 0 ≤ n) (h1 : n < 4294967296) : bits .and .u32 n ((2 ^ k : Nat) : Int) = n / ((2 ^ k : Nat) : Int) % 2 * ((2 ^ k : Nat) : Int) := by
  obtain ⟨N, rfl⟩ := Int.eq_ofNat_of_zero_le h0
  rw [u32_and_nat N (2 ^ k) (by omega) hk, and_pow]
  generalize 2 ^ k = M
  simp

theorem dosMode_c (n c p k : Int) (h : dosV n = c) (hp : c % 512 = p) (hk : modeKind c = k) (hu : modeU c = false) (hg : modeG c = false) (hs : modeS c = false) (w : World) :
    Calls Try.prog 12 #[.int .u32 n] w fun e w' => e = .returned (.agg #[.int .i64 p, .int .i64 k, .bool false, .bool false, .bool false]) ∧ Below w.heap.size w w' := by
  refine (dosMode_any n w).mono ?_
  rintro e w' ⟨he, hb⟩
  rw [h, hp, hk, hu, hg, hs] at he
  exact ⟨he, hb⟩

theorem keep5 {b : Nat} {v0 v1 v2 v3 v4 : Value} {w W W' : World} (h : W.cell? ⟨b, 0, none⟩ = some v0 ∧ W.cell? ⟨b, 1, none⟩ = some v1 ∧ W.cell? ⟨b, 2, none⟩ = some v2 ∧ W.cell? ⟨b, 3, none⟩ = some v3 ∧ W.cell? ⟨b, 4, none⟩ = some v4 ∧ b < W.heap.size ∧ Below b w W)
    (hb : Below W.heap.size W W') : W'.cell? ⟨b, 0, none⟩ = some v0 ∧ W'.cell? ⟨b, 1, none⟩ = some v1 ∧ W'.cell? ⟨b, 2, none⟩ = some v2 ∧ W'.cell? ⟨b, 3, none⟩ = some v3 ∧ W'.cell? ⟨b, 4, none⟩ = some v4 ∧ b < W'.heap.size ∧ Below b w W' := by
  obtain ⟨h0, h1, h2, h3, h4, h5, h6⟩ := h
  obtain ⟨hc, _⟩ := bcell hb
  exact ⟨(hc _ _ h5).trans h0, (hc _ _ h5).trans h1, (hc _ _ h5).trans h2, (hc _ _ h5).trans h3, (hc _ _ h5).trans h4, Nat.lt_of_lt_of_le h5 hb.size, h6.trans (hb.mono (by omega))⟩

theorem walk (a0 : Int) (w0 : (Lit.int .u32 a0).wf = true) (w : World) :
    Calls Try.prog 4 #[.int .u32 a0] w fun e w' => e = .returned (.bool true) ∧ Below w.heap.size w w' := by
  have hn : 0 ≤ a0 ∧ a0 < 4294967296 := by
    simp [Lit.wf, IntKind.bits, IntKind.signed, IntKind.min, IntKind.max] at w0; omega
  have e16 := and_bit 4 (by decide) a0 hn.1 hn.2
  have e1 := and_bit 0 (by decide) a0 hn.1 hn.2
  simp at e16 e1
  obtain ⟨n0, n1⟩ := hn
  by_cases h1 : a0 / 16 % 2 = 1
  · by_cases h2 : a0 % 2 = 1
    · have hd : dosV a0 = 2147484013 := by
        unfold dosV; rw [e16, e1, h1, h2]; decide
      have hc := dosMode_c a0 _ 365 1 hd (by decide) (by decide) (by decide) (by decide) (by decide)
      have Hc := Lib.hid hc
      clear hc hd e16 e1 w0
      go_enter Try.func4, Try.ntmps4
      go_wp2_with fail
      go_region_held3 (fun W => W.cell? ⟨w.heap.size, 0, none⟩ = some (.int .i64 365) ∧ W.cell? ⟨w.heap.size, 1, none⟩ = some (.int .i64 1) ∧ W.cell? ⟨w.heap.size, 2, none⟩ = some (.bool false) ∧ W.cell? ⟨w.heap.size, 3, none⟩ = some (.bool false) ∧ W.cell? ⟨w.heap.size, 4, none⟩ = some (.bool false) ∧ w.heap.size < W.heap.size ∧ Below w.heap.size w W)
        (first | assumption | exact keep5 (by assumption) (by assumption) | (refine ⟨by simp, by simp, by simp, by simp, by simp, by simp, ?_⟩; exact (((Below.refl _ _).alloc (Nat.le_refl _) _).drew))) ((go_at_call 12; refine (Hc.out _).mono ?_; rintro e w' ⟨rfl, hb⟩))
      rename_i hS
      have hB := hS.2.2.2.2.2.2
      clear hS hb
      go_wp2
      go_ret
      exact ⟨rfl, hB⟩
    · obtain h2 : a0 % 2 = 0 := by omega
      have hd : dosV a0 = 2147484159 := by
        unfold dosV; rw [e16, e1, h1, h2]; decide
      have hc := dosMode_c a0 _ 511 1 hd (by decide) (by decide) (by decide) (by decide) (by decide)
      have Hc := Lib.hid hc
      clear hc hd e16 e1 w0
      go_enter Try.func4, Try.ntmps4
      go_wp2_with fail
      go_region_held3 (fun W => W.cell? ⟨w.heap.size, 0, none⟩ = some (.int .i64 511) ∧ W.cell? ⟨w.heap.size, 1, none⟩ = some (.int .i64 1) ∧ W.cell? ⟨w.heap.size, 2, none⟩ = some (.bool false) ∧ W.cell? ⟨w.heap.size, 3, none⟩ = some (.bool false) ∧ W.cell? ⟨w.heap.size, 4, none⟩ = some (.bool false) ∧ w.heap.size < W.heap.size ∧ Below w.heap.size w W)
        (first | assumption | exact keep5 (by assumption) (by assumption) | (refine ⟨by simp, by simp, by simp, by simp, by simp, by simp, ?_⟩; exact (((Below.refl _ _).alloc (Nat.le_refl _) _).drew))) ((go_at_call 12; refine (Hc.out _).mono ?_; rintro e w' ⟨rfl, hb⟩))
      rename_i hS
      have hB := hS.2.2.2.2.2.2
      clear hS hb
      go_wp2
      go_ret
      exact ⟨rfl, hB⟩
  · obtain h1 : a0 / 16 % 2 = 0 := by omega
    by_cases h2 : a0 % 2 = 1
    · have hd : dosV a0 = 292 := by
        unfold dosV; rw [e16, e1, h1, h2]; decide
      have hc := dosMode_c a0 _ 292 0 hd (by decide) (by decide) (by decide) (by decide) (by decide)
      have Hc := Lib.hid hc
      clear hc hd e16 e1 w0
      go_enter Try.func4, Try.ntmps4
      go_wp2_with fail
      go_region_held3 (fun W => W.cell? ⟨w.heap.size, 0, none⟩ = some (.int .i64 292) ∧ W.cell? ⟨w.heap.size, 1, none⟩ = some (.int .i64 0) ∧ W.cell? ⟨w.heap.size, 2, none⟩ = some (.bool false) ∧ W.cell? ⟨w.heap.size, 3, none⟩ = some (.bool false) ∧ W.cell? ⟨w.heap.size, 4, none⟩ = some (.bool false) ∧ w.heap.size < W.heap.size ∧ Below w.heap.size w W)
        (first | assumption | exact keep5 (by assumption) (by assumption) | (refine ⟨by simp, by simp, by simp, by simp, by simp, by simp, ?_⟩; exact (((Below.refl _ _).alloc (Nat.le_refl _) _).drew))) ((go_at_call 12; refine (Hc.out _).mono ?_; rintro e w' ⟨rfl, hb⟩))
      rename_i hS
      have hB := hS.2.2.2.2.2.2
      clear hS hb
      go_wp2
      go_ret
      exact ⟨rfl, hB⟩
    · obtain h2 : a0 % 2 = 0 := by omega
      have hd : dosV a0 = 438 := by
        unfold dosV; rw [e16, e1, h1, h2]; decide
      have hc := dosMode_c a0 _ 438 0 hd (by decide) (by decide) (by decide) (by decide) (by decide)
      have Hc := Lib.hid hc
      clear hc hd e16 e1 w0
      go_enter Try.func4, Try.ntmps4
      go_wp2_with fail
      go_region_held3 (fun W => W.cell? ⟨w.heap.size, 0, none⟩ = some (.int .i64 438) ∧ W.cell? ⟨w.heap.size, 1, none⟩ = some (.int .i64 0) ∧ W.cell? ⟨w.heap.size, 2, none⟩ = some (.bool false) ∧ W.cell? ⟨w.heap.size, 3, none⟩ = some (.bool false) ∧ W.cell? ⟨w.heap.size, 4, none⟩ = some (.bool false) ∧ w.heap.size < W.heap.size ∧ Below w.heap.size w W)
        (first | assumption | exact keep5 (by assumption) (by assumption) | (refine ⟨by simp, by simp, by simp, by simp, by simp, by simp, ?_⟩; exact (((Below.refl _ _).alloc (Nat.le_refl _) _).drew))) ((go_at_call 12; refine (Hc.out _).mono ?_; rintro e w' ⟨rfl, hb⟩))
      rename_i hS
      have hB := hS.2.2.2.2.2.2
      clear hS hb
      go_wp2
      go_ret
      exact ⟨rfl, hB⟩

set_option maxRecDepth 100000 in
theorem lifted (os : Os) (started : os.Started) (H : Type) (enc : TypeId × Value → H) :
    ReturnsInHanded {} Try.checked os 4 .any (Rows.fnExactDosModeSpec.pre6 enc Try.prog Try.f4 Rows.fnExactDosModeRow.domain false) (Rows.fnExactDosModeSpec.post enc Try.prog Try.f4 false true false false) := by
  refine returnsInHanded_of_change (C := Try.checked) own started (by kernel_rfl) Try.func4
    (ChangeSpec.witness6 (enc := enc) (C := Try.checked) false ⟨#[], #[.int .u32 0], []⟩ 8 (by kernel_rfl) (by kernel_rfl) (by kernel_rfl) (by kernel_rfl)) ?_
  intro W base args ds gs before hval0 hW hcnd _
  have hval : ∀ (j : Nat) t v, Try.f4.params[j]? = some t → args[j]? = some v → Value.okWide Try.prog W .any base t v := hval0
  have hW' := hW
  obtain ⟨p, q, hA0, hV, rfl, hfz, hnd⟩ := hW
  have hA : DataW.TrodAll enc Try.prog W 0 (fun _ => true) true Try.f4.params.toList args.toList ds p := hA0
  rw [Try.params4] at hA hval
  obtain ⟨v0, vs0, d0, ds0, p0, q0, hargs, rfl, rfl, h0, r0⟩ := trodAll_cons hA
  obtain ⟨rfl, rfl, rfl⟩ := trodAll_nil r0
  obtain rfl : args = #[v0] := by cases args; simp_all
  obtain ⟨rfl, rfl⟩ := trodVars_none hV
  obtain ⟨a0, rfl, rfl, rfl, w0⟩ := open_int Try.underlying25 (hval 0 25 v0 rfl rfl) h0
  clear hA0 hval0
  simp only [List.append_nil] at hW'
  refine (walk a0 w0 W).mono fun e W' ⟨he, hg⟩ => ?_
  subst he
  exact ⟨_, rfl, _, _, _, [], [], [], hW', trodAll_mk1 (shut_bool Try.underlying4 _), (trodAll_cons_mk (shut_int Try.underlying25 w0) trodAll_mk0), rfl, hg.frame _, fun h => by cases h⟩

theorem over : Rows.fnExactDosModeRow.holds Try.pinned (OpenSpec.ofChange Rows.fnExactDosModeSpec) :=
  OpenClaim.holds_of_wide 4 Try.f4 rfl rfl rfl rfl rfl rfl rfl ⟨rfl, rfl, rfl, rfl, rfl⟩ rfl rfl rfl rfl rfl (by kernel_rfl) Try.func4 (by kernel_rfl)
    (of_decide_eq_true (by kernel_rfl)) (by unfold Func.isWrapper; first | (rw [if_pos (by decide +kernel)]; kernel_rfl) | (rw [if_neg (by decide +kernel)]; exact ⟨rfl, rfl⟩))
    (fun os started H enc _ => lifted os started H enc)

theorem proved : Rows.FnExactDosModeSaid :=
  over
#print axioms proved
end Go.Proofs.Ytdnijpehlahdnaa.fnExactDosMode
