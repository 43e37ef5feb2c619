/- Proved: laws.FnModeBack returns true for every mode (the statement FnModeBackSaid), with no conditions. -/
import Derived.Test.YtdnijpehlahdnaaUnixBack
namespace Go.Proofs.Ytdnijpehlahdnaa.fnModeBack
open Go.ChangeMaps (open_string shut_string)
open Go.ChangeShapes Go.WideShapes Go.ChangeAt Go.RowKit
open fnUnixModeBack (back_const keep5)

theorem or_small (m : Nat) (i b : Nat) (hb : b < 2 ^ i) (hm : 2 ^ i * m < 4294967296) (hi : 2 ^ i ≤ 4294967296) : bits .or .u32 ((2 ^ i * m : Nat) : Int) (b : Int) = ((2 ^ i * m + b : Nat) : Int) := by
  rw [u32_or_nat _ _ hm (by omega), ← Nat.two_pow_add_eq_or_of_lt hb m]
theorem ext_div (n : Int) (h0 : 0 ≤ unixV n) (h1 : unixV n < 65536) : extV n / 65536 = unixV n ∧ 0 ≤ extV n ∧ extV n ≤ 4294967295 := by
  unfold extV
  obtain ⟨U, hU⟩ := Int.eq_ofNat_of_zero_le h0
  rw [hU] at h1 ⊢
  have e0 : (U : Int) * 65536 % 4294967296 = ((2 ^ 16 * U : Nat) : Int) := by omega
  have e16 : bits .or .u32 ((2 ^ 16 * U : Nat) : Int) 16 = ((2 ^ 16 * U + 16 : Nat) : Int) := or_small U 16 16 (by decide) (by omega) (by decide)
  have e1 : bits .or .u32 ((2 ^ 16 * U : Nat) : Int) 1 = ((2 ^ 16 * U + 1 : Nat) : Int) := or_small U 16 1 (by decide) (by omega) (by decide)
  have e17 : bits .or .u32 ((2 ^ 16 * U + 16 : Nat) : Int) 1 = ((2 ^ 16 * U + 16 + 1 : Nat) : Int) := by
    have := or_small (2 ^ 15 * U + 8) 1 1 (by decide) (by omega) (by decide)
    rw [show 2 ^ 1 * (2 ^ 15 * U + 8) = 2 ^ 16 * U + 16 by omega] at this
    exact this
  rw [e0]
  unfold orIf
  split <;> split <;> (try simp only [e16, e1, e17]) <;> omega

/-- SetMode, and ModeOf. -/
theorem back_calls (p k : Int) (a b c : Bool) (p0 : 0 ≤ p) (p1 : p ≤ 511) (k0 : 0 ≤ k) (k1 : k ≤ 6) : ∃ x : Int, 
    (∀ w, Calls Try.prog 16 #[.agg #[.int .i64 p, .int .i64 k, .bool a, .bool b, .bool c]] w fun e w' => e = .returned (.tuple #[.int .i64 768, .int .i64 x]) ∧ Below w.heap.size w w') ∧
    (∀ w, Calls Try.prog 13 #[.string { data := #[] }, .int .i64 768, .int .i64 x] w fun e w' => e = .returned (.agg #[.int .i64 p, .int .i64 k, .bool a, .bool b, .bool c]) ∧ Below w.heap.size w w') := by
  obtain ⟨b1, b2, b3, b4, b5, b6⟩ := back_const k k0 k1 a b c
  have b7 : unixV (numV 0 k a b c) + 511 < 65536 := by
    have : k = 0 ∨ k = 1 ∨ k = 2 ∨ k = 3 ∨ k = 4 ∨ k = 5 ∨ k = 6 := by omega
    clear b1 b2 b3 b4 b5 b6
    rcases this with rfl | rfl | rfl | rfl | rfl | rfl | rfl <;> revert a b c <;> decide
  obtain ⟨en, hN⟩ := num_lo (k := k) (a := a) (b := b) (c := c) p0 p1
  obtain ⟨eu, hU⟩ := unix_lo p0 p1 hN
  obtain ⟨ef, hF⟩ := fs_lo p0 p1 hU
  obtain ⟨f1, f2, f3⟩ := flags_lo p0 p1 hN
  have hu := hU.lt
  obtain ⟨d1, d2, d3⟩ := ext_div (numV p k a b c) (by rw [en, eu]; omega) (by rw [en, eu]; omega)
  have hA : attrV 768 (extV (numV p k a b c)) = p + numV 0 k a b c := by
    unfold attrV
    rw [if_pos (by decide), d1, en, eu, ef, b1]
  refine ⟨extV (numV p k a b c), fun w => implSetMode_any p k a b c p0 p1 w, fun w => ?_⟩
  refine (modeOf_none 768 _ (by decide) (by decide) d2 d3 w).mono ?_
  rintro e w' ⟨he, hb⟩
  refine ⟨?_, hb⟩
  rw [hA, mod_lo p0 p1 hN, kind_lo p0 p1 hN, f1, f2, f3, b2, b3, b4, b5] at he
  exact he

theorem field_0 (v0 v1 v2 v3 v4 : Value) (w : World) : (Instr.field 27 (.agg #[v0, v1, v2, v3, v4]) 0).run Try.prog w = .ok v0 w := by kernel_rfl
set_option maxHeartbeats 2000000 in
theorem walk (p k : Int) (a b c : Bool) (w : World) :
    Calls Try.prog 8 #[.agg #[.int .i64 p, .int .i64 k, .bool a, .bool b, .bool c]] w fun e w' => e = .returned (.bool true) ∧ Below w.heap.size w w' := by
  by_cases h : 0 ≤ p ∧ p ≤ 511 ∧ 0 ≤ k ∧ k ≤ 6
  · obtain ⟨p0, p1, k0, k1⟩ := h
    obtain ⟨x, hs, ho⟩ := back_calls p k a b c p0 p1 k0 k1
    obtain ⟨y, hs2, ho2⟩ := back_calls 420 0 false false false (by decide) (by decide) (by decide) (by decide)
    have Hs := Lib.hid hs
    have Ho := Lib.hid ho
    have Hs2 := Lib.hid hs2
    have Ho2 := Lib.hid ho2
    clear hs ho hs2 ho2
    go_enter Try.func8, Try.ntmps8
    go_wp2_with fail
    refine (Hs.out _).mono ?_
    rintro e w1 ⟨rfl, hb1⟩
    have hz1 := hb1.size
    simp at hz1
    obtain ⟨hc1, hf1⟩ := bcell hb1
    have l1 : w.heap.size < w1.heap.size := by omega
    go_wp2_with fail
    refine (Ho.out _).mono ?_
    rintro e w2 ⟨rfl, hb2⟩
    have hz2 := hb2.size
    obtain ⟨hc2, hf2⟩ := bcell hb2
    have l2 : w.heap.size < w2.heap.size := by omega
    go_wp2_with fail
    refine (Hs2.out _).mono ?_
    rintro e w3 ⟨rfl, hb3⟩
    have hz3 := hb3.size
    simp at hz3
    obtain ⟨hc3, hf3⟩ := bcell hb3
    have l3 : w.heap.size < w3.heap.size := by omega
    have l23 : w2.heap.size < w3.heap.size := by omega
    have l2n : w.heap.size ≠ w2.heap.size := by omega
    have k0 : w3.cell? ⟨w.heap.size, 0, none⟩ = some (.int .i64 p) := by rw [hc3 _ _ (by simp; omega), World.cell?_alloc_lt _ _ _ l2, hc2 _ _ l1, hc1 _ _ (by simp)]; simp
    have k1 : w3.cell? ⟨w.heap.size, 1, none⟩ = some (.int .i64 k) := by rw [hc3 _ _ (by simp; omega), World.cell?_alloc_lt _ _ _ l2, hc2 _ _ l1, hc1 _ _ (by simp)]; simp
    have k2 : w3.cell? ⟨w.heap.size, 2, none⟩ = some (.bool a) := by rw [hc3 _ _ (by simp; omega), World.cell?_alloc_lt _ _ _ l2, hc2 _ _ l1, hc1 _ _ (by simp)]; simp
    have k3 : w3.cell? ⟨w.heap.size, 3, none⟩ = some (.bool b) := by rw [hc3 _ _ (by simp; omega), World.cell?_alloc_lt _ _ _ l2, hc2 _ _ l1, hc1 _ _ (by simp)]; simp
    have k4 : w3.cell? ⟨w.heap.size, 4, none⟩ = some (.bool c) := by rw [hc3 _ _ (by simp; omega), World.cell?_alloc_lt _ _ _ l2, hc2 _ _ l1, hc1 _ _ (by simp)]; simp
    have m0 : w3.cell? ⟨w2.heap.size, 0, none⟩ = some (.int .i64 p) := by rw [hc3 _ _ (by simp)]; simp
    have m1 : w3.cell? ⟨w2.heap.size, 1, none⟩ = some (.int .i64 k) := by rw [hc3 _ _ (by simp)]; simp
    have m2 : w3.cell? ⟨w2.heap.size, 2, none⟩ = some (.bool a) := by rw [hc3 _ _ (by simp)]; simp
    have m3 : w3.cell? ⟨w2.heap.size, 3, none⟩ = some (.bool b) := by rw [hc3 _ _ (by simp)]; simp
    have m4 : w3.cell? ⟨w2.heap.size, 4, none⟩ = some (.bool c) := by rw [hc3 _ _ (by simp)]; simp
    have hBB : Below w.heap.size w w3 := (below_alloc hb1).trans ((hb2.mono (by omega)).trans ((below_alloc hb3).mono (by omega)))
    clear hc1 hc2 hc3 hf1 hf2 hf3 hb1 hb2 hb3
    go_wp2_with fail
    refine (Ho2.out _).mono ?_
    rintro e w4 ⟨rfl, hb4⟩
    have hfd := field_0
    go_wp2
    go_ret
    exact ⟨rfl, hBB.trans (hb4.mono (by omega))⟩
  · go_enter Try.func8, Try.ntmps8
    go_wp2
    all_goals
      go_ret
      exact ⟨rfl, (Below.refl _ _).alloc (Nat.le_refl _) _⟩

theorem own : ownKnob Try.prog.godebug = none := by kernel_rfl
theorem laidOut : laidOutB Try.prog = true := by kernel_rfl
set_option maxRecDepth 100000 in
theorem lifted (os : Os) (started : os.Started) (H : Type) (enc : TypeId × Value → H) :
    ReturnsInHanded {} Try.checked os 8 .any (Rows.fnModeBackSpec.pre6 enc Try.prog Try.f8 Rows.fnModeBackRow.domain false) (Rows.fnModeBackSpec.post enc Try.prog Try.f8 false true false false) := by
  refine returnsInHanded_of_change (C := Try.checked) own started (by kernel_rfl) Try.func8
    (ChangeSpec.witness6 (enc := enc) (C := Try.checked) false ⟨#[], #[.agg #[.int .i64 0, .int .i64 0, .bool false, .bool false, .bool false]], []⟩ 8 (by kernel_rfl) (by kernel_rfl) (by kernel_rfl) (by kernel_rfl)) ?_
  intro W base args ds gs before hval0 hW hcnd _
  have hval : ∀ (j : Nat) t v, Try.f8.params[j]? = some t → args[j]? = some v → Value.okWide Try.prog W .any base t v := hval0
  have hW' := hW
  obtain ⟨p, q, hA0, hV, rfl, hfz, hnd⟩ := hW
  have hA : DataW.TrodAll enc Try.prog W 0 (fun _ => true) true Try.f8.params.toList args.toList ds p := hA0
  rw [Try.params8] at hA hval
  obtain ⟨v0, vs0, d0, ds0, p0, q0, hargs, rfl, rfl, h0, r0⟩ := trodAll_cons hA
  obtain ⟨rfl, rfl, rfl⟩ := trodAll_nil r0
  obtain rfl : args = #[v0] := by cases args; simp_all
  obtain ⟨rfl, rfl⟩ := trodVars_none hV
  have k0 := h0
  have lt0 : ∀ x ∈ p0, x.block < W.heap.size := by obtain ⟨m, hm⟩ := k0; exact DataW.trod_lt m _ _ _ hm
  obtain ⟨c00, c01, c02, c03, c04, y00, y01, y02, y03, y04, m0, rfl, _, _, g00, g01, g02, g03, g04⟩ := open_agg5 Try.underlying27 (by kernel_rfl) (by kernel_rfl) (hval 0 27 v0 rfl rfl) h0
  obtain ⟨x00, e00, _, w00⟩ := DataW.trod_int Try.underlying3 g00
  simp at e00
  subst e00
  obtain ⟨x01, e01, _, w01⟩ := DataW.trod_int Try.underlying3 g01
  simp at e01
  subst e01
  obtain ⟨x02, e02, _⟩ := DataW.trod_bool Try.underlying4 g02
  simp at e02
  subst e02
  obtain ⟨x03, e03, _⟩ := DataW.trod_bool Try.underlying4 g03
  simp at e03
  subst e03
  obtain ⟨x04, e04, _⟩ := DataW.trod_bool Try.underlying4 g04
  simp at e04
  subst e04
  clear hA0 hval0
  refine (walk x00 x01 x02 x03 x04 W).mono fun e W' ⟨he, bel⟩ => ?_
  subst he
  exact ⟨_, rfl, _, _, _, [], _, [], hW', trodAll_mk1 (shut_bool Try.underlying4 _), (trodAll_cons_mk (Below.trod laidOut (by kernel_rfl) (of_decide_eq_true (by kernel_rfl)) k0 bel lt0) trodAll_mk0), rfl, bel.frame _, fun h => by cases h⟩

theorem over : Rows.fnModeBackRow.holds Try.pinned (OpenSpec.ofChange Rows.fnModeBackSpec) :=
  OpenClaim.holds_of_wide 8 Try.f8 rfl rfl rfl rfl rfl rfl rfl ⟨rfl, rfl, rfl, rfl, rfl⟩ rfl rfl rfl rfl rfl (by kernel_rfl) Try.func8 (by kernel_rfl)
    (of_decide_eq_true (by kernel_rfl)) (by unfold Func.isWrapper; first | (rw [if_pos (by decide +kernel)]; kernel_rfl) | (rw [if_neg (by decide +kernel)]; exact ⟨rfl, rfl⟩))
    (fun os started H enc _ => lifted os started H enc)

theorem proved : Rows.FnModeBackSaid := over
#print axioms proved
end Go.Proofs.Ytdnijpehlahdnaa.fnModeBack
