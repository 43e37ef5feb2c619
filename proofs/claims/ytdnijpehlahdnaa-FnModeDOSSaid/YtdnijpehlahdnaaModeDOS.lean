/- Proved: laws.FnModeDOS returns true for every two ints (the statement FnModeDOSSaid), with no conditions. -/
import Derived.Test.YtdnijpehlahdnaaUnixBack
import Derived.Test.YtdnijpehlahdnaaDosMode
namespace Go.Proofs.Ytdnijpehlahdnaa.fnModeDOS
open Go.ChangeMaps (open_string shut_string)
open Go.ChangeShapes Go.WideShapes Go.ChangeAt Go.RowKit
open fnUnixModeBack (keep5)
open fnExactDosMode (and_bit)

theorem modeOf_c (c x M p k : Int) (h : attrV c x = M) (c0 : 0 ≤ c) (c1 : c ≤ 65535) (x0 : 0 ≤ x) (x1 : x ≤ 4294967295) (hp : M % 512 = p) (hk : modeKind M = k) (hu : modeU M = false) (hg : modeG M = false) (hs : modeS M = false) (w : World) :
    Calls Try.prog 13 #[.string { data := #[] }, .int .i64 c, .int .i64 x] w fun e w' => e = .returned (.agg #[.int .i64 p, .int .i64 k, .bool false, .bool false, .bool false]) ∧ Below w.heap.size w w' := by
  refine (modeOf_none c x c0 c1 x0 x1 w).mono ?_
  rintro e w' ⟨he, hb⟩
  rw [h, hp, hk, hu, hg, hs] at he
  exact ⟨he, hb⟩

set_option maxHeartbeats 1000000 in
theorem walk (c : Int) (_wc : (Lit.int .i64 c).wf = true) (x : Int) (_wx : (Lit.int .i64 x).wf = true) (w : World) :
    Calls Try.prog 5 #[.int .i64 c, .int .i64 x] w fun e w' => e = .returned (.bool true) ∧ Below w.heap.size w w' := by
  by_cases h : 0 ≤ c ∧ c ≤ 255 ∧ 0 ≤ x ∧ x ≤ 4294967295
  · obtain ⟨c0, c1, x0, x1⟩ := h
    have e16 := and_bit 4 (by decide) x x0 (by omega)
    have e1 := and_bit 0 (by decide) x x0 (by omega)
    simp at e16 e1
    have hat : attrV c x = dosV x := by
      unfold attrV
      have : c / 256 = 0 := by omega
      rw [this]; rfl
    by_cases h1 : x / 16 % 2 = 1
    · by_cases h2 : x % 2 = 1
      · have hd : dosV x = 2147484013 := by
          unfold dosV; rw [e16, e1, h1, h2]; decide
        rw [hd] at hat
        have hc := modeOf_c c x 2147484013 365 1 hat (by omega) (by omega) (by omega) (by omega) (by decide) (by decide) (by decide) (by decide) (by decide)
        have Hc := Lib.hid hc
        clear hc hd e16 e1 hat
        go_enter Try.func5, Try.ntmps5
        go_wp2_with fail
        go_region_held3 (fun W => W.cell? ⟨w.heap.size, 0, none⟩ = some (.int .i64 365) ∧ W.cell? ⟨w.heap.size, 1, none⟩ = some (.int .i64 1) ∧ W.cell? ⟨w.heap.size, 2, none⟩ = some (.bool false) ∧ W.cell? ⟨w.heap.size, 3, none⟩ = some (.bool false) ∧ W.cell? ⟨w.heap.size, 4, none⟩ = some (.bool false) ∧ w.heap.size < W.heap.size ∧ Below w.heap.size w W)
          (first | assumption | exact keep5 (by assumption) (by assumption) | (refine ⟨by simp, by simp, by simp, by simp, by simp, by simp, ?_⟩; exact (((Below.refl _ _).alloc (Nat.le_refl _) _).drew))) ((go_at_call 13; refine (Hc.out _).mono ?_; rintro e w' ⟨rfl, hb⟩))
        rename_i hS
        have hB := hS.2.2.2.2.2.2
        clear hS hb
        go_wp2
        go_ret
        exact ⟨rfl, hB⟩
      · obtain h2 : x % 2 = 0 := by omega
        have hd : dosV x = 2147484159 := by
          unfold dosV; rw [e16, e1, h1, h2]; decide
        rw [hd] at hat
        have hc := modeOf_c c x 2147484159 511 1 hat (by omega) (by omega) (by omega) (by omega) (by decide) (by decide) (by decide) (by decide) (by decide)
        have Hc := Lib.hid hc
        clear hc hd e16 e1 hat
        go_enter Try.func5, Try.ntmps5
        go_wp2_with fail
        go_region_held3 (fun W => W.cell? ⟨w.heap.size, 0, none⟩ = some (.int .i64 511) ∧ W.cell? ⟨w.heap.size, 1, none⟩ = some (.int .i64 1) ∧ W.cell? ⟨w.heap.size, 2, none⟩ = some (.bool false) ∧ W.cell? ⟨w.heap.size, 3, none⟩ = some (.bool false) ∧ W.cell? ⟨w.heap.size, 4, none⟩ = some (.bool false) ∧ w.heap.size < W.heap.size ∧ Below w.heap.size w W)
          (first | assumption | exact keep5 (by assumption) (by assumption) | (refine ⟨by simp, by simp, by simp, by simp, by simp, by simp, ?_⟩; exact (((Below.refl _ _).alloc (Nat.le_refl _) _).drew))) ((go_at_call 13; refine (Hc.out _).mono ?_; rintro e w' ⟨rfl, hb⟩))
        rename_i hS
        have hB := hS.2.2.2.2.2.2
        clear hS hb
        go_wp2
        go_ret
        exact ⟨rfl, hB⟩
    · obtain h1 : x / 16 % 2 = 0 := by omega
      by_cases h2 : x % 2 = 1
      · have hd : dosV x = 292 := by
          unfold dosV; rw [e16, e1, h1, h2]; decide
        rw [hd] at hat
        have hc := modeOf_c c x 292 292 0 hat (by omega) (by omega) (by omega) (by omega) (by decide) (by decide) (by decide) (by decide) (by decide)
        have Hc := Lib.hid hc
        clear hc hd e16 e1 hat
        go_enter Try.func5, Try.ntmps5
        go_wp2_with fail
        go_region_held3 (fun W => W.cell? ⟨w.heap.size, 0, none⟩ = some (.int .i64 292) ∧ W.cell? ⟨w.heap.size, 1, none⟩ = some (.int .i64 0) ∧ W.cell? ⟨w.heap.size, 2, none⟩ = some (.bool false) ∧ W.cell? ⟨w.heap.size, 3, none⟩ = some (.bool false) ∧ W.cell? ⟨w.heap.size, 4, none⟩ = some (.bool false) ∧ w.heap.size < W.heap.size ∧ Below w.heap.size w W)
          (first | assumption | exact keep5 (by assumption) (by assumption) | (refine ⟨by simp, by simp, by simp, by simp, by simp, by simp, ?_⟩; exact (((Below.refl _ _).alloc (Nat.le_refl _) _).drew))) ((go_at_call 13; refine (Hc.out _).mono ?_; rintro e w' ⟨rfl, hb⟩))
        rename_i hS
        have hB := hS.2.2.2.2.2.2
        clear hS hb
        go_wp2
        go_ret
        exact ⟨rfl, hB⟩
      · obtain h2 : x % 2 = 0 := by omega
        have hd : dosV x = 438 := by
          unfold dosV; rw [e16, e1, h1, h2]; decide
        rw [hd] at hat
        have hc := modeOf_c c x 438 438 0 hat (by omega) (by omega) (by omega) (by omega) (by decide) (by decide) (by decide) (by decide) (by decide)
        have Hc := Lib.hid hc
        clear hc hd e16 e1 hat
        go_enter Try.func5, Try.ntmps5
        go_wp2_with fail
        go_region_held3 (fun W => W.cell? ⟨w.heap.size, 0, none⟩ = some (.int .i64 438) ∧ W.cell? ⟨w.heap.size, 1, none⟩ = some (.int .i64 0) ∧ W.cell? ⟨w.heap.size, 2, none⟩ = some (.bool false) ∧ W.cell? ⟨w.heap.size, 3, none⟩ = some (.bool false) ∧ W.cell? ⟨w.heap.size, 4, none⟩ = some (.bool false) ∧ w.heap.size < W.heap.size ∧ Below w.heap.size w W)
          (first | assumption | exact keep5 (by assumption) (by assumption) | (refine ⟨by simp, by simp, by simp, by simp, by simp, by simp, ?_⟩; exact (((Below.refl _ _).alloc (Nat.le_refl _) _).drew))) ((go_at_call 13; refine (Hc.out _).mono ?_; rintro e w' ⟨rfl, hb⟩))
        rename_i hS
        have hB := hS.2.2.2.2.2.2
        clear hS hb
        go_wp2
        go_ret
        exact ⟨rfl, hB⟩
  · go_enter Try.func5, Try.ntmps5
    go_wp2
    all_goals
      go_ret
      exact ⟨rfl, Below.refl _ _⟩

theorem own : ownKnob Try.prog.godebug = none := by kernel_rfl
theorem laidOut : laidOutB Try.prog = true := by kernel_rfl
set_option maxRecDepth 100000 in
theorem lifted (os : Os) (started : os.Started) (H : Type) (enc : TypeId × Value → H) :
    ReturnsInHanded {} Try.checked os 5 .any (Rows.fnModeDOSSpec.pre6 enc Try.prog Try.f5 Rows.fnModeDOSRow.domain false) (Rows.fnModeDOSSpec.post enc Try.prog Try.f5 false true false false) := by
  refine returnsInHanded_of_change (C := Try.checked) own started (by kernel_rfl) Try.func5
    (ChangeSpec.witness6 (enc := enc) (C := Try.checked) false ⟨#[], #[.int .i64 0, .int .i64 0], []⟩ 8 (by kernel_rfl) (by kernel_rfl) (by kernel_rfl) (by kernel_rfl)) ?_
  intro W base args ds gs before hval0 hW hcnd _
  have hval : ∀ (j : Nat) t v, Try.f5.params[j]? = some t → args[j]? = some v → Value.okWide Try.prog W .any base t v := hval0
  have hW' := hW
  obtain ⟨p, q, hA0, hV, rfl, hfz, hnd⟩ := hW
  have hA : DataW.TrodAll enc Try.prog W 0 (fun _ => true) true Try.f5.params.toList args.toList ds p := hA0
  rw [Try.params5] at hA hval
  obtain ⟨v0, vs0, d0, ds0, p0, q0, hargs, rfl, rfl, h0, r0⟩ := trodAll_cons hA
  obtain ⟨v1, vs1, d1, ds1, p1, q1, rfl, rfl, rfl, h1, r1⟩ := trodAll_cons r0
  obtain ⟨rfl, rfl, rfl⟩ := trodAll_nil r1
  obtain rfl : args = #[v0, v1] := by cases args; simp_all
  obtain ⟨rfl, rfl⟩ := trodVars_none hV
  have k0 := h0
  have lt0 : ∀ x ∈ p0, x.block < W.heap.size := by obtain ⟨m, hm⟩ := k0; exact DataW.trod_lt m _ _ _ hm
  obtain ⟨a0, rfl, _, _, w0⟩ := open_int Try.underlying3 (hval 0 3 v0 rfl rfl) h0
  have k1 := h1
  have lt1 : ∀ x ∈ p1, x.block < W.heap.size := by obtain ⟨m, hm⟩ := k1; exact DataW.trod_lt m _ _ _ hm
  obtain ⟨a1, rfl, _, _, w1⟩ := open_int Try.underlying3 (hval 1 3 v1 rfl rfl) h1
  clear hA0 hval0
  refine (walk a0 w0 a1 w1 W).mono fun e W' ⟨he, bel⟩ => ?_
  subst he
  exact ⟨_, rfl, _, _, _, [], _, [], hW', trodAll_mk1 (shut_bool Try.underlying4 _), (trodAll_cons_mk (Below.trod laidOut (by kernel_rfl) (of_decide_eq_true (by kernel_rfl)) k0 bel lt0) (trodAll_cons_mk (Below.trod laidOut (by kernel_rfl) (of_decide_eq_true (by kernel_rfl)) k1 bel lt1) trodAll_mk0)), rfl, bel.frame _, fun h => by cases h⟩

theorem over : Rows.fnModeDOSRow.holds Try.pinned (OpenSpec.ofChange Rows.fnModeDOSSpec) :=
  OpenClaim.holds_of_wide 5 Try.f5 rfl rfl rfl rfl rfl rfl rfl ⟨rfl, rfl, rfl, rfl, rfl⟩ rfl rfl rfl rfl rfl (by kernel_rfl) Try.func5 (by kernel_rfl)
    (of_decide_eq_true (by kernel_rfl)) (by unfold Func.isWrapper; first | (rw [if_pos (by decide +kernel)]; kernel_rfl) | (rw [if_neg (by decide +kernel)]; exact ⟨rfl, rfl⟩))
    (fun os started H enc _ => lifted os started H enc)

theorem proved : Rows.FnModeDOSSaid := over
#print axioms proved
end Go.Proofs.Ytdnijpehlahdnaa.fnModeDOS
