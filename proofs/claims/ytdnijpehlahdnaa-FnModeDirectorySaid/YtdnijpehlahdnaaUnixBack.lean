/- Proved: laws.FnUnixModeBack returns true for every mode (the statement FnUnixModeBackSaid), with no conditions. -/
import Derived.Test.YtdnijpehlahdnaaBits
import Derived.Test.YtdnijpehlahdnaaAgg
import Derived.Test.YtdnijpehlahdnaaModes5
namespace Go.Proofs.Ytdnijpehlahdnaa.fnUnixModeBack
open Go.ChangeMaps (open_string shut_string)
open Go.ChangeShapes Go.WideShapes Go.ChangeAt Go.RowKit

theorem back_const (k : Int) (k0 : 0 ≤ k) (k1 : k ≤ 6) (a b c : Bool) : fsV (unixV (numV 0 k a b c)) = numV 0 k a b c ∧ modeKind (numV 0 k a b c) = k ∧ modeU (numV 0 k a b c) = a ∧ modeG (numV 0 k a b c) = b ∧ modeS (numV 0 k a b c) = c ∧ 4096 ≤ unixV (numV 0 k a b c) := by
  have : k = 0 ∨ k = 1 ∨ k = 2 ∨ k = 3 ∨ k = 4 ∨ k = 5 ∨ k = 6 := by omega
  rcases this with rfl | rfl | rfl | rfl | rfl | rfl | rfl <;> revert a b c <;> decide

/-- UnixMode, and back. -/
theorem back_calls (p k : Int) (a b c : Bool) (p0 : 0 ≤ p) (p1 : p ≤ 511) (k0 : 0 ≤ k) (k1 : k ≤ 6) : ∃ u : Int, u % 512 = p ∧ 4096 ≤ u ∧ u < 4294967296 ∧
    (∀ w, Calls Try.prog 15 #[.agg #[.int .i64 p, .int .i64 k, .bool a, .bool b, .bool c]] w fun e w' => e = .returned (.int .u32 u) ∧ Below w.heap.size w w') ∧
    (∀ w, Calls Try.prog 14 #[.int .u32 u] w fun e w' => e = .returned (.agg #[.int .i64 p, .int .i64 k, .bool a, .bool b, .bool c]) ∧ Below w.heap.size w w') := by
  obtain ⟨b1, b2, b3, b4, b5, b6⟩ := back_const k k0 k1 a b c
  obtain ⟨en, hN⟩ := num_lo (k := k) (a := a) (b := b) (c := c) p0 p1
  obtain ⟨eu, hU⟩ := unix_lo p0 p1 hN
  obtain ⟨ef, hF⟩ := fs_lo p0 p1 hU
  obtain ⟨f1, f2, f3⟩ := flags_lo p0 p1 hN
  refine ⟨unixV (numV p k a b c), ?_, ?_, ?_, fun w => unixMode_any p k a b c p0 p1 w, fun w => ?_⟩
  · rw [en, eu]; exact mod_lo p0 p1 hU
  · rw [en, eu]; omega
  · rw [en, eu]; have := hU; obtain ⟨q, hq, hl⟩ := this; omega
  · refine (fromUnix_any _ w).mono ?_
    rintro e w' ⟨he, hb⟩
    refine ⟨?_, hb⟩
    rw [en, eu, ef, b1, mod_lo p0 p1 hN, kind_lo p0 p1 hN, f1, f2, f3, b2, b3, b4, b5] at he
    exact he

theorem keep5 {b : Nat} {v0 v1 v2 v3 v4 : Value} {w W W' : World} (h : W.cell? ⟨b, 0, none⟩ = some v0 ∧ W.cell? ⟨b, 1, none⟩ = some v1 ∧ W.cell? ⟨b, 2, none⟩ = some v2 ∧ W.cell? ⟨b, 3, none⟩ = some v3 ∧ W.cell? ⟨b, 4, none⟩ = some v4 ∧ b < W.heap.size ∧ Below b w W)
    (hb : Below W.heap.size W W') : W'.cell? ⟨b, 0, none⟩ = some v0 ∧ W'.cell? ⟨b, 1, none⟩ = some v1 ∧ W'.cell? ⟨b, 2, none⟩ = some v2 ∧ W'.cell? ⟨b, 3, none⟩ = some v3 ∧ W'.cell? ⟨b, 4, none⟩ = some v4 ∧ b < W'.heap.size ∧ Below b w W' := by
  obtain ⟨h0, h1, h2, h3, h4, h5, h6⟩ := h
  obtain ⟨hc, _⟩ := bcell hb
  exact ⟨(hc _ _ h5).trans h0, (hc _ _ h5).trans h1, (hc _ _ h5).trans h2, (hc _ _ h5).trans h3, (hc _ _ h5).trans h4, Nat.lt_of_lt_of_le h5 hb.size, h6.trans (hb.mono (by omega))⟩

set_option maxHeartbeats 2000000 in
theorem walk (p k : Int) (a b c : Bool) (w : World) :
    Calls Try.prog 7 #[.agg #[.int .i64 p, .int .i64 k, .bool a, .bool b, .bool c]] w fun e w' => e = .returned (.bool true) ∧ Below w.heap.size w w' := by
  by_cases h : 0 ≤ p ∧ p ≤ 511 ∧ 0 ≤ k ∧ k ≤ 6
  · obtain ⟨p0, p1, k0, k1⟩ := h
    obtain ⟨u, u1, u2, u3, hu, hf⟩ := back_calls p k a b c p0 p1 k0 k1
    have Hu := Lib.hid hu
    have Hf := Lib.hid hf
    have hw : IntKind.u32.wrap p = p := by rw [IntKind.wrap_u32]; omega
    have hw' : p % 4294967296 = p := by omega
    have hm : u.tmod 512 = p := by rw [Int.tmod_eq_emod_of_nonneg (by omega)]; exact u1
    have hg : decide (4096 ≤ u) = true := by simpa using u2
    clear hu hf
    go_enter Try.func7, Try.ntmps7
    go_wp2_with fail
    go_region_held3 (fun W => W.cell? ⟨w.heap.size, 0, none⟩ = some (.int .i64 p) ∧ W.cell? ⟨w.heap.size, 1, none⟩ = some (.int .i64 k) ∧ W.cell? ⟨w.heap.size, 2, none⟩ = some (.bool a) ∧ W.cell? ⟨w.heap.size, 3, none⟩ = some (.bool b) ∧ W.cell? ⟨w.heap.size, 4, none⟩ = some (.bool c) ∧ w.heap.size < W.heap.size ∧ Below w.heap.size w W)
      (first | assumption | exact keep5 (by assumption) (by assumption) | (refine ⟨by simp, by simp, by simp, by simp, by simp, by simp, ?_⟩; exact (((Below.refl _ _).alloc (Nat.le_refl _) _).drew)))
      (first | (go_at_call 15; refine (Hu.out _).mono ?_; rintro e w' ⟨rfl, hb⟩) | (go_at_call 14; refine (Hf.out _).mono ?_; rintro e w' ⟨rfl, hb⟩))
    rename_i hS
    have hB := hS.2.2.2.2.2.2
    clear hS
    go_wp2
    go_ret
    exact ⟨rfl, hB⟩
  · go_enter Try.func7, Try.ntmps7
    go_wp2
    all_goals
      go_ret
      exact ⟨rfl, (Below.refl _ _).alloc (Nat.le_refl _) _⟩

theorem own : ownKnob Try.prog.godebug = none := by kernel_rfl
theorem laidOut : laidOutB Try.prog = true := by kernel_rfl
set_option maxRecDepth 100000 in
theorem lifted (os : Os) (started : os.Started) (H : Type) (enc : TypeId × Value → H) :
    ReturnsInHanded {} Try.checked os 7 .any (Rows.fnUnixModeBackSpec.pre6 enc Try.prog Try.f7 Rows.fnUnixModeBackRow.domain false) (Rows.fnUnixModeBackSpec.post enc Try.prog Try.f7 false true false false) := by
  refine returnsInHanded_of_change (C := Try.checked) own started (by kernel_rfl) Try.func7
    (ChangeSpec.witness6 (enc := enc) (C := Try.checked) false ⟨#[], #[.agg #[.int .i64 0, .int .i64 0, .bool false, .bool false, .bool false]], []⟩ 8 (by kernel_rfl) (by kernel_rfl) (by kernel_rfl) (by kernel_rfl)) ?_
  intro W base args ds gs before hval0 hW hcnd _
  have hval : ∀ (j : Nat) t v, Try.f7.params[j]? = some t → args[j]? = some v → Value.okWide Try.prog W .any base t v := hval0
  have hW' := hW
  obtain ⟨p, q, hA0, hV, rfl, hfz, hnd⟩ := hW
  have hA : DataW.TrodAll enc Try.prog W 0 (fun _ => true) true Try.f7.params.toList args.toList ds p := hA0
  rw [Try.params7] at hA hval
  obtain ⟨v0, vs0, d0, ds0, p0, q0, hargs, rfl, rfl, h0, r0⟩ := trodAll_cons hA
  obtain ⟨rfl, rfl, rfl⟩ := trodAll_nil r0
  obtain rfl : args = #[v0] := by cases args; simp_all
  obtain ⟨rfl, rfl⟩ := trodVars_none hV
  have k0 := h0
  have lt0 : ∀ x ∈ p0, x.block < W.heap.size := by obtain ⟨m, hm⟩ := k0; exact DataW.trod_lt m _ _ _ hm
  obtain ⟨c00, c01, c02, c03, c04, y00, y01, y02, y03, y04, m0, rfl, _, _, g00, g01, g02, g03, g04⟩ := open_agg5 Try.underlying27 (by kernel_rfl) (by kernel_rfl) (hval 0 27 v0 rfl rfl) h0
  obtain ⟨x00, e00, _, w00⟩ := DataW.trod_int Try.underlying3 g00
  simp at e00
  subst e00
  obtain ⟨x01, e01, _, w01⟩ := DataW.trod_int Try.underlying3 g01
  simp at e01
  subst e01
  obtain ⟨x02, e02, _⟩ := DataW.trod_bool Try.underlying4 g02
  simp at e02
  subst e02
  obtain ⟨x03, e03, _⟩ := DataW.trod_bool Try.underlying4 g03
  simp at e03
  subst e03
  obtain ⟨x04, e04, _⟩ := DataW.trod_bool Try.underlying4 g04
  simp at e04
  subst e04
  clear hA0 hval0
  refine (walk x00 x01 x02 x03 x04 W).mono fun e W' ⟨he, bel⟩ => ?_
  subst he
  exact ⟨_, rfl, _, _, _, [], _, [], hW', trodAll_mk1 (shut_bool Try.underlying4 _), (trodAll_cons_mk (Below.trod laidOut (by kernel_rfl) (of_decide_eq_true (by kernel_rfl)) k0 bel lt0) trodAll_mk0), rfl, bel.frame _, fun h => by cases h⟩

theorem over : Rows.fnUnixModeBackRow.holds Try.pinned (OpenSpec.ofChange Rows.fnUnixModeBackSpec) :=
  OpenClaim.holds_of_wide 7 Try.f7 rfl rfl rfl rfl rfl rfl rfl ⟨rfl, rfl, rfl, rfl, rfl⟩ rfl rfl rfl rfl rfl (by kernel_rfl) Try.func7 (by kernel_rfl)
    (of_decide_eq_true (by kernel_rfl)) (by unfold Func.isWrapper; first | (rw [if_pos (by decide +kernel)]; kernel_rfl) | (rw [if_neg (by decide +kernel)]; exact ⟨rfl, rfl⟩))
    (fun os started H enc _ => lifted os started H enc)

theorem proved : Rows.FnUnixModeBackSaid := over
#print axioms proved
end Go.Proofs.Ytdnijpehlahdnaa.fnUnixModeBack
