/- Contract: SetMode of the thin package. -/
import Derived.Test.YtdnijpehlahdnaaModes4
import Derived.Deep.RegionWith
namespace Go.Proofs.Ytdnijpehlahdnaa
open Go.ChangeShapes Go.WideShapes Go.ChangeAt Go.RowKit


/-- Block b is the mode, block h the header (as it was made); nothing below B has turned. -/
def Two (w : World) (b h : Nat) (m0 m1 m2 m3 m4 : Value) (W : World) : Prop :=
  W.cell? ⟨b, 0, none⟩ = some m0 ∧ W.cell? ⟨b, 1, none⟩ = some m1 ∧ W.cell? ⟨b, 2, none⟩ = some m2 ∧ W.cell? ⟨b, 3, none⟩ = some m3 ∧ W.cell? ⟨b, 4, none⟩ = some m4 ∧
  W.cell? ⟨h, 0, none⟩ = some (.string { data := #[] }) ∧ W.cell? ⟨h, 3, none⟩ = some (.int .u16 0) ∧ W.cell? ⟨h, 18, none⟩ = some (.int .u32 0) ∧ W.frozen? ⟨h, 3, none⟩ = false ∧ W.frozen? ⟨h, 18, none⟩ = false ∧
  b < W.heap.size ∧ h < W.heap.size ∧ Below w.heap.size w W
theorem Two.below {w W W' : World} {b h : Nat} {m0 m1 m2 m3 m4 : Value} (t : Two w b h m0 m1 m2 m3 m4 W) (hb : Below W.heap.size W W') : Two w b h m0 m1 m2 m3 m4 W' := by
  obtain ⟨c0, c1, c2, c3, c4, d0, d3, d18, f3, f18, lb, lh, hB⟩ := t
  obtain ⟨hc, hf⟩ := bcell hb
  have := hb.size
  have := hB.size
  exact ⟨(hc _ _ lb).trans c0, (hc _ _ lb).trans c1, (hc _ _ lb).trans c2, (hc _ _ lb).trans c3, (hc _ _ lb).trans c4, (hc _ _ lh).trans d0, (hc _ _ lh).trans d3, (hc _ _ lh).trans d18, (hf _ _ lh).trans f3, (hf _ _ lh).trans f18, by omega, by omega, hB.trans (hb.mono (by omega))⟩

theorem at_world {P : Program} {c : Code} {Q : Exit → Act → World → Prop} {a : Act} {W : World} (S : World → Prop) (hS : S W) (key : ∀ W1, S W1 → Code.wp P c Q a W1) : Code.wp P c Q a W := key _ hS

theorem Two.drew {w W : World} {b h : Nat} {m0 m1 m2 m3 m4 : Value} (t : Two w b h m0 m1 m2 m3 m4 W) : Two w b h m0 m1 m2 m3 m4 W.drew := t.below ⟨rfl, rfl, rfl, Nat.le_refl _, fun _ _ => rfl⟩

set_option maxHeartbeats 2000000 in
theorem implSetMode_any (p k : Int) (a b c : Bool) (h0 : 0 ≤ p) (h1 : p ≤ 511) (w : World) :
    Calls Try.prog 16 #[.agg #[.int .i64 p, .int .i64 k, .bool a, .bool b, .bool c]] w fun e w' => e = .returned (.tuple #[.int .i64 768, .int .i64 (extV (numV p k a b c))]) ∧ Below w.heap.size w w' := by
  have he : 0 ≤ extV (numV p k a b c) ∧ extV (numV p k a b c) < 4294967296 := orIf_lt _ _ _ (orIf_lt _ _ _ (by omega))
  have hw : IntKind.i64.wrap (extV (numV p k a b c)) = extV (numV p k a b c) := IntWalk.i64_in _ (by omega)
  go_enter Try.func16, Try.ntmps16
  go_wp2_with fail
  refine at_world (Two w w.heap.size (w.heap.size + 1) (.int .i64 p) (.int .i64 k) (.bool a) (.bool b) (.bool c)) ?_ ?_
  · refine ⟨by simp, by simp, by simp, by simp, by simp, by simp, by simp, by simp, by simp, by simp, by simp; omega, by simp, ?_⟩
    exact ((Below.refl _ _).alloc (Nat.le_refl _) _).alloc (by simp) _
  intro W t
  have HT := Lib.hid t
  obtain ⟨c0, c1, c2, c3, c4, d0, d3, d18, f3, f18, lb, lh, hB⟩ := t
  go_region_with (first
    | (go_at_call 21; refine (mode_none _ 0 0 _ ?_ ?_ ?_ (by omega) (by omega)).mono ?_; exact d0; exact d3; exact d18; rintro e w1 ⟨rfl, hb1⟩; have HT1 := Lib.hid (Two.below (Two.drew HT.out) hb1); clear hb1 HT c0 c1 c2 c3 c4 d0 d3 d18 f3 f18 lb lh hB; obtain ⟨c0, c1, c2, c3, c4, d0, d3, d18, f3, f18, lb, lh, hB⟩ := HT1.out)
    | (go_at_call 24; refine (num_any _ _ _ _ _ h0 h1 _).mono ?_; rintro e w2 ⟨rfl, hb2⟩; have HT2 := Lib.hid (Two.below HT1.out hb2); clear hb2 HT1 c0 c1 c2 c3 c4 d0 d3 d18 f3 f18 lb lh hB; obtain ⟨c0, c1, c2, c3, c4, d0, d3, d18, f3, f18, lb, lh, hB⟩ := HT2.out)
    | (go_at_call 26; refine (like_any _ _ _).mono ?_; rintro e w' ⟨rfl, rfl⟩)
    | (go_at_call 25; refine (setMode_any _ _ _ d3 d18 f3 f18).mono ?_; rintro e w3 ⟨rfl, e3, e18, hg⟩))
  all_goals
    have hBB := hB.grown hg (by omega) (by intro k hk; cases hk; omega)
    clear hg hB
    go_wp2_with fail
    go_quiet (fail)
    go_wp2
    go_ret2
    exact ⟨rfl, hBB.trans ⟨rfl, rfl, rfl, Nat.le_refl _, fun _ _ => rfl⟩⟩
end Go.Proofs.Ytdnijpehlahdnaa
