/- Contracts of the thin package's functions on modes. -/
import Derived.Test.YtdnijpehlahdnaaModes
namespace Go.Proofs.Ytdnijpehlahdnaa
open Go.ChangeShapes Go.WideShapes Go.ChangeAt Go.RowKit

theorem below_alloc {w w' : World} {o : Obj} (h : Below (w.alloc o).heap.size (w.alloc o) w') : Below w.heap.size w w' :=
  ((Below.refl _ _).alloc (Nat.le_refl _) _).trans (h.mono (by simp))

theorem dosMode_any (n : Int) (w : World) : Calls Try.prog 12 #[.int .u32 n] w fun e w' => e = .returned (.agg #[.int .i64 (dosV n % 512), .int .i64 (modeKind (dosV n)), .bool (modeU (dosV n)), .bool (modeG (dosV n)), .bool (modeS (dosV n))]) ∧ Below w.heap.size w w' := by
  have hb : 0 ≤ dosV n ∧ dosV n < 4294967296 := by
    unfold dosV
    split
    · exact bits_u32 _ _ _
    · split <;> omega
  go_enter Try.func12, Try.ntmps12
  go_wp2_with (first | (go_at_call 20; refine (zipDos_any _ _).mono ?_; rintro e w' ⟨rfl, rfl⟩))
  refine (modeOf_any _ hb.1 hb.2 _).mono ?_
  rintro e w' ⟨rfl, hb'⟩
  obtain ⟨hc, hf⟩ := bcell hb'
  have hz : w.heap.size < w'.heap.size := by have := hb'.size; simp at this; omega
  go_wp2
  refine bodyPost_ret (v := .agg #[.int .i64 (dosV n % 512), .int .i64 (modeKind (dosV n)), .bool (modeU (dosV n)), .bool (modeG (dosV n)), .bool (modeS (dosV n))]) ?_ rfl ⟨rfl, ?_⟩
  · simp [results, Try.results12, go_sem, hc]
  · repeat (refine Below.setCell ?_ (by simp) _)
    exact below_alloc hb'
theorem unixMode_any (p k : Int) (a b c : Bool) (h0 : 0 ≤ p) (h1 : p ≤ 511) (w : World) :
    Calls Try.prog 15 #[.agg #[.int .i64 p, .int .i64 k, .bool a, .bool b, .bool c]] w fun e w' => e = .returned (.int .u32 (unixV (numV p k a b c))) ∧ Below w.heap.size w w' := by
  go_enter Try.func15, Try.ntmps15
  go_wp2_with (first | (go_at_call 24; refine (num_any _ _ _ _ _ h0 h1 _).mono ?_; rintro e w' ⟨rfl, hb'⟩) | (go_at_call 23; refine (zipUnix_any _ _).mono ?_; rintro e w' ⟨rfl, rfl⟩))
  go_ret
  exact ⟨rfl, below_alloc hb'⟩
theorem orIf_lt (c : Bool) (o b : Int) (h : 0 ≤ o ∧ o < 4294967296) : 0 ≤ orIf c o b ∧ orIf c o b < 4294967296 := by
  unfold orIf
  split
  · exact bits_u32 _ _ _
  · exact h
theorem fsV_lt (m : Int) : 0 ≤ fsV m ∧ fsV m < 4294967296 := by
  refine orIf_lt _ _ _ (orIf_lt _ _ _ (orIf_lt _ _ _ ?_))
  unfold fsKind
  (repeat' split) <;> exact bits_u32 _ _ _
theorem fromUnix_any (n : Int) (w : World) : Calls Try.prog 14 #[.int .u32 n] w fun e w' => e = .returned (.agg #[.int .i64 (fsV n % 512), .int .i64 (modeKind (fsV n)), .bool (modeU (fsV n)), .bool (modeG (fsV n)), .bool (modeS (fsV n))]) ∧ Below w.heap.size w w' := by
  have hb := fsV_lt n
  go_enter Try.func14, Try.ntmps14
  go_wp2_with (first | (go_at_call 22; refine (zipFrom_any _ _).mono ?_; rintro e w' ⟨rfl, rfl⟩))
  refine (modeOf_any _ hb.1 hb.2 _).mono ?_
  rintro e w' ⟨rfl, hb'⟩
  obtain ⟨hc, hf⟩ := bcell hb'
  have hz : w.heap.size < w'.heap.size := by have := hb'.size; simp at this; omega
  go_wp2
  refine bodyPost_ret (v := .agg #[.int .i64 (fsV n % 512), .int .i64 (modeKind (fsV n)), .bool (modeU (fsV n)), .bool (modeG (fsV n)), .bool (modeS (fsV n))]) ?_ rfl ⟨rfl, ?_⟩
  · simp [results, Try.results14, go_sem, hc]
  · repeat (refine Below.setCell ?_ (by simp) _)
    exact below_alloc hb'
end Go.Proofs.Ytdnijpehlahdnaa
