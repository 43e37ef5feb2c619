/- Contracts of the functions on modes: what each returns, whatever the world. -/
import Derived.Test.YtdnijpehlahdnaaRows
import Derived.WalkKit
import Derived.WalkLawsBesides
import Derived.ProofKit
import Derived.OpenShut
import Derived.ShutString
import Derived.Outline
import Derived.Deep.RegionHeld3
import Derived.Lib.Hide
namespace Go.Proofs.Ytdnijpehlahdnaa
open Go.ChangeShapes Go.WideShapes Go.ChangeAt Go.RowKit

def kindK (K : Int) : Int := if K == 2147483648 then 1 else if K == 134217728 then 2 else if K == 33554432 then 3 else if K == 16777216 then 4 else if K == 67108864 then 5 else if K == 69206016 then 6 else 0
def modeKind (n : Int) : Int := kindK (bits .or .u32 (bits .andNot .u32 n 16777215) (bits .and .u32 n 2097152))
def modeU (n : Int) : Bool := bits .and .u32 (n / 8388608) 1 == 1
def modeG (n : Int) : Bool := bits .and .u32 (n / 4194304) 1 == 1
def modeS (n : Int) : Bool := bits .and .u32 (n / 1048576) 1 == 1

theorem bcell {W w1 : World} (hb : Below W.heap.size W w1) : (∀ b o, b < W.heap.size → w1.cell? ⟨b, o, none⟩ = W.cell? ⟨b, o, none⟩) ∧ (∀ b o, b < W.heap.size → w1.frozen? ⟨b, o, none⟩ = W.frozen? ⟨b, o, none⟩) :=
  ⟨fun b o h => hb.cell (p := ⟨b, o, none⟩) h, fun b o h => hb.frozen (p := ⟨b, o, none⟩) h⟩

theorem modeOf_any (n : Int) (h0 : 0 ≤ n) (h1 : n < 4294967296) (w : World) :
    Calls Try.prog 19 #[.int .u32 n] w fun e w' => e = .returned (.agg #[.int .i64 (n % 512), .int .i64 (modeKind n), .bool (modeU n), .bool (modeG n), .bool (modeS n)]) ∧ Below w.heap.size w w' := by
  go_enter Try.func19, Try.ntmps19
  go_wp2
  all_goals
    refine bodyPost_ret (v := .agg #[.int .i64 (n % 512), .int .i64 (modeKind n), .bool (modeU n), .bool (modeG n), .bool (modeS n)]) ?_ rfl ⟨rfl, ?_⟩
    · simp [results, Try.results19, go_sem, modeKind, modeU, modeG, modeS, kindK, *]
    · repeat (first | exact Below.refl _ _ | (refine Below.setCell ?_ (by simp) _) | (refine Below.alloc ?_ (by simp) _))

/-! MS-DOS -/
def dosV (m : Int) : Int :=
  if bits .and .u32 m 1 != 0 then bits .andNot .u32 (if bits .and .u32 m 16 != 0 then 2147484159 else 438) 146 else (if bits .and .u32 m 16 != 0 then 2147484159 else 438)
theorem dos_any (m : Int) (w : World) : Calls Try.prog 29 #[.int .u32 m] w fun e w' => e = .returned (.int .u32 (dosV m)) ∧ w = w' := by
  go_enter Try.func29, Try.ntmps29
  go_wp2
  all_goals
    go_ret
    refine ⟨?_, rfl⟩
    simp [dosV, *]

/-! Unix to fs -/
def fsKind (T o : Int) : Int :=
  if T == 24576 then bits .or .u32 o 67108864 else if T == 8192 then bits .or .u32 o 69206016 else if T == 16384 then bits .or .u32 o 2147483648 else
  if T == 4096 then bits .or .u32 o 33554432 else if T == 40960 then bits .or .u32 o 134217728 else if T == 32768 then o else if T == 49152 then bits .or .u32 o 16777216 else o
def orIf (c : Bool) (o b : Int) : Int := if c then bits .or .u32 o b else o
def fsV (m : Int) : Int :=
  orIf (bits .and .u32 m 512 != 0) (orIf (bits .and .u32 m 2048 != 0) (orIf (bits .and .u32 m 1024 != 0) (fsKind (bits .and .u32 m 61440) (bits .and .u32 m 511)) 4194304) 8388608) 1048576
theorem fs_any (m : Int) (w : World) : Calls Try.prog 30 #[.int .u32 m] w fun e w' => e = .returned (.int .u32 (fsV m)) ∧ w = w' := by
  go_enter Try.func30, Try.ntmps30
  go_wp2
  all_goals
    go_ret
    refine ⟨?_, rfl⟩
    simp [fsV, fsKind, orIf, *]

/-! fs to Unix -/
def unixKind (T : Int) : Int :=
  if T == 2147483648 then 16384 else if T == 134217728 then 40960 else if T == 33554432 then 4096 else
  if T == 16777216 then 49152 else if T == 67108864 then 24576 else if T == 69206016 then 8192 else 32768
def unixV (m : Int) : Int :=
  bits .or .u32 (orIf (bits .and .u32 m 1048576 != 0) (orIf (bits .and .u32 m 4194304 != 0) (orIf (bits .and .u32 m 8388608 != 0) (unixKind (bits .and .u32 m 2401763328)) 2048) 1024) 512) (bits .and .u32 m 511)
theorem unix_any (m : Int) (w : World) : Calls Try.prog 31 #[.int .u32 m] w fun e w' => e = .returned (.int .u32 (unixV m)) ∧ w = w' := by
  go_enter Try.func31, Try.ntmps31
  go_wp2
  all_goals
    go_ret
    refine ⟨?_, rfl⟩
    simp [unixV, unixKind, orIf, *]

/-! a mode as a number -/
def mV (p k : Int) (a b c : Bool) : Value := .agg #[.int .i64 p, .int .i64 k, .bool a, .bool b, .bool c]
def numKind (o k : Int) : Int :=
  if k == 1 then bits .or .u32 o 2147483648 else if k == 2 then bits .or .u32 o 134217728 else if k == 3 then bits .or .u32 o 33554432 else
  if k == 4 then bits .or .u32 o 16777216 else if k == 5 then bits .or .u32 o 67108864 else if k == 6 then bits .or .u32 o 69206016 else o
def numV (p k : Int) (a b c : Bool) : Int := orIf c (orIf b (orIf a (numKind p k) 8388608) 4194304) 1048576
theorem num_any (p k : Int) (a b c : Bool) (h0 : 0 ≤ p) (h1 : p ≤ 511) (w : World) :
    Calls Try.prog 24 #[.agg #[.int .i64 p, .int .i64 k, .bool a, .bool b, .bool c]] w fun e w' => e = .returned (.int .u32 (numV p k a b c)) ∧ Below w.heap.size w w' := by
  go_enter Try.func24, Try.ntmps24
  go_wp2
  all_goals
    go_ret
    refine ⟨?_, (Below.refl _ _).alloc (Nat.le_refl _) _⟩
    simp [numV, numKind, orIf, *]
theorem fsMode_any (n : Int) (w : World) : Calls Try.prog 32 #[.int .u32 n] w fun e w' => e = .returned (.int .u32 n) ∧ w = w' := by
  go_enter Try.func32, Try.ntmps32
  go_wp2
  go_ret
  exact ⟨rfl, rfl⟩
theorem zipUnix_any (n : Int) (w : World) : Calls Try.prog 23 #[.int .u32 n] w fun e w' => e = .returned (.int .u32 (unixV n)) ∧ w = w' := by
  go_enter Try.func23, Try.ntmps23
  go_wp2_with (first | (go_at_call 32; refine (fsMode_any _ _).mono ?_; rintro e w' ⟨rfl, rfl⟩) | (go_at_call 31; refine (unix_any _ _).mono ?_; rintro e w' ⟨rfl, rfl⟩))
  go_ret
  exact ⟨rfl, rfl⟩
theorem zipFrom_any (n : Int) (w : World) : Calls Try.prog 22 #[.int .u32 n] w fun e w' => e = .returned (.int .u32 (fsV n)) ∧ w = w' := by
  go_enter Try.func22, Try.ntmps22
  go_wp2_with (first | (go_at_call 30; refine (fs_any _ _).mono ?_; rintro e w' ⟨rfl, rfl⟩))
  go_ret
  exact ⟨rfl, rfl⟩
theorem zipDos_any (n : Int) (w : World) : Calls Try.prog 20 #[.int .u32 n] w fun e w' => e = .returned (.int .u32 (dosV n)) ∧ w = w' := by
  go_enter Try.func20, Try.ntmps20
  go_wp2_with (first | (go_at_call 29; refine (dos_any _ _).mono ?_; rintro e w' ⟨rfl, rfl⟩))
  go_ret
  exact ⟨rfl, rfl⟩
theorem bits_u32 (op : BinOp) (a b : Int) : 0 ≤ bits op .u32 a b ∧ bits op .u32 a b < 4294967296 := by
  unfold bits; rw [IntKind.wrap_u32]; omega
end Go.Proofs.Ytdnijpehlahdnaa
