/- Contracts: leUint16, leUint32, readBuf.uint16, readBuf.uint32. -/
import Derived.Test.YtkkdblifgekmkaaDoorFind
namespace Go.Proofs.YtkkdblifgekmkaaDoor
open Go.RowKit
set_option maxHeartbeats 400000 in
theorem le16_any (g o n c x y : Nat) (hn : 2 ≤ n) (hx : x < 256) (hy : y < 256) (w : World) (h0 : w.cell? ⟨g, o, none⟩ = some (.int .u8 x)) (h1 : w.cell? ⟨g, o + 1, none⟩ = some (.int .u8 y)) :
    Calls Tryd.prog 114 #[.slice (some ⟨g, o, none⟩) n c] w fun e w' => e = .returned (.int .u16 (x + 256 * y : Nat)) ∧ ∃ k, w' = w.drewN k := by
  have hor : bits .or .u16 (x : Int) ((y : Int) * 256) = ((x + 256 * y : Nat) : Int) := by
    have h := (bits_nat .u16 16 (by decide) (fun n h0 h1 => by rw [IntKind.wrap_u16]; omega) x (256 * y) (by omega) (by omega)).2
    have e : x ||| 256 * y = x + 256 * y := by
      rw [Nat.or_comm, show 256 * y = 2 ^ 8 * y from rfl, ← Nat.two_pow_add_eq_or_of_lt (i := 8) hx]; omega
    rw [show ((y : Int) * 256) = ((256 * y : Nat) : Int) by omega, h]
    first | rw [e] | rw [Nat.or_comm, e]
  go_enter Tryd.func114, Tryd.ntmps114
  go_wp2
  go_quiet (fail)
  go_wp2
  go_ret
  exact ⟨rfl, _, rfl⟩
set_option maxHeartbeats 400000 in
theorem rb16_any (r g o n c x y : Nat) (hn : 2 ≤ n) (_hc : n ≤ c) (hx : x < 256) (hy : y < 256) (w : World) (hr : w.cell? ⟨r, 0, none⟩ = some (.slice (some ⟨g, o, none⟩) n c)) (hf : w.frozen? ⟨r, 0, none⟩ = false) (h0 : w.cell? ⟨g, o, none⟩ = some (.int .u8 x)) (h1 : w.cell? ⟨g, o + 1, none⟩ = some (.int .u8 y)) :
    Calls Tryd.prog 84 #[.pointer (some ⟨r, 0, none⟩)] w fun e w' => e = .returned (.int .u16 (x + 256 * y : Nat)) ∧ ∃ k o', w' = (w.drewN k).setCell ⟨r, 0, none⟩ (.slice (some ⟨g, o', none⟩) (n - 2) (c - 2)) ∧ (2 < c → o' = o + 2) := by
  go_enter Tryd.func84, Tryd.ntmps84
  go_wp2_with (go_at_call 114; refine (le16_any g o n c x y hn hx hy _ h0 h1).mono ?_; rintro e w1 ⟨rfl, k, rfl⟩)
  all_goals go_ret
  · exact ⟨rfl, k, o, rfl⟩
  · exact ⟨rfl, k, o + 2, rfl, fun _ => rfl⟩
end Go.Proofs.YtkkdblifgekmkaaDoor
