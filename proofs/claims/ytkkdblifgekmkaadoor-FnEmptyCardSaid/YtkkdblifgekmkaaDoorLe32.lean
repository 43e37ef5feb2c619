/- Contracts: leUint32, readBuf.uint32, readBuf.uint16: of bytes known as numbers. -/
import Derived.Test.YtkkdblifgekmkaaDoorLe
import Derived.Test.YtkkdblifgekmkaaDoorRd
namespace Go.Proofs.YtkkdblifgekmkaaDoor
open Go.RowKit
theorem or_shift16 (x y : Nat) (hx : x < 65536) (hy : y < 65536) : bits .or .u32 (x : Int) ((y : Int) * 65536) = ((x + 65536 * y : Nat) : Int) := by
  have h := (bits_nat .u32 32 (by decide) (fun n h0 h1 => by rw [IntKind.wrap_u32]; omega) x (65536 * y) (by omega) (by omega)).2
  have e : x ||| 65536 * y = x + 65536 * y := by
    rw [Nat.or_comm, show 65536 * y = 2 ^ 16 * y from rfl, ← Nat.two_pow_add_eq_or_of_lt (i := 16) hx]; omega
  rw [show ((y : Int) * 65536) = ((65536 * y : Nat) : Int) by omega, h]
  first | rw [e] | rw [Nat.or_comm, e]
theorem le16_v (g o n c x y v : Nat) (hv : v = x + 256 * y) (hn : 2 ≤ n) (hx : x < 256) (hy : y < 256) (w : World) (h0 : w.cell? ⟨g, o, none⟩ = some (.int .u8 x)) (h1 : w.cell? ⟨g, o + 1, none⟩ = some (.int .u8 y)) :
    Calls Tryd.prog 114 #[.slice (some ⟨g, o, none⟩) n c] w fun e w' => e = .returned (.int .u16 v) ∧ ∃ k, w' = w.drewN k := by
  subst hv
  exact le16_any g o n c x y hn hx hy w h0 h1
set_option maxHeartbeats 400000 in
theorem le32_v (g o n c x y z t v : Nat) (hv : v = x + 256 * y + 65536 * (z + 256 * t)) (hn : 4 ≤ n) (hc : n ≤ c) (hx : x < 256) (hy : y < 256) (hz : z < 256) (ht : t < 256) (w : World) (h0 : w.cell? ⟨g, o, none⟩ = some (.int .u8 x)) (h1 : w.cell? ⟨g, o + 1, none⟩ = some (.int .u8 y)) (h2 : w.cell? ⟨g, o + 2, none⟩ = some (.int .u8 z)) (h3 : w.cell? ⟨g, o + 2 + 1, none⟩ = some (.int .u8 t)) :
    Calls Tryd.prog 115 #[.slice (some ⟨g, o, none⟩) n c] w fun e w' => e = .returned (.int .u32 v) ∧ ∃ k, w' = w.drewN k := by
  have hc2 : ¬ c = 2 := by omega
  obtain ⟨a, ha⟩ : ∃ a, a = x + 256 * y := ⟨_, rfl⟩
  obtain ⟨b, hb⟩ : ∃ b, b = z + 256 * t := ⟨_, rfl⟩
  have hor := or_shift16 a b (by omega) (by omega)
  rw [← ha, ← hb] at hv
  rw [← hv] at hor
  have ha2 : a < 65536 := by omega
  have hb2 : b < 65536 := by omega
  have hR1 := fun k => Lib.hid (le16_v g o n c x y a ha (by omega) hx hy (w.drewN k) (by simpa using h0) (by simpa using h1))
  have hR2 := fun k => Lib.hid (le16_v g (o + 2) (n - 2) (c - 2) z t b hb (by omega) hz ht (w.drewN k) (by simpa using h2) (by simpa using h3))
  clear ha hb hv
  go_enter Tryd.func115, Tryd.ntmps115
  go_wp2
  go_quiet ((go_at_call 114; first | (with_reducible exact Calls.quiet_of (hR1 _).out) | (with_reducible exact Calls.quiet_of (hR2 _).out)))
  go_wp2
  go_ret
  exact ⟨rfl, _, rfl⟩
set_option maxHeartbeats 400000 in
theorem rb32_v (r g o n c x y z t v : Nat) (hv : v = x + 256 * y + 65536 * (z + 256 * t)) (hn : 4 ≤ n) (hc : n ≤ c) (hx : x < 256) (hy : y < 256) (hz : z < 256) (ht : t < 256) (w : World) (hr : w.cell? ⟨r, 0, none⟩ = some (.slice (some ⟨g, o, none⟩) n c)) (hf : w.frozen? ⟨r, 0, none⟩ = false)
    (h0 : w.cell? ⟨g, o, none⟩ = some (.int .u8 x)) (h1 : w.cell? ⟨g, o + 1, none⟩ = some (.int .u8 y)) (h2 : w.cell? ⟨g, o + 2, none⟩ = some (.int .u8 z)) (h3 : w.cell? ⟨g, o + 2 + 1, none⟩ = some (.int .u8 t)) :
    Calls Tryd.prog 85 #[.pointer (some ⟨r, 0, none⟩)] w fun e w' => e = .returned (.int .u32 v) ∧ ∃ k o', w' = (w.drewN k).setCell ⟨r, 0, none⟩ (.slice (some ⟨g, o', none⟩) (n - 4) (c - 4)) ∧ Hid (4 < c → o' = o + 4) := by
  have H := Lib.hid (le32_v g o n c x y z t v hv hn hc hx hy hz ht w h0 h1 h2 h3)
  clear hv
  by_cases h4 : c = 4
  · subst h4
    obtain rfl : n = 4 := by omega
    go_enter Tryd.func85, Tryd.ntmps85
    go_wp2_with (go_at_call 115; refine H.out.mono ?_; rintro e w1 ⟨rfl, k, rfl⟩)
    go_ret
    exact ⟨rfl, k, o, rfl, Lib.hid (fun h => absurd h (Nat.lt_irrefl 4))⟩
  · go_enter Tryd.func85, Tryd.ntmps85
    go_wp2_with (go_at_call 115; refine H.out.mono ?_; rintro e w1 ⟨rfl, k, rfl⟩)
    go_ret
    exact ⟨rfl, k, o + 4, rfl, Lib.hid (fun _ => rfl)⟩
theorem rb16_v (r g o n c x y v : Nat) (hv : v = x + 256 * y) (hn : 2 ≤ n) (hc : n ≤ c) (hx : x < 256) (hy : y < 256) (w : World) (hr : w.cell? ⟨r, 0, none⟩ = some (.slice (some ⟨g, o, none⟩) n c)) (hf : w.frozen? ⟨r, 0, none⟩ = false) (h0 : w.cell? ⟨g, o, none⟩ = some (.int .u8 x)) (h1 : w.cell? ⟨g, o + 1, none⟩ = some (.int .u8 y)) :
    Calls Tryd.prog 84 #[.pointer (some ⟨r, 0, none⟩)] w fun e w' => e = .returned (.int .u16 v) ∧ ∃ k o', w' = (w.drewN k).setCell ⟨r, 0, none⟩ (.slice (some ⟨g, o', none⟩) (n - 2) (c - 2)) ∧ Hid (2 < c → o' = o + 2) := by
  subst hv
  exact (rb16_any r g o n c x y hn hc hx hy w hr hf h0 h1).mono fun e w' ⟨a, k, o', b, d⟩ => ⟨a, k, o', b, Lib.hid d⟩
end Go.Proofs.YtkkdblifgekmkaaDoor
