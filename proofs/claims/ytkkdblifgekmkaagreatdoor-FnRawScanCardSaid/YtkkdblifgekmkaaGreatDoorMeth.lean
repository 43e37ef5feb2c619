/- Facts: the methods of a *nopCloser, a *fileWriter, a dirWriter. -/
import Derived.Test.YtkkdblifgekmkaaGreatDoorHas
namespace Go.Proofs.YtkkdblifgekmkaaGreatDoor
open Go.RowKit
theorem meth_nop (b : Nat) (w : World) : (method 417 220 (.pointer (some ⟨b, 0, none⟩)) "Write").run Tryz.prog w = ((Place.var ⟨b, 0, none⟩).get 71 >>= fun v => match v with | .iface t' v' => method (417 - 1) t' v' "Write" | .nilIface => runtimePanic .nilDeref | _ => stuck "method row: interface value expected").run Tryz.prog w := by kernel_rfl
theorem method_nopW {w : World} {b c : Nat} (h : w.cell? ⟨b, 0, none⟩ = some (.iface 112 (.pointer (some ⟨c, 0, none⟩)))) : (method 417 220 (.pointer (some ⟨b, 0, none⟩)) "Write").run Tryz.prog w = .ok (93, .pointer (some ⟨c, 0, none⟩)) w := by
  rw [meth_nop]
  simp only [Place.get]
  go_simp
  kernel_rfl
theorem meth_nopC (b : Nat) (w : World) : (method 417 220 (.pointer (some ⟨b, 0, none⟩)) "Close").run Tryz.prog w = (loadVar 222 ⟨b, 0, none⟩ >>= fun v => pure (205, v)).run Tryz.prog w := by kernel_rfl
theorem method_nopC {w : World} {b : Nat} {v : Value} (h : w.cell? ⟨b, 0, none⟩ = some v) : (method 417 220 (.pointer (some ⟨b, 0, none⟩)) "Close").run Tryz.prog w = .ok (205, .agg #[v]) w := by
  rw [meth_nopC]
  go_simp
theorem ahead_nopW (b : Nat) (w : World) : (nilAhead 417 220 (.pointer (some ⟨b, 0, none⟩)) "Write").run Tryz.prog w = .ok none w := by kernel_rfl
theorem ahead_nopC (b : Nat) (w : World) : (nilAhead 417 220 (.pointer (some ⟨b, 0, none⟩)) "Close").run Tryz.prog w = .ok (some false) w := by kernel_rfl
theorem method_fwW (b : Nat) (w : World) : (method 417 118 (.pointer (some ⟨b, 0, none⟩)) "Write").run Tryz.prog w = .ok (184, .pointer (some ⟨b, 0, none⟩)) w := by kernel_rfl
theorem ahead_fwW (b : Nat) (w : World) : (nilAhead 417 118 (.pointer (some ⟨b, 0, none⟩)) "Write").run Tryz.prog w = .ok (some false) w := by kernel_rfl
theorem method_dirW (w : World) : (method 417 137 (.agg #[]) "Write").run Tryz.prog w = .ok (192, .agg #[]) w := by kernel_rfl
theorem ahead_dirW (w : World) : (nilAhead 417 137 (.agg #[]) "Write").run Tryz.prog w = .ok (some false) w := by kernel_rfl
end Go.Proofs.YtkkdblifgekmkaaGreatDoor
