/- Facts: the methods of a *nopCloser, a *fileWriter, a dirWriter. -/
import Derived.Test.YtkkdblifgekmkaaDoorHas
namespace Go.Proofs.YtkkdblifgekmkaaDoor
open Go.RowKit
theorem meth_nop (b : Nat) (w : World) : (method 404 225 (.pointer (some ⟨b, 0, none⟩)) "Write").run Tryd.prog w = ((Place.var ⟨b, 0, none⟩).get 83 >>= fun v => match v with | .iface t' v' => method (404 - 1) t' v' "Write" | .nilIface => runtimePanic .nilDeref | _ => stuck "method row: interface value expected").run Tryd.prog w := by kernel_rfl
theorem method_nopW {w : World} {b c : Nat} (h : w.cell? ⟨b, 0, none⟩ = some (.iface 104 (.pointer (some ⟨c, 0, none⟩)))) : (method 404 225 (.pointer (some ⟨b, 0, none⟩)) "Write").run Tryd.prog w = .ok (81, .pointer (some ⟨c, 0, none⟩)) w := by
  rw [meth_nop]
  simp only [Place.get]
  go_simp
  kernel_rfl
theorem meth_nopC (b : Nat) (w : World) : (method 404 225 (.pointer (some ⟨b, 0, none⟩)) "Close").run Tryd.prog w = (loadVar 227 ⟨b, 0, none⟩ >>= fun v => pure (191, v)).run Tryd.prog w := by kernel_rfl
theorem method_nopC {w : World} {b : Nat} {v : Value} (h : w.cell? ⟨b, 0, none⟩ = some v) : (method 404 225 (.pointer (some ⟨b, 0, none⟩)) "Close").run Tryd.prog w = .ok (191, .agg #[v]) w := by
  rw [meth_nopC]
  go_simp
theorem ahead_nopW (b : Nat) (w : World) : (nilAhead 404 225 (.pointer (some ⟨b, 0, none⟩)) "Write").run Tryd.prog w = .ok none w := by kernel_rfl
theorem ahead_nopC (b : Nat) (w : World) : (nilAhead 404 225 (.pointer (some ⟨b, 0, none⟩)) "Close").run Tryd.prog w = .ok (some false) w := by kernel_rfl
theorem method_fwW (b : Nat) (w : World) : (method 404 110 (.pointer (some ⟨b, 0, none⟩)) "Write").run Tryd.prog w = .ok (168, .pointer (some ⟨b, 0, none⟩)) w := by kernel_rfl
theorem ahead_fwW (b : Nat) (w : World) : (nilAhead 404 110 (.pointer (some ⟨b, 0, none⟩)) "Write").run Tryd.prog w = .ok (some false) w := by kernel_rfl
theorem method_dirW (w : World) : (method 404 130 (.agg #[]) "Write").run Tryd.prog w = .ok (176, .agg #[]) w := by kernel_rfl
theorem ahead_dirW (w : World) : (nilAhead 404 130 (.agg #[]) "Write").run Tryd.prog w = .ok (some false) w := by kernel_rfl
end Go.Proofs.YtkkdblifgekmkaaDoor
