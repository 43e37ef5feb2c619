/- Contract: countWriter.Write over a bufio.Writer. -/
import Derived.Test.YtkkdblifgekmkaaDoorBw3
namespace Go.Proofs.YtkkdblifgekmkaaDoor
open Go.RowKit
theorem method_WriteW (a : Addr) (w : World) : (method 404 105 (.pointer (some a)) "Write").run Tryd.prog w = .ok (166, .pointer (some a)) w := by kernel_rfl
theorem ahead_WriteW (a : Addr) (w : World) : (nilAhead 404 105 (.pointer (some a)) "Write").run Tryd.prog w = .ok (some false) w := by kernel_rfl
/-- The writer's sink: a counter over a bufio.Writer over a builder: 'out' has been written. -/
structure Snk (w : World) (ob bw gb cw : Nat) (ro : Option Nat) (out : List UInt8) : Prop where
  buf : BW w ob bw gb ro out
  cnt : Blk w cw 108 #[.iface 105 (.pointer (some ⟨bw, 0, none⟩)), .int .i64 out.length]
theorem BW.buf {w : World} {ob bw gb : Nat} {ro : Option Nat} {out : List UInt8} (h : BW w ob bw gb ro out) : ∃ cs, Blk w bw 207 cs := by
  obtain ⟨done, l, n, h, _⟩ := h
  exact ⟨_, h.buf⟩
theorem BW.row {w : World} {ob bw gb : Nat} {ro : Option Nat} {out : List UInt8} (h : BW w ob bw gb ro out) : ∃ l : List UInt8, Blk w gb 5 (l.map byteV).toArray := by
  obtain ⟨done, l, n, h, _⟩ := h
  exact ⟨_, h.row⟩
theorem BW.ob_ne {w : World} {ob bw gb b : Nat} {ro : Option Nat} {out : List UInt8} {t : TypeId} {cs : Array Value} (h : BW w ob bw gb ro out) (hb : Blk w b t cs) (h1 : 79 ≠ t) (h2 : 207 ≠ t) (h3 : 5 ≠ t) : b ∉ ob :: bw :: gb :: ro.toList := by
  obtain ⟨done, l, n, h, _⟩ := h
  have a1 := h.bld.ne hb h1
  have a2 := h.buf.ne_ hb h2
  have a3 := h.row.ne_ hb h3
  have a4 := h.bld.row hb h3
  simp only [List.mem_cons, Option.mem_toList, not_or]
  exact ⟨a1.symm, a2.symm, a3.symm, fun e => a4 (by simpa using e)⟩
set_option maxRecDepth 100000 in
set_option maxHeartbeats 1000000 in
theorem Cw_write {w : World} {ob bw gb cw : Nat} {ro : Option Nat} {out : List UInt8} (h : Snk w ob bw gb cw ro out) (A : Option Addr) (m c : Nat) (p : List UInt8) (hmc : m ≤ c) (hp : Reads w w.heap.size 1 A m (p.map byteV)) (hpb : ∀ ad, A = some ad → 0 < m → ad.block ∉ ob :: bw :: gb :: ro.toList) (hlen : out.length + p.length ≤ 140737488355328) :
    Calls Tryd.prog 81 #[.pointer (some ⟨cw, 0, none⟩), .slice A m c] w fun e w' => e = .returned (.tuple #[.int .i64 m, .nilIface]) ∧ ∃ ro', (ro' = ro ∨ ∃ n, ro' = some n ∧ w.heap.size ≤ n) ∧ Snk w' ob bw gb cw ro' (out ++ p) ∧ Kept (ob :: bw :: gb :: cw :: ro.toList) w w' := by
  have hm := method_WriteW
  have hma := ahead_WriteW
  have hmp : m = p.length := by simpa using hp.1.symm
  have c0 : w.cell? ⟨cw, 0, none⟩ = some (.iface 105 (.pointer (some ⟨bw, 0, none⟩))) := h.cnt.cell 0
  have hR := fun W (k : Kept [] w W) => Bw_write (h.buf.kept k (by simp) (by simp) (by simp) (by simp)) A m c p hmc (hp.kept k (by simp)) hpb hlen
  have hcn : cw ∉ ob :: bw :: gb :: ro.toList := h.buf.ob_ne h.cnt (by decide) (by decide) (by decide)
  have HR := Lib.hid hR
  have HX := Lib.hid (And.intro h (And.intro hcn (And.intro hmp hlen)))
  have hL : out.length + m ≤ 140737488355328 := by omega
  clear h hcn hmp hlen hR hp hpb
  go_enter Tryd.func81, Tryd.ntmps81
  go_wp2_with fail
  refine (HR.out w (Kept.refl [] w)).mono ?_
  rintro e W ⟨rfl, ro', h1, h2, h3⟩
  have hc2 := h3.blk HX.out.1.cnt HX.out.2.1
  have c1 : W.cell? ⟨cw, 1, none⟩ = some (.int .i64 out.length) := hc2.cell 1
  have hf : ∀ i, W.frozen? ⟨cw, i, none⟩ = false := hc2.frozen
  have HY := Lib.hid (And.intro h1 (And.intro h2 (And.intro h3 hc2)))
  clear h1 h2 h3 hc2 c0 HR
  go_wp2
  go_ret2
  obtain ⟨y1, y2, y3, y4⟩ := HY.out
  have hcn := y2.ob_ne y4 (by decide) (by decide) (by decide)
  simp only [List.mem_cons, Option.mem_toList, not_or] at hcn
  refine ⟨rfl, ro', y1, ⟨y2.kept ((Kept.refl [cw] W).setCell (by simp) _) (by simp; omega) (by simp; omega) (by simp; omega) (fun g hg hm => hcn.2.2.2 (by simp at hm; rw [hg, hm])), Blk.cast (y4.set_ 1 _) ?_⟩, ?_⟩
  · rw [List.length_append, ← HX.out.2.2.1]
    simp
  · exact (y3.mono (fun x hx => .inl (by simp only [List.mem_cons] at hx ⊢; rcases hx with h | h | h | h; exact .inl h; exact .inr (.inl h); exact .inr (.inr (.inl h)); exact .inr (.inr (.inr (.inr h)))))).setCell (p := ⟨cw, 1, none⟩) (by simp) _
end Go.Proofs.YtkkdblifgekmkaaDoor
