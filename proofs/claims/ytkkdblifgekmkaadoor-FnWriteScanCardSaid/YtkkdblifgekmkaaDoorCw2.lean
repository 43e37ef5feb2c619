/- Contracts: countWriter.Write over a countWriter, over a nopCloser. -/
import Derived.Test.YtkkdblifgekmkaaDoorMeth
namespace Go.Proofs.YtkkdblifgekmkaaDoor
open Go.RowKit
/-- 'm bytes p are read from A; none of them lies in the sink.' -/
structure From (w : World) (S : List Nat) (A : Option Addr) (m c : Nat) (p : List UInt8) : Prop where
  cap : m ≤ c
  reads : Reads w w.heap.size 1 A m (p.map byteV)
  apart : ∀ ad, A = some ad → 0 < m → ad.block ∉ S
theorem From.len {w : World} {S : List Nat} {A : Option Addr} {m c : Nat} {p : List UInt8} (h : From w S A m c p) : m = p.length := by simpa using h.reads.1.symm
theorem From.sub {w : World} {S T : List Nat} {A : Option Addr} {m c : Nat} {p : List UInt8} (h : From w S A m c p) (hT : ∀ x ∈ T, x ∈ S) : From w T A m c p := ⟨h.cap, h.reads, fun ad e h0 hm => h.apart ad e h0 (hT _ hm)⟩
theorem From.kept {w w' : World} {S : List Nat} {A : Option Addr} {m c : Nat} {p : List UInt8} (h : From w S A m c p) (k : Kept S w w') : From w' S A m c p :=
  ⟨h.cap, h.reads.kept k (fun h0 ad e => h.apart ad e h0), h.apart⟩
theorem Snk.more {w w' : World} {ob bw gb cw b t : Nat} {ro : Option Nat} {out : List UInt8} {cs : Array Value} (h : Snk w ob bw gb cw ro out) (hb : Blk w b t cs) (h1 : 79 ≠ t) (h2 : 207 ≠ t) (h3 : 5 ≠ t) (hne : b ≠ cw) (k : Kept (ob :: bw :: gb :: cw :: ro.toList) w w') : Blk w' b t cs := by
  have := h.buf.ob_ne hb h1 h2 h3
  refine k.blk hb ?_
  simp only [List.mem_cons, not_or] at this ⊢
  exact ⟨this.1, this.2.1, this.2.2.1, hne, this.2.2.2⟩
set_option maxRecDepth 100000 in
theorem Cw_write2 {w : World} {ob bw gb cw cc n1 : Nat} {ro : Option Nat} {out : List UInt8} (h : Snk w ob bw gb cw ro out) (h1 : Blk w cc 108 #[.iface 104 (.pointer (some ⟨cw, 0, none⟩)), .int .i64 n1]) (hne : cc ≠ cw) (A : Option Addr) (m c : Nat) (p : List UInt8) (hf : From w (ob :: bw :: gb :: ro.toList) A m c p) (hlen : out.length + p.length ≤ 140737488355328) (hn1 : n1 + p.length ≤ 140737488355328) :
    Calls Tryd.prog 81 #[.pointer (some ⟨cc, 0, none⟩), .slice A m c] w fun e w' => e = .returned (.tuple #[.int .i64 m, .nilIface]) ∧ ∃ ro', (ro' = ro ∨ ∃ n, ro' = some n ∧ w.heap.size ≤ n) ∧ Snk w' ob bw gb cw ro' (out ++ p) ∧ Blk w' cc 108 #[.iface 104 (.pointer (some ⟨cw, 0, none⟩)), .int .i64 (n1 + m : Nat)] ∧ Kept (ob :: bw :: gb :: cw :: cc :: ro.toList) w w' := by
  have hm := method_WriteC
  have hma := ahead_WriteC
  have hmp := hf.len
  have c0 : w.cell? ⟨cc, 0, none⟩ = some (.iface 104 (.pointer (some ⟨cw, 0, none⟩))) := h1.cell 0
  have HR := Lib.hid (Cw_write h A m c p hf.cap hf.reads hf.apart hlen)
  have HX := Lib.hid (And.intro h (And.intro h1 hmp))
  have hL : n1 + m ≤ 140737488355328 := by omega
  clear h h1 hmp hlen hf hn1
  go_enter Tryd.func81, Tryd.ntmps81
  go_wp2_with fail
  refine HR.out.mono ?_
  rintro e W ⟨rfl, ro', r1, r2, r3⟩
  have hc2 := HX.out.1.more HX.out.2.1 (by decide) (by decide) (by decide) hne r3
  have c1 : W.cell? ⟨cc, 1, none⟩ = some (.int .i64 n1) := hc2.cell 1
  have hfz : ∀ i, W.frozen? ⟨cc, i, none⟩ = false := hc2.frozen
  have HY := Lib.hid (And.intro r1 (And.intro r2 (And.intro r3 hc2)))
  clear r1 r2 r3 hc2 c0 HR
  go_wp2
  go_ret2
  obtain ⟨y1, y2, y3, y4⟩ := HY.out
  have hcn := y2.buf.ob_ne y4 (by decide) (by decide) (by decide)
  simp only [List.mem_cons, Option.mem_toList, not_or] at hcn
  refine ⟨rfl, ro', y1, ⟨y2.buf.kept ((Kept.refl [cc] W).setCell (by simp) _) (by simp; omega) (by simp; omega) (by simp; omega) (fun g hg hm => hcn.2.2.2 (by simp at hm; rw [hg, hm])), y2.cnt.far (p := ⟨cc, 1, none⟩) (fun e => hne e.symm) _⟩, Blk.cast (y4.set_ 1 _) (by simp), ?_⟩
  exact (y3.mono (fun x hx => .inl (by simp only [List.mem_cons] at hx ⊢; rcases hx with h | h | h | h | h; exact .inl h; exact .inr (.inl h); exact .inr (.inr (.inl h)); exact .inr (.inr (.inr (.inl h))); exact .inr (.inr (.inr (.inr (.inr h))))))).setCell (p := ⟨cc, 1, none⟩) (by simp) _
set_option maxRecDepth 100000 in
theorem Cw_write3 {w : World} {ob bw gb cw cc nc rc n1 : Nat} {ro : Option Nat} {out : List UInt8} (h : Snk w ob bw gb cw ro out) (h1 : Blk w cc 108 #[.iface 104 (.pointer (some ⟨cw, 0, none⟩)), .int .i64 n1]) (hne : cc ≠ cw)
    (hn : Blk w nc 227 #[.iface 104 (.pointer (some ⟨cc, 0, none⟩))]) (h2 : Blk w rc 108 #[.iface 225 (.pointer (some ⟨nc, 0, none⟩)), .int .i64 n1]) (hne2 : rc ≠ cw) (hne3 : rc ≠ cc) (A : Option Addr) (m c : Nat) (p : List UInt8) (hf : From w (ob :: bw :: gb :: ro.toList) A m c p) (hlen : out.length + p.length ≤ 140737488355328) (hn1 : n1 + p.length ≤ 140737488355328) :
    Calls Tryd.prog 81 #[.pointer (some ⟨rc, 0, none⟩), .slice A m c] w fun e w' => e = .returned (.tuple #[.int .i64 m, .nilIface]) ∧ ∃ ro', (ro' = ro ∨ ∃ n, ro' = some n ∧ w.heap.size ≤ n) ∧ Snk w' ob bw gb cw ro' (out ++ p) ∧ Blk w' cc 108 #[.iface 104 (.pointer (some ⟨cw, 0, none⟩)), .int .i64 (n1 + m : Nat)] ∧ Blk w' rc 108 #[.iface 225 (.pointer (some ⟨nc, 0, none⟩)), .int .i64 (n1 + m : Nat)] ∧ Kept (ob :: bw :: gb :: cw :: cc :: rc :: ro.toList) w w' := by
  have hm := method_nopW (hn.cell 0)
  have hmp := hf.len
  have c0 : w.cell? ⟨rc, 0, none⟩ = some (.iface 225 (.pointer (some ⟨nc, 0, none⟩))) := h2.cell 0
  have HR := Lib.hid (Cw_write2 h h1 hne A m c p hf hlen hn1)
  have HX := Lib.hid (And.intro h (And.intro h2 hmp))
  have hL : n1 + m ≤ 140737488355328 := by omega
  clear h h1 h2 hn hmp hlen hf hn1
  go_enter Tryd.func81, Tryd.ntmps81
  go_wp2_with fail
  refine HR.out.mono ?_
  rintro e W ⟨rfl, ro', r1, r2, r4, r3⟩
  have hc2 : Blk W rc 108 #[.iface 225 (.pointer (some ⟨nc, 0, none⟩)), .int .i64 n1] := by
    have := HX.out.1.buf.ob_ne HX.out.2.1 (by decide) (by decide) (by decide)
    refine r3.blk HX.out.2.1 ?_
    simp only [List.mem_cons, not_or] at this ⊢
    exact ⟨this.1, this.2.1, this.2.2.1, hne2, hne3, this.2.2.2⟩
  have c1 : W.cell? ⟨rc, 1, none⟩ = some (.int .i64 n1) := hc2.cell 1
  have hfz : ∀ i, W.frozen? ⟨rc, i, none⟩ = false := hc2.frozen
  have HY := Lib.hid (And.intro r1 (And.intro r2 (And.intro r3 (And.intro hc2 r4))))
  clear r1 r2 r3 r4 hc2 c0 HR
  go_wp2
  go_ret2
  obtain ⟨y1, y2, y3, y4, y5⟩ := HY.out
  have hcn := y2.buf.ob_ne y4 (by decide) (by decide) (by decide)
  simp only [List.mem_cons, Option.mem_toList, not_or] at hcn
  refine ⟨rfl, ro', y1, ⟨y2.buf.kept ((Kept.refl [rc] W).setCell (by simp) _) (by simp; omega) (by simp; omega) (by simp; omega) (fun g hg hm => hcn.2.2.2 (by simp at hm; rw [hg, hm])), y2.cnt.far (p := ⟨rc, 1, none⟩) (fun e => hne2 e.symm) _⟩, y5.far (p := ⟨rc, 1, none⟩) (fun e => hne3 e.symm) _, Blk.cast (y4.set_ 1 _) (by simp), ?_⟩
  exact (y3.mono (fun x hx => .inl (by simp only [List.mem_cons] at hx ⊢; rcases hx with h | h | h | h | h | h; exact .inl h; exact .inr (.inl h); exact .inr (.inr (.inl h)); exact .inr (.inr (.inr (.inl h))); exact .inr (.inr (.inr (.inr (.inl h)))); exact .inr (.inr (.inr (.inr (.inr (.inr h)))))))).setCell (p := ⟨rc, 1, none⟩) (by simp) _
end Go.Proofs.YtkkdblifgekmkaaDoor
