/- Contract: bufio.Writer.Write over a strings.Builder. -/
import Derived.Test.YtkkdblifgekmkaaDoorBw
namespace Go.Proofs.YtkkdblifgekmkaaDoor
open Go.RowKit
/-- All that has been written: in the builder and in the buffer. -/
def BW (w : World) (ob bw gb : Nat) (ro : Option Nat) (out : List UInt8) : Prop := ∃ done l n, BWx w ob bw gb ro done l n ∧ out = done ++ l.take n
theorem BWx.kept {w w' : World} {ob bw gb n : Nat} {ro : Option Nat} {done l : List UInt8} {S : List Nat} (h : BWx w ob bw gb ro done l n) (k : Kept S w w') (h1 : ob ∉ S) (h2 : bw ∉ S) (h3 : gb ∉ S) (h4 : ∀ g, ro = some g → g ∉ S) : BWx w' ob bw gb ro done l n :=
  ⟨h.bld.kept k h1 h4, k.blk h.buf h2, k.blk h.row h3, h.len, h.le, h.ne⟩
theorem BW.kept {w w' : World} {ob bw gb : Nat} {ro : Option Nat} {out : List UInt8} {S : List Nat} (h : BW w ob bw gb ro out) (k : Kept S w w') (h1 : ob ∉ S) (h2 : bw ∉ S) (h3 : gb ∉ S) (h4 : ∀ g, ro = some g → g ∉ S) : BW w' ob bw gb ro out := by
  obtain ⟨done, l, n, h, e⟩ := h
  exact ⟨done, l, n, h.kept k h1 h2 h3 h4, e⟩
theorem Avail_any {w : World} {ob bw gb n : Nat} {ro : Option Nat} {done l : List UInt8} (h : BWx w ob bw gb ro done l n) : Calls Tryd.prog 165 #[.pointer (some ⟨bw, 0, none⟩)] w fun e w' => e = .returned (.int .i64 (4096 - n : Nat)) ∧ ∃ k, w' = w.drewN k := by
  have b1 : w.cell? ⟨bw, 1, none⟩ = some (.slice (some ⟨gb, 0, none⟩) 4096 4096) := h.buf.cell 1
  have b2 : w.cell? ⟨bw, 2, none⟩ = some (.int .i64 n) := h.buf.cell 2
  have hn := h.le
  clear h
  go_enter Tryd.func165, Tryd.ntmps165
  go_wp2
  try go_quiet (fail)
  go_wp2
  go_ret
  exact ⟨by rw [Int.ofNat_sub hn]; rfl, _, rfl⟩
theorem Buffered_any {w : World} {ob bw gb n : Nat} {ro : Option Nat} {done l : List UInt8} (h : BWx w ob bw gb ro done l n) : Calls Tryd.prog 167 #[.pointer (some ⟨bw, 0, none⟩)] w fun e w' => e = .returned (.int .i64 n) ∧ w = w' := by
  have b2 : w.cell? ⟨bw, 2, none⟩ = some (.int .i64 n) := h.buf.cell 2
  clear h
  go_enter Tryd.func167, Tryd.ntmps167
  go_wp2
  go_ret
  exact ⟨rfl, rfl⟩
/-- copy of a source that reads as a list (nil too) into a block known whole. -/
theorem copy_reads {W : World} {g t B : Nat} {cs : Array Value} (hd : Blk W g t cs) (o n c : Nat) (ho : o + n ≤ cs.size) (A : Option Addr) (m cap : Nat) (p : List UInt8) (hr : Reads W B 1 A m (p.map byteV)) (ty : TypeId) :
    (Builtin.copy_ #[30, 30] ty #[.slice (some ⟨g, o, none⟩) n c, .slice A m cap]).run Tryd.prog W = .ok (goInt (min n m : Nat)) (W.setCells g o ((p.take (min n m)).map byteV)) := by
  have hpl : p.length = m := by simpa using hr.1
  rcases Nat.eq_zero_or_pos m with h0 | h0
  · subst h0
    rw [Nat.min_zero]
    exact run_copy_none W 30 30 ty 5 _ _ _ _ _ _ Tryd.underlying30 (by kernel_rfl) (by exact Nat.zero_min _)
  · obtain ⟨ad, rfl, _, hc⟩ := hr.2 h0
    have hlen : ((p.take (min n m)).map byteV).length = min n m := by rw [List.length_map, List.length_take]; omega
    have h := run_copy_cells (P := Tryd.prog) W 30 30 ty 5 g o n c ad m cap ((p.take (min n m)).map byteV) Tryd.underlying30 (by kernel_rfl) (by rw [hlen]; show min n m = min m n; omega) (fun j v hj => by
      have hj' : j < min n m := by
        have := (List.getElem?_eq_some_iff.1 hj).1; omega
      refine hc j v ?_
      rw [← hj, List.getElem?_map, List.getElem?_map, List.getElem?_take_of_lt hj']) (fun j hj => by rw [hd.cell]; simp; omega) (fun j hj => hd.frozen _) (byteV_one _)
    rw [hlen] at h
    exact h
theorem u8_sizeB (W : World) : (sizeOf (Tryd.prog.elem 30)).run Tryd.prog W = .ok 1 W := by kernel_rfl
theorem add_atB (b o j : Nat) : (⟨b, o, none⟩ : Addr).add j = ⟨b, o + j, none⟩ := by
  unfold Addr.add
  split
  · subst_vars; rfl
  · rfl
/-- The buffer from n on. -/
theorem slice_rest (g n c : Nat) (hn : n ≤ c) : ∃ o, (n < c → o = n) ∧ o + (c - n) ≤ c ∧ ∀ W : World, (Instr.slice 30 (.slice (some ⟨g, 0, none⟩) c c) (some (.int .i64 n)) none none).run Tryd.prog W = .ok (.slice (some ⟨g, o, none⟩) (c - n) (c - n)) W := by
  by_cases h : n = c
  · subst h
    refine ⟨0, fun h => by omega, by omega, fun W => ?_⟩
    rw [run_slice_l (P := Tryd.prog) W 30 (some ⟨g, 0, none⟩) n n (by kernel_rfl) .i64 n (by omega) (by omega), u8_sizeB]
    simp [sliced, Result.andThen]
  · refine ⟨n, fun _ => rfl, by omega, fun W => ?_⟩
    rw [run_slice_l (P := Tryd.prog) W 30 (some ⟨g, 0, none⟩) c c (by kernel_rfl) .i64 n (by omega) (by omega), u8_sizeB]
    simp [sliced, add_atB, Result.andThen, show ¬ c = n by omega]
/-- 'p[k:]' of a source. -/
theorem slice_from (A : Option Addr) (m c k : Nat) (hk : k ≤ m) (W : World) : (Instr.slice 30 (.slice A m c) (some (.int .i64 k)) none none).run Tryd.prog W = .ok (.slice (if c = k then A else A.map (·.add (k * 1))) (m - k) (c - k)) W := by
  rw [run_slice_l (P := Tryd.prog) W 30 A m c (by kernel_rfl) .i64 k (by omega) (by omega), u8_sizeB]
  simp [sliced, Result.andThen]
end Go.Proofs.YtkkdblifgekmkaaDoor
