/- Contracts: bufio.Writer over a strings.Builder: Flush. -/
import Derived.Test.YtkkdblifgekmkaaDoorBld
import Derived.Deep.QuietTactic
import Derived.BigQuiet
import Derived.Deep.RegionWith
import Derived.Outline
namespace Go.Proofs.YtkkdblifgekmkaaDoor
open Go.RowKit
theorem method_WriteB (a : Addr) (w : World) : (method 404 77 (.pointer (some a)) "Write").run Tryd.prog w = .ok (161, .pointer (some a)) w := by kernel_rfl
theorem ahead_WriteB (a : Addr) (w : World) : (nilAhead 404 77 (.pointer (some a)) "Write").run Tryd.prog w = .ok (some false) w := by kernel_rfl
/-- A bufio.Writer over the builder ob: 'done' is in the builder, the first n bytes of l are in the buffer gb. -/
structure BWx (w : World) (ob bw gb : Nat) (ro : Option Nat) (done l : List UInt8) (n : Nat) : Prop where
  bld : Bld w ob ro done
  buf : Blk w bw 207 #[.nilIface, .slice (some ⟨gb, 0, none⟩) 4096 4096, .int .i64 n, .iface 77 (.pointer (some ⟨ob, 0, none⟩))]
  row : Blk w gb 5 (l.map byteV).toArray
  len : l.length = 4096
  le : n ≤ 4096
  ne : ro ≠ some gb
theorem Bld.ne {w : World} {ob b : Nat} {ro : Option Nat} {out : List UInt8} {t : TypeId} {cs : Array Value} (h : Bld w ob ro out) (hb : Blk w b t cs) (ht : 79 ≠ t) : ob ≠ b := by
  obtain ⟨ad, v, h, _⟩ := h
  exact h.ne_ hb ht
theorem Bld.row {w : World} {ob b : Nat} {ro : Option Nat} {out : List UInt8} {t : TypeId} {cs : Array Value} (h : Bld w ob ro out) (hb : Blk w b t cs) (ht : 5 ≠ t) : ro ≠ some b := by
  obtain ⟨ad, v, _, _, ho, rfl⟩ := h
  exact own_blk_ne ho hb ht
theorem Bld.kept {w w' : World} {ob : Nat} {ro : Option Nat} {out : List UInt8} {S : List Nat} (h : Bld w ob ro out) (k : Kept S w w') (h1 : ob ∉ S) (h2 : ∀ g, ro = some g → g ∉ S) : Bld w' ob ro out := by
  obtain ⟨ad, v, hb, ha, ho, hr⟩ := h
  exact ⟨ad, v, k.blk hb h1, ha, owns_kept ho k (fun g hg => h2 g (hr.symm.trans hg)), hr⟩
theorem Bld.lt {w : World} {ob : Nat} {ro : Option Nat} {out : List UInt8} (h : Bld w ob ro out) : ∀ g, ro = some g → g < w.heap.size := by
  obtain ⟨ad, v, _, _, ho, rfl⟩ := h
  exact fun g hg => (ho.lt g hg).2
/-- The bytes of a row as a source. -/
theorem reads_row {w : World} {g : Nat} {l : List UInt8} (h : Blk w g 5 (l.map byteV).toArray) (o m : Nat) (hm : o + m ≤ l.length) : Reads w w.heap.size 1 (some ⟨g, o, none⟩) m (((l.drop o).take m).map byteV) := by
  refine ⟨by rw [List.length_map, List.length_take, List.length_drop]; omega, fun _ => ⟨_, rfl, h.lt, fun j u hu => ?_⟩⟩
  have hj : j < m := by
    have := (List.getElem?_eq_some_iff.1 hu).1
    rw [List.length_map, List.length_take, List.length_drop] at this
    omega
  have e : (⟨g, o, none⟩ : Addr).add j = ⟨g, o + j, none⟩ := by
    unfold Addr.add
    split
    · subst_vars; rfl
    · rfl
  rw [e, h.cell, ← hu]
  simp [List.getElem?_take_of_lt hj]
set_option maxRecDepth 100000 in
set_option maxHeartbeats 1000000 in
theorem Bw_flush {w : World} {ob bw gb n : Nat} {ro : Option Nat} {done l : List UInt8} (h : BWx w ob bw gb ro done l n) (hlen : done.length + n ≤ 140737488355328) :
    Calls Tryd.prog 82 #[.pointer (some ⟨bw, 0, none⟩)] w fun e w' => e = .returned .nilIface ∧ ∃ ro', (ro' = ro ∨ ∃ n, ro' = some n ∧ w.heap.size ≤ n) ∧ BWx w' ob bw gb ro' (done ++ l.take n) l 0 ∧ Kept (ob :: bw :: ro.toList) w w' := by
  have hm := method_WriteB
  have hma := ahead_WriteB
  have b0 : w.cell? ⟨bw, 0, none⟩ = some .nilIface := h.buf.cell 0
  have b1 : w.cell? ⟨bw, 1, none⟩ = some (.slice (some ⟨gb, 0, none⟩) 4096 4096) := h.buf.cell 1
  have b2 : w.cell? ⟨bw, 2, none⟩ = some (.int .i64 n) := h.buf.cell 2
  have b3 : w.cell? ⟨bw, 3, none⟩ = some (.iface 77 (.pointer (some ⟨ob, 0, none⟩))) := h.buf.cell 3
  have hfb : ∀ i, w.frozen? ⟨bw, i, none⟩ = false := h.buf.frozen
  have hn4 := h.le
  have H := Lib.hid h
  have HL := Lib.hid hlen
  clear h hlen
  by_cases hn : n = 0
  · have hnz : ((n : Int) == 0) = true := by simp [hn]
    have HN := Lib.hid hn
    clear hn
    go_enter Tryd.func82, Tryd.ntmps82
    go_wp2
    go_ret
    refine ⟨rfl, ro, .inl rfl, ?_, Kept.refl _ _⟩
    have := H.out
    rw [HN.out, List.take_zero, List.append_nil]
    rw [HN.out] at this
    exact this
  · have hnz : ((n : Int) == 0) = false := by simpa using hn
    go_enter Tryd.func82, Tryd.ntmps82
    go_wp2_with fail
    have HW := Lib.hid (fun W (k : Kept [] w W) => Bld_write (H.out.bld.kept k (by simp) (by simp)) (some ⟨gb, 0, none⟩) n 4096 (l.take n) (by have := reads_row (k.blk H.out.row (by simp)) 0 n (by rw [H.out.len]; omega); simpa using this) (fun _ ad e => by injection e with e; subst e; exact (H.out.bld.ne H.out.row (by decide)).symm) (by rw [List.length_take, H.out.len, Nat.min_eq_left hn4]; exact HL.out))
    apply passW (fun W => ∃ ro', (ro' = ro ∨ ∃ n, ro' = some n ∧ w.heap.size ≤ n) ∧ Bld W ob ro' (done ++ l.take n) ∧ Kept (ob :: ro.toList) w W)
    case k =>
      intro key
      have KEY := Lib.hid key
      clear key
      go_region_with (go_at_call 161; refine (HW.out _ (Kept.refl [] w).drew).mono ?_; rintro e w1 ⟨rfl, hx⟩; have HX := Lib.hid hx; clear hx)
      all_goals
        obtain ⟨ro', h1, h2, h3⟩ := HX.out
        exact KEY.out _ ⟨ro', h1, h2, ((Kept.refl _ w).drew).trans h3⟩
    rintro W ⟨ro', h1, h2, h3⟩
    have hbo : bw ≠ ob := (H.out.bld.ne H.out.buf (by decide)).symm
    have hbr : bw ∉ ro.toList := by
      have := H.out.bld.row H.out.buf (by decide)
      simpa using this
    have hgr : gb ∉ ro.toList := by simpa using H.out.ne
    have hgo : gb ≠ ob := (H.out.bld.ne H.out.row (by decide)).symm
    have hb2 := h3.blk H.out.buf (by simp at hbr ⊢; exact ⟨hbo, hbr⟩)
    have hg2 := h3.blk H.out.row (by simp at hgr ⊢; exact ⟨hgo, hgr⟩)
    have hne2 : ro' ≠ some gb := by
      rcases h1 with rfl | ⟨k, rfl, hk⟩
      · exact H.out.ne
      · have := H.out.row.lt
        simp; omega
    have c2 : W.cell? ⟨bw, 2, none⟩ = some (.int .i64 n) := hb2.cell 2
    have c0 : W.cell? ⟨bw, 0, none⟩ = some .nilIface := hb2.cell 0
    have hf2 : ∀ i, W.frozen? ⟨bw, i, none⟩ = false := hb2.frozen
    have HX := Lib.hid (And.intro h1 (And.intro h2 (And.intro h3 (And.intro hb2 (And.intro hg2 hne2)))))
    clear h1 h2 h3 hb2 hg2 hne2 b0 b1 b2 b3 hfb HW hbr hgr
    go_wp2_with fail
    go_ret
    have hrw := HX.out.2.1.row HX.out.2.2.2.1 (by decide)
    refine ⟨rfl, ro', HX.out.1, ⟨?_, ?_, ?_, H.out.len, Nat.zero_le _, HX.out.2.2.2.2.2⟩, ?_⟩
    · exact HX.out.2.1.kept ((Kept.refl [bw] W).setCell (by simp) _) (by simpa using hbo.symm) (fun g hg hm => hrw (by simp at hm; rw [hg, hm]))
    · exact Blk.cast (HX.out.2.2.2.1.set_ 2 _) (by simp)
    · exact HX.out.2.2.2.2.1.far (H.out.row.ne_ H.out.buf (by decide)) _
    · exact (HX.out.2.2.1.mono (fun x hx => .inl (by simp at hx ⊢; rcases hx with h | h; exact .inl h; exact .inr (.inr h)))).setCell (by simp) _
end Go.Proofs.YtkkdblifgekmkaaDoor
