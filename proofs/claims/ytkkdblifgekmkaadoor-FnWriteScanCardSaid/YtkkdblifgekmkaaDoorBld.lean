/- Contracts: strings.Builder: copyCheck, Write. -/
import Derived.Test.YtkkdblifgekmkaaDoorReads
import Derived.Test.YtkkdblifgekmkaaDoorBytes
import Derived.Lib.Builder
import Derived.Laws.Externs
import Derived.StillTailTactics
namespace Go.Proofs.YtkkdblifgekmkaaDoor
open Go.RowKit
/-- A strings.Builder that holds 'out'; its bytes lie in the row ro. -/
def Bld (w : World) (ob : Nat) (ro : Option Nat) (out : List UInt8) : Prop :=
  ∃ ad v, Blk w ob 79 #[ad, v] ∧ (ad = .pointer none ∨ ad = .pointer (some ⟨ob, 0, none⟩)) ∧ w.ownsRow 0 5 1 v out.length (out.map byteV) ∧ v.ownBlock = ro
theorem infoBld : (Tryd.prog.info? 79).map (·.size) = some 2 := by kernel_rfl
theorem liesBld : liesAt Tryd.prog Tryd.prog.depth 79 (2 / Tryd.prog.cellsOf 79) 0 79 1 = true := by kernel_rfl
set_option maxRecDepth 100000 in
theorem copyCheck_any {w : World} {ob : Nat} {ad v : Value} (h : Blk w ob 79 #[ad, v]) (ha : ad = .pointer none ∨ ad = .pointer (some ⟨ob, 0, none⟩)) :
    Calls Tryd.prog 162 #[.pointer (some ⟨ob, 0, none⟩)] w fun e w' => e = .returned (.tuple #[]) ∧ Blk w' ob 79 #[.pointer (some ⟨ob, 0, none⟩), v] ∧ Kept [ob] w w' := by
  obtain ⟨j, hj, hjs⟩ := Option.map_eq_some_iff.1 infoBld
  have hsh : w.shape? ob = some (79, 2) := by unfold Blk at h; simp [World.shape?, h]
  have h0 : w.cell? ⟨ob, 0, none⟩ = some ad := h.cell 0
  have hfz := h.frozen 0
  have H := Lib.hid h
  clear h
  rcases ha with rfl | rfl
  · go_enter Tryd.func162, Tryd.ntmps162
    go_wp2
    rw [Lib.run_to_unsafe w ⟨ob, 0, none⟩ Tryd.underlying77 Tryd.underlying283 hj (by rw [hjs]; decide) hsh (Nat.zero_lt_succ 1)]
    simp only [Result.andThen]
    rw [Oper.upon_value]
    go_wp2
    rw [run_callFunc_extern Tryd.func163 (by kernel_rfl) (by kernel_rfl) (by kernel_rfl) (e := Extern.AbiNoEscape.same) (by kernel_rfl)]
    rw [Lib.run_noEscape]
    simp only [Result.andThen]
    rw [Oper.upon_value]
    go_wp2
    rw [Lib.run_from_unsafe w ⟨ob, 0, none⟩ Tryd.underlying283 Tryd.underlying77 hj hsh liesBld]
    simp only [Result.andThen]
    rw [Oper.upon_value]
    go_wp2
    go_end0
    exact ⟨rfl, Blk.cast (H.out.set_ 0 _) (by simp), (Kept.refl _ _).setCell (by simp) _⟩
  · go_enter Tryd.func162, Tryd.ntmps162
    go_wp2
    rw [Lib.run_neq_ptr_same w _ Tryd.underlying77 hj]
    go_wp2
    go_end0
    exact ⟨rfl, H.out, Kept.refl _ _⟩
theorem own_slice {w : World} {base n : Nat} {e : TypeId} {size : Nat} {v : Value} {xs : List Value} (h : w.ownsRow base e size v n xs) : ∃ A n c, v = .slice A n c := by
  rcases h.2 with ⟨rfl, _⟩ | ⟨g, cap, cur, rfl, _⟩
  · exact ⟨_, _, _, rfl⟩
  · exact ⟨_, _, _, rfl⟩
set_option maxRecDepth 100000 in
set_option maxHeartbeats 400000 in
theorem Bld_write {w : World} {ob : Nat} {ro : Option Nat} {out : List UInt8} (h : Bld w ob ro out) (A : Option Addr) (m c : Nat) (p : List UInt8) (hp : Reads w w.heap.size 1 A m (p.map byteV)) (hpb : 0 < m → ∀ ad, A = some ad → ad.block ≠ ob) (hlen : out.length + p.length ≤ 140737488355328) :
    Calls Tryd.prog 161 #[.pointer (some ⟨ob, 0, none⟩), .slice A m c] w fun e w' => e = .returned (.tuple #[.int .i64 m, .nilIface]) ∧ ∃ ro', (ro' = ro ∨ ∃ n, ro' = some n ∧ w.heap.size ≤ n) ∧ Bld w' ob ro' (out ++ p) ∧ Kept (ob :: ro.toList) w w' := by
  obtain ⟨i0, hi, hz0, hz1, hz2⟩ := info_parts infoU8
  obtain ⟨ad, v, hb, ha, hown, hro⟩ := h
  have hne : v.ownBlock ≠ some ob := own_blk_ne hown hb (by decide)
  have HC := Lib.hid (copyCheck_any hb ha)
  have HX := Lib.hid (And.intro hown (And.intro hro (And.intro hp (And.intro hpb hne))))
  clear hb ha hown hro hp hpb hne
  go_enter Tryd.func161, Tryd.ntmps161
  go_wp2_with fail
  refine HC.out.mono ?_
  rintro e w1 ⟨rfl, hb1, hk1⟩
  have hown1 := HX.out.1.kept (w' := w1) (row := some ob) ⟨hk1.os, hk1.tape, hk1.output, hk1.size, fun k hk hne => hk1.block k hk (by simpa using fun e => hne (by rw [e]))⟩ (.inr HX.out.2.2.2.2)
  have hp1 := HX.out.2.2.1.kept hk1 (fun h ad e => by simpa using HX.out.2.2.2.1 h ad e)
  have b1 : w1.cell? ⟨ob, 1, none⟩ = some v := hb1.cell 1
  have hf1 : w1.frozen? ⟨ob, 1, none⟩ = false := hb1.frozen 1
  have HY := Lib.hid (And.intro hb1 (And.intro hk1 (And.intro hown1 hp1)))
  clear hb1 hk1 hown1 hp1
  have hml : m = p.length := by have := HX.out.2.2.1.1; simpa using this.symm
  have hlen1 : out.length + m ≤ 140737488355328 := by omega
  have HL := Lib.hid hlen1
  have HM := Lib.hid hml
  clear hml hlen1 hlen
  have hne2 : ob ∉ v.ownBlock.toList := by simpa using HX.out.2.2.2.2
  go_wp2_with (
     at_builtin
     refine wpList_append_any _ rfl (.tmp 12) (.tmp 13) _ rfl 0 5 i0 _ 1 1 Tryd.underlying30 hi hz0 hz1 hz2 rfl (by omega) v out.length (out.map byteV) rfl HY.out.2.2.1 w1.heap.size A m c (p.map byteV) rfl HY.out.2.2.2 (byteV_one _) (by have := HL.out; simp only [maxLen]; omega) (by have := HL.out; omega) (Nat.zero_le _) ?_
     intro v2 w2 hown2 hg2 hat2
     obtain ⟨A2, n2, c2, rfl⟩ := own_slice hown2
     have hk2 : Kept v.ownBlock.toList w1 w2 := (Kept.refl _ _).grown hg2 (fun g hg => by simp [hg])
     have hb2 := hk2.blk HY.out.1 hne2
     have b2 : w2.cell? ⟨ob, 1, none⟩ = some v := hb2.cell 1
     have hf2 : w2.frozen? ⟨ob, 1, none⟩ = false := hb2.frozen 1
     have HZ := Lib.hid (And.intro hown2 (And.intro hk2 (And.intro hb2 hat2)))
     clear hown2 hg2 hat2 hk2 hb2)
  go_ret2
  have hne3 := own_blk_ne HZ.out.1 HZ.out.2.2.1 (by decide)
  have hm := HM.out
  refine ⟨rfl, (Value.slice A2 n2 c2).ownBlock, ?_, ⟨_, _, Blk.cast (HZ.out.2.2.1.set_ 1 _) (by simp), .inr rfl, ?_, rfl⟩, ?_⟩
  · rcases HZ.out.2.2.2 with e | e
    · exact .inl (e.trans HX.out.2.1)
    · exact .inr ⟨_, e, HY.out.2.1.size⟩
  · have := owns_far (o := 1) HZ.out.1 hne3 (.slice A2 n2 c2)
    rw [hm] at this
    rw [List.length_append, List.map_append]
    exact this
  · have hr := HX.out.2.1
    have k12 : Kept (ob :: ro.toList) w w2 := by
      rw [← hr]
      exact (HY.out.2.1.mono (by simp)).trans (HZ.out.2.1.mono (fun x hx => .inl (by simp at hx ⊢; exact .inr hx)))
    exact k12.setCell (by simp) _
end Go.Proofs.YtkkdblifgekmkaaDoor
