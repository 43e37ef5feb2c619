/- Contracts: bufio.NewReader, bufio.Reader.Read over a section of a text. -/
import Derived.Test.YtfagjhgmmaebfaaGreatDoorIo
import Derived.Test.YtfagjhgmmaebfaaGreatDoorEnd
namespace Go.Proofs.YtfagjhgmmaebfaaGreatDoor
open Go.RowKit
set_option maxHeartbeats 1000000 in
theorem Buf_reset (bb gb sb : Nat) (W : World) (v0 v1 v2 v3 v4 v5 v6 : Value) (c0 : W.cell? ⟨bb, 0, none⟩ = some v0) (c1 : W.cell? ⟨bb, 1, none⟩ = some v1) (c2 : W.cell? ⟨bb, 2, none⟩ = some v2) (c3 : W.cell? ⟨bb, 3, none⟩ = some v3) (c4 : W.cell? ⟨bb, 4, none⟩ = some v4) (c5 : W.cell? ⟨bb, 5, none⟩ = some v5) (c6 : W.cell? ⟨bb, 6, none⟩ = some v6) (hf : ∀ i, W.frozen? ⟨bb, i, none⟩ = false) :
    Calls Tryz.prog 69 #[.pointer (some ⟨bb, 0, none⟩), .slice (some ⟨gb, 0, none⟩) 4096 4096, .iface 94 (.pointer (some ⟨sb, 0, none⟩))] W fun e w' => e = .returned (.tuple #[]) ∧
      w' = ((((((W.setCell ⟨bb, 0, none⟩ (.slice (some ⟨gb, 0, none⟩) 4096 4096)).setCell ⟨bb, 1, none⟩ (.iface 94 (.pointer (some ⟨sb, 0, none⟩)))).setCell ⟨bb, 2, none⟩ (.int .i64 0)).setCell ⟨bb, 3, none⟩ (.int .i64 0)).setCell ⟨bb, 4, none⟩ .nilIface).setCell ⟨bb, 5, none⟩ (.int .i64 (-1))).setCell ⟨bb, 6, none⟩ (.int .i64 (-1)) := by
  go_enter Tryz.func69, Tryz.ntmps69
  go_wp2_with fail
  go_end0
  exact ⟨rfl, rfl⟩
theorem owns_there {w : World} {base : Nat} {e : TypeId} {g n cap : Nat} {xs : List Value} (h : w.ownsRow base e 1 (.slice (some ⟨g, 0, none⟩) n cap) n xs) : (∀ j, j < n → (w.cell? ⟨g, j, none⟩).isSome = true) ∧ (∀ j, w.frozen? ⟨g, j, none⟩ = false) := by
  refine ⟨fun j hj => ?_, h.frozenAt⟩
  rw [h.cellAt j (by omega), List.getElem?_eq_getElem (by have := h.1; omega)]
  rfl
/-- A bufio.Reader over a section: what it holds from r to wr, its own block and its buffer's. -/
structure BufAt (w : World) (bb gb sb : Nat) (r wr : Nat) : Prop where
  buf : w.cell? ⟨bb, 0, none⟩ = some (.slice (some ⟨gb, 0, none⟩) 4096 4096)
  rd : w.cell? ⟨bb, 1, none⟩ = some (.iface 94 (.pointer (some ⟨sb, 0, none⟩)))
  pr : w.cell? ⟨bb, 2, none⟩ = some (.int .i64 r)
  pw : w.cell? ⟨bb, 3, none⟩ = some (.int .i64 wr)
  err : w.cell? ⟨bb, 4, none⟩ = some .nilIface
  lb : ∃ v, w.cell? ⟨bb, 5, none⟩ = some v
  lr : ∃ v, w.cell? ⟨bb, 6, none⟩ = some v
  fb : ∀ i, w.frozen? ⟨bb, i, none⟩ = false
  there : ∀ j, j < 4096 → (w.cell? ⟨gb, j, none⟩).isSome = true
  fg : ∀ j, w.frozen? ⟨gb, j, none⟩ = false
  ne : bb ≠ gb
theorem assert_sect (a : Addr) (w : World) : (Instr.typeAssert (.iface 94 (.pointer (some a))) 78 108 true).run Tryz.prog w = .ok (.tuple #[.pointer none, .bool false]) w := by kernel_rfl
set_option maxRecDepth 100000 in
set_option maxHeartbeats 1000000 in
theorem Buf_new (sb : Nat) (w : World) :
    Calls Tryz.prog 51 #[.iface 94 (.pointer (some ⟨sb, 0, none⟩)), .int .i64 4096] w fun e w' => ∃ bb gb, w.heap.size ≤ bb ∧ w.heap.size ≤ gb ∧ bb < w'.heap.size ∧ gb < w'.heap.size ∧ e = .returned (.pointer (some ⟨bb, 0, none⟩)) ∧ Below w.heap.size w w' ∧ BufAt w' bb gb sb 0 0 := by
  obtain ⟨i0, hi, hz0, hz1, hz2⟩ := info_parts infoU8
  have hta := assert_sect
  go_enter Tryz.func51, Tryz.ntmps51
  go_wp2_with (at_make; refine wpList_make_full _ rfl _ _ 46 rfl w.heap.size 5 i0 (.int .u8 0) 1 Tryz.underlying46 hi hz0 hz1 .i64 .i64 _ _ 4096 rfl rfl ?m1 ?m2 ?m3 ?m4 ?m5 ?_)
  case m1 => rfl
  case m2 => rfl
  case m3 => rw [hz2]; decide
  case m4 => decide
  case m5 => simp
  intro w0 hown hgr
  obtain ⟨hth, hfz⟩ := owns_there hown
  have hb0 : Below (w.heap.size + 1) _ w0 := (Below.refl _ _).grown hgr (by simp) (fun q hq => by cases hq)
  have hc : ∀ i (hi : i < 7), w0.cell? ⟨w.heap.size, i, none⟩ = _ := fun i hi => hb0.cell (p := ⟨w.heap.size, i, none⟩) (Nat.lt_succ_self _)
  have hf : ∀ i, w0.frozen? ⟨w.heap.size, i, none⟩ = false := fun i => by
    rw [hb0.frozen (p := ⟨w.heap.size, i, none⟩) (Nat.lt_succ_self _)]; exact World.frozen?_alloc_new _ _ _ _
  have hbw : Below w.heap.size w w0 := ((Below.refl _ _).alloc (Nat.le_refl _) _).trans (hb0.mono (Nat.le_succ _))
  have hsz0 : w.heap.size + 2 ≤ w0.heap.size := by
    have := (hown.lt (w.heap.size + 1) rfl).2; omega
  obtain ⟨v0, c0⟩ : ∃ v, w0.cell? ⟨w.heap.size, 0, none⟩ = some v := ⟨_, (hc 0 (by decide)).trans ((World.cell?_alloc_new _ _ _ _).trans rfl)⟩
  obtain ⟨v1, c1⟩ : ∃ v, w0.cell? ⟨w.heap.size, 1, none⟩ = some v := ⟨_, (hc 1 (by decide)).trans ((World.cell?_alloc_new _ _ _ _).trans rfl)⟩
  obtain ⟨v2, c2⟩ : ∃ v, w0.cell? ⟨w.heap.size, 2, none⟩ = some v := ⟨_, (hc 2 (by decide)).trans ((World.cell?_alloc_new _ _ _ _).trans rfl)⟩
  obtain ⟨v3, c3⟩ : ∃ v, w0.cell? ⟨w.heap.size, 3, none⟩ = some v := ⟨_, (hc 3 (by decide)).trans ((World.cell?_alloc_new _ _ _ _).trans rfl)⟩
  obtain ⟨v4, c4⟩ : ∃ v, w0.cell? ⟨w.heap.size, 4, none⟩ = some v := ⟨_, (hc 4 (by decide)).trans ((World.cell?_alloc_new _ _ _ _).trans rfl)⟩
  obtain ⟨v5, c5⟩ : ∃ v, w0.cell? ⟨w.heap.size, 5, none⟩ = some v := ⟨_, (hc 5 (by decide)).trans ((World.cell?_alloc_new _ _ _ _).trans rfl)⟩
  obtain ⟨v6, c6⟩ : ∃ v, w0.cell? ⟨w.heap.size, 6, none⟩ = some v := ⟨_, (hc 6 (by decide)).trans ((World.cell?_alloc_new _ _ _ _).trans rfl)⟩
  clear hgr hb0 hown hc
  go_wp2_with (go_at_call 69; refine (Buf_reset _ _ _ _ _ _ _ _ _ _ _ c0 c1 c2 c3 c4 c5 c6 hf).mono ?_; rintro e w1 ⟨rfl, rfl⟩)
  go_ret
  have hne : w.heap.size ≠ w.heap.size + 1 := by omega
  refine ⟨w.heap.size, w.heap.size + 1, Nat.le_refl _, Nat.le_succ _, ?_, ?_, rfl, ?_, ?_⟩
  · simp; omega
  · simp; omega
  · exact ((((((hbw.setCell (Nat.le_refl _) _).setCell (Nat.le_refl _) _).setCell (Nat.le_refl _) _).setCell (Nat.le_refl _) _).setCell (Nat.le_refl _) _).setCell (Nat.le_refl _) _).setCell (Nat.le_refl _) _
  · refine ⟨?_, ?_, ?_, ?_, ?_, ?_, ?_, ?_, ?_, ?_, hne⟩
    · simp [go_sem, *]
    · simp [go_sem, *]
    · simp [go_sem, *]
    · simp [go_sem, *]
    · simp [go_sem, *]
    · exact ⟨_, by simp [go_sem, *]; rfl⟩
    · exact ⟨_, by simp [go_sem, *]; rfl⟩
    · intro i; simp [World.frozen?_setCell, hf]
    · intro j hj
      have := hth j hj
      simpa [go_sem, hne] using this
    · intro j; simp [World.frozen?_setCell, hfz]
set_option maxHeartbeats 400000 in
theorem Buf_newR (sb : Nat) (w : World) :
    Calls Tryz.prog 43 #[.iface 94 (.pointer (some ⟨sb, 0, none⟩))] w fun e w' => ∃ bb gb, w.heap.size ≤ bb ∧ w.heap.size ≤ gb ∧ bb < w'.heap.size ∧ gb < w'.heap.size ∧ e = .returned (.pointer (some ⟨bb, 0, none⟩)) ∧ Below w.heap.size w w' ∧ BufAt w' bb gb sb 0 0 := by
  go_enter Tryz.func43, Tryz.ntmps43
  go_wp2_with fail
  refine (Buf_new sb _).mono ?_
  rintro e w1 ⟨bb, gb, h1, h2, h3, h4, rfl, hb, hB⟩
  go_wp2
  go_ret
  exact ⟨bb, gb, h1, h2, h3, h4, rfl, hb, hB⟩
end Go.Proofs.YtfagjhgmmaebfaaGreatDoor
