/- Contracts: the functions of the laid package time that readDirectoryHeader calls: they return, and turn nothing that was there. -/
import Derived.Test.YtfagjhgmmaebfaaGreatDoorReads
import Derived.Test.YtfagjhgmmaebfaaGreatDoorEnd
import Derived.StillTailTactics
import Derived.Deep.QuietTactic
import Derived.BigQuiet
import Derived.Deep.RegionHeld3
import Derived.Outline
import Derived.LoopTactic
import Derived.Deep.CutRange
import Derived.Deep.CutBlock
namespace Go.Proofs.YtfagjhgmmaebfaaGreatDoor
open Go.RowKit
/-- A variable that holds a time. -/
def TmAt (w : World) (p : Nat) : Prop := ∃ (a b : Int) (l : Option Addr), Blk w p 69 #[.int .u64 a, .int .i64 b, .pointer l]
theorem TmAt.kept {w w' : World} {p : Nat} {S : List Nat} (h : TmAt w p) (k : Kept S w w') (hp : p ∉ S) : TmAt w' p := by
  obtain ⟨a, b, l, h⟩ := h
  exact ⟨a, b, l, k.blk h hp⟩
theorem TmAt.new (w : World) (a b : Int) (l : Option Addr) : TmAt (w.alloc (.cells #[.int .u64 a, .int .i64 b, .pointer l] 69)) w.heap.size := ⟨a, b, l, Blk.new _ _ _⟩
def IsTm (v : Value) : Prop := ∃ (a b : Int) (l : Option Addr), v = .agg #[.int .u64 a, .int .i64 b, .pointer l]
theorem tm_set {w : World} {p : Nat} {a b : Int} {l : Option Addr} (h : Blk w p 69 #[.int .u64 a, .int .i64 b, .pointer l]) :
    (∀ a', TmAt (w.setCell ⟨p, 0, none⟩ (.int .u64 a')) p) ∧ (∀ b', TmAt (w.setCell ⟨p, 1, none⟩ (.int .i64 b')) p) ∧ (∀ l', TmAt (w.setCell ⟨p, 2, none⟩ (.pointer l')) p) :=
  ⟨fun a' => ⟨a', b, l, Blk.cast (h.set_ 0 _) (by simp)⟩, fun b' => ⟨a, b', l, Blk.cast (h.set_ 1 _) (by simp)⟩, fun l' => ⟨a, b, l', Blk.cast (h.set_ 2 _) (by simp)⟩⟩
theorem Tsec {w : World} {p : Nat} (h : TmAt w p) :
    Calls Tryz.prog 83 #[.pointer (some ⟨p, 0, none⟩)] w fun e w' => (∃ z : Int, e = .returned (.int .i64 z)) ∧ w' = w := by
  obtain ⟨a, b, l, h⟩ := h
  have c0 : w.cell? ⟨p, 0, none⟩ = some (.int .u64 a) := h.cell 0
  have c1 : w.cell? ⟨p, 1, none⟩ = some (.int .i64 b) := h.cell 1
  have c2 : w.cell? ⟨p, 2, none⟩ = some (.pointer l) := h.cell 2
  have hf : ∀ i, w.frozen? ⟨p, i, none⟩ = false := h.frozen
  have HH := Lib.hid h
  clear h
  go_enter Tryz.func83, Tryz.ntmps83
  go_wp2
  all_goals go_ret
  all_goals exact ⟨⟨_, rfl⟩, rfl⟩
theorem Tnsec {w : World} {p : Nat} (h : TmAt w p) :
    Calls Tryz.prog 84 #[.pointer (some ⟨p, 0, none⟩)] w fun e w' => (∃ z : Int, e = .returned (.int .i32 z)) ∧ w' = w := by
  obtain ⟨a, b, l, h⟩ := h
  have c0 : w.cell? ⟨p, 0, none⟩ = some (.int .u64 a) := h.cell 0
  have c1 : w.cell? ⟨p, 1, none⟩ = some (.int .i64 b) := h.cell 1
  have c2 : w.cell? ⟨p, 2, none⟩ = some (.pointer l) := h.cell 2
  have hf : ∀ i, w.frozen? ⟨p, i, none⟩ = false := h.frozen
  have HH := Lib.hid h
  clear h
  go_enter Tryz.func84, Tryz.ntmps84
  go_wp2
  all_goals go_ret
  all_goals exact ⟨⟨_, rfl⟩, rfl⟩
theorem Tus {w : World} {p : Nat} (h : TmAt w p) : Calls Tryz.prog 79 #[.pointer (some ⟨p, 0, none⟩)] w fun e w' => (∃ z : Int, e = .returned (.int .i64 z)) ∧ w' = w := by
  have H := Lib.hid (Tsec h)
  clear h
  go_enter Tryz.func79, Tryz.ntmps79
  go_wp2_with fail
  refine H.out.mono ?_
  rintro e w1 ⟨⟨z, rfl⟩, rfl⟩
  go_wp2
  go_ret
  exact ⟨⟨_, rfl⟩, rfl⟩
theorem Tunix (a b : Int) (l : Option Addr) (w : World) : Calls Tryz.prog 59 #[.agg #[.int .u64 a, .int .i64 b, .pointer l]] w fun e w' => (∃ z : Int, e = .returned (.int .i64 z)) ∧ Kept [] w w' := by
  have H := Lib.hid (Tus (TmAt.new w a b l))
  go_enter Tryz.func59, Tryz.ntmps59
  go_wp2_with fail
  refine H.out.mono ?_
  rintro e w1 ⟨⟨z, rfl⟩, rfl⟩
  go_wp2
  go_ret
  exact ⟨⟨_, rfl⟩, (Kept.refl _ _).alloc _⟩
theorem Tstrip {w : World} {p : Nat} (h : TmAt w p) :
    Calls Tryz.prog 91 #[.pointer (some ⟨p, 0, none⟩)] w fun e w' => e = .returned (.tuple #[]) ∧ TmAt w' p ∧ Kept [p] w w' := by
  obtain ⟨a, b, l, h⟩ := h
  have c0 : w.cell? ⟨p, 0, none⟩ = some (.int .u64 a) := h.cell 0
  have c1 : w.cell? ⟨p, 1, none⟩ = some (.int .i64 b) := h.cell 1
  have c2 : w.cell? ⟨p, 2, none⟩ = some (.pointer l) := h.cell 2
  have hf : ∀ i, w.frozen? ⟨p, i, none⟩ = false := h.frozen
  have HH := Lib.hid h
  clear h
  go_enter Tryz.func91, Tryz.ntmps91
  have HS := Lib.hid (Tsec ⟨a, b, l, HH.out⟩)
  go_wp2_with (go_at_call 83; refine HS.out.mono ?_; rintro e w1 ⟨⟨z, rfl⟩, rfl⟩)
  all_goals try go_end0
  · exact ⟨rfl, ⟨_, _, _, Blk.cast ((HH.out.set_ 1 _).set_ 0 _) (by simp; exact ⟨rfl, rfl, rfl⟩)⟩, ((Kept.refl _ _).setCell (by simp) _).setCell (by simp) _⟩
  · exact ⟨rfl, ⟨_, _, _, HH.out⟩, Kept.refl _ _⟩
theorem Tsetloc {w : World} {p : Nat} (h : TmAt w p) {q : Nat} {u : Bool} (hq : w.cell? ⟨q, 0, none⟩ = some (.bool u)) :
    Calls Tryz.prog 78 #[.pointer (some ⟨p, 0, none⟩), .pointer (some ⟨q, 0, none⟩)] w fun e w' => e = .returned (.tuple #[]) ∧ TmAt w' p ∧ Kept [p] w w' := by
  obtain ⟨a, b, l, h⟩ := h
  have c0 : w.cell? ⟨p, 0, none⟩ = some (.int .u64 a) := h.cell 0
  have c1 : w.cell? ⟨p, 1, none⟩ = some (.int .i64 b) := h.cell 1
  have c2 : w.cell? ⟨p, 2, none⟩ = some (.pointer l) := h.cell 2
  have hf : ∀ i, w.frozen? ⟨p, i, none⟩ = false := h.frozen
  have HH := Lib.hid h
  clear h
  go_enter Tryz.func78, Tryz.ntmps78
  have HS := Lib.hid (Tstrip ⟨a, b, l, HH.out⟩)
  cases u
  all_goals
    go_wp2_with (go_at_call 91; refine HS.out.mono ?_; rintro e w1 ⟨rfl, hT, hK⟩; obtain ⟨a1, b1, l1, hT⟩ := hT; have hf1 : ∀ i, w1.frozen? ⟨p, i, none⟩ = false := hT.frozen; have d2 : w1.cell? ⟨p, 2, none⟩ = some (.pointer l1) := hT.cell 2)
    try go_end0
    exact ⟨rfl, ⟨_, _, _, Blk.cast (hT.set_ 2 _) (by simp; exact ⟨rfl, rfl, rfl⟩)⟩, hK.setCell (by simp) _⟩
set_option maxHeartbeats 1000000 in
theorem Tadds {w : World} {p : Nat} (h : TmAt w p) (d : Int) :
    Calls Tryz.prog 94 #[.pointer (some ⟨p, 0, none⟩), .int .i64 d] w fun e w' => e = .returned (.tuple #[]) ∧ TmAt w' p ∧ Kept [p] w w' := by
  obtain ⟨a, b, l, h⟩ := h
  have c0 : w.cell? ⟨p, 0, none⟩ = some (.int .u64 a) := h.cell 0
  have c1 : w.cell? ⟨p, 1, none⟩ = some (.int .i64 b) := h.cell 1
  have c2 : w.cell? ⟨p, 2, none⟩ = some (.pointer l) := h.cell 2
  have hf : ∀ i, w.frozen? ⟨p, i, none⟩ = false := h.frozen
  have HH := Lib.hid h
  clear h
  go_enter Tryz.func94, Tryz.ntmps94
  have HS := Lib.hid (Tstrip ⟨a, b, l, HH.out⟩)
  have hst := tm_set HH.out
  have HT := Lib.hid hst
  clear hst
  go_wp2_with (go_at_call 91; refine HS.out.mono ?_; rintro e w1 ⟨rfl, hT, hK⟩; obtain ⟨a1, b1, l1, hT⟩ := hT; have hf1 : ∀ i, w1.frozen? ⟨p, i, none⟩ = false := hT.frozen; have d1 : w1.cell? ⟨p, 1, none⟩ = some (.int .i64 b1) := hT.cell 1)
  all_goals first | go_end0 | ((try simp only [Exit.inBlock, Exit.then]); refine bodyPost_ret (results_none rfl _ _ _) rfl ?_)
  all_goals first
    | exact ⟨rfl, HT.out.1 _, (Kept.refl _ _).setCell (by simp) _⟩
    | exact ⟨rfl, HT.out.2.1 _, (Kept.refl _ _).setCell (by simp) _⟩
    | (refine ⟨rfl, (tm_set hT).2.1 _, hK.setCell (by simp) _⟩)
    | trace_state
end Go.Proofs.YtfagjhgmmaebfaaGreatDoor
