/- Errors that are package-level variables: what is known of one, and '==' between two. -/
import Derived.Test.YtfagjhgmmaebfaaGreatDoorEnd
import Derived.Test.YtfagjhgmmaebfaaGreatDoorBlk
import Derived.LaidEql
namespace Go.Proofs.YtfagjhgmmaebfaaGreatDoor
open Go.RowKit
/-- The variable g holds an error of errors.New's make, at a. -/
def ErrAt (w : World) (g : Nat) (a : Addr) : Prop := w.cell? ⟨g, 0, none⟩ = some (.iface 99 (.pointer (some a))) ∧ ∃ c t, w.heap[a.block]? = some (.cells c t (0, 0))
theorem ErrAt.lt {w : World} {g : Nat} {a : Addr} (h : ErrAt w g a) : g < w.heap.size ∧ a.block < w.heap.size := by
  obtain ⟨h1, c, t, h2⟩ := h
  exact ⟨World.block_lt_of_cell? w _ h1, (Array.getElem?_eq_some_iff.1 h2).1⟩
theorem ErrAt.below {w w' : World} {g B : Nat} {a : Addr} (h : ErrAt w g a) (hb : Below B w w') (h1 : g < B) (h2 : a.block < B) : ErrAt w' g a :=
  ⟨(hb.cell (p := ⟨g, 0, none⟩) h1).trans h.1, by obtain ⟨c, t, e⟩ := h.2; exact ⟨c, t, (hb.block _ h2).trans e⟩⟩
theorem ErrAt.alloc {w : World} {g : Nat} {a : Addr} (h : ErrAt w g a) (o : Obj) : ErrAt (w.alloc o) g a :=
  h.below ((Below.refl w.heap.size w).alloc (Nat.le_refl _) o) h.lt.1 h.lt.2
theorem ErrAt.kept {w w' : World} {g : Nat} {a : Addr} {S : List Nat} (h : ErrAt w g a) (k : Kept S w w') (h1 : g ∉ S) (h2 : a.block ∉ S) : ErrAt w' g a :=
  ⟨(k.cell (p := ⟨g, 0, none⟩) h.lt.1 h1).trans h.1, by obtain ⟨c, t, e⟩ := h.2; exact ⟨c, t, (k.block _ h.lt.2 h2).trans e⟩⟩
theorem infoErr : (Tryz.prog.info? 99).map (·.comparable) = some true := by kernel_rfl
theorem infoErrS : (Tryz.prog.info? 101).map (fun i => i.size) = some 1 := by kernel_rfl
theorem eql_err (a : Addr) (W : World) : (binOp .eql 51 (.iface 99 (.pointer (some a))) (.iface 99 (.pointer (some a)))).run Tryz.prog W = .ok (.bool true) W := by
  obtain ⟨i, hi, hc⟩ := Option.map_eq_some_iff.1 infoErr
  obtain ⟨j, hj, _⟩ := Option.map_eq_some_iff.1 infoErrS
  exact run_eql_iface_ptr_same W a Tryz.underlying51 Tryz.underlying99 hi hc hj
theorem eql_errs {a b : Addr} {g g' : Nat} {W : World} (ha : ErrAt W g a) (hb : ErrAt W g' b) : (binOp .eql 51 (.iface 99 (.pointer (some a))) (.iface 99 (.pointer (some b)))).run Tryz.prog W = .ok (.bool (decide (a = b))) W := by
  obtain ⟨i, hi, hc⟩ := Option.map_eq_some_iff.1 infoErr
  obtain ⟨j, hj, hs⟩ := Option.map_eq_some_iff.1 infoErrS
  by_cases h : a = b
  · subst h
    simpa using eql_err a W
  · obtain ⟨_, ca, ta, ha⟩ := ha
    obtain ⟨_, cb, tb, hb⟩ := hb
    simpa [h] using run_eql_iface_ptr_other (P := Tryz.prog) W Tryz.underlying51 Tryz.underlying99 hi hc hj (by rw [hs]; decide) h ha hb
end Go.Proofs.YtfagjhgmmaebfaaGreatDoor
