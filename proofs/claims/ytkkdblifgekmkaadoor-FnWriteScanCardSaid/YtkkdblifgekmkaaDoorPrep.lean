/- Contracts: Writer.prepare. -/
import Derived.Test.YtkkdblifgekmkaaDoorFcl
import Derived.LaidEqlPtr
namespace Go.Proofs.YtkkdblifgekmkaaDoor
open Go.RowKit
theorem infoFh : (Tryd.prog.info? 72).map (fun i => i.size) = some 19 := by kernel_rfl
/-- The writer's block. -/
def zwCells (cw : Nat) (dirv lastv : Value) (cl : Bool) (cm : ByteArray) : Array Value := #[.pointer (some ⟨cw, 0, none⟩), dirv, lastv, .bool cl, .map none, .string cm, .nilFunc]
/-- The last entry of the directory has another file header than the one at fbn. -/
def LastApart (w : World) (zw fbn : Nat) (dirv : Value) : Prop :=
  w.cell? ⟨zw, 1, none⟩ = some dirv ∧ (dirv = .slice none 0 0 ∨ ∃ g n cap hb fb ca ta cb tb, dirv = .slice (some ⟨g, 0, none⟩) (n + 1) cap ∧ n ≤ 140737488355328 ∧ w.cell? ⟨g, n, none⟩ = some (.pointer (some ⟨hb, 0, none⟩)) ∧ w.cell? ⟨hb, 0, none⟩ = some (.pointer (some ⟨fb, 0, none⟩)) ∧ fb ≠ fbn ∧ w.heap[fb]? = some (.cells ca ta (0, 0)) ∧ w.heap[fbn]? = some (.cells cb tb (0, 0)))
theorem fh_other {w : World} {fb fbn : Nat} {ca cb : Array Value} {ta tb : TypeId} (hne : fb ≠ fbn) (ha : w.heap[fb]? = some (.cells ca ta (0, 0))) (hb : w.heap[fbn]? = some (.cells cb tb (0, 0))) (k : Nat) : (binOp .eql 64 (.pointer (some ⟨fb, 0, none⟩)) (.pointer (some ⟨fbn, 0, none⟩))).run Tryd.prog (w.drewN k) = .ok (.bool false) (w.drewN k) := by
  obtain ⟨j, hj, hs⟩ := Option.map_eq_some_iff.1 infoFh
  have hd : (⟨fb, 0, none⟩ : Addr) ≠ ⟨fbn, 0, none⟩ := fun e => hne (by injection e)
  exact run_eql_ptr_other (w.drewN k) Tryd.underlying64 hj (by rw [hs]; decide) hd ha hb
set_option maxRecDepth 100000 in
set_option maxHeartbeats 1000000 in
theorem prepare_nil {w : World} {zw fbn : Nat} {dirv : Value} (h2 : w.cell? ⟨zw, 2, none⟩ = some (.pointer none)) (hL : LastApart w zw fbn dirv) :
    Calls Tryd.prog 41 #[.pointer (some ⟨zw, 0, none⟩), .pointer (some ⟨fbn, 0, none⟩)] w fun e w' => e = .returned .nilIface ∧ ∃ k, w' = w.drewN k := by
  obtain ⟨h1, rfl | ⟨g, n, cap, hb, fb, ca, ta, cb, tb, rfl, hn, hg, hh, hne, ha, hb2⟩⟩ := hL
  · go_enter Tryd.func41, Tryd.ntmps41
    go_wp2_with fail
    go_quiet (fail)
    go_wp2
    go_ret
    exact ⟨rfl, _, rfl⟩
  · have he := fh_other hne ha hb2
    have hn1 : (0 : Int) < ((n + 1 : Nat) : Int) := by omega
    have hn0 : (0 : Int) ≤ (n : Int) := by omega
    clear hne ha hb2
    go_enter Tryd.func41, Tryd.ntmps41
    go_wp2_with fail
    go_quiet (fail)
    go_wp2
    go_ret
    exact ⟨rfl, _, rfl⟩
set_option maxRecDepth 100000 in
set_option maxHeartbeats 1000000 in
theorem prepare_open {w : World} {zw fw fbn : Nat} {dirv : Value} {P : World → Prop} (h2 : w.cell? ⟨zw, 2, none⟩ = some (.pointer (some ⟨fw, 0, none⟩))) (h6 : w.cell? ⟨fw, 6, none⟩ = some (.bool false))
    (hc : Calls Tryd.prog 65 #[.pointer (some ⟨fw, 0, none⟩)] w fun e w' => e = .returned .nilIface ∧ P w') (hL : ∀ w', P w' → LastApart w' zw fbn dirv) :
    Calls Tryd.prog 41 #[.pointer (some ⟨zw, 0, none⟩), .pointer (some ⟨fbn, 0, none⟩)] w fun e w' => e = .returned .nilIface ∧ ∃ w1 k, P w1 ∧ w' = w1.drewN k := by
  have HC := Lib.hid hc
  have HL := Lib.hid hL
  clear hc hL
  go_enter Tryd.func41, Tryd.ntmps41
  go_wp2_with fail
  refine HC.out.mono ?_
  rintro e w1 ⟨rfl, hP⟩
  clear h2 h6 HC
  obtain ⟨h1, rfl | ⟨g, n, cap, hb, fb, ca, ta, cb, tb, rfl, hn, hg, hh, hne, ha, hb2⟩⟩ := HL.out w1 hP
  · have HP := Lib.hid hP
    clear hP HL
    go_wp2_with fail
    go_quiet (fail)
    go_wp2
    go_ret
    exact ⟨rfl, w1, _, HP.out, rfl⟩
  · have HP := Lib.hid hP
    clear hP HL
    have he := fh_other hne ha hb2
    have hn1 : (0 : Int) < ((n + 1 : Nat) : Int) := by omega
    have hn0 : (0 : Int) ≤ (n : Int) := by omega
    clear hne ha hb2
    go_wp2_with fail
    go_quiet (fail)
    go_wp2
    go_ret
    exact ⟨rfl, w1, _, HP.out, rfl⟩
end Go.Proofs.YtkkdblifgekmkaaDoor
