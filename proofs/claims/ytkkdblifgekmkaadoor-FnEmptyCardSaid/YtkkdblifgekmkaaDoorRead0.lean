/- Contracts: zip.NewReader, impl.Read over an archive without files. -/
import Derived.Test.YtkkdblifgekmkaaDoorInit
namespace Go.Proofs.YtkkdblifgekmkaaDoor
open Go.RowKit
set_option maxHeartbeats 400000 in
theorem NewReader_any (rb n : Nat) (s c : List UInt8) (hc : c.length ≤ 65535) (hs : s = endL 0 0 0 c) (hn : n = s.length) (h1 : endsL s = 1) (w : World) (hr : Blk w rb 100 #[.string ⟨s.toArray⟩, .int .i64 0, .int .i64 (-1)])
    (ea eu ef : Addr) (hE : ErrAt w 6 ea) (hU : ErrAt w 3 eu) (hF : ErrAt w 2 ef) :
    Calls Tryd.prog 19 #[.iface 54 (.pointer (some ⟨rb, 0, none⟩)), .int .i64 n] w fun e w' => ∃ zb, e = .returned (.tuple #[.pointer (some ⟨zb, 0, none⟩), .nilIface]) ∧
      (∃ A x1, Blk w' zb 61 #[x1, .slice A 0 0, .string ⟨c.toArray⟩, .map none, .int .i64 0]) ∧ Below w.heap.size w w' := by
  have hn2 : n ≤ 65557 := by rw [hn, hs]; simp [endL, leB_length]; omega
  have hI := Lib.hid (Init_any w.heap.size rb n s c hc hs hn h1 (w.alloc (.cells #[.nilIface, .slice none 0 0, .string ⟨#[]⟩, .map none, .int .i64 0] 61)) (hr.alloc _) (Blk.new _ _ _) ea eu ef (hE.alloc _) (hU.alloc _) (hF.alloc _)
    ⟨hE.lt.2, hU.lt.2, hF.lt.2, hE.lt.1, hU.lt.1, hF.lt.1⟩)
  clear hs hn h1 hr hE hU hF
  go_enter Tryd.func19, Tryd.ntmps19
  go_wp2_with fail
  refine hI.out.mono ?_
  rintro e w1 ⟨rfl, hz, hk⟩
  have HX := Lib.hid (And.intro hz hk)
  clear hz hk
  go_wp2
  go_ret2
  exact ⟨w.heap.size, rfl, HX.out.1, ((Below.refl _ w).alloc (Nat.le_refl _) _).trans (HX.out.2.to_below (by simp) (by simp))⟩
set_option maxRecDepth 100000 in
set_option maxHeartbeats 1000000 in
theorem Read_any (s c : List UInt8) (hc : c.length ≤ 65535) (hs : s = endL 0 0 0 c) (h1 : endsL s = 1) (w : World)
    (ea eu ef : Addr) (hE : ErrAt w 6 ea) (hU : ErrAt w 3 eu) (hF : ErrAt w 2 ef) :
    Calls Tryd.prog 9 #[.string ⟨s.toArray⟩] w fun e w' => e = .returned (.agg #[.bool true, .string ⟨c.toArray⟩, .slice none 0 0]) ∧ Below w.heap.size w w' := by
  have hsz : (ByteArray.mk s.toArray).size = s.length := rfl
  have hl : s.length ≤ 65557 := by rw [hs]; simp [endL, leB_length]; omega
  have hI := Lib.hid (NewReader_any (w.heap.size + 1) s.length s c hc hs rfl h1 ((w.alloc (.cells #[.bool false, .string ⟨#[]⟩, .slice none 0 0] 26)).alloc (.cells #[.string ⟨s.toArray⟩, .int .i64 0, .int .i64 (-1)] 100)) (by have := Blk.new (w.alloc (.cells #[.bool false, .string ⟨#[]⟩, .slice none 0 0] 26)) 100 #[.string ⟨s.toArray⟩, .int .i64 0, .int .i64 (-1)]; simpa using this) ea eu ef ((hE.alloc _).alloc _) ((hU.alloc _).alloc _) ((hF.alloc _).alloc _))
  clear hs h1 hE hU hF
  go_enter Tryd.func9, Tryd.ntmps9
  go_wp2_with fail
  refine (StrReader_new s _).mono ?_
  rintro e w0 ⟨rfl, rfl⟩
  go_wp2_with fail
  refine hI.out.mono ?_
  rintro e w1 ⟨zb, rfl, ⟨A, x1, hz⟩, hb⟩
  have z1 : w1.cell? ⟨zb, 1, none⟩ = some (.slice A 0 0) := hz.cell 1
  have z2 : w1.cell? ⟨zb, 2, none⟩ = some (.string ⟨c.toArray⟩) := hz.cell 2
  have hzl : zb < w1.heap.size := hz.lt
  have hLb : Blk w1 w.heap.size 26 #[.bool false, .string ⟨#[]⟩, .slice none 0 0] := ((Blk.new w _ _).alloc _).below hb (by simp; omega)
  have l0 : w1.cell? ⟨w.heap.size, 0, none⟩ = some (.bool false) := hLb.cell 0
  have l1 : w1.cell? ⟨w.heap.size, 1, none⟩ = some (.string ⟨#[]⟩) := hLb.cell 1
  have l2 : w1.cell? ⟨w.heap.size, 2, none⟩ = some (.slice none 0 0) := hLb.cell 2
  have lf : ∀ i, w1.frozen? ⟨w.heap.size, i, none⟩ = false := hLb.frozen
  have hwl : w.heap.size < w1.heap.size := hLb.lt
  have HX := Lib.hid hb
  clear hz hb hLb
  go_wp2_with fail
  refine wp_loop_rounds 1 ?_
  rw [rounds_succ]
  go_wp2
  refine bodyPost_ret (v := .agg #[.bool true, .string ⟨c.toArray⟩, .slice none 0 0]) (by simp [results, Tryd.results9, go_sem, l0, l1, l2, hwl]) rfl ⟨rfl, ?_⟩
  have hb : Below w.heap.size w w1 := (((Below.refl _ w).alloc (Nat.le_refl _) _).alloc (by simp) _).trans (HX.out.mono (by simp; omega))
  exact (((hb.setCell (Nat.le_refl _) _).setCell (Nat.le_refl _) _).setCell (Nat.le_refl _) _).alloc (by simp; omega) _
end Go.Proofs.YtkkdblifgekmkaaDoor
