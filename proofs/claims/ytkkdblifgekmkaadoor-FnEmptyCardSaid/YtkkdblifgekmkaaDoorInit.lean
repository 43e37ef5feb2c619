/- Contracts: Reader.init, NewReader over an archive without files. -/
import Derived.Test.YtkkdblifgekmkaaDoorDirEnd
import Derived.Test.YtkkdblifgekmkaaDoorBufNew
namespace Go.Proofs.YtkkdblifgekmkaaDoor
open Go.RowKit
theorem calls_world {P : Program} {f : FuncId} {args : Array Value} {Q : Ending → World → Prop} {W : World} (S : World → Prop) (hS : S W) (key : ∀ W1, S W1 → Calls P f args W1 Q) : Calls P f args W Q := key _ hS
set_option maxRecDepth 100000 in
set_option maxHeartbeats 2000000 in
theorem Init_any (zb rb n : Nat) (s c : List UInt8) (hc : c.length ≤ 65535) (hs : s = endL 0 0 0 c) (hn : n = s.length) (h1 : endsL s = 1) (w : World) (hr : Blk w rb 100 #[.string ⟨s.toArray⟩, .int .i64 0, .int .i64 (-1)])
    (hz : Blk w zb 61 #[.nilIface, .slice none 0 0, .string ⟨#[]⟩, .map none, .int .i64 0])
    (ea eu ef : Addr) (hE : ErrAt w 6 ea) (hU : ErrAt w 3 eu) (hF : ErrAt w 2 ef) (hlt : ea.block < zb ∧ eu.block < zb ∧ ef.block < zb ∧ 6 < zb ∧ 3 < zb ∧ 2 < zb) :
    Calls Tryd.prog 36 #[.pointer (some ⟨zb, 0, none⟩), .iface 54 (.pointer (some ⟨rb, 0, none⟩)), .int .i64 n] w fun e w' => e = .returned .nilIface ∧
      (∃ A x1, Blk w' zb 61 #[x1, .slice A 0 0, .string ⟨c.toArray⟩, .map none, .int .i64 0]) ∧ Kept [zb] w w' := by
  have hn2 : n = 22 + c.length := by rw [hn, hs]; simp [endL, leB_length]; omega
  have hnlo : 22 ≤ n := by omega
  have hnhi : n ≤ 65557 := by omega
  have hD := Lib.hid (DirEnd rb n s c hc hs hn h1 w (hr.cell 0) hr.lt)
  have HN := Lib.hid (And.intro hn (And.intro hs (And.intro h1 hn2)))
  have HR := Lib.hid hr
  have HZ := Lib.hid hz
  have HE := Lib.hid (And.intro hE (And.intro hU (And.intro hF hlt)))
  clear hn hs h1 hr hz hn2 hE hU hF hlt
  go_enter Tryd.func36, Tryd.ntmps36
  go_wp2_with fail
  refine hD.out.mono ?_
  rintro e w1 ⟨d, rfl, hd, hdb, hb1⟩
  have hz1 := HZ.out.below hb1 HZ.out.lt
  have hr1 := HR.out.below hb1 HR.out.lt
  have c0 : w1.cell? ⟨zb, 0, none⟩ = some .nilIface := hz1.cell 0
  have c1 : w1.cell? ⟨zb, 1, none⟩ = some (.slice none 0 0) := hz1.cell 1
  have c2 : w1.cell? ⟨zb, 2, none⟩ = some (.string ⟨#[]⟩) := hz1.cell 2
  have c4 : w1.cell? ⟨zb, 4, none⟩ = some (.int .i64 0) := hz1.cell 4
  have hfz : ∀ i, w1.frozen? ⟨zb, i, none⟩ = false := hz1.frozen
  have d3 : w1.cell? ⟨d, 3, none⟩ = some (.int .u64 0) := hdb.cell 3
  have d4 : w1.cell? ⟨d, 4, none⟩ = some (.int .u64 0) := hdb.cell 4
  have d5 : w1.cell? ⟨d, 5, none⟩ = some (.int .u64 0) := hdb.cell 5
  have d7 : w1.cell? ⟨d, 7, none⟩ = some (.string ⟨c.toArray⟩) := hdb.cell 7
  have hzd : zb ≠ d := by have := HZ.out.lt; omega
  have hzlt : zb < w1.heap.size := hz1.lt
  have hdlt : d < w1.heap.size := hdb.lt
  have HX1 := Lib.hid (And.intro hz1 (And.intro hr1 (And.intro hdb (And.intro hb1 hd))))
  clear hz1 hr1 hdb hb1 hd
  have hn0 : 0 < n := by omega
  have hn1 : 0 < (n : Int) := by omega
  go_wp2_with fail
  go_quiet (fail)
  have hmk : ∀ W : World, (Instr.makeSlice 58 (.int .i64 0) (.int .u64 0)).run Tryd.prog W = .ok (.slice (some ⟨W.heap.size, 0, none⟩) 0 0) (W.alloc (.cells #[] 62)) := fun W => by kernel_rfl
  go_wp2_with fail
  refine calls_world (fun W => (∃ A x1, Blk W zb 61 #[x1, .slice A 0 0, .string ⟨c.toArray⟩, .map none, .int .i64 0]) ∧ Blk W rb 100 #[.string ⟨s.toArray⟩, .int .i64 0, .int .i64 (-1)] ∧ Kept [zb] w W ∧ Blk W d 154 #[.int .u32 0, .int .u32 0, .int .u64 0, .int .u64 0, .int .u64 0, .int .u64 0, .int .u16 c.length, .string ⟨c.toArray⟩])
    ⟨⟨_, _, Blk.cast ((((((HX1.out.1.set_ 0 _).set_ 4 _).drewN _).set_ 1 _).set_ 2 _).alloc _) (by simp; exact ⟨rfl, rfl⟩)⟩, ?_, ?_, ?_⟩ ?_
  · have hrz : rb ≠ zb := HR.out.ne_ HZ.out (by decide)
    exact ((((((HX1.out.2.1.far hrz _).far hrz _).drewN _).far hrz _).far hrz _).alloc _)
  · have k1 : Kept [zb] w w1 := Kept.of_below HX1.out.2.2.2.1 _
    exact ((((((k1.setCell (by simp) _).setCell (by simp) _).drewN _).setCell (by simp) _).setCell (by simp) _).alloc _)
  · exact ((((((HX1.out.2.2.1.far hzd.symm _).far hzd.symm _).drewN _).far hzd.symm _).far hzd.symm _).alloc _)
  rintro W1 ⟨⟨A, x1, hz2⟩, hr2, hk2, hd2⟩
  clear c0 c1 c2 c4 hfz d3 d4 d5 d7 HX1 hzlt hdlt hmk
  refine (Sect_new rb n (by omega) W1).mono ?_
  rintro e w2 ⟨rfl, rfl⟩
  have hs3 := Blk.new W1 188 #[.iface 54 (.pointer (some ⟨rb, 0, none⟩)), .int .i64 0, .int .i64 0, .int .i64 n, .int .i64 n]
  have hz3 := hz2.alloc (.cells #[.iface 54 (.pointer (some ⟨rb, 0, none⟩)), .int .i64 0, .int .i64 0, .int .i64 n, .int .i64 n] 188)
  have hd3 := hd2.alloc (.cells #[.iface 54 (.pointer (some ⟨rb, 0, none⟩)), .int .i64 0, .int .i64 0, .int .i64 n, .int .i64 n] 188)
  have hr3 := hr2.alloc (.cells #[.iface 54 (.pointer (some ⟨rb, 0, none⟩)), .int .i64 0, .int .i64 0, .int .i64 n, .int .i64 n] 188)
  have hk3 := hk2.alloc (.cells #[.iface 54 (.pointer (some ⟨rb, 0, none⟩)), .int .i64 0, .int .i64 0, .int .i64 n, .int .i64 n] 188)
  have hsw : w.heap.size ≤ W1.heap.size := hk2.size
  have hdW : d < W1.heap.size := hd2.lt
  have c4 : (W1.alloc (.cells #[.iface 54 (.pointer (some ⟨rb, 0, none⟩)), .int .i64 0, .int .i64 0, .int .i64 n, .int .i64 n] 188)).cell? ⟨zb, 4, none⟩ = some (.int .i64 0) := hz3.cell 4
  have d5 : (W1.alloc (.cells #[.iface 54 (.pointer (some ⟨rb, 0, none⟩)), .int .i64 0, .int .i64 0, .int .i64 n, .int .i64 n] 188)).cell? ⟨d, 5, none⟩ = some (.int .u64 0) := hd3.cell 5
  have HX := Lib.hid (And.intro hs3 (And.intro hz3 (And.intro hd3 (And.intro hr3 hk3))))
  clear hz2 hr2 hk2 hd2 hs3 hz3 hd3 hr3 hk3
  go_wp2_with fail
  apply pass_world (fun W => Blk W W1.heap.size 188 #[.iface 54 (.pointer (some ⟨rb, 0, none⟩)), .int .i64 0, .int .i64 0, .int .i64 n, .int .i64 n] ∧ Blk W zb 61 #[x1, .slice A 0 0, .string ⟨c.toArray⟩, .map none, .int .i64 0] ∧
    Blk W d 154 #[.int .u32 0, .int .u32 0, .int .u64 0, .int .u64 0, .int .u64 0, .int .u64 0, .int .u16 c.length, .string ⟨c.toArray⟩] ∧ Blk W rb 100 #[.string ⟨s.toArray⟩, .int .i64 0, .int .i64 (-1)] ∧ Kept [zb] w W)
  case k =>
    intro key
    have KEY := Lib.hid key
    clear key
    go_region_with (go_at_call 60; refine (Sect_seek W1.heap.size _ (HX.out.1.drew.cell 1) (HX.out.1.drew.cell 2) (HX.out.1.drew.frozen 2)).mono ?_; rintro e w3 ⟨rfl, hw3⟩; have HW3 := Lib.hid hw3; clear hw3)
    all_goals
      refine KEY.out _ ?_
      rw [HW3.out]
      have n1 := HX.out.2.1.ne_ HX.out.1 (by decide)
      have n2 := HX.out.2.2.1.ne_ HX.out.1 (by decide)
      have n3 := HX.out.2.2.2.1.ne_ HX.out.1 (by decide)
      exact ⟨Blk.cast (HX.out.1.drew.set_ 2 _) (by simp), HX.out.2.1.drew.far n1 _, HX.out.2.2.1.drew.far n2 _, HX.out.2.2.2.1.drew.far n3 _, HX.out.2.2.2.2.drew.setCell (.inr hsw) _⟩
  rintro W2 ⟨hs4, hz4, hd4, hr4, hk4⟩
  have hR := Lib.hid (Buf_newRB (q := 0) hs4 hr4 (by rw [← HN.out.1]; exact Nat.le_refl _) (Nat.zero_le _) (by have := HN.out.1; omega))
  have HX2 := Lib.hid (And.intro hs4 (And.intro hz4 (And.intro hd4 (And.intro hr4 hk4))))
  clear hs4 hz4 hd4 hr4 hk4 HX c4 d5
  go_wp2_with fail
  refine hR.out.mono ?_
  rintro e w3 ⟨bb, gb, h1, h2, h3, h4, rfl, hb, hB⟩
  have hB2 : BR w3 bb gb W1.heap.size rb s s.length 0 := by rw [← HN.out.1]; exact hB
  have hzW : zb < W1.heap.size := by
    have hk := HX2.out.2.2.2.2.size
    have := HZ.out.lt
    omega
  have HX3 := Lib.hid (And.intro hB2 (And.intro hb (And.intro (HX2.out.2.1.below hb HX2.out.2.1.lt) (HX2.out.2.2.1.below hb HX2.out.2.2.1.lt))))
  clear hB hB2 hb
  go_wp2_with fail
  refine wp_loop_rounds 1 ?_
  rw [rounds_succ]
  have hW12 : W1.heap.size < W2.heap.size := HX2.out.1.lt
  have hgE : 6 < zb := HE.out.2.2.2.2.2.2.1
  have hgU : 3 < zb := HE.out.2.2.2.2.2.2.2.1
  have hgF : 2 < zb := HE.out.2.2.2.2.2.2.2.2
  have hea : ea.block < zb := HE.out.2.2.2.1
  have heu : eu.block < zb := HE.out.2.2.2.2.1
  have hef : ef.block < zb := HE.out.2.2.2.2.2.1
  have EE := Lib.hid ((HE.out.1.kept HX2.out.2.2.2.2 (by simp; omega) (by simp; omega)).below HX3.out.2.1 (by omega) (by omega))
  have EU := Lib.hid ((HE.out.2.1.kept HX2.out.2.2.2.2 (by simp; omega) (by simp; omega)).below HX3.out.2.1 (by omega) (by omega))
  have EF := Lib.hid ((HE.out.2.2.1.kept HX2.out.2.2.2.2 (by simp; omega) (by simp; omega)).below HX3.out.2.1 (by omega) (by omega))
  have hlx : ∀ o : Obj, ∀ x ∈ [bb, gb, W1.heap.size, rb], x < (w3.alloc o).heap.size := fun o x hx => by
    have h5 := HX2.out.2.2.2.1.lt
    have h6 := HX3.out.2.1.size
    simp only [List.mem_cons, List.not_mem_nil, or_false] at hx
    simp only [World.size_alloc]
    rcases hx with rfl | rfl | rfl | rfl <;> omega
  have hgx : ∀ y, y < zb → ∀ x ∈ [bb, gb, W1.heap.size], y < x := fun y hy x hx => by
    simp only [List.mem_cons, List.not_mem_nil, or_false] at hx
    rcases hx with rfl | rfl | rfl <;> omega
  have HLX := Lib.hid (And.intro hlx hgx)
  clear hlx hgx
  by_cases hsh : n < 46
  · go_wp2_with fail
    refine (Hdr_short _ (HX3.out.1.kept ((Kept.refl [] w3).alloc _) (by simp) (by simp) (by simp) (by simp)) (by have := HN.out.1; omega) (by have := HN.out.1; omega) ea eu (EE.out.alloc _) (EU.out.alloc _) (HLX.out.2 _ hgE) (HLX.out.2 _ hgU) (HLX.out.1 _)).mono ?_
    rintro e w4 ⟨rfl, hb4⟩
    have Bl := hb4 W1.heap.size (by omega) (by omega) (Nat.le_refl _) (by have := HX3.out.2.1.size; simp; omega)
    have E4 := (EF.out.alloc _).below Bl (by omega) (by omega)
    have Z4 := (HX3.out.2.2.1.alloc _).below Bl hzW
    have D4 := (HX3.out.2.2.2.alloc _).below Bl hdW
    have K4 : Kept [zb] w w4 := ((HX2.out.2.2.2.2.below HX3.out.2.1 HX2.out.2.2.2.2.size).alloc _).below Bl hsw
    have z1 : w4.cell? ⟨zb, 1, none⟩ = some (.slice A 0 0) := Z4.cell 1
    have d3 : w4.cell? ⟨d, 3, none⟩ = some (.int .u64 0) := D4.cell 3
    have f2 : w4.cell? ⟨2, 0, none⟩ = some (.iface 147 (.pointer (some ef))) := E4.1
    have U4 := (EU.out.alloc _).below Bl (by omega) (by omega)
    have f3 : w4.cell? ⟨3, 0, none⟩ = some (.iface 147 (.pointer (some eu))) := U4.1
    have q1 := eql_errs U4 E4
    have q2 := eql_err eu w4
    have HZ4 := Lib.hid (And.intro Z4 K4)
    clear U4 E4 Bl hb4 Z4 D4 K4
    by_cases hfu : eu = ef
    · rw [decide_eq_true hfu] at q1
      clear hfu
      go_wp2
      go_quiet (fail)
      go_wp2
      go_ret
      exact ⟨rfl, ⟨A, x1, HZ4.out.1.drewN _⟩, HZ4.out.2.drewN _⟩
    · rw [decide_eq_false hfu] at q1
      clear hfu
      go_wp2
      go_quiet (fail)
      go_wp2
      go_ret
      exact ⟨rfl, ⟨A, x1, HZ4.out.1.drewN _⟩, HZ4.out.2.drewN _⟩
  · go_wp2_with fail
    refine (Hdr_sig _ (HX3.out.1.kept ((Kept.refl [] w3).alloc _) (by simp) (by simp) (by simp) (by simp)) (by have := HN.out.1; omega) (by rw [HN.out.2.1]; rfl) ef (EF.out.alloc _) (HLX.out.2 _ hgF) (HLX.out.1 _)).mono ?_
    rintro e w4 ⟨rfl, hb4⟩
    have Bl := hb4 W1.heap.size (by omega) (by omega) (Nat.le_refl _) (by have := HX3.out.2.1.size; simp; omega)
    have E4 := (EF.out.alloc _).below Bl (by omega) (by omega)
    have Z4 := (HX3.out.2.2.1.alloc _).below Bl hzW
    have D4 := (HX3.out.2.2.2.alloc _).below Bl hdW
    have K4 : Kept [zb] w w4 := ((HX2.out.2.2.2.2.below HX3.out.2.1 HX2.out.2.2.2.2.size).alloc _).below Bl hsw
    have z1 : w4.cell? ⟨zb, 1, none⟩ = some (.slice A 0 0) := Z4.cell 1
    have d3 : w4.cell? ⟨d, 3, none⟩ = some (.int .u64 0) := D4.cell 3
    have f2 : w4.cell? ⟨2, 0, none⟩ = some (.iface 147 (.pointer (some ef))) := E4.1
    have q1 := eql_err ef w4
    have HZ4 := Lib.hid (And.intro Z4 K4)
    clear E4 Bl hb4 Z4 D4 K4
    go_wp2
    go_quiet (fail)
    go_wp2
    go_ret
    exact ⟨rfl, ⟨A, x1, HZ4.out.1.drewN _⟩, HZ4.out.2.drewN _⟩
end Go.Proofs.YtkkdblifgekmkaaDoor
