/- Contract: Writer.CreateRaw. -/
import Derived.Test.YtkkdblifgekmkaaGreatDoorChh
import Derived.Test.YtkkdblifgekmkaaGreatDoorWhr
namespace Go.Proofs.YtkkdblifgekmkaaGreatDoor
open Go.RowKit
/-- What CreateRaw leaves. -/
structure CrPost (w1 w' : World) (zw ob bw gb cw fb : Nat) (ro ro' : Option Nat) (out : List UInt8) (dirv dirv' lastv' : Value) (hs : List Nat) (cm : ByteArray) (h : Hd) (nu : Bool) (X : Value) (hbn : Nat) : Prop where
  st : WSt w' zw ob bw gb cw ro' (out ++ localB h) dirv' lastv' (hs ++ [hbn]) false cm
  hbb : Blk w' hbn 134 #[.pointer (some ⟨fb, 0, none⟩), .int .u64 out.length, .bool true]
  fbb : Blk w' fb 69 (fhCells h nu h.packed h.size X)
  kept : Kept (zw :: fb :: ob :: bw :: gb :: cw :: (ro.toList ++ dirv.ownBlock.toList)) w1 w'
  fresh : w1.heap.size ≤ hbn
  rof : ro' = ro ∨ ∃ n, ro' = some n ∧ w1.heap.size ≤ n
  dirf : dirv'.ownBlock = dirv.ownBlock ∨ ∃ n, dirv'.ownBlock = some n ∧ w1.heap.size ≤ n
set_option maxRecDepth 100000 in
set_option maxHeartbeats 2000000 in
theorem Cr_file {w : World} {zw ob bw gb cw fb ec : Nat} {out : List UInt8} {dirv lastv : Value} {hs : List Nat} {cm : ByteArray} {h : Hd} {nu : Bool} {A : Option Addr} {P : Option Nat → World → Prop}
    (hprep : Calls Tryz.prog 52 #[.pointer (some ⟨zw, 0, none⟩), .pointer (some ⟨fb, 0, none⟩)] w fun e w' => e = .returned .nilIface ∧ ∃ ro, P ro w')
    (hP : ∀ ro w1, P ro w1 → WSt w1 zw ob bw gb cw ro out dirv lastv hs false cm ∧ Blk w1 fb 69 (fhCells h nu 0 0 (.slice A h.extra.length ec)) ∧ From w1 (zw :: fb :: ob :: bw :: gb :: cw :: (ro.toList ++ dirv.ownBlock.toList)) A h.extra.length ec h.extra)
    (hF : h.Fits) (hfl : h.flags / 8 % 2 = 0) (hnl : h.name.length ≤ 60001) (hsl : slashL h.name = false) (hol : out.length ≤ 70368744177664) (hhs : hs.length ≤ 1000000) :
    Calls Tryz.prog 36 #[.pointer (some ⟨zw, 0, none⟩), .pointer (some ⟨fb, 0, none⟩)] w fun e w' => ∃ ro w1 ro' dirv' fw hbn, P ro w1 ∧ e = .returned (.tuple #[.iface 118 (.pointer (some ⟨fw, 0, none⟩)), .nilIface]) ∧ CrPost w1 w' zw ob bw gb cw fb ro ro' out dirv dirv' (.pointer (some ⟨fw, 0, none⟩)) hs cm h nu (.slice A h.extra.length ec) hbn ∧ Blk w' fw 144 (fwRaw hbn cw) ∧ w1.heap.size ≤ fw := by
  have HPR := Lib.hid hprep
  have HP := Lib.hid hP
  have HF := Lib.hid (And.intro hF hfl)
  have hcp : h.packed < 4294967296 := hF.packed
  have hcz : h.size < 4294967296 := hF.size
  have hxl : h.extra.length < 65536 := hF.extra
  clear hprep hP hF hfl
  go_enter Tryz.func36, Tryz.ntmps36
  go_wp2_with fail
  refine HPR.out.mono ?_
  rintro e w1 ⟨rfl, ro, hp1⟩
  obtain ⟨hst, hfb, hfr⟩ := HP.out ro w1 hp1
  have f0 : w1.cell? ⟨fb, 0, none⟩ = some (.string ⟨h.name.toArray⟩) := hfb.cell 0
  have f13 : w1.cell? ⟨fb, 13, none⟩ = some (.int .u32 0) := hfb.cell 13
  have f14 : w1.cell? ⟨fb, 14, none⟩ = some (.int .u32 0) := hfb.cell 14
  have f15 : w1.cell? ⟨fb, 15, none⟩ = some (.int .u64 h.packed) := hfb.cell 15
  have f16 : w1.cell? ⟨fb, 16, none⟩ = some (.int .u64 h.size) := hfb.cell 16
  have hz : ∀ i, w1.frozen? ⟨fb, i, none⟩ = false := hfb.frozen
  have z0 : w1.cell? ⟨zw, 0, none⟩ = some (.pointer (some ⟨cw, 0, none⟩)) := hst.zwb.cell 0
  have c1 : w1.cell? ⟨cw, 1, none⟩ = some (.int .i64 out.length) := hst.snk.cnt.cell 1
  have fbl := hfb.lt
  have nzf : zw ≠ fb := hst.zwb.ne_ hfb (by decide)
  have ncf : cw ≠ fb := hst.snk.cnt.ne_ hfb (by decide)
  have H1 := Lib.hid (And.intro hst (And.intro hfb (And.intro hfr hp1)))
  clear hst hfb hfr hp1
  go_upto_region 7 with (fail)
  refine atW (fun W => Blk W w1.heap.size 134 #[.pointer (some ⟨fb, 0, none⟩), .int .u64 out.length, .bool true] ∧ Blk W fb 69 (fhCells h nu h.packed h.size (.slice A h.extra.length ec)) ∧ Kept [fb] w1 W) ⟨Blk.newAt _ _ _ _ (by simp [World.setCell]), (Blk.cast ((H1.out.2.1.set_ 13 _).set_ 14 _) (by simp [fhCells]; omega)).alloc _, (((Kept.refl [fb] w1).setCell (by simp) _).setCell (by simp) _).alloc _⟩ ?_
  clear z0 c1 f0 f13 f14 f15 f16 hz fbl nzf ncf
  rintro w8 ⟨hhb8, hfb8, hk8⟩
  have hst8 := H1.out.1.kept hk8 (fun x hx => by simpa using H1.out.1.apart H1.out.2.1 (by decide) x hx)
  have hfr8 := H1.out.2.2.1.kept (hk8.mono (by grind))
  have z1 : w8.cell? ⟨zw, 1, none⟩ = some dirv := hst8.zwb.cell 1
  have hzz : ∀ i, w8.frozen? ⟨zw, i, none⟩ = false := hst8.zwb.frozen
  obtain ⟨i0, hi, hz0, hz1, hz2⟩ := info_parts infoHp
  have H8 := Lib.hid (And.intro hhb8 (And.intro hfb8 (And.intro hk8 (And.intro hfr8 hst8))))
  clear hhb8 hfb8 hk8 hst8 hfr8
  go_wp2_with (
    at_builtin
    refine wpList_append_any _ rfl (.tmp 49) (.tmp 51) _ rfl 0 132 i0 _ 1 8 Tryz.underlying117 hi hz0 hz1 hz2 rfl (by omega) dirv hs.length (hs.map hptr) rfl (owns_kept H8.out.2.2.2.2.dir ((Kept.refl [] w8).alloc _) (by simp)) (w8.heap.size + 1) (some ⟨w8.heap.size, 0, none⟩) 1 1 [hptr w1.heap.size] rfl (reads_one w8 (hptr w1.heap.size) 132) (by intro u hu; simp at hu; subst hu; rfl) (by simp only [maxLen]; omega) (by omega) (Nat.zero_le _) ?_
    intro v2 w9 hown2 hg2 hat2
    obtain ⟨A2, n2, c2, rfl⟩ := own_slice hown2
    have hk9 : Kept dirv.ownBlock.toList w8 w9 := ((Kept.refl dirv.ownBlock.toList w8).alloc _).grown hg2 (fun g hg => by simp [hg])
    have hzn : zw ∉ dirv.ownBlock.toList := by have := own_blk_ne H8.out.2.2.2.2.dir H8.out.2.2.2.2.zwb (by decide); simpa using this
    have hb9 := hk9.blk H8.out.2.2.2.2.zwb hzn
    have z1' : w9.cell? ⟨zw, 1, none⟩ = some dirv := hb9.cell 1
    have z0' : w9.cell? ⟨zw, 0, none⟩ = some (.pointer (some ⟨cw, 0, none⟩)) := hb9.cell 0
    have z2' : w9.cell? ⟨zw, 2, none⟩ = some lastv := hb9.cell 2
    have hf9 : ∀ i, w9.frozen? ⟨zw, i, none⟩ = false := hb9.frozen
    have H9 := Lib.hid (And.intro hown2 (And.intro hk9 (And.intro hb9 hat2)))
    clear hown2 hg2 hat2 hk9 hb9 hzn)
  refine callsW (fun W => Blk W zw 122 (zwCells cw (.slice A2 n2 c2) lastv false cm) ∧ Kept (zw :: dirv.ownBlock.toList) w8 W ∧ W.ownsRow 0 132 1 (.slice A2 n2 c2) (hs ++ [w1.heap.size]).length ((hs ++ [w1.heap.size]).map hptr)) ⟨Blk.cast (H9.out.2.2.1.set_ 1 _) (by simp [zwCells]), (H9.out.2.1.mono (by grind)).setCell (by simp) _, ?_⟩ ?_
  · have := owns_far (o := 1) H9.out.1 (own_blk_ne H9.out.1 H9.out.2.2.1 (by decide)) (.slice A2 n2 c2)
    simpa using this
  clear z1 hzz z1' z0' z2' hf9
  rintro w10 ⟨hzb10, hk10, hown10⟩
  have hst10 := H8.out.2.2.2.2.snk.kept hk10 (H8.out.2.2.2.2.dir_apart _ (by simp)) (H8.out.2.2.2.2.dir_apart _ (by simp)) (H8.out.2.2.2.2.dir_apart _ (by simp)) (H8.out.2.2.2.2.dir_apart _ (by simp)) (fun g hg => H8.out.2.2.2.2.dir_apart _ (by simp [hg]))
  have hap : ∀ t b (cs : Array Value), Blk w8 b t cs → 122 ≠ t → 132 ≠ t → b ∉ zw :: dirv.ownBlock.toList := fun t b cs hb h1 h2 hm => by
    have a1 := H8.out.2.2.2.2.zwb.ne_ hb h1
    have a2 := own_blk_ne H8.out.2.2.2.2.dir hb h2
    rcases List.mem_cons.1 hm with rfl | hm
    · exact a1 rfl
    · exact a2 (by simpa using hm)
  have hhb8 := H8.out.1
  have hfb8 := H8.out.2.1
  have hhb10 := hk10.blk hhb8 (hap _ _ _ hhb8 (by decide) (by decide))
  have hfb10 := hk10.blk hfb8 (hap _ _ _ hfb8 (by decide) (by decide))
  have hfr10 := H8.out.2.2.2.1.kept (hk10.mono (by grind))
  have HW := Lib.hid (Wh_raw hst10 hhb10 hfb10 HF.out.1 HF.out.2 hfr10.reads hfr10.cap (fun ad e h0 hm => hfr10.apart ad e h0 (by grind)) (by omega))
  have H10 := Lib.hid (And.intro hzb10 (And.intro hk10 (And.intro hown10 (And.intro hst10 (And.intro hhb10 (And.intro hfb10 (And.intro hhb8 (And.intro hap hfb8))))))))
  clear hzb10 hk10 hown10 hst10 hhb8 hfb8 hap hhb10 hfb10 hfr10
  refine HW.out.mono ?_
  rintro e w11 ⟨rfl, ro', hr11, hs11, hk11⟩
  have hzb11 := hk11.blk H10.out.1 (H10.out.2.2.2.1.not H10.out.1 (by decide) (by decide) (by decide) (by decide))
  have hfb11 := hk11.blk H10.out.2.2.2.2.2.1 (H10.out.2.2.2.1.not H10.out.2.2.2.2.2.1 (by decide) (by decide) (by decide) (by decide))
  have f0 : w11.cell? ⟨fb, 0, none⟩ = some (.string ⟨h.name.toArray⟩) := hfb11.cell 0
  have z0 : w11.cell? ⟨zw, 0, none⟩ = some (.pointer (some ⟨cw, 0, none⟩)) := hzb11.cell 0
  have z2 : w11.cell? ⟨zw, 2, none⟩ = some lastv := hzb11.cell 2
  have hz2 : w11.frozen? ⟨zw, 2, none⟩ = false := hzb11.frozen 2
  have hzl := hzb11.lt
  have H11 := Lib.hid (And.intro hr11 (And.intro hs11 (And.intro hk11 hzb11)))
  clear hr11 hs11 hk11 hzb11 HW hfb11
  go_wp2_with fail
  refine (slash_call h.name false hsl hnl _).mono ?_
  rintro e w12 ⟨rfl, rfl⟩
  go_wp2
  go_ret2
  refine ⟨ro, w1, ro', .slice A2 n2 c2, w11.heap.size, w1.heap.size, H1.out.2.2.2, rfl, ?_, Blk.newAt _ _ _ _ (by simp [World.setCell]), by have a := H8.out.2.2.1.size; have b := H10.out.2.1.size; have c := H11.out.2.2.1.size; omega⟩
  obtain ⟨hr11, hs11, hk11, hzb11⟩ := H11.out
  obtain ⟨hzb10, hk10, hown10, hst10, hhb10, hfb10, hhb8, hap, hfb8⟩ := H10.out
  obtain ⟨_, _, hk8, _, hst8⟩ := H8.out
  have T10 : WSt w10 zw ob bw gb cw ro out (.slice A2 n2 c2) lastv (hs ++ [w1.heap.size]) false cm := ⟨hst10, hzb10, hown10⟩
  have s18 := hk8.size
  have s810 := hk10.size
  have s1011 := hk11.size
  have chain : ∀ t b (cs : Array Value), Blk w8 b t cs → 122 ≠ t → 132 ≠ t → 58 ≠ t → 202 ≠ t → 5 ≠ t → b ≠ cw → Blk w11 b t cs := by
    intro t b cs hb q1 q2 q3 q4 q5 q6
    have hb10 := hk10.blk hb (hap _ _ _ hb q1 q2)
    exact hst10.more hb10 q3 q4 q5 q6 hk11
  have hsz := hs11.not hzb11 (by decide) (by decide) (by decide) (by decide)
  simp only [List.mem_cons, Option.mem_toList, not_or] at hsz
  have hown11 := owns_kept hown10 hk11 (fun g hg hm => T10.dir_apart g hm (by simp [hg]))
  have ncw : ∀ b t (cs : Array Value), Blk w8 b t cs → 116 ≠ t → b ≠ cw := fun b t cs hb h e => hst8.snk.cnt.ne_ hb h e.symm
  have b11 := chain _ _ _ hhb8 (by decide) (by decide) (by decide) (by decide) (by decide) (ncw _ _ _ hhb8 (by decide))
  have c11 := chain _ _ _ hfb8 (by decide) (by decide) (by decide) (by decide) (by decide) (ncw _ _ _ hfb8 (by decide))
  have k1 : Kept (zw :: fb :: ob :: bw :: gb :: cw :: (ro.toList ++ dirv.ownBlock.toList)) w1 w8 := hk8.mono (by grind)
  have k3 := k1.trans (hk10.mono (by grind))
  have k4 := k3.trans (hk11.mono (by grind))
  constructor
  · refine ⟨?_, Blk.alloc (o := _) (Blk.cast (hzb11.set_ 2 _) (by simp [zwCells])), owns_kept (owns_far hown11 (own_blk_ne hown11 hzb11 (by decide)) _) ((Kept.refl [] _).alloc _) (by simp)⟩
    exact hs11.kept (Kept.alloc (o := _) ((Kept.refl [zw] w11).setCell (by simp) _)) (by simp; omega) (by simp; omega) (by simp; omega) (by simp; omega) (fun g hg hm => hsz.2.2.2.2 (by simp at hm; rw [hg, hm]))
  · exact Blk.alloc (o := _) (b11.far (p := ⟨zw, 2, none⟩) (fun e => hzb11.ne_ b11 (by decide) e.symm) _)
  · exact Blk.alloc (o := _) (c11.far (p := ⟨zw, 2, none⟩) (fun e => hzb11.ne_ c11 (by decide) e.symm) _)
  · exact Kept.alloc (o := _) (k4.setCell (by simp) _)
  · exact Nat.le_refl _
  · exact fresh_trans (.inl rfl) hr11 (by omega)
  · rcases H9.out.2.2.2 with h | h
    · exact .inl h
    · exact .inr ⟨_, h, by simp; omega⟩
set_option maxRecDepth 100000 in
set_option maxHeartbeats 2000000 in
theorem Cr_dir {w : World} {zw ob bw gb cw fb ec : Nat} {out : List UInt8} {dirv lastv : Value} {hs : List Nat} {cm : ByteArray} {h : Hd} {nu : Bool} {A : Option Addr} {P : Option Nat → World → Prop}
    (hprep : Calls Tryz.prog 52 #[.pointer (some ⟨zw, 0, none⟩), .pointer (some ⟨fb, 0, none⟩)] w fun e w' => e = .returned .nilIface ∧ ∃ ro, P ro w')
    (hP : ∀ ro w1, P ro w1 → WSt w1 zw ob bw gb cw ro out dirv lastv hs false cm ∧ Blk w1 fb 69 (fhCells h nu 0 0 (.slice A h.extra.length ec)) ∧ From w1 (zw :: fb :: ob :: bw :: gb :: cw :: (ro.toList ++ dirv.ownBlock.toList)) A h.extra.length ec h.extra)
    (hF : h.Fits) (hfl : h.flags / 8 % 2 = 0) (hnl : h.name.length ≤ 60001) (hsl : slashL h.name = true) (hol : out.length ≤ 70368744177664) (hhs : hs.length ≤ 1000000) :
    Calls Tryz.prog 36 #[.pointer (some ⟨zw, 0, none⟩), .pointer (some ⟨fb, 0, none⟩)] w fun e w' => ∃ ro w1 ro' dirv' hbn, P ro w1 ∧ e = .returned (.tuple #[.iface 137 (.agg #[]), .nilIface]) ∧ CrPost w1 w' zw ob bw gb cw fb ro ro' out dirv dirv' (.pointer none) hs cm h nu (.slice A h.extra.length ec) hbn := by
  have HPR := Lib.hid hprep
  have HP := Lib.hid hP
  have HF := Lib.hid (And.intro hF hfl)
  have hcp : h.packed < 4294967296 := hF.packed
  have hcz : h.size < 4294967296 := hF.size
  have hxl : h.extra.length < 65536 := hF.extra
  clear hprep hP hF hfl
  go_enter Tryz.func36, Tryz.ntmps36
  go_wp2_with fail
  refine HPR.out.mono ?_
  rintro e w1 ⟨rfl, ro, hp1⟩
  obtain ⟨hst, hfb, hfr⟩ := HP.out ro w1 hp1
  have f0 : w1.cell? ⟨fb, 0, none⟩ = some (.string ⟨h.name.toArray⟩) := hfb.cell 0
  have f13 : w1.cell? ⟨fb, 13, none⟩ = some (.int .u32 0) := hfb.cell 13
  have f14 : w1.cell? ⟨fb, 14, none⟩ = some (.int .u32 0) := hfb.cell 14
  have f15 : w1.cell? ⟨fb, 15, none⟩ = some (.int .u64 h.packed) := hfb.cell 15
  have f16 : w1.cell? ⟨fb, 16, none⟩ = some (.int .u64 h.size) := hfb.cell 16
  have hz : ∀ i, w1.frozen? ⟨fb, i, none⟩ = false := hfb.frozen
  have z0 : w1.cell? ⟨zw, 0, none⟩ = some (.pointer (some ⟨cw, 0, none⟩)) := hst.zwb.cell 0
  have c1 : w1.cell? ⟨cw, 1, none⟩ = some (.int .i64 out.length) := hst.snk.cnt.cell 1
  have fbl := hfb.lt
  have nzf : zw ≠ fb := hst.zwb.ne_ hfb (by decide)
  have ncf : cw ≠ fb := hst.snk.cnt.ne_ hfb (by decide)
  have H1 := Lib.hid (And.intro hst (And.intro hfb (And.intro hfr hp1)))
  clear hst hfb hfr hp1
  go_upto_region 7 with (fail)
  refine atW (fun W => Blk W w1.heap.size 134 #[.pointer (some ⟨fb, 0, none⟩), .int .u64 out.length, .bool true] ∧ Blk W fb 69 (fhCells h nu h.packed h.size (.slice A h.extra.length ec)) ∧ Kept [fb] w1 W) ⟨Blk.newAt _ _ _ _ (by simp [World.setCell]), (Blk.cast ((H1.out.2.1.set_ 13 _).set_ 14 _) (by simp [fhCells]; omega)).alloc _, (((Kept.refl [fb] w1).setCell (by simp) _).setCell (by simp) _).alloc _⟩ ?_
  clear z0 c1 f0 f13 f14 f15 f16 hz fbl nzf ncf
  rintro w8 ⟨hhb8, hfb8, hk8⟩
  have hst8 := H1.out.1.kept hk8 (fun x hx => by simpa using H1.out.1.apart H1.out.2.1 (by decide) x hx)
  have hfr8 := H1.out.2.2.1.kept (hk8.mono (by grind))
  have z1 : w8.cell? ⟨zw, 1, none⟩ = some dirv := hst8.zwb.cell 1
  have hzz : ∀ i, w8.frozen? ⟨zw, i, none⟩ = false := hst8.zwb.frozen
  obtain ⟨i0, hi, hz0, hz1, hz2⟩ := info_parts infoHp
  have H8 := Lib.hid (And.intro hhb8 (And.intro hfb8 (And.intro hk8 (And.intro hfr8 hst8))))
  clear hhb8 hfb8 hk8 hst8 hfr8
  go_wp2_with (
    at_builtin
    refine wpList_append_any _ rfl (.tmp 49) (.tmp 51) _ rfl 0 132 i0 _ 1 8 Tryz.underlying117 hi hz0 hz1 hz2 rfl (by omega) dirv hs.length (hs.map hptr) rfl (owns_kept H8.out.2.2.2.2.dir ((Kept.refl [] w8).alloc _) (by simp)) (w8.heap.size + 1) (some ⟨w8.heap.size, 0, none⟩) 1 1 [hptr w1.heap.size] rfl (reads_one w8 (hptr w1.heap.size) 132) (by intro u hu; simp at hu; subst hu; rfl) (by simp only [maxLen]; omega) (by omega) (Nat.zero_le _) ?_
    intro v2 w9 hown2 hg2 hat2
    obtain ⟨A2, n2, c2, rfl⟩ := own_slice hown2
    have hk9 : Kept dirv.ownBlock.toList w8 w9 := ((Kept.refl dirv.ownBlock.toList w8).alloc _).grown hg2 (fun g hg => by simp [hg])
    have hzn : zw ∉ dirv.ownBlock.toList := by have := own_blk_ne H8.out.2.2.2.2.dir H8.out.2.2.2.2.zwb (by decide); simpa using this
    have hb9 := hk9.blk H8.out.2.2.2.2.zwb hzn
    have z1' : w9.cell? ⟨zw, 1, none⟩ = some dirv := hb9.cell 1
    have z0' : w9.cell? ⟨zw, 0, none⟩ = some (.pointer (some ⟨cw, 0, none⟩)) := hb9.cell 0
    have z2' : w9.cell? ⟨zw, 2, none⟩ = some lastv := hb9.cell 2
    have hf9 : ∀ i, w9.frozen? ⟨zw, i, none⟩ = false := hb9.frozen
    have H9 := Lib.hid (And.intro hown2 (And.intro hk9 (And.intro hb9 hat2)))
    clear hown2 hg2 hat2 hk9 hb9 hzn)
  refine callsW (fun W => Blk W zw 122 (zwCells cw (.slice A2 n2 c2) lastv false cm) ∧ Kept (zw :: dirv.ownBlock.toList) w8 W ∧ W.ownsRow 0 132 1 (.slice A2 n2 c2) (hs ++ [w1.heap.size]).length ((hs ++ [w1.heap.size]).map hptr)) ⟨Blk.cast (H9.out.2.2.1.set_ 1 _) (by simp [zwCells]), (H9.out.2.1.mono (by grind)).setCell (by simp) _, ?_⟩ ?_
  · have := owns_far (o := 1) H9.out.1 (own_blk_ne H9.out.1 H9.out.2.2.1 (by decide)) (.slice A2 n2 c2)
    simpa using this
  clear z1 hzz z1' z0' z2' hf9
  rintro w10 ⟨hzb10, hk10, hown10⟩
  have hst10 := H8.out.2.2.2.2.snk.kept hk10 (H8.out.2.2.2.2.dir_apart _ (by simp)) (H8.out.2.2.2.2.dir_apart _ (by simp)) (H8.out.2.2.2.2.dir_apart _ (by simp)) (H8.out.2.2.2.2.dir_apart _ (by simp)) (fun g hg => H8.out.2.2.2.2.dir_apart _ (by simp [hg]))
  have hap : ∀ t b (cs : Array Value), Blk w8 b t cs → 122 ≠ t → 132 ≠ t → b ∉ zw :: dirv.ownBlock.toList := fun t b cs hb h1 h2 hm => by
    have a1 := H8.out.2.2.2.2.zwb.ne_ hb h1
    have a2 := own_blk_ne H8.out.2.2.2.2.dir hb h2
    rcases List.mem_cons.1 hm with rfl | hm
    · exact a1 rfl
    · exact a2 (by simpa using hm)
  have hhb8 := H8.out.1
  have hfb8 := H8.out.2.1
  have hhb10 := hk10.blk hhb8 (hap _ _ _ hhb8 (by decide) (by decide))
  have hfb10 := hk10.blk hfb8 (hap _ _ _ hfb8 (by decide) (by decide))
  have hfr10 := H8.out.2.2.2.1.kept (hk10.mono (by grind))
  have HW := Lib.hid (Wh_raw hst10 hhb10 hfb10 HF.out.1 HF.out.2 hfr10.reads hfr10.cap (fun ad e h0 hm => hfr10.apart ad e h0 (by grind)) (by omega))
  have H10 := Lib.hid (And.intro hzb10 (And.intro hk10 (And.intro hown10 (And.intro hst10 (And.intro hhb10 (And.intro hfb10 (And.intro hhb8 (And.intro hap hfb8))))))))
  clear hzb10 hk10 hown10 hst10 hhb8 hfb8 hap hhb10 hfb10 hfr10
  refine HW.out.mono ?_
  rintro e w11 ⟨rfl, ro', hr11, hs11, hk11⟩
  have hzb11 := hk11.blk H10.out.1 (H10.out.2.2.2.1.not H10.out.1 (by decide) (by decide) (by decide) (by decide))
  have hfb11 := hk11.blk H10.out.2.2.2.2.2.1 (H10.out.2.2.2.1.not H10.out.2.2.2.2.2.1 (by decide) (by decide) (by decide) (by decide))
  have f0 : w11.cell? ⟨fb, 0, none⟩ = some (.string ⟨h.name.toArray⟩) := hfb11.cell 0
  have z0 : w11.cell? ⟨zw, 0, none⟩ = some (.pointer (some ⟨cw, 0, none⟩)) := hzb11.cell 0
  have z2 : w11.cell? ⟨zw, 2, none⟩ = some lastv := hzb11.cell 2
  have hz2 : w11.frozen? ⟨zw, 2, none⟩ = false := hzb11.frozen 2
  have hzl := hzb11.lt
  have H11 := Lib.hid (And.intro hr11 (And.intro hs11 (And.intro hk11 hzb11)))
  clear hr11 hs11 hk11 hzb11 HW hfb11
  go_wp2_with fail
  refine (slash_call h.name true hsl hnl _).mono ?_
  rintro e w12 ⟨rfl, rfl⟩
  go_wp2
  go_ret2
  refine ⟨ro, w1, ro', .slice A2 n2 c2, w1.heap.size, H1.out.2.2.2, rfl, ?_⟩
  obtain ⟨hr11, hs11, hk11, hzb11⟩ := H11.out
  obtain ⟨hzb10, hk10, hown10, hst10, hhb10, hfb10, hhb8, hap, hfb8⟩ := H10.out
  obtain ⟨_, _, hk8, _, hst8⟩ := H8.out
  have T10 : WSt w10 zw ob bw gb cw ro out (.slice A2 n2 c2) lastv (hs ++ [w1.heap.size]) false cm := ⟨hst10, hzb10, hown10⟩
  have s18 := hk8.size
  have s810 := hk10.size
  have s1011 := hk11.size
  have chain : ∀ t b (cs : Array Value), Blk w8 b t cs → 122 ≠ t → 132 ≠ t → 58 ≠ t → 202 ≠ t → 5 ≠ t → b ≠ cw → Blk w11 b t cs := by
    intro t b cs hb q1 q2 q3 q4 q5 q6
    have hb10 := hk10.blk hb (hap _ _ _ hb q1 q2)
    exact hst10.more hb10 q3 q4 q5 q6 hk11
  have hsz := hs11.not hzb11 (by decide) (by decide) (by decide) (by decide)
  simp only [List.mem_cons, Option.mem_toList, not_or] at hsz
  have hown11 := owns_kept hown10 hk11 (fun g hg hm => T10.dir_apart g hm (by simp [hg]))
  have ncw : ∀ b t (cs : Array Value), Blk w8 b t cs → 116 ≠ t → b ≠ cw := fun b t cs hb h e => hst8.snk.cnt.ne_ hb h e.symm
  have b11 := chain _ _ _ hhb8 (by decide) (by decide) (by decide) (by decide) (by decide) (ncw _ _ _ hhb8 (by decide))
  have c11 := chain _ _ _ hfb8 (by decide) (by decide) (by decide) (by decide) (by decide) (ncw _ _ _ hfb8 (by decide))
  have k1 : Kept (zw :: fb :: ob :: bw :: gb :: cw :: (ro.toList ++ dirv.ownBlock.toList)) w1 w8 := hk8.mono (by grind)
  have k3 := k1.trans (hk10.mono (by grind))
  have k4 := k3.trans (hk11.mono (by grind))
  constructor
  · refine ⟨?_, (Blk.cast (hzb11.set_ 2 _) (by simp [zwCells])), owns_kept (owns_far hown11 (own_blk_ne hown11 hzb11 (by decide)) _) (Kept.refl [] _) (by simp)⟩
    exact hs11.kept (((Kept.refl [zw] w11).setCell (by simp) _)) (by simp; omega) (by simp; omega) (by simp; omega) (by simp; omega) (fun g hg hm => hsz.2.2.2.2 (by simp at hm; rw [hg, hm]))
  · exact (b11.far (p := ⟨zw, 2, none⟩) (fun e => hzb11.ne_ b11 (by decide) e.symm) _)
  · exact (c11.far (p := ⟨zw, 2, none⟩) (fun e => hzb11.ne_ c11 (by decide) e.symm) _)
  · exact (k4.setCell (by simp) _)
  · exact Nat.le_refl _
  · exact fresh_trans (.inl rfl) hr11 (by omega)
  · rcases H9.out.2.2.2 with h | h
    · exact .inl h
    · exact .inr ⟨_, h, by simp; omega⟩
end Go.Proofs.YtkkdblifgekmkaaGreatDoor
