/- Contract: Writer.CreateHeader, for a file. -/
import Derived.Test.YtkkdblifgekmkaaDoorChh
import Derived.Test.YtkkdblifgekmkaaDoorWh
namespace Go.Proofs.YtkkdblifgekmkaaDoor
open Go.RowKit
set_option maxRecDepth 100000 in
set_option maxHeartbeats 2000000 in
theorem Ch_file {w : World} {zw ob bw gb cw fb : Nat} {out : List UInt8} {dirv : Value} {hs : List Nat} {cm : ByteArray} {name comment : List UInt8} {ext : Nat} {nu : Bool} {P : Option Nat → World → Prop} {lastv : Value}
    (hprep : Calls Tryd.prog 41 #[.pointer (some ⟨zw, 0, none⟩), .pointer (some ⟨fb, 0, none⟩)] w fun e w' => e = .returned .nilIface ∧ ∃ ro, P ro w')
    (hP : ∀ ro w1, P ro w1 → WSt w1 zw ob bw gb cw ro out dirv lastv hs false cm ∧ Blk w1 fb 72 (fhCells (hd0 name comment ext) nu 0 0 (.slice none 0 0)) ∧ Lib.Utf8Tabs 10 11 w1)
    (hnl : name.length ≤ 60001) (hcl : comment.length ≤ 60000) (hext : ext < 4294967296) (hsl : slashL name = false) (hol : out.length ≤ 70368744177664) (hhs : hs.length ≤ 1000000) :
    Calls Tryd.prog 26 #[.pointer (some ⟨zw, 0, none⟩), .pointer (some ⟨fb, 0, none⟩)] w fun e w' => ∃ ro w1 ro' dirv' fw hbn rc nc cc hh, P ro w1 ∧ e = .returned (.tuple #[.iface 110 (.pointer (some ⟨fw, 0, none⟩)), .nilIface]) ∧ ChPost w1 w' zw ob bw gb cw fb ro ro' out dirv dirv' hs cm (hd1 name comment ext (uOf nu name comment + 8)) nu fw hbn rc nc cc hh := by
  have HPR := Lib.hid hprep
  have HP := Lib.hid hP
  have HD1 := fun w h => Lib.hid (detect_any name (by omega) w h)
  have HD2 := fun w h => Lib.hid (detect_any comment (by omega) w h)
  obtain ⟨v1, r1, he1⟩ : ∃ v1 r1, detectL name = (v1, r1) := ⟨_, _, rfl⟩
  obtain ⟨v2, r2, he2⟩ : ∃ v2 r2, detectL comment = (v2, r2) := ⟨_, _, rfl⟩
  rw [he1] at HD1
  rw [he2] at HD2
  have HE := Lib.hid (And.intro he1 he2)
  have hbt1 : bits .andNot .u16 0 2048 = 0 := by decide
  have hbt2 : bits .or .u16 0 2048 = 2048 := by decide
  clear hprep hP he1 he2
  go_enter Tryd.func26, Tryd.ntmps26
  go_wp2_with fail
  refine HPR.out.mono ?_
  rintro e w1 ⟨rfl, ro, hp1⟩
  obtain ⟨hst, hfb, ht1⟩ := HP.out ro w1 hp1
  have f0 : w1.cell? ⟨fb, 0, none⟩ = some (.string ⟨name.toArray⟩) := hfb.cell 0
  have H1 := Lib.hid (And.intro hst (And.intro hfb (And.intro ht1 hp1)))
  clear hst hfb ht1 hp1
  go_wp2_with fail
  refine (HD1 _ H1.out.2.2.1).out.mono ?_
  rintro e w2 ⟨rfl, hb2⟩
  have hfb2 := H1.out.2.1.below hb2 H1.out.2.1.lt
  have f1 : w2.cell? ⟨fb, 1, none⟩ = some (.string ⟨comment.toArray⟩) := hfb2.cell 1
  have ht2 := tabs_keep H1.out.2.2.1 hb2
  have H2 := Lib.hid (And.intro hb2 (And.intro hfb2 ht2))
  clear hb2 hfb2 ht2 f0
  go_wp2_with fail
  refine (HD2 _ H2.out.2.2).out.mono ?_
  rintro e w3 ⟨rfl, hb3⟩
  have hfb3 := H2.out.2.1.below hb3 H2.out.2.1.lt
  have hb13 := H2.out.1.trans (hb3.mono H2.out.1.size)
  have f2 : w3.cell? ⟨fb, 2, none⟩ = some (.bool nu) := hfb3.cell 2
  have f5 : w3.cell? ⟨fb, 5, none⟩ = some (.int .u16 0) := hfb3.cell 5
  have hz5 : w3.frozen? ⟨fb, 5, none⟩ = false := hfb3.frozen 5
  have H3 := Lib.hid (And.intro hb13 hfb3)
  clear hb3 hfb3 hb13 f1
  go_upto_block 0 with (fail)
  go_cut [7, 8, 9, 10] from 20 (fun _ _ _ _ W => Blk W fb 72 (fhCells { hd0 name comment ext with flags := uflag nu v1 r1 v2 r2 } nu 0 0 (.slice none 0 0)) ∧ Kept [fb] w1 W)
  case first =>
    go_wp2
    all_goals
      go_meet
      go_light
      first
        | exact ⟨Blk.cast H3.out.2 (by simp [fhCells, hd0, uflag, *]), Kept.of_below H3.out.1 _⟩
        | exact ⟨Blk.cast (H3.out.2.set_ 5 _) (by simp [fhCells, hd0, uflag, *]), (Kept.of_below H3.out.1 _).setCell (by simp) _⟩
  case rest =>
    obtain ⟨hfb4, hk4⟩ := hcut
    obtain ⟨u, hu⟩ : ∃ u, u = uflag nu v1 r1 v2 r2 := ⟨_, rfl⟩
    rw [← hu] at hfb4
    have hu2 : u = 0 ∨ u = 2048 := by rw [hu]; exact uflag_cases _ _ _ _ _
    have hbt3 : bits .or .u16 (u : Int) 8 = ((u + 8 : Nat) : Int) := by rcases hu2 with rfl | rfl <;> decide
    have hbt4 : bits .and .u16 0 65280 = 0 := by decide
    have hbt5 : bits .or .u16 0 20 = 20 := by decide
    have f0 : wc.cell? ⟨fb, 0, none⟩ = some (.string ⟨name.toArray⟩) := hfb4.cell 0
    have f3 : wc.cell? ⟨fb, 3, none⟩ = some (.int .u16 0) := hfb4.cell 3
    have f4 : wc.cell? ⟨fb, 4, none⟩ = some (.int .u16 0) := hfb4.cell 4
    have f5 : wc.cell? ⟨fb, 5, none⟩ = some (.int .u16 u) := hfb4.cell 5
    have f6 : wc.cell? ⟨fb, 6, none⟩ = some (.int .u16 0) := hfb4.cell 6
    have f7 : wc.cell? ⟨fb, 7, none⟩ = some (.int .u64 0) := hfb4.cell 7
    have f8 : wc.cell? ⟨fb, 8, none⟩ = some (.int .i64 0) := hfb4.cell 8
    have f9 : wc.cell? ⟨fb, 9, none⟩ = some (.pointer none) := hfb4.cell 9
    have hz : ∀ i, wc.frozen? ⟨fb, i, none⟩ = false := hfb4.frozen
    have H4 := Lib.hid (And.intro hu (And.intro hfb4 (And.intro hk4 hu2)))
    clear hu hfb4 hk4 hu2
    go_wp2_with fail
    refine (IsZero_zero _).mono ?_
    rintro e w5 ⟨rfl, hb5⟩
    clear f0 f3 f4 f5 f6 f7 f8 f9 hz hbt4 hbt5
    have hk45 : Kept [fb] wc w5 := (((Kept.refl [fb] wc).setCell (p := ⟨fb, 3, none⟩) (by simp) _).setCell (p := ⟨fb, 4, none⟩) (by simp) _).below hb5 (by simp [World.setCell])
    have hfb5 : Blk w5 fb 72 (fhCells (hd1 name comment ext u) nu 0 0 (.slice none 0 0)) :=
      (Blk.cast ((H4.out.2.1.set_ 3 _).set_ 4 _) (by simp [fhCells, hd0, hd1])).below hb5 (by simpa [World.setCell] using H4.out.2.1.lt)
    have hk5 := H4.out.2.2.1.trans hk45
    have hst5 := H1.out.1.kept hk5 (fun x hx => by simpa using H1.out.1.apart H1.out.2.1 (by decide) x hx)
    have z0 : w5.cell? ⟨zw, 0, none⟩ = some (.pointer (some ⟨cw, 0, none⟩)) := hst5.zwb.cell 0
    have c1 : w5.cell? ⟨cw, 1, none⟩ = some (.int .i64 out.length) := hst5.snk.cnt.cell 1
    have f0 : w5.cell? ⟨fb, 0, none⟩ = some (.string ⟨name.toArray⟩) := hfb5.cell 0
    have f5 : w5.cell? ⟨fb, 5, none⟩ = some (.int .u16 u) := hfb5.cell 5
    have f6 : w5.cell? ⟨fb, 6, none⟩ = some (.int .u16 0) := hfb5.cell 6
    have hz : ∀ i, w5.frozen? ⟨fb, i, none⟩ = false := hfb5.frozen
    have fbl := hfb5.lt
    have H5 := Lib.hid (And.intro hfb5 (And.intro hk5 hst5))
    clear hb5 hk45 hfb5 hk5 hst5
    go_wp2_with fail
    refine (slash_call name false hsl hnl _).mono ?_
    rintro e w6 ⟨rfl, rfl⟩
    go_upto_region 34 with (fail)
    refine atW (fun W => Blk W w5.heap.size 128 #[.pointer (some ⟨fb, 0, none⟩), .int .u64 out.length, .bool false] ∧ Blk W fb 72 (fhCells (hd1 name comment ext (u + 8)) nu 0 0 (.slice none 0 0)) ∧ Kept [fb] w5 W) ⟨Blk.newAt _ _ _ _ (by simp [World.setCell]), (Blk.cast (H5.out.1.set_ 5 _) (by simp [fhCells, hd1])).alloc _, ((Kept.refl [fb] w5).setCell (by simp) _).alloc _⟩ ?_
    clear z0 c1 f0 f5 f6 hz
    rintro w6 ⟨hhb6, hfb6, hk6⟩
    have hst6 := H5.out.2.2.kept hk6 (fun x hx => by simpa using H5.out.2.2.apart H5.out.1 (by decide) x hx)
    have z0 : w6.cell? ⟨zw, 0, none⟩ = some (.pointer (some ⟨cw, 0, none⟩)) := hst6.zwb.cell 0
    have hl6 := hhb6.lt
    have HKZ := Lib.hid (fun W (k : Kept [] w6 W) => show W.cell? ⟨zw, 0, none⟩ = some (.pointer (some ⟨cw, 0, none⟩)) from (k.blk hst6.zwb (by simp)).cell 0)
    have H6 := Lib.hid (And.intro hhb6 (And.intro hfb6 (And.intro hk6 hst6)))
    clear hhb6 hfb6 hk6 hst6
    go_cut [15] from 20 (fun s15 W => ∃ fw cc hh, s15 = .pointer (some ⟨fw, 0, none⟩) ∧ w6.heap.size ≤ fw ∧ w6.heap.size ≤ cc ∧ w6.heap.size ≤ hh ∧ Blk W fw 137 #[.pointer none, .iface 104 (.pointer (some ⟨cw, 0, none⟩)), .pointer none, .nilIface, .pointer (some ⟨cc, 0, none⟩), .pointer (some ⟨hh, 0, none⟩), .bool false] ∧ Blk W cc 108 #[.iface 104 (.pointer (some ⟨cw, 0, none⟩)), .int .i64 0] ∧ Blk W hh 133 #[.int .u32 0] ∧ Kept [] w6 W)
    case first =>
      go_region_held3 (fun w' => w'.cell? ⟨zw, 0, none⟩ = some (.pointer (some ⟨cw, 0, none⟩))) (first | ((try dsimp only); refine HKZ.out _ ?_; repeat (first | with_reducible exact Kept.refl _ _ | with_reducible refine Kept.drew ?_ | with_reducible refine Kept.alloc ?_ _))) ((fail))
      all_goals
        go_wp2_with fail
        go_meet
        first
          | exact ⟨w6.heap.size + 1 + 1, w6.heap.size, w6.heap.size + 1, rfl, by omega, by omega, by omega, Blk.newAt _ _ _ _ (by simp), ((Blk.new w6 _ _).alloc _).alloc _, (Blk.newAt _ _ _ _ (by simp)).alloc _, ((((Kept.refl [] w6).alloc _).alloc _).alloc _).drew⟩
          | exact ⟨w6.heap.size + 1 + 1, w6.heap.size + 1, w6.heap.size, rfl, by omega, by omega, by omega, Blk.newAt _ _ _ _ (by simp), (Blk.newAt _ _ _ _ (by simp)).alloc _, ((Blk.new w6 _ _).alloc _).alloc _, ((((Kept.refl [] w6).alloc _).alloc _).alloc _).drew⟩
    case rest =>
    obtain ⟨fw, cc, hh, rfl, hfw, hcc, hhh, bfw, bcc, bhh, hk7⟩ := hcut
    have hfb7 := hk7.blk H6.out.2.1 (by simp)
    have hst7 := H6.out.2.2.2.kept hk7 (by simp)
    have f6 : wc.cell? ⟨fb, 6, none⟩ = some (.int .u16 0) := hfb7.cell 6
    have w0 : wc.cell? ⟨fw, 0, none⟩ = some (.pointer none) := bfw.cell 0
    have w2 : wc.cell? ⟨fw, 2, none⟩ = some (.pointer none) := bfw.cell 2
    have w3 : wc.cell? ⟨fw, 3, none⟩ = some .nilIface := bfw.cell 3
    have w4 : wc.cell? ⟨fw, 4, none⟩ = some (.pointer (some ⟨cc, 0, none⟩)) := bfw.cell 4
    have hz : ∀ i, wc.frozen? ⟨fw, i, none⟩ = false := bfw.frozen
    have fwl := bfw.lt
    have hef := eql_func_some
    have HCW := Lib.hid (compW_any (w := wc) (show Blk wc zw 114 #[.pointer (some ⟨cw, 0, none⟩), dirv, lastv, .bool false, .map none, .string cm, .nilFunc] from hst7.zwb))
    have H7 := Lib.hid (And.intro bfw (And.intro bcc (And.intro bhh (And.intro hk7 (And.intro hfb7 hst7)))))
    clear bfw bcc bhh hk7 hfb7 hst7
    go_wp2_with fail
    refine HCW.out.mono ?_
    rintro e w8 ⟨rfl, rfl⟩
    clear HCW
    go_wp2_with fail
    refine (comp1_any _ ⟨_, _, rfl⟩ _).mono ?_
    rintro e w8 ⟨rfl, rfl⟩
    go_upto_region 45 with (fail)
    refine atW (fun W => Blk W fw 137 #[.pointer (some ⟨w5.heap.size, 0, none⟩), .iface 104 (.pointer (some ⟨cw, 0, none⟩)), .pointer (some ⟨wc.heap.size + 1, 0, none⟩), .iface 225 (.pointer (some ⟨wc.heap.size, 0, none⟩)), .pointer (some ⟨cc, 0, none⟩), .pointer (some ⟨hh, 0, none⟩), .bool false] ∧ Blk W wc.heap.size 227 #[.iface 104 (.pointer (some ⟨cc, 0, none⟩))] ∧ Blk W (wc.heap.size + 1) 108 #[.iface 225 (.pointer (some ⟨wc.heap.size, 0, none⟩)), .int .i64 0] ∧ Kept [fw] wc W)
      ⟨((Blk.cast (((H7.out.1.set_ 3 _).set_ 2 _).set_ 0 _) (by simp)).alloc _).alloc _, (Blk.newAt _ _ _ _ (by simp [World.setCell])).alloc _, Blk.newAt _ _ _ _ (by simp [World.setCell]), (((((Kept.refl [fw] wc).setCell (by simp) _).setCell (by simp) _).setCell (by simp) _).alloc _).alloc _⟩ ?_
    clear f6 w0 w2 w3 w4 hz fwl hef
    rintro w8 ⟨bfw, bnc, brc, hk8⟩
    have hst8 := H7.out.2.2.2.2.2.kept hk8 (fun x hx => by simpa using H7.out.2.2.2.2.2.apart H7.out.1 (by decide) x hx)
    have z1 : w8.cell? ⟨zw, 1, none⟩ = some dirv := hst8.zwb.cell 1
    have hzz : ∀ i, w8.frozen? ⟨zw, i, none⟩ = false := hst8.zwb.frozen
    have h8l : wc.heap.size + 1 < w8.heap.size := brc.lt
    obtain ⟨i0, hi, hz0, hz1, hz2⟩ := info_parts infoHp
    have H8 := Lib.hid (And.intro bfw (And.intro bnc (And.intro brc (And.intro hk8 hst8))))
    clear bfw bnc brc hk8 hst8
    go_wp2_with (
      at_builtin
      refine wpList_append_any _ rfl (.tmp 231) (.tmp 233) _ rfl 0 126 i0 _ 1 8 Tryd.underlying109 hi hz0 hz1 hz2 rfl (by omega) dirv hs.length (hs.map hptr) rfl (owns_kept H8.out.2.2.2.2.dir ((Kept.refl [] w8).alloc _) (by simp)) (w8.heap.size + 1) (some ⟨w8.heap.size, 0, none⟩) 1 1 [hptr w5.heap.size] rfl (reads_one w8 (hptr w5.heap.size) 126) (by intro u hu; simp at hu; subst hu; rfl) (by simp only [maxLen]; omega) (by omega) (Nat.zero_le _) ?_
      intro v2 w9 hown2 hg2 hat2
      obtain ⟨A2, n2, c2, rfl⟩ := own_slice hown2
      have hk9 : Kept dirv.ownBlock.toList w8 w9 := ((Kept.refl dirv.ownBlock.toList w8).alloc _).grown hg2 (fun g hg => by simp [hg])
      have hzn : zw ∉ dirv.ownBlock.toList := by have := own_blk_ne H8.out.2.2.2.2.dir H8.out.2.2.2.2.zwb (by decide); simpa using this
      have hb9 := hk9.blk H8.out.2.2.2.2.zwb hzn
      have z1' : w9.cell? ⟨zw, 1, none⟩ = some dirv := hb9.cell 1
      have z0' : w9.cell? ⟨zw, 0, none⟩ = some (.pointer (some ⟨cw, 0, none⟩)) := hb9.cell 0
      have z2' : w9.cell? ⟨zw, 2, none⟩ = some lastv := hb9.cell 2
      have hf9 : ∀ i, w9.frozen? ⟨zw, i, none⟩ = false := hb9.frozen
      have H9 := Lib.hid (And.intro hown2 (And.intro hk9 (And.intro hb9 hat2)))
      clear hown2 hg2 hat2 hk9 hb9 hzn)
    refine callsW (fun W => Blk W zw 114 (zwCells cw (.slice A2 n2 c2) lastv false cm) ∧ Kept (zw :: dirv.ownBlock.toList) w8 W ∧ W.ownsRow 0 126 1 (.slice A2 n2 c2) (hs ++ [w5.heap.size]).length ((hs ++ [w5.heap.size]).map hptr)) ⟨Blk.cast (H9.out.2.2.1.set_ 1 _) (by simp [zwCells]), (H9.out.2.1.mono (by grind)).setCell (by simp) _, ?_⟩ ?_
    · have := owns_far (o := 1) H9.out.1 (own_blk_ne H9.out.1 H9.out.2.2.1 (by decide)) (.slice A2 n2 c2)
      simpa using this
    clear z1 hzz z1' z0' z2' hf9
    rintro w10 ⟨hzb10, hk10, hown10⟩
    have hst10 := H8.out.2.2.2.2.snk.kept hk10 (H8.out.2.2.2.2.dir_apart _ (by simp)) (H8.out.2.2.2.2.dir_apart _ (by simp)) (H8.out.2.2.2.2.dir_apart _ (by simp)) (H8.out.2.2.2.2.dir_apart _ (by simp)) (fun g hg => H8.out.2.2.2.2.dir_apart _ (by simp [hg]))
    have hhb7 := H7.out.2.2.2.1.blk H6.out.1 (by simp)
    have hhb8 := H8.out.2.2.2.1.blk hhb7 (by simpa using hhb7.ne_ H7.out.1 (by decide))
    have hfb8 := H8.out.2.2.2.1.blk H7.out.2.2.2.2.1 (by simpa using H7.out.2.2.2.2.1.ne_ H7.out.1 (by decide))
    have hap : ∀ t b (cs : Array Value), Blk w8 b t cs → 114 ≠ t → 126 ≠ t → b ∉ zw :: dirv.ownBlock.toList := fun t b cs hb h1 h2 hm => by
      have a1 := H8.out.2.2.2.2.zwb.ne_ hb h1
      have a2 := own_blk_ne H8.out.2.2.2.2.dir hb h2
      rcases List.mem_cons.1 hm with rfl | hm
      · exact a1 rfl
      · exact a2 (by simpa using hm)
    have hhb10 := hk10.blk hhb8 (hap _ _ _ hhb8 (by decide) (by decide))
    have hfb10 := hk10.blk hfb8 (hap _ _ _ hfb8 (by decide) (by decide))
    have hul : u ≤ 2048 := by rcases H4.out.2.2.2 with h | h <;> omega
    have HW := Lib.hid (Wh_plain (A := none) (ec := 0) hst10 hhb10 hfb10 (hd1_fits hnl hcl hext (show u + 8 < 65536 by omega)) Reads.none_ (Nat.le_refl _) (fun ad e => by cases e) (by show out.length + 30 + name.length + 0 ≤ _; omega))
    have H10 := Lib.hid (And.intro hzb10 (And.intro hk10 (And.intro hown10 (And.intro hst10 (And.intro hhb10 (And.intro hfb10 (And.intro hhb8 (And.intro hap hfb8))))))))
    clear hzb10 hk10 hown10 hst10 hhb7 hhb8 hfb8 hap hhb10 hfb10
    refine HW.out.mono ?_
    rintro e w11 ⟨rfl, ro', hr11, hs11, hk11⟩
    have hzb11 := hk11.blk H10.out.1 (H10.out.2.2.2.1.not H10.out.1 (by decide) (by decide) (by decide) (by decide))
    have z2 : w11.cell? ⟨zw, 2, none⟩ = some lastv := hzb11.cell 2
    have hz2 : w11.frozen? ⟨zw, 2, none⟩ = false := hzb11.frozen 2
    have H11 := Lib.hid (And.intro hr11 (And.intro hs11 (And.intro hk11 hzb11)))
    clear hr11 hs11 hk11 hzb11 HW
    go_wp2
    go_ret2
    refine ⟨ro, w1, ro', .slice A2 n2 c2, fw, w5.heap.size, wc.heap.size + 1, wc.heap.size, cc, hh, H1.out.2.2.2, rfl, ?_⟩
    have hu : u = uOf nu name comment := by rw [H4.out.1]; unfold uOf; rw [HE.out.1, HE.out.2]
    rw [← hu]
    obtain ⟨hr11, hs11, hk11, hzb11⟩ := H11.out
    obtain ⟨hzb10, hk10, hown10, hst10, hhb10, hfb10, hhb8, hap, hfb8⟩ := H10.out
    obtain ⟨bfw, bnc, brc, hk8, hst8⟩ := H8.out
    have T10 : WSt w10 zw ob bw gb cw ro out (.slice A2 n2 c2) lastv (hs ++ [w5.heap.size]) false cm := ⟨hst10, hzb10, hown10⟩
    have s15 := H5.out.2.1.size
    have s56 := H6.out.2.2.1.size
    have s67 := H7.out.2.2.2.1.size
    have s78 := hk8.size
    have s810 := hk10.size
    have hcwl : cw < w6.heap.size := H6.out.2.2.2.snk.cnt.lt
    -- a block of w8 that is neither the sink's nor the writer's nor the directory's
    have chain : ∀ t b (cs : Array Value), Blk w8 b t cs → 114 ≠ t → 126 ≠ t → 79 ≠ t → 207 ≠ t → 5 ≠ t → b ≠ cw → Blk (w11.setCell ⟨zw, 2, none⟩ (.pointer (some ⟨fw, 0, none⟩))) b t cs := by
      intro t b cs hb q1 q2 q3 q4 q5 q6
      have hb10 := hk10.blk hb (hap _ _ _ hb q1 q2)
      have hb11 := hst10.more hb10 q3 q4 q5 q6 hk11
      exact hb11.far (p := ⟨zw, 2, none⟩) (fun e => hzb11.ne_ hb11 q1 e.symm) _
    have hcc8 := hk8.blk H7.out.2.1 (by simpa using H7.out.2.1.ne_ H7.out.1 (by decide))
    have hhh8 := hk8.blk H7.out.2.2.1 (by simpa using H7.out.2.2.1.ne_ H7.out.1 (by decide))
    have hsz := hs11.not hzb11 (by decide) (by decide) (by decide) (by decide)
    simp only [List.mem_cons, Option.mem_toList, not_or] at hsz
    have hown11 := owns_kept hown10 hk11 (fun g hg hm => T10.dir_apart g hm (by simp [hg]))
    have ncw : ∀ b t (cs : Array Value), Blk w8 b t cs → 108 ≠ t → b ≠ cw := fun b t cs hb h e => hst8.snk.cnt.ne_ hb h e.symm
    constructor
    · refine ⟨?_, Blk.cast (hzb11.set_ 2 _) (by simp [zwCells]), owns_far hown11 (own_blk_ne hown11 hzb11 (by decide)) _⟩
      exact hs11.kept ((Kept.refl [zw] w11).setCell (by simp) _) (by simp; omega) (by simp; omega) (by simp; omega) (by simp; omega) (fun g hg hm => hsz.2.2.2.2 (by simp at hm; rw [hg, hm]))
    · exact ⟨chain _ _ _ bfw (by decide) (by decide) (by decide) (by decide) (by decide) (ncw _ _ _ bfw (by decide)), chain _ _ _ brc (by decide) (by decide) (by decide) (by decide) (by decide) (by omega), chain _ _ _ bnc (by decide) (by decide) (by decide) (by decide) (by decide) (ncw _ _ _ bnc (by decide)), chain _ _ _ hcc8 (by decide) (by decide) (by decide) (by decide) (by decide) (by omega), chain _ _ _ hhh8 (by decide) (by decide) (by decide) (by decide) (by decide) (ncw _ _ _ hhh8 (by decide)), by omega, by omega, by have := H7.out.2.1.lt; omega⟩
    · exact chain _ _ _ hhb8 (by decide) (by decide) (by decide) (by decide) (by decide) (ncw _ _ _ hhb8 (by decide))
    · exact chain _ _ _ hfb8 (by decide) (by decide) (by decide) (by decide) (by decide) (ncw _ _ _ hfb8 (by decide))
    · have k1 : Kept (zw :: fb :: ob :: bw :: gb :: cw :: (ro.toList ++ dirv.ownBlock.toList)) w1 wc := ((H5.out.2.1.trans H6.out.2.2.1).trans (H7.out.2.2.2.1.mono (by grind))).mono (by grind)
      have k2 := k1.trans' hk8 (fun x hx => .inr (by simp at hx; omega))
      have k3 := k2.trans (hk10.mono (by grind))
      exact (k3.trans (hk11.mono (by grind))).setCell (by simp) _
    · intro x hx
      simp only [List.mem_cons, List.not_mem_nil, or_false] at hx
      omega
    · exact fresh_trans (.inl rfl) hr11 (by omega)
    · rcases H9.out.2.2.2 with h | h
      · exact .inl h
      · exact .inr ⟨_, h, by simp; omega⟩
end Go.Proofs.YtkkdblifgekmkaaDoor
