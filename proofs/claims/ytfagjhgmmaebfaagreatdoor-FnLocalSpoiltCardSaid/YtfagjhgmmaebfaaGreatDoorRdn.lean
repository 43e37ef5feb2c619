/- The loop of Reader.init over an archive's directory. -/
import Derived.Test.YtfagjhgmmaebfaaGreatDoorHda
import Derived.Test.YtfagjhgmmaebfaaGreatDoorHdr
import Derived.Test.YtfagjhgmmaebfaaGreatDoorIo
import Derived.Test.YtfagjhgmmaebfaaGreatDoorDre
import Derived.Deep.LoopGhost
import Derived.Laws.MakeOwn
namespace Go.Proofs.YtfagjhgmmaebfaaGreatDoor
open Go.RowKit
noncomputable def initL : Code := ((Tryz.f37.body.bind (findBlock 0)).map unblock).getD .skip
set_option maxRecDepth 1000000 in
theorem frame145 (a : Act) (hs : a.tmps.size = 145) (hd : a.defers = []) : ∃ g : Nat → Value, (∀ i, g i = a.tmps.getD i undef) ∧ a = ⟨#[g 0, g 1, g 2, g 3, g 4, g 5, g 6, g 7, g 8, g 9, g 10, g 11, g 12, g 13, g 14, g 15, g 16, g 17, g 18, g 19, g 20, g 21, g 22, g 23, g 24, g 25, g 26, g 27, g 28, g 29, g 30, g 31, g 32, g 33, g 34, g 35, g 36, g 37, g 38, g 39, g 40, g 41, g 42, g 43, g 44, g 45, g 46, g 47, g 48, g 49, g 50, g 51, g 52, g 53, g 54, g 55, g 56, g 57, g 58, g 59, g 60, g 61, g 62, g 63, g 64, g 65, g 66, g 67, g 68, g 69, g 70, g 71, g 72, g 73, g 74, g 75, g 76, g 77, g 78, g 79, g 80, g 81, g 82, g 83, g 84, g 85, g 86, g 87, g 88, g 89, g 90, g 91, g 92, g 93, g 94, g 95, g 96, g 97, g 98, g 99, g 100, g 101, g 102, g 103, g 104, g 105, g 106, g 107, g 108, g 109, g 110, g 111, g 112, g 113, g 114, g 115, g 116, g 117, g 118, g 119, g 120, g 121, g 122, g 123, g 124, g 125, g 126, g 127, g 128, g 129, g 130, g 131, g 132, g 133, g 134, g 135, g 136, g 137, g 138, g 139, g 140, g 141, g 142, g 143, g 144], []⟩ := by
  refine ⟨fun i => a.tmps.getD i undef, fun _ => rfl, ?_⟩
  have h1 : a.tmps = ((List.range 145).map fun i => a.tmps.getD i undef).toArray := by
    apply Array.ext_getElem?
    intro i
    by_cases hi : i < 145
    · rw [Array.getElem?_eq_getElem (by omega), List.getElem?_toArray, List.getElem?_map, List.getElem?_range hi]
      simp [Array.getD, hs, hi]
    · rw [Array.getElem?_eq_none (by omega), List.getElem?_toArray, List.getElem?_eq_none (by simp; omega)]
  obtain ⟨tm, df⟩ := a
  obtain rfl : df = [] := hd
  exact congrArg (fun x => (⟨x, []⟩ : Act)) h1
/-- The slots of init's frame that last. -/
structure FI (zb rb d bb : Nat) (a : Act) : Prop where
  size : a.tmps.size = 145
  defs : a.defers = []
  s0 : a.tmps.getD 0 undef = .pointer (some ⟨zb, 0, none⟩)
  s1 : a.tmps.getD 1 undef = .iface 54 (.pointer (some ⟨rb, 0, none⟩))
  s6 : a.tmps.getD 6 undef = .nilIface
  s7 : a.tmps.getD 7 undef = .pointer (some ⟨d, 0, none⟩)
  s11 : a.tmps.getD 11 undef = .pointer (some ⟨bb, 0, none⟩)
theorem eql_nil (a : Addr) (W : World) : (binOp .eql 51 .nilIface (.iface 99 (.pointer (some a)))).run Tryz.prog W = .ok (.bool false) W := by kernel_rfl
def filV (b : Nat) : Value := .pointer (some ⟨b, 0, none⟩)
theorem infoPF : (Tryz.prog.info? 62).map (fun i => (i.zero, i.size, i.bytes)) = some (some (.pointer none), 1, 8) := by kernel_rfl
/-- The reader zb holds the first k files of the items. -/
structure IY (w W : World) (B zb rb d : Nat) (x1 dn : Value) (cl : List UInt8) (is : List Item) (k : Nat) (fbs : List Nat) : Prop where
  zbk : ∃ A c, Blk W zb 61 #[x1, .slice A k c, .string ⟨cl.toArray⟩, .map none, .int .i64 0] ∧ W.ownsRow w.heap.size 62 1 (.slice A k c) k (fbs.map filV)
  len : fbs.length = k
  files : ∀ (i fb : Nat) (it : Item), fbs[i]? = some fb → is[i]? = some it → FileAt W B zb rb fb it.cen (offs is i)
  dB : ∃ cs, Blk W d 106 cs ∧ cs[3]? = some dn
  kept : Kept [zb] w W
  hBW : B ≤ W.heap.size
section
variable {w W W' : World} {B zb rb d k : Nat} {x1 dn : Value} {cl : List UInt8} {is : List Item} {fbs : List Nat}
theorem IY.step {S : List Nat} (h : IY w W B zb rb d x1 dn cl is k fbs) (kk : Kept S W W') (hS : ∀ x ∈ S, W.heap.size ≤ x ∨ (w.heap.size ≤ x ∧ x < B ∧ ∃ t cs, Blk W x t cs ∧ t ≠ 106 ∧ t ≠ 62 ∧ t ≠ 61)) (hw : w.heap.size ≤ W.heap.size) : IY w W' B zb rb d x1 dn cl is k fbs := by
  obtain ⟨⟨A, c, h1, h2⟩, h3, h4, ⟨cs, h5, h5'⟩, h6, h7⟩ := h
  refine ⟨⟨A, c, kk.blk h1 (fun hx => ?_), owns_kept h2 kk (fun g hg hx => ?_)⟩, h3, fun i fb it e1 e2 => (h4 i fb it e1 e2).kept kk (fun x hx => ?_), ⟨cs, kk.blk h5 (fun hx => ?_), h5'⟩, h6.trans' kk (fun x hx => ?_), Nat.le_trans h7 kk.size⟩
  · rcases hS _ hx with e | ⟨_, _, t, cs', e, _, _, e3⟩
    · have := h1.lt; omega
    · exact e.ne_ h1 e3 rfl
  · rcases hS _ hx with e | ⟨_, _, t, cs', e, _, e3, _⟩
    · have := (h2.lt g hg).2; omega
    · exact own_blk_ne h2 e (Ne.symm e3) hg
  · rcases hS _ hx with e | ⟨_, e, _⟩
    · exact .inr (.inl e)
    · exact .inl e
  · rcases hS _ hx with e | ⟨_, _, t, cs', e, e3, _, _⟩
    · have := h5.lt; omega
    · exact e.ne_ h5 e3 rfl
  · rcases hS _ hx with e | ⟨e, _⟩
    · exact .inr (by omega)
    · exact .inr e
theorem BR.types {bb gb sb q L : Nat} {s : List UInt8} (h : BR W bb gb sb rb s L q) : (∃ cs, Blk W bb 145 cs) ∧ (∃ cs, Blk W gb 5 cs) ∧ (∃ cs, Blk W sb 117 cs) ∧ ∃ cs, Blk W rb 89 cs := by
  obtain ⟨r, wr, l, v5, v6, b0, n0, i0, p0, h⟩ := h
  exact ⟨⟨_, h.buf⟩, ⟨_, h.row⟩, ⟨_, h.sec⟩, ⟨_, h.str⟩⟩
theorem own_blk {base size n g : Nat} {e : TypeId} {v : Value} {xs : List Value} (h : W.ownsRow base e size v n xs) (hg : v.ownBlock = some g) : ∃ cs, Blk W g e cs := by
  rcases h.2 with ⟨rfl, _⟩ | ⟨g', cap, cur, rfl, _, hh, _⟩
  · cases hg
  · have hg' : g' = g := Option.some.inj hg
    subst hg'
    exact ⟨cur, hh⟩
/-- A file is put behind the others. -/
theorem IY.push {w6 : World} {fb c c' : Nat} {A A' : Option Addr} {it : Item} {ob : Obj} (hz : Blk W zb 61 #[x1, .slice A k c, .string ⟨cl.toArray⟩, .map none, .int .i64 0]) (ho : W.ownsRow w.heap.size 62 1 (.slice A k c) k (fbs.map filV))
    (hlen : fbs.length = k) (hf : ∀ (i fb : Nat) (it : Item), fbs[i]? = some fb → is[i]? = some it → FileAt W B zb rb fb it.cen (offs is i)) (hd : ∃ cs, Blk W d 106 cs ∧ cs[3]? = some dn) (hk : Kept [zb] w W) (hB : B ≤ W.heap.size) (hzB : zb < B)
    (hit : is[k]? = some it) (hfk : FileAt W B zb rb fb it.cen (offs is k)) (hown : w6.ownsRow w.heap.size 62 1 (.slice A' (k + 1) c') (k + 1) (fbs.map filV ++ [filV fb])) (hg : (W.alloc ob).grownBy w6 (Value.slice A k c).ownBlock) :
    Blk w6 zb 61 #[x1, .slice A k c, .string ⟨cl.toArray⟩, .map none, .int .i64 0] ∧ Kept (zb :: (Value.slice A k c).ownBlock.toList) W (w6.setCell ⟨zb, 1, none⟩ (.slice A' (k + 1) c')) ∧ IY w (w6.setCell ⟨zb, 1, none⟩ (.slice A' (k + 1) c')) B zb rb d x1 dn cl is (k + 1) (fbs ++ [fb]) := by
  have hne : ∀ g, (Value.slice A k c).ownBlock = some g → g ≠ zb := fun g hg' => by
    obtain ⟨cs, hb⟩ := own_blk ho hg'
    exact hb.ne_ hz (by decide)
  have kk0 : Kept (zb :: (Value.slice A k c).ownBlock.toList) W w6 := ((Kept.refl _ W).alloc ob).grown hg (fun g hg' => .inl (by rw [hg']; simp))
  have kk : Kept (zb :: (Value.slice A k c).ownBlock.toList) W (w6.setCell ⟨zb, 1, none⟩ (.slice A' (k + 1) c')) := kk0.setCell (by simp) _
  have hz4 : Blk (W.alloc ob) zb 61 #[x1, .slice A k c, .string ⟨cl.toArray⟩, .map none, .int .i64 0] := hz.alloc ob
  have hz6 := hz4.grown hg (fun e => hne zb e.symm rfl)
  have hS : ∀ x ∈ zb :: (Value.slice A k c).ownBlock.toList, x < B ∨ W.heap.size ≤ x ∨ ∃ t cs, Blk W x t cs ∧ t ≠ 74 ∧ t ≠ 5 := fun x hx => by
    simp only [List.mem_cons, Option.mem_toList] at hx
    rcases hx with rfl | hx
    · exact .inl hzB
    · obtain ⟨cs, hb⟩ := own_blk ho hx
      exact .inr (.inr ⟨_, cs, hb, by decide, by decide⟩)
  have hl6 : (Value.slice A' (k + 1) c').ownBlock ≠ some zb := fun e => own_blk_ne hown hz6 (by decide) e
  refine ⟨hz6, kk, ⟨A', c', Blk.cast (hz6.set_ 1 _) (by simp), ?_⟩, by simp [hlen], ?_, ?_, ?_, Nat.le_trans hB kk.size⟩
  · rw [List.map_append]
    exact owns_far hown hl6 _
  · intro i fb' it' e1 e2
    by_cases hi : i < k
    · rw [List.getElem?_append_left (by omega)] at e1
      exact (hf i fb' it' e1 e2).kept kk hS
    · have hi' : i < (fbs ++ [fb]).length := (List.getElem?_eq_some_iff.1 e1).1
      obtain rfl : i = k := by simp at hi'; omega
      rw [List.getElem?_append_right (by omega), hlen, Nat.sub_self] at e1
      simp at e1
      subst e1
      obtain rfl : it = it' := Option.some.inj (hit.symm.trans e2)
      exact hfk.kept kk hS
  · obtain ⟨cs, hd, hdn⟩ := hd
    refine ⟨cs, kk.blk hd (fun hx => ?_), hdn⟩
    simp only [List.mem_cons, Option.mem_toList] at hx
    rcases hx with rfl | hx
    · exact hd.ne_ hz (by decide) rfl
    · obtain ⟨cs', hb⟩ := own_blk ho hx
      exact hb.ne_ hd (by decide) rfl
  · refine hk.trans' kk (fun x hx => ?_)
    simp only [List.mem_cons, Option.mem_toList] at hx
    rcases hx with rfl | hx
    · exact .inl (by simp)
    · exact .inr (ho.lt x hx).1
end
set_option maxRecDepth 1000000 in
set_option maxHeartbeats 8000000 in
theorem initL_wp {Q : Exit → Act → World → Prop} {a : Act} {w W : World} {zb rb d bb gb sb B : Nat} {x1 dn : Value} {s cl : List UInt8} {is : List Item} (hS : RdS s is cl)
    (ea eu ef : Addr) (hE : ErrAt w 5 ea) (hU : ErrAt w 4 eu) (hF : ErrAt w 1 ef) (hT : Lib.Utf8Tabs 9 10 w)
    (hlt : ea.block < zb ∧ eu.block < zb ∧ ef.block < zb ∧ 5 < zb ∧ 4 < zb ∧ 1 < zb ∧ 9 < zb ∧ 10 < zb) (hzw : zb < w.heap.size) (hw : w.heap.size ≤ bb ∧ w.heap.size ≤ gb ∧ w.heap.size ≤ sb) (hB : bb < B ∧ gb < B ∧ sb < B ∧ w.heap.size ≤ B)
    (hA : FI zb rb d bb a) (hX : IY w W B zb rb d x1 dn cl is 0 []) (hR : BR W bb gb sb rb s s.length (filesB is).length)
    (hQ : ∀ a' W' fbs, FI zb rb d bb a' → IY w W' B zb rb d x1 dn cl is is.length fbs → Q (.exit 0) a' W') : Code.wp Tryz.prog initL Q a W := by
  obtain ⟨i0, hi, hz0, hz1, hz2⟩ := info_parts infoPF
  have HQ := Lib.hid hQ
  have HS := Lib.hid hS
  have HE := Lib.hid (And.intro hE (And.intro hU (And.intro hF hT)))
  have HL := Lib.hid (And.intro hlt (And.intro hzw (And.intro hw hB)))
  clear hQ hS hE hU hF hT hlt hzw hw hB
  conv => arg 2; whnf
  refine wp_loop_ghost (fun j a' W' => FI zb rb d bb a' ∧ ∃ k fbs, k + j = is.length ∧ Hid (BR W' bb gb sb rb s s.length ((filesB is).length + dats is k)) ∧ Hid (IY w W' B zb rb d x1 dn cl is k fbs)) is.length ⟨hA, 0, [], by omega, Lib.hid (by simpa [dats, dirB] using hR), Lib.hid hX⟩ ?_
  clear hA hX hR
  intro j a' wr hI
  obtain ⟨hf, k, fbs, hkj, HB, HY⟩ := hI
  obtain ⟨g, hg, rfl⟩ := frame145 a' hf.size hf.defs
  have g0 := hf.s0
  have g1 := hf.s1
  have g6 := hf.s6
  have g7 := hf.s7
  have g11 := hf.s11
  rw [← hg] at g0 g1 g6 g7 g11
  rw [g0, g1, g6, g7, g11]
  clear g0 g1 g6 g7 g11 hf hg
  obtain ⟨fb, hfb⟩ : ∃ fb, fb = wr.heap.size := ⟨_, rfl⟩
  have HFB := Lib.hid hfb
  clear hfb
  have hks := HY.out.kept.size
  have hbT := HB.out.types
  have hlx : ∀ x ∈ [bb, gb, sb, rb], x < wr.heap.size := fun x hx => by
    obtain ⟨⟨_, b1⟩, ⟨_, b2⟩, ⟨_, b3⟩, _, b4⟩ := hbT
    simp only [List.mem_cons, List.not_mem_nil, or_false] at hx
    rcases hx with rfl | rfl | rfl | rfl
    · exact b1.lt
    · exact b2.lt
    · exact b3.lt
    · exact b4.lt
  have HLX := Lib.hid (And.intro hlx (And.intro hbT hks))
  clear hlx hbT hks
  by_cases hk : k < is.length
  · go_wp2_with fail
    rw [← HFB.out]
    refine callsW (fun W1 => Blk W1 fb 74 (fileC zb rb [] [] false 0 0 0 0 0 0 none 0 0 0 0 0 0 0 (.slice none 0 0) 0 0) ∧ Kept [] wr W1) ⟨by rw [HFB.out]; exact Blk.cast (Blk.new _ _ _) (by simp [fileC]), (Kept.refl _ _).alloc _⟩ ?_
    rintro W1 ⟨hf1, hk1⟩
    obtain ⟨r, hr⟩ := HS.out.dir k hk
    have hfit := HS.out.fit _ (List.getElem_mem hk)
    have hcat := central_at hr
    have hoff := offs_mono is k hk
    have hlen := HS.out.len
    have hsh := HS.out.short
    have hdm := dats_mono is k hk
    rw [centralB_length] at hdm
    have hE1 := HY.out.kept.trans' hk1 (by simp)
    have hzb := HL.out
    have hT1 := tabs_kept HE.out.2.2.2 hE1 (by simp; omega) (by simp; omega)
    have hH := Hdr_any (h := is[k].cen) (off := offs is k) (B := B) (HB.out.kept hk1 (by simp) (by simp) (by simp) (by simp)) hcat hfit.1 (by omega) hfit.2.1 hfit.2.2 (by omega) hf1 (fun x hx => Nat.lt_of_lt_of_le (HLX.out.1 x hx) hk1.size) (fun hx => by have := HLX.out.1 _ hx; have := HFB.out; omega) hT1 (fun x hx => by
      have := HFB.out
      have := HLX.out.2.2
      simp only [List.mem_cons, List.not_mem_nil, or_false] at hx
      rcases hx with rfl | rfl | rfl | rfl <;> omega) (by have := HY.out.hBW; have := HFB.out; omega)
    have HH := Lib.hid hH
    have HK1 := Lib.hid (And.intro hk1 (And.intro hf1 (And.intro hoff (And.intro hlen (And.intro hsh hdm)))))
    clear hH hk1 hf1 hoff hlen hsh hdm hE1 hzb hT1 hr hfit hcat
    refine HH.out.mono ?_
    rintro e W2 ⟨rfl, hF2, hR2, hK2⟩
    obtain ⟨t0, t1, t2, db, fo, fq, fa, dl, q1, q2, q3, q4, q5, q6⟩ := hF2
    have hst : ∀ W', Kept [bb, gb, sb, fb] wr W' → IY w W' B zb rb d x1 dn cl is k fbs := fun W' kk => by
      refine HY.out.step kk (fun x hx => ?_) HLX.out.2.2
      obtain ⟨⟨_, b1⟩, ⟨_, b2⟩, ⟨_, b3⟩, _⟩ := HLX.out.2.1
      have hl := HL.out
      simp only [List.mem_cons, List.not_mem_nil, or_false] at hx
      rcases hx with rfl | rfl | rfl | rfl
      · exact .inr ⟨by omega, by omega, _, _, b1, by decide, by decide, by decide⟩
      · exact .inr ⟨by omega, by omega, _, _, b2, by decide, by decide, by decide⟩
      · exact .inr ⟨by omega, by omega, _, _, b3, by decide, by decide, by decide⟩
      · exact .inl (Nat.le_of_eq HFB.out.symm)
    have hKa : Kept [bb, gb, sb, fb] wr W2 := (HK1.out.1.mono (T := [bb, gb, sb, fb]) (by simp)).trans hK2
    have HST := Lib.hid (And.intro hst (And.intro hKa hR2))
    have hY2 := hst W2 hKa
    clear hst hKa
    obtain ⟨⟨A, c, hz2, ho2⟩, hlen2, hfl2, hd2, hk2, hB2⟩ := hY2
    have c21 : W2.cell? ⟨fb, 21, none⟩ = some (.int .i64 (offs is k)) := q1.cell 21
    have z4 : W2.cell? ⟨zb, 4, none⟩ = some (.int .i64 0) := hz2.cell 4
    have ff := q1.frozen
    have gF : W2.cell? ⟨1, 0, none⟩ = some (.iface 99 (.pointer (some ef))) := (HE.out.2.2.1.kept hk2 (by simp; have := HL.out; omega) (by simp; have := HL.out; omega)).1
    have gU : W2.cell? ⟨4, 0, none⟩ = some (.iface 99 (.pointer (some eu))) := (HE.out.2.1.kept hk2 (by simp; have := HL.out; omega) (by simp; have := HL.out; omega)).1
    have qn := eql_nil
    have HQ2 := Lib.hid (And.intro q1 (And.intro q2 (And.intro q3 (And.intro q4 (And.intro q5 q6)))))
    have HY2 := Lib.hid (And.intro hz2 (And.intro ho2 (And.intro hlen2 (And.intro hfl2 (And.intro hd2 (And.intro hk2 (And.intro hB2 hR2)))))))
    clear q1 q2 q3 q4 q5 q6 hz2 ho2 hlen2 hfl2 hd2 hk2 hB2 hR2 hK2
    go_upto_region 19 with (fail)
    clear qn gF gU
    have woff : IntKind.i64.wrap ((offs is k : Nat) : Int) = ((offs is k : Nat) : Int) := IntWalk.i64_in _ (by have := HK1.out; omega)
    go_still_tail 11, (by kernel_rfl)
    change wpList _ _ _ _ _ W2.drew
    go_upto_region 20 with (fail)
    obtain ⟨t0', h0'⟩ : ∃ x : Nat, x = 0 := ⟨0, rfl⟩
    have hwr := HLX.out.2.2
    have hF3 : FileAt (W2.drew.setCell ⟨fb, 21, none⟩ (.int .i64 (offs is k))) B zb rb fb is[k].cen (offs is k) := ⟨t0, t1, t2, db, fo, fq, fa, dl, Blk.cast (HQ2.out.1.drew.set_ 21 _) (by simp [fileC]), HQ2.out.2.1.drew.far (HQ2.out.2.1.ne_ HQ2.out.1 (by decide)) _, HQ2.out.2.2⟩
    refine at_world (fun W3 => FileAt W3 B zb rb fb is[k].cen (offs is k) ∧ Kept [fb] W2 W3) ⟨hF3, ((Kept.refl _ _).drew).setCell (by simp) _⟩ ?_
    rintro W3 ⟨hf3, hk3⟩
    have hY3 := HST.out.1 W3 (HST.out.2.1.trans' hk3 (by simp))
    obtain ⟨⟨A, c, hz3, ho3⟩, hlen3, hfl3, hd3, hkk3, hB3⟩ := hY3
    have hfbx : bb ≠ fb ∧ gb ≠ fb ∧ sb ≠ fb ∧ rb ≠ fb := by
      have e := HFB.out
      have l := HLX.out.1
      exact ⟨fun e' => by have := l bb (by simp); omega, fun e' => by have := l gb (by simp); omega, fun e' => by have := l sb (by simp); omega, fun e' => by have := l rb (by simp); omega⟩
    have hR3 := HST.out.2.2.kept hk3 (by simp; exact hfbx.1) (by simp; exact hfbx.2.1) (by simp; exact hfbx.2.2.1) (by simp; exact hfbx.2.2.2)
    have z1 : W3.cell? ⟨zb, 1, none⟩ = some (.slice A k c) := hz3.cell 1
    have zf := hz3.frozen
    have H3 := Lib.hid (And.intro hz3 (And.intro ho3 (And.intro hlen3 (And.intro hfl3 (And.intro hd3 (And.intro hkk3 (And.intro hB3 (And.intro hf3 hR3))))))))
    clear hz3 ho3 hlen3 hfl3 hd3 hkk3 hB3 hf3 hR3 hk3 hfbx HQ2 HY2 c21 z4 ff hwr hF3 h0' HST
    have hk1000 := HS.out.many
    go_wp2_with (at_builtin; refine wpList_append_own _ rfl _ _ 58 rfl w.heap.size 62 i0 (.pointer none) 1 8 Tryz.underlying58 hi hz0 hz1 hz2 rfl (by decide) _ _ _ rfl (H3.out.2.1.alloc _) ⟨W3.heap.size, 0, none⟩ 1 1 [filV fb] rfl rfl ?c1 ?c2 ?c3 ?c4 ?c5 ?_)
    case c1 => intro q u hu; exact cell_one_new _ _ _ _ _ hu
    case c2 => intro u hu; simp at hu; subst hu; rfl
    case c3 => unfold maxLen; omega
    case c4 => omega
    case c5 => have := H3.out.2.2.2.2.2.1.size; simp; omega
    intro v' w6 hown6 hgrow _
    obtain ⟨A', c', hv'⟩ := own_sliceA hown6
    subst hv'
    have hp := IY.push H3.out.1 H3.out.2.1 H3.out.2.2.1 H3.out.2.2.2.1 H3.out.2.2.2.2.1 H3.out.2.2.2.2.2.1 H3.out.2.2.2.2.2.2.1 (by have := HL.out; omega) (List.getElem?_eq_getElem hk) H3.out.2.2.2.2.2.2.2.1 hown6 hgrow
    have HP := Lib.hid hp
    have z6 : w6.cell? ⟨zb, 1, none⟩ = some (.slice A k c) := hp.1.cell 1
    have zf6 := hp.1.frozen
    clear hp hown6 z1 zf
    go_wp2
    refine ⟨j - 1, by omega, ⟨rfl, rfl, rfl, rfl, rfl, rfl, rfl⟩, k + 1, fbs ++ [fb], by omega, ?_, Lib.hid HP.out.2.2⟩
    have hne : ∀ (x : Nat) (t : TypeId) (cs : Array Value), Blk W3 x t cs → t ≠ 61 → t ≠ 62 → x ∉ zb :: (Value.slice A k c).ownBlock.toList := fun x t cs hb e1 e2 hx => by
      simp only [List.mem_cons, Option.mem_toList] at hx
      rcases hx with rfl | hx
      · exact hb.ne_ H3.out.1 e1 rfl
      · obtain ⟨cs', hb'⟩ := own_blk H3.out.2.1 hx
        exact hb.ne_ hb' e2 rfl
    obtain ⟨⟨_, b1⟩, ⟨_, b2⟩, ⟨_, b3⟩, _, b4⟩ := H3.out.2.2.2.2.2.2.2.2.types
    have hbr := H3.out.2.2.2.2.2.2.2.2.kept HP.out.2.1 (hne _ _ _ b1 (by decide) (by decide)) (hne _ _ _ b2 (by decide) (by decide)) (hne _ _ _ b3 (by decide) (by decide)) (hne _ _ _ b4 (by decide) (by decide))
    refine Lib.hid ?_
    have e := dats_next is k hk
    rw [centralB_length] at e
    rwa [show (filesB is).length + dats is (k + 1) = (filesB is).length + dats is k + (46 + is[k].cen.name.length + is[k].cen.extra.length + is[k].cen.comment.length) by omega]
  · obtain rfl : k = is.length := by omega
    have hst : ∀ W', Kept [bb, gb, sb] wr W' → IY w W' B zb rb d x1 dn cl is is.length fbs := fun W' kk => by
      refine HY.out.step kk (fun x hx => ?_) HLX.out.2.2
      obtain ⟨⟨_, b1⟩, ⟨_, b2⟩, ⟨_, b3⟩, _⟩ := HLX.out.2.1
      have hl := HL.out
      simp only [List.mem_cons, List.not_mem_nil, or_false] at hx
      rcases hx with rfl | rfl | rfl
      · exact .inr ⟨by omega, by omega, _, _, b1, by decide, by decide, by decide⟩
      · exact .inr ⟨by omega, by omega, _, _, b2, by decide, by decide, by decide⟩
      · exact .inr ⟨by omega, by omega, _, _, b3, by decide, by decide, by decide⟩
    have HST := Lib.hid hst
    clear hst hk
    have hend := HS.out.end_
    have hlen := HS.out.len
    have hcl := HS.out.cl
    have hda : dats is is.length = (dirB 0 is).length := dats_all is
    go_wp2_with fail
    rw [← HFB.out]
    refine callsW (fun W1 => Kept [] wr W1) ((Kept.refl _ _).alloc _) ?_
    intro W1 hk1
    have hE1 := HY.out.kept.trans' hk1 (by simp)
    have hbr1 := HB.out.kept hk1 (by simp) (by simp) (by simp) (by simp)
    have hl := HL.out
    have eE := HE.out.1.kept hE1 (by simp; omega) (by simp; omega)
    have eU := HE.out.2.1.kept hE1 (by simp; omega) (by simp; omega)
    have eF := HE.out.2.2.1.kept hE1 (by simp; omega) (by simp; omega)
    have hlx1 : ∀ x ∈ [bb, gb, sb, rb], x < W1.heap.size := fun x hx => Nat.lt_of_lt_of_le (HLX.out.1 x hx) hk1.size
    have HW := Lib.hid (And.intro hk1 (And.intro hbr1 (And.intro hlx1 hE1)))
    have HEE := Lib.hid (And.intro eE (And.intro eU eF))
    have hg5 : ∀ y, y < zb → ∀ x ∈ [bb, gb, sb], y < x := fun y hy x hx => by
      simp only [List.mem_cons, List.not_mem_nil, or_false] at hx
      rcases hx with rfl | rfl | rfl <;> omega
    have HG5 := Lib.hid hg5
    clear hk1 hbr1 hlx1 hE1 eE eU eF hg5
    by_cases hsh : 22 + cl.length < 46
    · refine (Hdr_short _ HW.out.2.1 (by omega) (by omega) ea eu HEE.out.1 HEE.out.2.1 (HG5.out _ hl.1.2.2.2.1) (HG5.out _ hl.1.2.2.2.2.1) HW.out.2.2.1).mono ?_
      rintro e W2 ⟨rfl, hk2⟩
      have hK2 := HW.out.2.2.2.trans' hk2 (fun x hx => by simp at hx; right; omega)
      have U4 := HEE.out.2.1.kept hk2 (by simp; omega) (by simp; omega)
      have E4 := HEE.out.2.2.kept hk2 (by simp; omega) (by simp; omega)
      have f2 : W2.cell? ⟨1, 0, none⟩ = some (.iface 99 (.pointer (some ef))) := E4.1
      have f3 : W2.cell? ⟨4, 0, none⟩ = some (.iface 99 (.pointer (some eu))) := U4.1
      have q1 := eql_errs U4 E4
      have q2 := eql_err eu W2
      have HK2 := Lib.hid ((HW.out.1.mono (T := [bb, gb, sb]) (by simp)).trans hk2)
      clear U4 E4 hk2 hK2 hl
      by_cases hfu : eu = ef
      · rw [decide_eq_true hfu] at q1
        clear hfu
        go_wp2_with fail
        exact HQ.out _ _ _ ⟨rfl, rfl, rfl, rfl, rfl, rfl, rfl⟩ (HST.out _ HK2.out)
      · rw [decide_eq_false hfu] at q1
        clear hfu
        go_wp2_with fail
        exact HQ.out _ _ _ ⟨rfl, rfl, rfl, rfl, rfl, rfl, rfl⟩ (HST.out _ HK2.out)
    · refine (Hdr_sig _ HW.out.2.1 (by omega) (by rw [hda, hend]; rfl) ef HEE.out.2.2 (HG5.out _ hl.1.2.2.2.2.2.1) HW.out.2.2.1).mono ?_
      rintro e W2 ⟨rfl, hk2⟩
      have E4 := HEE.out.2.2.kept hk2 (by simp; omega) (by simp; omega)
      have f2 : W2.cell? ⟨1, 0, none⟩ = some (.iface 99 (.pointer (some ef))) := E4.1
      have q1 := eql_err ef W2
      have HK2 := Lib.hid ((HW.out.1.mono (T := [bb, gb, sb]) (by simp)).trans hk2)
      clear E4 hk2 hl
      go_wp2_with fail
      exact HQ.out _ _ _ ⟨rfl, rfl, rfl, rfl, rfl, rfl, rfl⟩ (HST.out _ HK2.out)
end Go.Proofs.YtfagjhgmmaebfaaGreatDoor
/- Contract: Reader.init over an archive. -/
namespace Go.Proofs.YtfagjhgmmaebfaaGreatDoor
open Go.RowKit
theorem make_files (N : Nat) (hN : N ≤ 1000) : ∃ cs : Array Value, cs.size = N ∧ ∀ W : World, (Instr.makeSlice 58 (.int .i64 0) (.int .u64 (N : Int))).run Tryz.prog W = .ok (.slice (some ⟨W.heap.size, 0, none⟩) 0 N) (W.alloc (.cells cs 62)) := by
  obtain ⟨i0, hi, hz0, hz1, hz2⟩ := info_parts infoPF
  refine ⟨madeCells (Value.pointer none).cells (N * i0.size), by rw [size_madeCells, hz1]; omega, fun W => ?_⟩
  have h := run_make (P := Tryz.prog) W 58 62 i0 (.pointer none) Tryz.underlying58 hi hz0 .i64 .u64 0 N (Int.le_refl _) (by omega) (by rw [hz2]; omega) (by omega)
  simpa using h
set_option maxRecDepth 100000 in
set_option maxHeartbeats 4000000 in
theorem Init_arch {w : World} {zb rb n : Nat} {s cl : List UInt8} {is : List Item} (hS : RdS s is cl) (hn : n = s.length) (hfit : is.length * 30 ≤ (filesB is).length) (i0 p0 : Value) (hr : Blk w rb 89 #[.string ⟨s.toArray⟩, i0, p0])
    (hz : Blk w zb 61 #[.nilIface, .slice none 0 0, .string ⟨#[]⟩, .map none, .int .i64 0])
    (ea eu ef : Addr) (hE : ErrAt w 5 ea) (hU : ErrAt w 4 eu) (hF : ErrAt w 1 ef) (hT : Lib.Utf8Tabs 9 10 w)
    (hlt : ea.block < zb ∧ eu.block < zb ∧ ef.block < zb ∧ 5 < zb ∧ 4 < zb ∧ 1 < zb ∧ 9 < zb ∧ 10 < zb) :
    Calls Tryz.prog 37 #[.pointer (some ⟨zb, 0, none⟩), .iface 54 (.pointer (some ⟨rb, 0, none⟩)), .int .i64 n] w fun e w' => e = .returned .nilIface ∧
      ∃ B d x1 dn fbs, w.heap.size ≤ B ∧ IY w w' B zb rb d x1 dn cl is is.length fbs := by
  have hEnd := rds_end hS
  obtain ⟨F, hFl⟩ : ∃ F, F = (filesB is).length := ⟨_, rfl⟩
  obtain ⟨D, hDl⟩ : ∃ D, D = (dirB 0 is).length := ⟨_, rfl⟩
  obtain ⟨N, hNl⟩ : ∃ N, N = is.length := ⟨_, rfl⟩
  have hD := Lib.hid (Dre rb n s cl hEnd hn w (hr.cell 0) hr.lt)
  rw [← hFl, ← hDl, ← hNl] at hD
  have hlen := hS.len
  have hsh := hS.short
  have hmany := hS.many
  have hcl := hS.cl
  rw [← hFl, ← hDl] at hlen
  rw [← hNl] at hmany
  rw [← hFl, ← hNl] at hfit
  have hFn : F + D + 22 ≤ n := by omega
  have hn4 : n ≤ 4294967294 := by omega
  have HS := Lib.hid (And.intro hS (And.intro hn (And.intro hFl (And.intro hDl hNl))))
  have HR := Lib.hid hr
  have HZ := Lib.hid hz
  have HE := Lib.hid (And.intro hE (And.intro hU (And.intro hF (And.intro hT hlt))))
  obtain ⟨cs0, hcs0, hmk⟩ := make_files N hmany
  have HCS := Lib.hid hcs0
  clear hS hn hr hz hE hU hF hT hlt hEnd hFl hDl hNl hlen hsh hcs0
  go_enter Tryz.func37, Tryz.ntmps37
  go_wp2_with fail
  refine hD.out.mono ?_
  rintro e w1 ⟨d, rfl, hd, hdb, hb1⟩
  have hz1 := HZ.out.below hb1 HZ.out.lt
  have c0 : w1.cell? ⟨zb, 0, none⟩ = some .nilIface := hz1.cell 0
  have c1 : w1.cell? ⟨zb, 1, none⟩ = some (.slice none 0 0) := hz1.cell 1
  have c2 : w1.cell? ⟨zb, 2, none⟩ = some (.string ⟨#[]⟩) := hz1.cell 2
  have c4 : w1.cell? ⟨zb, 4, none⟩ = some (.int .i64 0) := hz1.cell 4
  have hfz : ∀ i, w1.frozen? ⟨zb, i, none⟩ = false := hz1.frozen
  have d3 : w1.cell? ⟨d, 3, none⟩ = some (.int .u64 N) := hdb.cell 3
  have d4 : w1.cell? ⟨d, 4, none⟩ = some (.int .u64 D) := hdb.cell 4
  have d5 : w1.cell? ⟨d, 5, none⟩ = some (.int .u64 F) := hdb.cell 5
  have d7 : w1.cell? ⟨d, 7, none⟩ = some (.string ⟨cl.toArray⟩) := hdb.cell 7
  have hzd : zb ≠ d := by have := HZ.out.lt; omega
  have hzlt : zb < w1.heap.size := hz1.lt
  have hdlt : d < w1.heap.size := hdb.lt
  have HX1 := Lib.hid (And.intro hz1 (And.intro hdb (And.intro hb1 hd)))
  clear hz1 hdb hb1 hd
  have wn : IntKind.u64.wrap (n : Int) = (n : Int) := by rw [IntKind.wrap_u64]; omega
  have hDn : (D : Int) < n := by omega
  have wnD : IntKind.u64.wrap ((n : Int) - D) = ((n - D : Nat) : Int) := by rw [IntKind.wrap_u64]; omega
  have hq30 : ((n - D : Nat) : Int).tdiv 30 = (((n - D) / 30 : Nat) : Int) := rfl
  have hge : (N : Int) ≤ (((n - D) / 30 : Nat) : Int) := by omega
  have wq : IntKind.u64.wrap (((n - D) / 30 : Nat) : Int) = (((n - D) / 30 : Nat) : Int) := by rw [IntKind.wrap_u64]; omega
  go_wp2_with fail
  refine at_world (fun W => Blk W zb 61 #[.iface 54 (.pointer (some ⟨rb, 0, none⟩)), .slice none 0 0, .string ⟨#[]⟩, .map none, .int .i64 0] ∧ Blk W rb 89 #[.string ⟨s.toArray⟩, i0, p0] ∧ Kept [zb] w W ∧ Blk W d 106 #[.int .u32 0, .int .u32 0, .int .u64 N, .int .u64 N, .int .u64 D, .int .u64 F, .int .u16 cl.length, .string ⟨cl.toArray⟩]) ⟨Blk.cast ((HX1.out.1.set_ 0 _).set_ 4 _) (by simp), ?_, ?_, ?_⟩ ?_
  · have hrz : rb ≠ zb := HR.out.ne_ HZ.out (by decide)
    exact (((HR.out.below HX1.out.2.2.1 HR.out.lt).far hrz _).far hrz _)
  · have k1 : Kept [zb] w w1 := Kept.of_below HX1.out.2.2.1 _
    exact (k1.setCell (by simp) _).setCell (by simp) _
  · exact (HX1.out.2.1.far hzd.symm _).far hzd.symm _
  clear c0 c1 c2 c4 hfz d3 d4 d5 d7 hzlt hdlt
  rintro W1 ⟨hz2, hr2, hk2, hd2⟩
  have HX := Lib.hid (And.intro hz2 (And.intro hr2 (And.intro hk2 hd2)))
  have c1 : W1.cell? ⟨zb, 1, none⟩ = some (.slice none 0 0) := hz2.cell 1
  have c2 : W1.cell? ⟨zb, 2, none⟩ = some (.string ⟨#[]⟩) := hz2.cell 2
  have hfz : ∀ i, W1.frozen? ⟨zb, i, none⟩ = false := hz2.frozen
  have d3 : W1.cell? ⟨d, 3, none⟩ = some (.int .u64 N) := hd2.cell 3
  have d4 : W1.cell? ⟨d, 4, none⟩ = some (.int .u64 D) := hd2.cell 4
  have d7 : W1.cell? ⟨d, 7, none⟩ = some (.string ⟨cl.toArray⟩) := hd2.cell 7
  have e1 : ∀ k, ((W1.drewN k).alloc (.cells cs0 62)).cell? ⟨zb, 1, none⟩ = some (.slice none 0 0) := fun k => ((hz2.drewN k).alloc _).cell 1
  have e2 : ∀ k, ((W1.drewN k).alloc (.cells cs0 62)).cell? ⟨zb, 2, none⟩ = some (.string ⟨#[]⟩) := fun k => ((hz2.drewN k).alloc _).cell 2
  have e7 : ∀ k, ((W1.drewN k).alloc (.cells cs0 62)).cell? ⟨d, 7, none⟩ = some (.string ⟨cl.toArray⟩) := fun k => ((hd2.drewN k).alloc _).cell 7
  have ef : ∀ k i, ((W1.drewN k).alloc (.cells cs0 62)).frozen? ⟨zb, i, none⟩ = false := fun k => ((hz2.drewN k).alloc _).frozen
  clear hz2 hr2 hk2 hd2
  go_quiet (fail)
  clear d4 wn wnD hq30 wq hDn
  go_wp2_with fail
  obtain ⟨q, hq⟩ : ∃ q, q = W1.heap.size := ⟨_, rfl⟩
  have hqz : q ≠ zb := by have := HX.out.1.lt; omega
  have hqd : q ≠ d := by have := HX.out.2.2.2.lt; omega
  have hw1 : w.heap.size ≤ W1.heap.size := HX.out.2.2.1.size
  rw [← hq]
  refine callsW (fun W => Blk W zb 61 #[.iface 54 (.pointer (some ⟨rb, 0, none⟩)), .slice (some ⟨q, 0, none⟩) 0 N, .string ⟨cl.toArray⟩, .map none, .int .i64 0] ∧ W.ownsRow w.heap.size 62 1 (.slice (some ⟨q, 0, none⟩) 0 N) 0 [] ∧ Blk W rb 89 #[.string ⟨s.toArray⟩, i0, p0] ∧ Kept [zb] w W ∧ Blk W d 106 #[.int .u32 0, .int .u32 0, .int .u64 N, .int .u64 N, .int .u64 D, .int .u64 F, .int .u16 cl.length, .string ⟨cl.toArray⟩])
    ⟨Blk.cast ((((HX.out.1.drewN _).alloc _).set_ 1 _).set_ 2 _) (by simp), ?_, ?_, ?_, ?_⟩ ?_
  · have ho := World.ownsRow_made (e := 62) (base := w.heap.size) (size := 1) (W1.drewN nq) cs0 N (by simpa using hw1) (by unfold maxLen; omega) (by rw [HCS.out]; omega)
    rw [hq]
    exact owns_far (owns_far ho (fun e => hqz (by rw [hq]; simpa [Value.ownBlock] using e)) _) (fun e => hqz (by rw [hq]; simpa [Value.ownBlock] using e)) _
  · have hrz : rb ≠ zb := HR.out.ne_ HZ.out (by decide)
    exact ((((HX.out.2.1.drewN _).alloc _).far hrz _).far hrz _)
  · exact (((HX.out.2.2.1.drewN _).alloc _).setCell (by simp) _).setCell (by simp) _
  · exact (((HX.out.2.2.2.drewN _).alloc _).far hzd.symm _).far hzd.symm _
  clear c1 c2 hfz d3 d7 e1 e2 e7 ef HX hmk hge hw1
  clear hq
  rintro W2 ⟨hz2, ho2, hr2, hk2, hd2⟩
  refine (Sect_new rb n (by omega) W2).mono ?_
  rintro e w3 ⟨rfl, rfl⟩
  obtain ⟨W3, hW3⟩ : ∃ W3, W3 = W2.alloc (.cells #[.iface 54 (.pointer (some ⟨rb, 0, none⟩)), .int .i64 0, .int .i64 0, .int .i64 n, .int .i64 n] 117) := ⟨_, rfl⟩
  obtain ⟨sb, hsb⟩ : ∃ sb, sb = W2.heap.size := ⟨_, rfl⟩
  have hs3 : Blk W3 sb 117 #[.iface 54 (.pointer (some ⟨rb, 0, none⟩)), .int .i64 0, .int .i64 0, .int .i64 n, .int .i64 n] := by rw [hW3, hsb]; exact Blk.new _ _ _
  have hk23 : Kept [] W2 W3 := by rw [hW3]; exact (Kept.refl _ _).alloc _
  have hsw : w.heap.size ≤ sb := by rw [hsb]; exact hk2.size
  rw [← hW3, ← hsb]
  have HSB := Lib.hid hsb
  have z4 : W3.cell? ⟨zb, 4, none⟩ = some (.int .i64 0) := (hk23.blk hz2 (by simp)).cell 4
  have d5 : W3.cell? ⟨d, 5, none⟩ = some (.int .u64 F) := (hk23.blk hd2 (by simp)).cell 5
  have HX := Lib.hid (And.intro hs3 (And.intro hz2 (And.intro ho2 (And.intro hr2 (And.intro hk2 (And.intro hd2 hk23))))))
  clear hz2 ho2 hr2 hk2 hd2 hs3 hk23 hW3 hsb
  have wF : IntKind.i64.wrap (F : Int) = (F : Int) := IntWalk.i64_in _ (by omega)
  go_wp2_with fail
  apply pass_world (fun W => Blk W sb 117 #[.iface 54 (.pointer (some ⟨rb, 0, none⟩)), .int .i64 0, .int .i64 F, .int .i64 n, .int .i64 n] ∧ Kept [sb] W3 W)
  case k =>
    intro key
    have KEY := Lib.hid key
    clear key
    go_region_with (go_at_call 42; refine (Sect_seekO sb F _ _ (HX.out.1.drew.cell 1) (HX.out.1.drew.cell 2) (HX.out.1.drew.frozen 2) (by omega)).mono ?_; rintro e w4 ⟨rfl, hw4⟩; have HW4 := Lib.hid hw4; clear hw4)
    all_goals
      refine KEY.out _ ?_
      rw [HW4.out]
      exact ⟨Blk.cast (HX.out.1.drew.set_ 2 _) (by simp), ((Kept.refl _ _).drew).setCell (by simp) _⟩
  rintro W4 ⟨hs4, hk4⟩
  have hk24 : Kept [] W2 W4 := HX.out.2.2.2.2.2.2.trans' hk4 (fun x hx => .inr (by simp at hx; have := HSB.out; omega))
  have hr4 := hk24.blk HX.out.2.2.2.1 (by simp)
  have hR := Lib.hid (Buf_newRB (q := F) hs4 hr4 (by have := HS.out.2.1; omega) (by omega) (by have := HS.out.2.1; omega))
  have HK24 := Lib.hid (And.intro hk24 hs4.lt)
  clear hs4 hk4 hk24 hr4 z4 d5 wF
  go_wp2_with fail
  refine hR.out.mono ?_
  rintro e w5 ⟨bb, gb, h1, h2, h3, h4, rfl, hb5, hB5⟩
  have hk25 : Kept [] W2 w5 := HK24.out.1.trans (Kept.of_below hb5 [])
  have hw2 : w.heap.size ≤ W2.heap.size := HX.out.2.2.2.2.1.size
  have hk2 : Kept [zb] w w5 := HX.out.2.2.2.2.1.trans' hk25 (by simp)
  have hY : IY w w5 w5.heap.size zb rb d (.iface 54 (.pointer (some ⟨rb, 0, none⟩))) (.int .u64 N) cl is 0 [] :=
    ⟨⟨_, N, hk25.blk HX.out.2.1 (by simp), owns_kept HX.out.2.2.1 hk25 (by simp)⟩, rfl, fun i fb it e1 e2 => by simp at e1, ⟨_, hk25.blk HX.out.2.2.2.2.2.1 (by simp), rfl⟩, hk2, Nat.le_refl _⟩
  have hBR : BR w5 bb gb sb rb s s.length (filesB is).length := by rw [← HS.out.2.1, ← HS.out.2.2.1]; exact hB5
  have h25 := hk25.size
  have h24 := HK24.out.1.size
  have hsl := HK24.out.2
  have h45 := hb5.size
  have HG := Lib.hid (And.intro hY (And.intro hBR (And.intro (show w.heap.size ≤ bb ∧ w.heap.size ≤ gb ∧ w.heap.size ≤ sb from ⟨by omega, by omega, hsw⟩) (show bb < w5.heap.size ∧ gb < w5.heap.size ∧ sb < w5.heap.size ∧ w.heap.size ≤ w5.heap.size from ⟨h3, h4, by omega, by omega⟩))))
  clear hY hBR hb5 hB5 hk25 hk2 hR h1 h2 h3 h4
  go_wp2_with fail
  refine initL_wp (bb := bb) (gb := gb) (sb := sb) (B := w5.heap.size) HS.out.1 ea eu ef HE.out.1 HE.out.2.1 HE.out.2.2.1 HE.out.2.2.2.1 HE.out.2.2.2.2 HZ.out.lt HG.out.2.2.1 HG.out.2.2.2 ⟨rfl, rfl, rfl, rfl, rfl, rfl, rfl⟩ HG.out.1 HG.out.2.1 ?_
  intro a' W6 fbs hf hY6
  obtain ⟨g, hg, rfl⟩ := frame145 a' hf.size hf.defs
  have g0 := hf.s0
  have g1 := hf.s1
  have g6 := hf.s6
  have g7 := hf.s7
  have g11 := hf.s11
  rw [← hg] at g0 g1 g6 g7 g11
  rw [g0, g1, g6, g7, g11]
  clear g0 g1 g6 g7 g11 hf hg
  obtain ⟨⟨A, c, hz6, ho6⟩, hlen6, hf6, ⟨csd, hd6, hd63⟩, hk6, hB6⟩ := hY6
  have z1 : W6.cell? ⟨zb, 1, none⟩ = some (.slice A is.length c) := hz6.cell 1
  have d3 : W6.cell? ⟨d, 3, none⟩ = some (.int .u64 is.length) := (hd6.cell 3).trans (hd63.trans (by rw [HS.out.2.2.2.2]))
  have wu : IntKind.u16.wrap (is.length : Int) = (is.length : Int) := by rw [IntKind.wrap_u16]; have := HS.out.2.2.2.2; omega
  have H6 := Lib.hid (show IY w W6 w5.heap.size zb rb d (.iface 54 (.pointer (some ⟨rb, 0, none⟩))) (.int .u64 N) cl is is.length fbs from ⟨⟨A, c, hz6, ho6⟩, hlen6, hf6, ⟨csd, hd6, hd63⟩, hk6, hB6⟩)
  clear hz6 ho6 hlen6 hf6 hd6 hd63 hk6 hB6
  go_wp2_with fail
  go_quiet (fail)
  go_wp2
  go_ret
  exact ⟨rfl, _, d, _, _, fbs, HG.out.2.2.2.2.2.2, H6.out.step ((Kept.refl [] W6).drewN _) (by simp) H6.out.kept.size⟩
end Go.Proofs.YtfagjhgmmaebfaaGreatDoor
/- Contracts: zip.NewReader over an archive; the thin package's header. -/
namespace Go.Proofs.YtfagjhgmmaebfaaGreatDoor
open Go.RowKit
/-- A reader over an archive, made since w. -/
structure RdrAt (w W : World) (zb rb : Nat) (cl : List UInt8) (is : List Item) : Prop where
  fs : ∃ (B : Nat) (A : Option Addr) (c : Nat) (x1 : Value) (base : Nat) (fbs : List Nat), Blk W zb 61 #[x1, .slice A is.length c, .string ⟨cl.toArray⟩, .map none, .int .i64 0] ∧ W.ownsRow base 62 1 (.slice A is.length c) is.length (fbs.map filV) ∧ fbs.length = is.length ∧
    (∀ (i fb : Nat) (it : Item), fbs[i]? = some fb → is[i]? = some it → FileAt W B zb rb fb it.cen (offs is i)) ∧ w.heap.size ≤ B ∧ w.heap.size ≤ base ∧ w.heap.size ≤ zb
  below : Below w.heap.size w W
set_option maxHeartbeats 400000 in
theorem NewReader_arch {w : World} {rb n : Nat} {s cl : List UInt8} {is : List Item} (hS : RdS s is cl) (hn : n = s.length) (hfit : is.length * 30 ≤ (filesB is).length) (i0 p0 : Value) (hr : Blk w rb 89 #[.string ⟨s.toArray⟩, i0, p0])
    (ea eu ef : Addr) (hE : ErrAt w 5 ea) (hU : ErrAt w 4 eu) (hF : ErrAt w 1 ef) (hT : Lib.Utf8Tabs 9 10 w) :
    Calls Tryz.prog 22 #[.iface 54 (.pointer (some ⟨rb, 0, none⟩)), .int .i64 n] w fun e w' => ∃ zb, e = .returned (.tuple #[.pointer (some ⟨zb, 0, none⟩), .nilIface]) ∧ RdrAt w w' zb rb cl is := by
  have hn4 : n ≤ 4294967294 := by have := hS.short; omega
  have tlt : ∀ (g c : Nat) (v : Value), w.cell? ⟨g, c, none⟩ = some v → g < w.heap.size := fun g c v hc => World.block_lt_of_cell? w _ hc
  have hT' := tabs_kept hT ((Kept.refl [] w).alloc (.cells #[.nilIface, .slice none 0 0, .string ⟨#[]⟩, .map none, .int .i64 0] 61)) (by simp) (by simp)
  have hI := Lib.hid (Init_arch (zb := w.heap.size) (w := w.alloc (.cells #[.nilIface, .slice none 0 0, .string ⟨#[]⟩, .map none, .int .i64 0] 61)) hS hn hfit i0 p0 (hr.alloc _) (Blk.new _ _ _) ea eu ef (hE.alloc _) (hU.alloc _) (hF.alloc _) hT'
    ⟨hE.lt.2, hU.lt.2, hF.lt.2, hE.lt.1, hU.lt.1, hF.lt.1, tlt _ _ _ (hT.1 0 (by omega)), tlt _ _ _ (hT.2 0 (by omega)).1⟩)
  clear hS hn hr hE hU hF hT hT' tlt hfit
  go_enter Tryz.func22, Tryz.ntmps22
  go_wp2_with fail
  refine hI.out.mono ?_
  rintro e w1 ⟨rfl, B, d, x1, dn, fbs, hB, hY⟩
  have HX := Lib.hid (And.intro hB hY)
  clear hB hY
  go_wp2
  go_ret2
  obtain ⟨hB, ⟨A, c, hz, ho⟩, hlen, hf, _, hk, _⟩ := HX.out
  refine ⟨w.heap.size, rfl, ⟨B, A, c, x1, _, fbs, hz, ho, hlen, hf, by simp at hB; omega, by simp, Nat.le_refl _⟩, ((Below.refl _ w).alloc (Nat.le_refl _) _).trans (hk.to_below (by simp) (by simp))⟩
theorem atX {f : Exit → Act → World → Prop} {e : Exit} {a : Act} {W : World} (S : World → Prop) (hS : S W) (key : ∀ W', S W' → f e a W') : f e a W := key _ hS
set_option maxRecDepth 100000 in
set_option maxHeartbeats 1000000 in
theorem hdr_res {W : World} {g : Nat} {h : Hd} {nu : Bool} (hb : Blk W g 39 (hcells h nu).toArray) (tm : Array Value) (h2 : tm.getD 2 undef = .pointer (some ⟨g, 0, none⟩)) : (results Tryz.f24 tm).run Tryz.prog W = .ok (.agg (hcells h nu).toArray) W := by
  have c0 : W.cell? ⟨g, 0, none⟩ = some (.string ⟨h.name.toArray⟩) := hb.cell 0
  have c1 : W.cell? ⟨g, 1, none⟩ = some (.string ⟨h.comment.toArray⟩) := hb.cell 1
  have c2 : W.cell? ⟨g, 2, none⟩ = some (.string ⟨h.extra.toArray⟩) := hb.cell 2
  have c3 : W.cell? ⟨g, 3, none⟩ = some (.bool nu) := hb.cell 3
  have c4 : W.cell? ⟨g, 4, none⟩ = some (.int .i64 h.creator) := hb.cell 4
  have c5 : W.cell? ⟨g, 5, none⟩ = some (.int .i64 h.reader) := hb.cell 5
  have c6 : W.cell? ⟨g, 6, none⟩ = some (.int .i64 h.flags) := hb.cell 6
  have c7 : W.cell? ⟨g, 7, none⟩ = some (.int .i64 h.method) := hb.cell 7
  have c8 : W.cell? ⟨g, 8, none⟩ = some (.int .i64 h.time) := hb.cell 8
  have c9 : W.cell? ⟨g, 9, none⟩ = some (.int .i64 h.date) := hb.cell 9
  have c10 : W.cell? ⟨g, 10, none⟩ = some (.int .i64 h.crc) := hb.cell 10
  have c11 : W.cell? ⟨g, 11, none⟩ = some (.int .i64 h.packed) := hb.cell 11
  have c12 : W.cell? ⟨g, 12, none⟩ = some (.int .i64 h.size) := hb.cell 12
  have c13 : W.cell? ⟨g, 13, none⟩ = some (.int .i64 h.external) := hb.cell 13
  clear hb
  unfold hcells
  simp only [results, Tryz.results24]
  have h2' : tm[2]?.getD undef = .pointer (some ⟨g, 0, none⟩) := by simpa using h2
  simp [go_sem, h2', c0, c1, c2, c3, c4, c5, c6, c7, c8, c9, c10, c11, c12, c13]
set_option maxRecDepth 100000 in
set_option maxHeartbeats 2000000 in
theorem Header_any {w : World} {B zb rb fb off : Nat} {h : Hd} (hf : FileAt w B zb rb fb h off) (hF : h.Fits) :
    Calls Tryz.prog 24 #[.pointer (some ⟨fb, 0, none⟩)] w fun e w' => e = .returned (.agg (hcells h (nonU h)).toArray) ∧ Kept [] w w' := by
  obtain ⟨t0, t1, t2, db, o, cq, a, dl, h1, h2, h3, h4, h5, h6⟩ := hf
  obtain ⟨nu, hnu⟩ : ∃ nu, nu = nonU h := ⟨_, rfl⟩
  rw [← hnu] at h1 ⊢
  clear hnu
  have hcv := conv_u8 (cap := cq) (bytes_sub (n := h.extra.length) (o := o) (h2.alloc (.cells hdZ 39)).drew h3 rfl h4) rfl
  have v1 : IntKind.i64.wrap (h.creator : Int) = (h.creator : Int) := IntWalk.i64_in _ (by have := hF.creator; omega)
  have v2 : IntKind.i64.wrap (h.reader : Int) = (h.reader : Int) := IntWalk.i64_in _ (by have := hF.reader; omega)
  have v3 : IntKind.i64.wrap (h.flags : Int) = (h.flags : Int) := IntWalk.i64_in _ (by have := hF.flags; omega)
  have v4 : IntKind.i64.wrap (h.method : Int) = (h.method : Int) := IntWalk.i64_in _ (by have := hF.method; omega)
  have v5 : IntKind.i64.wrap (h.time : Int) = (h.time : Int) := IntWalk.i64_in _ (by have := hF.time; omega)
  have v6 : IntKind.i64.wrap (h.date : Int) = (h.date : Int) := IntWalk.i64_in _ (by have := hF.date; omega)
  have v7 : IntKind.i64.wrap (h.crc : Int) = (h.crc : Int) := IntWalk.i64_in _ (by have := hF.crc; omega)
  have v8 : IntKind.i64.wrap (h.packed : Int) = (h.packed : Int) := IntWalk.i64_in _ (by have := hF.packed; omega)
  have v9 : IntKind.i64.wrap (h.size : Int) = (h.size : Int) := IntWalk.i64_in _ (by have := hF.size; omega)
  have v10 : IntKind.i64.wrap (h.external : Int) = (h.external : Int) := IntWalk.i64_in _ (by have := hF.external; omega)
  have H := Lib.hid (And.intro h1 hF)
  have HC := Lib.hid hcv
  clear h1 h2 h3 h4 h5 h6 hF hcv
  go_enter Tryz.func24, Tryz.ntmps24
  go_upto_region 1 with (fail)
  refine at_world (fun W => Blk W fb 74 (fileC zb rb h.name h.comment nu h.creator h.reader h.flags h.method t0 t1 t2 h.time h.date h.crc h.packed h.size h.packed h.size (.slice (some ⟨db, o, none⟩) h.extra.length cq) h.external off) ∧ Blk W w.heap.size 39 hdZ ∧ Kept [] w W ∧ (convert 46 9 (.slice (some ⟨db, o, none⟩) h.extra.length cq)).run Tryz.prog W.drew = .ok (.string ⟨h.extra.toArray⟩) W.drew) ⟨H.out.1.alloc _, Blk.new _ _ _, (Kept.refl _ _).alloc _, HC.out⟩ ?_
  rintro W ⟨hb, hg, hk, hcv⟩
  obtain ⟨g, hgw⟩ : ∃ g, g = w.heap.size := ⟨_, rfl⟩
  rw [← hgw] at hg ⊢
  have k0 : W.cell? ⟨fb, 0, none⟩ = some (.string ⟨h.name.toArray⟩) := hb.cell 0
  have k1 : W.cell? ⟨fb, 1, none⟩ = some (.string ⟨h.comment.toArray⟩) := hb.cell 1
  have k2 : W.cell? ⟨fb, 2, none⟩ = some (.bool nu) := hb.cell 2
  have k3 : W.cell? ⟨fb, 3, none⟩ = some (.int .u16 h.creator) := hb.cell 3
  have k4 : W.cell? ⟨fb, 4, none⟩ = some (.int .u16 h.reader) := hb.cell 4
  have k5 : W.cell? ⟨fb, 5, none⟩ = some (.int .u16 h.flags) := hb.cell 5
  have k6 : W.cell? ⟨fb, 6, none⟩ = some (.int .u16 h.method) := hb.cell 6
  have k10 : W.cell? ⟨fb, 10, none⟩ = some (.int .u16 h.time) := hb.cell 10
  have k11 : W.cell? ⟨fb, 11, none⟩ = some (.int .u16 h.date) := hb.cell 11
  have k12 : W.cell? ⟨fb, 12, none⟩ = some (.int .u32 h.crc) := hb.cell 12
  have k15 : W.cell? ⟨fb, 15, none⟩ = some (.int .u64 h.packed) := hb.cell 15
  have k16 : W.cell? ⟨fb, 16, none⟩ = some (.int .u64 h.size) := hb.cell 16
  have k17 : W.cell? ⟨fb, 17, none⟩ = some (.slice (some ⟨db, o, none⟩) h.extra.length cq) := hb.cell 17
  have k18 : W.cell? ⟨fb, 18, none⟩ = some (.int .u32 h.external) := hb.cell 18
  have z0 : W.cell? ⟨g, 0, none⟩ = some (.string ⟨#[]⟩) := hg.cell 0
  have z1 : W.cell? ⟨g, 1, none⟩ = some (.string ⟨#[]⟩) := hg.cell 1
  have z2 : W.cell? ⟨g, 2, none⟩ = some (.string ⟨#[]⟩) := hg.cell 2
  have z3 : W.cell? ⟨g, 3, none⟩ = some (.bool false) := hg.cell 3
  have z4 : W.cell? ⟨g, 4, none⟩ = some (.int .i64 0) := hg.cell 4
  have z5 : W.cell? ⟨g, 5, none⟩ = some (.int .i64 0) := hg.cell 5
  have z6 : W.cell? ⟨g, 6, none⟩ = some (.int .i64 0) := hg.cell 6
  have z7 : W.cell? ⟨g, 7, none⟩ = some (.int .i64 0) := hg.cell 7
  have z8 : W.cell? ⟨g, 8, none⟩ = some (.int .i64 0) := hg.cell 8
  have z9 : W.cell? ⟨g, 9, none⟩ = some (.int .i64 0) := hg.cell 9
  have z10 : W.cell? ⟨g, 10, none⟩ = some (.int .i64 0) := hg.cell 10
  have z11 : W.cell? ⟨g, 11, none⟩ = some (.int .i64 0) := hg.cell 11
  have z12 : W.cell? ⟨g, 12, none⟩ = some (.int .i64 0) := hg.cell 12
  have z13 : W.cell? ⟨g, 13, none⟩ = some (.int .i64 0) := hg.cell 13
  have zf := hg.frozen
  have HW := Lib.hid (And.intro hk (And.intro hgw hg))
  clear hb hg hk hgw
  simp only [List.append_eq, List.cons_append, List.nil_append]
  go_still_tail 68, (by kernel_rfl)
  change wpList _ _ _ _ _ W.drew
  go_wp2_with fail
  have hG : g ∈ ([] : List Nat) ∨ w.heap.size ≤ g := .inr (Nat.le_of_eq HW.out.2.1.symm)
  refine atX (fun W2 => Blk W2 g 39 (hcells h nu).toArray ∧ Kept [] w W2) ⟨Blk.cast ((((((((((((((HW.out.2.2.set_ 0 _).set_ 1 _).set_ 2 _).set_ 3 _).set_ 4 _).set_ 5 _).set_ 6 _).set_ 7 _).set_ 8 _).set_ 9 _).set_ 10 _).set_ 11 _).set_ 12 _).set_ 13 _).drew (by simp [hdZ, hcells]), ((((((((((((((HW.out.1.setCell hG _).setCell hG _).setCell hG _).setCell hG _).setCell hG _).setCell hG _).setCell hG _).setCell hG _).setCell hG _).setCell hG _).setCell hG _).setCell hG _).setCell hG _).setCell hG _).drew⟩ ?_
  rintro W2 ⟨hb2, hk2⟩
  exact bodyPost_ret (hdr_res hb2 _ rfl) rfl ⟨rfl, hk2⟩
end Go.Proofs.YtfagjhgmmaebfaaGreatDoor
