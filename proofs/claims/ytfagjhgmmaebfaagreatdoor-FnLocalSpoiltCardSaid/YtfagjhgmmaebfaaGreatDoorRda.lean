/- Contracts: the thin package's file and Raw over an archive. -/
import Derived.Test.YtfagjhgmmaebfaaGreatDoorRdn
import Derived.Test.YtfagjhgmmaebfaaGreatDoorAll
import Derived.Deep.AppendLies
namespace Go.Proofs.YtfagjhgmmaebfaaGreatDoor
open Go.RowKit
/-- What a reader's road needs of the memory: the errors, the tables. -/
structure Env (w : World) (ea eu ef : Addr) : Prop where
  eof : ErrAt w 5 ea
  ueof : ErrAt w 4 eu
  fmt : ErrAt w 1 ef
  tabs : Lib.Utf8Tabs 9 10 w
theorem Env.kept0 {w w' : World} {ea eu ef : Addr} (h : Env w ea eu ef) (k : Kept [] w w') : Env w' ea eu ef :=
  ⟨h.eof.kept k (by simp) (by simp), h.ueof.kept k (by simp) (by simp), h.fmt.kept k (by simp) (by simp), tabs_kept h.tabs k (by simp) (by simp)⟩
theorem Kept.below0 {w w' : World} (hb : Below w.heap.size w w') : Kept [] w w' := Kept.of_below hb []
set_option maxRecDepth 100000 in
set_option maxHeartbeats 1000000 in
theorem File_arch {w : World} {s cl : List UInt8} {is : List Item} {ea eu ef : Addr} (hS : RdS s is cl) (hfit : is.length * 30 ≤ (filesB is).length) (hV : Env w ea eu ef) (k : Nat) (hk : k < is.length) :
    Calls Tryz.prog 26 #[.string ⟨s.toArray⟩, .int .i64 k] w fun e w' => ∃ B zb fb, e = .returned (.tuple #[.pointer (some ⟨fb, 0, none⟩), .int .i64 0]) ∧ FileAt w' B zb w.heap.size fb is[k].cen (offs is k) ∧ Blk w' w.heap.size 89 #[.string ⟨s.toArray⟩, .int .i64 0, .int .i64 (-1)] ∧ Kept [] w w' := by
  have hsz : (ByteArray.mk s.toArray).size = s.length := rfl
  have hsh := hS.short
  obtain ⟨w0, hw0⟩ : ∃ w0, w0 = w.alloc (.cells #[.string ⟨s.toArray⟩, .int .i64 0, .int .i64 (-1)] 89) := ⟨_, rfl⟩
  have hr0 : Blk w0 w.heap.size 89 #[.string ⟨s.toArray⟩, .int .i64 0, .int .i64 (-1)] := by rw [hw0]; exact Blk.new _ _ _
  have hk0 : Kept [] w w0 := by rw [hw0]; exact (Kept.refl _ _).alloc _
  have hV0 := hV.kept0 hk0
  have hN := Lib.hid (NewReader_arch hS rfl hfit _ _ hr0 ea eu ef hV0.eof hV0.ueof hV0.fmt hV0.tabs)
  have hmany := hS.many
  have H := Lib.hid (And.intro hw0 (And.intro hr0 hk0))
  clear hS hfit hV hV0 hr0 hk0 hw0
  go_enter Tryz.func26, Tryz.ntmps26
  go_wp2_with fail
  refine (StrReader_new s _).mono ?_
  rintro e w1 ⟨rfl, rfl⟩
  rw [← H.out.1]
  go_wp2_with fail
  refine hN.out.mono ?_
  rintro e w2 ⟨zb, rfl, hR⟩
  obtain ⟨⟨B, A, c, x1, base, fbs, hz, ho, hlen, hfiles, hB1, hB2, hB3⟩, hbel⟩ := hR
  obtain ⟨g, cap, hA, hbg, hgl⟩ := ho.form (by omega)
  injection hA with hA _ _
  subst hA
  obtain ⟨fb, hfb⟩ : ∃ fb, fbs[k]? = some fb := ⟨fbs[k], List.getElem?_eq_getElem (by omega)⟩
  have z1 : w2.cell? ⟨zb, 1, none⟩ = some (.slice (some ⟨g, 0, none⟩) is.length c) := hz.cell 1
  have gk : w2.cell? ⟨g, k, none⟩ = some (.pointer (some ⟨fb, 0, none⟩)) := by
    have := ho.cells (g := g) rfl k (filV fb) (by rw [List.getElem?_map, hfb]; rfl)
    rw [add_at] at this
    simpa [filV] using this
  have hk2 : (k : Int) < is.length := by omega
  have hF := hfiles k fb _ hfb (List.getElem?_eq_getElem hk)
  have HX := Lib.hid (And.intro hF (And.intro (H.out.2.1.below hbel H.out.2.1.lt) (H.out.2.2.trans (Kept.of_below hbel []))))
  clear hz ho hlen hfiles hB1 hB2 hB3 hbel hfb hF hbg hgl
  go_wp2
  go_ret2
  exact ⟨B, zb, fb, rfl, HX.out.1, HX.out.2.1, HX.out.2.2⟩
set_option maxHeartbeats 1000000 in
theorem Raw_bad {w : World} {s cl : List UInt8} {is : List Item} {ea eu ef : Addr} (hS : RdS s is cl) (hfit : is.length * 30 ≤ (filesB is).length) (hV : Env w ea eu ef) (k : Nat) (hk : k < is.length) (ho : offs is k + 30 ≤ s.length) (hv : numL (sub s (offs is k) 4) ≠ 67324752) :
    Calls Tryz.prog 15 #[.string ⟨s.toArray⟩, .int .i64 k] w fun e w' => e = .returned (.tuple #[.string ⟨#[]⟩, .int .i64 1]) ∧ Kept [] w w' := by
  have H1 := Lib.hid (File_arch hS hfit hV k hk)
  have HV := Lib.hid (And.intro hV (And.intro hS.short (And.intro ho hv)))
  clear hS hfit hV ho hv
  go_enter Tryz.func15, Tryz.ntmps15
  go_wp2_with fail
  refine H1.out.mono ?_
  rintro e w1 ⟨B, zb, fb, rfl, hf, hr, hk1⟩
  have hV1 := HV.out.1.kept0 hk1
  have H2 := Lib.hid (OpenRaw_bad hf hr HV.out.2.1 HV.out.2.2.1 HV.out.2.2.2 hV1.fmt)
  have HK1 := Lib.hid (And.intro hk1 hV1)
  clear hf hr hk1 hV1
  go_wp2_with fail
  refine H2.out.mono ?_
  rintro e w2 ⟨rfl, hk2⟩
  have H3 := Lib.hid (Fault_fmt (HK1.out.2.kept0 hk2).fmt)
  have HK2 := Lib.hid (HK1.out.1.trans hk2)
  clear hk2
  go_wp2_with fail
  refine H3.out.mono ?_
  rintro e w3 ⟨rfl, hk3⟩
  have HK3 := Lib.hid (HK2.out.trans hk3)
  clear hk3
  go_wp2
  go_ret2
  exact ⟨rfl, HK3.out⟩
set_option maxHeartbeats 1000000 in
theorem Raw_ok {w : World} {s cl : List UInt8} {is : List Item} {ea eu ef : Addr} (hS : RdS s is cl) (hfit : is.length * 30 ≤ (filesB is).length) (hV : Env w ea eu ef) (k : Nat) (hk : k < is.length) (d r : List UInt8) (hl : s.drop (offs is k) = localB is[k].loc ++ (d ++ r)) (hF : is[k].loc.Fits) (hp : is[k].cen.packed = d.length) :
    Calls Tryz.prog 15 #[.string ⟨s.toArray⟩, .int .i64 k] w fun e w' => e = .returned (.tuple #[.string ⟨d.toArray⟩, .int .i64 0]) ∧ Kept [] w w' := by
  have H1 := Lib.hid (File_arch hS hfit hV k hk)
  have hla := local_at hl
  have hlen := congrArg List.length hl
  simp only [List.length_drop, List.length_append, localB_length] at hlen
  have hd : (s.drop (offs is k + (30 + is[k].loc.name.length + is[k].loc.extra.length))).take d.length = d := by
    rw [← List.drop_drop, hl, List.drop_append_of_le_length (by rw [localB_length]; exact Nat.le_refl _), List.drop_of_length_le (by rw [localB_length]; exact Nat.le_refl _), List.nil_append, List.take_left]
  have h1 : numL (sub s (offs is k) 4) = 67324752 := by have := hla.sig; rw [this]; rfl
  have h2 : numL (sub s (offs is k + 26) 2) = is[k].loc.name.length := by rw [hla.nlen]; exact leB2 _ hF.name
  have h3 : numL (sub s (offs is k + 28) 2) = is[k].loc.extra.length := by rw [hla.xlen]; exact leB2 _ hF.extra
  have HV := Lib.hid (And.intro hV (And.intro hS.short (And.intro h1 (And.intro h2 (And.intro h3 (And.intro hd (And.intro hlen hp)))))))
  clear hS hfit hV h1 h2 h3 hla hl hd hlen hp
  go_enter Tryz.func15, Tryz.ntmps15
  go_wp2_with fail
  refine H1.out.mono ?_
  rintro e w1 ⟨B, zb, fb, rfl, hf, hr, hk1⟩
  have hV1 := HV.out.1.kept0 hk1
  have H2 := Lib.hid (OpenRaw_ok hf hr HV.out.2.1 (by have := HV.out; omega) HV.out.2.2.1 HV.out.2.2.2.1 HV.out.2.2.2.2.1 (by have := HV.out; omega) hV1.fmt)
  have HK1 := Lib.hid (And.intro hk1 (And.intro hV1 hr))
  clear hf hr hk1 hV1
  go_wp2_with fail
  refine H2.out.mono ?_
  rintro e w2 ⟨sb, rfl, hsb, hB2, hk2⟩
  have hV2 := HK1.out.2.1.kept0 hk2
  have hA := All_any hB2 (hk2.blk HK1.out.2.2 (by simp)) (by have := HV.out; omega) HV.out.2.1 ea hV2.eof ⟨Nat.lt_of_lt_of_le HK1.out.2.1.eof.lt.1 hsb, Nat.lt_of_lt_of_le HK1.out.2.1.eof.lt.2 hsb⟩
  rw [HV.out.2.2.2.2.2.2.2, HV.out.2.2.2.2.2.1] at hA
  have H3 := Lib.hid hA
  have HK2 := Lib.hid (And.intro (HK1.out.1.trans hk2) (And.intro hsb HK1.out.1.size))
  clear hk2 hA hV2 hB2 hsb
  go_wp2_with fail
  refine H3.out.mono ?_
  rintro e w3 ⟨rfl, hk3⟩
  have HK3 := Lib.hid (HK2.out.1.trans' hk3 (fun x hx => .inr (by simp at hx; have := HK2.out.2; omega)))
  clear hk3
  go_wp2
  go_ret2
  exact ⟨rfl, HK3.out⟩
end Go.Proofs.YtfagjhgmmaebfaaGreatDoor
/- Contract: the thin package's Read over an archive. -/
namespace Go.Proofs.YtfagjhgmmaebfaaGreatDoor
open Go.RowKit
/-- The headers that are told of items. -/
def toldI (is : List Item) : List Value := is.flatMap (fun i => hcells i.cen (nonU i.cen))
theorem told_take (is : List Item) (k : Nat) (hk : k < is.length) : toldI (is.take (k + 1)) = toldI (is.take k) ++ hcells is[k].cen (nonU is[k].cen) := by
  unfold toldI
  rw [List.take_succ_eq_append_getElem hk, List.flatMap_append]
  simp
/-- How far Read has come. -/
structure RdI (w0 W : World) (lb : Nat) (cl : List UInt8) (is : List Item) (k : Nat) (A : Option Addr) (c : Nat) : Prop where
  lst : Blk W lb 33 #[.bool true, .string ⟨cl.toArray⟩, .slice A k c]
  own : W.ownsRow w0.heap.size 39 14 (.slice A k c) k (toldI (is.take k))
  kept : Kept [lb] w0 W
set_option maxRecDepth 100000 in
set_option maxHeartbeats 4000000 in
theorem Read_arch {w : World} {s cl : List UInt8} {is : List Item} {ea eu ef : Addr} (hS : RdS s is cl) (hfit : is.length * 30 ≤ (filesB is).length) (hV : Env w ea eu ef) (hN : 0 < is.length) :
    Calls Tryz.prog 13 #[.string ⟨s.toArray⟩] w fun e w' => ∃ A c, e = .returned (.agg #[.bool true, .string ⟨cl.toArray⟩, .slice A is.length c]) ∧ Reads w' w'.heap.size 14 A is.length (toldI is) ∧ Kept [] w w' := by
  obtain ⟨j0, hi, hz0, hz1, hz2⟩ := info_parts infoHd
  have hsz : (ByteArray.mk s.toArray).size = s.length := rfl
  have hsh := hS.short
  obtain ⟨wa, hwa⟩ : ∃ wa, wa = (w.alloc (.cells #[.bool false, .string ⟨#[]⟩, .slice none 0 0] 33)).alloc (.cells #[.string ⟨s.toArray⟩, .int .i64 0, .int .i64 (-1)] 89) := ⟨_, rfl⟩
  obtain ⟨rb, hrb⟩ : ∃ rb, rb = w.heap.size + 1 := ⟨_, rfl⟩
  have hl0 : Blk wa w.heap.size 33 #[.bool false, .string ⟨#[]⟩, .slice none 0 0] := by rw [hwa]; exact (Blk.new _ _ _).alloc _
  have hr0 : Blk wa rb 89 #[.string ⟨s.toArray⟩, .int .i64 0, .int .i64 (-1)] := by rw [hwa, hrb]; exact Blk.newAt _ _ _ _ (by simp)
  have hk0 : Kept [] w wa := by rw [hwa]; exact ((Kept.refl _ _).alloc _).alloc _
  have hV0 := hV.kept0 hk0
  have hNR := Lib.hid (NewReader_arch hS rfl hfit _ _ hr0 ea eu ef hV0.eof hV0.ueof hV0.fmt hV0.tabs)
  have hmany := hS.many
  have H := Lib.hid (And.intro hwa (And.intro hl0 (And.intro hk0 (And.intro hS.fit hrb))))
  clear hS hfit hV hV0 hr0 hk0 hwa hl0 hrb
  go_enter Tryz.func13, Tryz.ntmps13
  go_wp2_with fail
  refine (StrReader_new s _).mono ?_
  rintro e w1 ⟨rfl, rfl⟩
  rw [← H.out.1]
  go_wp2_with fail
  try rw [← H.out.2.2.2.2]
  refine hNR.out.mono ?_
  rintro e w2 ⟨zb, rfl, hR⟩
  obtain ⟨⟨B, A0, c0, x1, base, fbs, hz, ho, hlen, hfiles, hB1, hB2, hB3⟩, hbel⟩ := hR
  obtain ⟨g, cap, hA, hbg, hgl⟩ := ho.form (by omega)
  injection hA with hA _ _
  subst hA
  have z1 : w2.cell? ⟨zb, 1, none⟩ = some (.slice (some ⟨g, 0, none⟩) is.length c0) := hz.cell 1
  have z2 : w2.cell? ⟨zb, 2, none⟩ = some (.string ⟨cl.toArray⟩) := hz.cell 2
  have hzl := hz.lt
  have HR := Lib.hid (And.intro hz (And.intro ho (And.intro hlen (And.intro hfiles (And.intro hbel hB1)))))
  clear hz ho hlen hfiles hB1 hB2 hB3 hbel hbg
  go_upto_region 5 with (fail)
  obtain ⟨lb, hlb⟩ : ∃ lb, lb = w2.heap.size := ⟨_, rfl⟩
  rw [← hlb]
  have h0 : ∃ W, W = w2.alloc (.cells #[.bool true, .string ⟨cl.toArray⟩, .slice none 0 0] 33) := ⟨_, rfl⟩
  refine at_world (fun W => RdI W W lb cl is 0 none 0 ∧ Kept [] w2 W ∧ lb < W.heap.size) ⟨⟨by rw [hlb]; exact Blk.new _ _ _, World.ownsRow_nil _ _ _ _, Kept.refl _ _⟩, (Kept.refl _ _).alloc _, by rw [hlb]; simp⟩ ?_
  rintro W0 ⟨hI0, hk20, hlbl⟩
  have HG := Lib.hid (And.intro hI0 (And.intro hk20 hlb))
  have z1' : W0.cell? ⟨zb, 1, none⟩ = some (.slice (some ⟨g, 0, none⟩) is.length c0) := (hk20.cell (p := ⟨zb, 1, none⟩) hzl (by simp)).trans z1
  clear hI0 hk20 hlb z1 z2 hzl h0
  go_wp2_with fail
  clear z1'
  have hfl : ∀ k (hk : k < is.length), ∃ fb, W0.cell? ⟨g, k, none⟩ = some (.pointer (some ⟨fb, 0, none⟩)) ∧ FileAt W0 B zb rb fb is[k].cen (offs is k) := fun k hk => by
    have hln := HR.out.2.2.1
    refine ⟨fbs[k], ?_, (HR.out.2.2.2.1 k _ _ (List.getElem?_eq_getElem (by omega)) (List.getElem?_eq_getElem hk)).kept HG.out.2.1 (by simp)⟩
    have := HR.out.2.1.cells (g := g) rfl k (filV fbs[k]) (by rw [List.getElem?_map, List.getElem?_eq_getElem (by omega)]; rfl)
    rw [add_at] at this
    rw [HG.out.2.1.cell (p := ⟨g, k, none⟩) hgl (by simp)]
    simpa [filV] using this
  have HFL := Lib.hid hfl
  have hglb : g ≠ lb := by have := HG.out.2.2; omega
  have hgl0 : g < W0.heap.size := Nat.lt_of_lt_of_le hgl HG.out.2.1.size
  clear hfl
  go_loopw [30] (fun s30 W => ∃ (k : Nat) (A : Option Addr) (c : Nat), s30 = .int .i64 k ∧ k ≤ is.length ∧ Hid (RdI W0 W lb cl is k A c)) (fun s30 _ => is.length - (intOf s30).toNat)
  case atStart => exact ⟨0, none, 0, rfl, Nat.zero_le _, Lib.hid HG.out.1⟩
  case round =>
    obtain ⟨k, A, c, rfl, hk, HI⟩ := hrel
    by_cases hlt : k < is.length
    · have hki : (k : Int) < is.length := by omega
      obtain ⟨fb, hgk0, hfa0⟩ := HFL.out k hlt
      have hgk : wr.cell? ⟨g, k, none⟩ = some (.pointer (some ⟨fb, 0, none⟩)) := (HI.out.kept.cell (p := ⟨g, k, none⟩) hgl0 (by simpa using hglb)).trans hgk0
      have hfa := hfa0.kept HI.out.kept (fun x hx => by
        simp only [List.mem_cons, List.not_mem_nil, or_false] at hx
        subst hx
        exact .inr (.inr ⟨_, _, HG.out.1.lst, by decide, by decide⟩))
      have hfit := (H.out.2.2.2.1 _ (List.getElem_mem hlt)).1
      obtain ⟨h, hh⟩ : ∃ h, h = is[k].cen := ⟨_, rfl⟩
      rw [← hh] at hfa hfit
      obtain ⟨nu, hnu⟩ : ∃ nu, nu = nonU h := ⟨_, rfl⟩
      have hhd : ∀ X, Kept [] wr X → Calls Tryz.prog 24 #[.pointer (some ⟨fb, 0, none⟩)] X fun e w' => e = .returned (.agg #[.string ⟨h.name.toArray⟩, .string ⟨h.comment.toArray⟩, .string ⟨h.extra.toArray⟩, .bool nu, .int .i64 h.creator, .int .i64 h.reader, .int .i64 h.flags, .int .i64 h.method, .int .i64 h.time, .int .i64 h.date, .int .i64 h.crc, .int .i64 h.packed, .int .i64 h.size, .int .i64 h.external]) ∧ Kept [] X w' := fun X kk => by rw [hnu]; exact Header_any (hfa.kept kk (by simp)) hfit
      have HHd := Lib.hid hhd
      have HH := Lib.hid (And.intro hh hnu)
      have l2 : wr.cell? ⟨lb, 2, none⟩ = some (.slice A k c) := HI.out.lst.cell 2
      have lf := HI.out.lst.frozen
      have hW0 := HI.out.kept.size
      clear hgk0 hfa0 hfa hfit hh hnu hhd
      go_upto_region 8 with (fail)
      go_region_law (first
          | (refine step_append_lies _ (by rfl) _ _ _ (by rfl) W0.heap.size 39 j0 _ 14 136 Tryz.underlying31 hi hz0 hz1 hz2 rfl (by decide) (.slice A k c) k (toldI (is.take k)) (by rfl) (HK1.out.2.2.alloc _)
              ⟨w1.heap.size, 0, none⟩ 1 1 (hcells h nu) (by rfl) (by rfl) (World.news_of_block (cs := (hcells h nu).toArray) (t := 39) (fr := (0, 0)) (heap_alloc_new w1 _)) (hc_one _ _)
              (by omega) (by unfold maxLen; omega) (by omega) (by have := HK1.out.1.size; simp; omega) (w1.heap.size + 1) (by simp) ?_
             intro gg cap6 w6 hown6 hgrow hat hlt6
             have hl6 := (HK1.out.2.1.alloc (.cells (hcells h nu).toArray 39)).grown hgrow (fun e => own_blk_ne HK1.out.2.2 HK1.out.2.1 (by decide) e.symm)
             have l26 : w6.cell? ⟨lb, 2, none⟩ = some (.slice A k c) := hl6.cell 2
             have lf6 := hl6.frozen
             have HX6 := Lib.hid (And.intro hl6 (And.intro hown6 (And.intro hgrow hat)))
             clear hl6 hown6 hgrow hat)
          | (go_simp; go_at_call 24; refine (HHd.out _ ((Kept.refl [] wr).drew)).mono ?_; rintro e w1 ⟨rfl, hk1⟩
             have hl1 := hk1.blk HI.out.lst.drew (by simp)
             have ho1 := owns_kept (owns_kept HI.out.own ((Kept.refl [] wr).drew) (by simp)) hk1 (by simp)
             have HK1 := Lib.hid (And.intro (((Kept.refl [] wr).drew).trans hk1) (And.intro hl1 ho1))
             have l2' : w1.cell? ⟨lb, 2, none⟩ = some (.slice A k c) := hl1.cell 2
             have lf' := hl1.frozen
             have l2a : ∀ ob, (w1.alloc ob).cell? ⟨lb, 2, none⟩ = some (.slice A k c) := fun ob => (hl1.alloc ob).cell 2
             clear hk1 hl1 ho1))
      all_goals
       go_wp2
       go_roundw
       case rel =>
        have hne := own_blk_ne HX6.out.2.1 HX6.out.1 (by decide)
        have hkk : Kept [lb] W0 w6 := (((HI.out.kept.trans' HK1.out.1 (by simp)).alloc _).grown HX6.out.2.2.1 (fun q hq => .inr (HK1.out.2.2.lt q hq).1))
        refine ⟨k + 1, some ⟨gg, 0, none⟩, cap6, by go_num, by omega, Lib.hid ⟨Blk.cast (HX6.out.1.set_ 2 _) (by simp), ?_, hkk.setCell (by simp) _⟩⟩
        rw [told_take is k hlt, ← HH.out.1, ← HH.out.2]
        exact owns_far HX6.out.2.1 hne _
       case measure => simp [intOf]; omega
    · obtain rfl : k = is.length := by omega
      obtain ⟨lr, hlr⟩ : ∃ lr, lr = w.heap.size := ⟨_, rfl⟩
      have hlrw : lr < wa.heap.size := by rw [hlr]; exact H.out.2.1.lt
      have hl2 : Blk w2 lr 33 #[.bool false, .string ⟨#[]⟩, .slice none 0 0] := by rw [hlr]; exact H.out.2.1.below HR.out.2.2.2.2.1 (by rw [← hlr]; exact hlrw)
      have hne : lr ≠ lb := by have := hl2.lt; have := HG.out.2.2; omega
      have hlw := HI.out.kept.blk (HG.out.2.1.blk hl2 (by simp)) (by simpa using hne)
      have r0 : wr.cell? ⟨lr, 0, none⟩ = some (.bool false) := hlw.cell 0
      have r1 : wr.cell? ⟨lr, 1, none⟩ = some (.string ⟨#[]⟩) := hlw.cell 1
      have r2 : wr.cell? ⟨lr, 2, none⟩ = some (.slice none 0 0) := hlw.cell 2
      have rf := hlw.frozen
      have l0 : wr.cell? ⟨lb, 0, none⟩ = some (.bool true) := HI.out.lst.cell 0
      have l1 : wr.cell? ⟨lb, 1, none⟩ = some (.string ⟨cl.toArray⟩) := HI.out.lst.cell 1
      have l2 : wr.cell? ⟨lb, 2, none⟩ = some (.slice A is.length c) := HI.out.lst.cell 2
      have hown := HI.out.own
      rw [List.take_length] at hown
      have hnr : (Value.slice A is.length c).ownBlock ≠ some lr := own_blk_ne hown hlw (by decide)
      have hkw : Kept [] w wr := ((H.out.2.2.1.trans (Kept.of_below HR.out.2.2.2.2.1 [])).trans HG.out.2.1).trans' HI.out.kept (fun x hx => .inr (by
        simp only [List.mem_cons, List.not_mem_nil, or_false] at hx
        subst hx
        have h1 := hl2.lt
        have h2 := HG.out.2.2
        omega))
      have HL := Lib.hid (And.intro hlw (And.intro hown (And.intro hnr (And.intro hkw hlr))))
      rw [← hlr]
      clear hlrw hl2 hlw hown hnr hkw hlr
      go_wp2
      have hG : lr ∈ ([] : List Nat) ∨ w.heap.size ≤ lr := .inr (Nat.le_of_eq HL.out.2.2.2.2.symm)
      refine atX (fun W2 => Blk W2 lr 33 #[.bool true, .string ⟨cl.toArray⟩, .slice A is.length c] ∧ Reads W2 W2.heap.size 14 A is.length (toldI is) ∧ Kept [] w W2) ⟨Blk.cast (((HL.out.1.set_ 0 _).set_ 1 _).set_ 2 _) (by simp), Reads.of_own (owns_far (owns_far (owns_far HL.out.2.1 HL.out.2.2.1 _) HL.out.2.2.1 _) HL.out.2.2.1 _), ((HL.out.2.2.2.1.setCell hG _).setCell hG _).setCell hG _⟩ ?_
      clear r0 r1 r2 rf l0 l1 l2
      rintro W2 ⟨hb2, hrd, hk2⟩
      have l0 : W2.cell? ⟨lr, 0, none⟩ = some (.bool true) := hb2.cell 0
      have l1 : W2.cell? ⟨lr, 1, none⟩ = some (.string ⟨cl.toArray⟩) := hb2.cell 1
      have l2 : W2.cell? ⟨lr, 2, none⟩ = some (.slice A is.length c) := hb2.cell 2
      exact bodyPost_ret (v := .agg #[.bool true, .string ⟨cl.toArray⟩, .slice A is.length c]) (by simp [results, Tryz.results13, go_sem, l0, l1, l2]) rfl ⟨A, c, rfl, hrd, hk2⟩
end Go.Proofs.YtfagjhgmmaebfaaGreatDoor
