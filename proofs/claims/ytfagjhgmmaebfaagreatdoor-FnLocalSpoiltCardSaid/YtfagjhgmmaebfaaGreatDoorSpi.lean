/- Contracts: spec.NonUTF8, spec.Listed. -/
import Derived.Test.YtfagjhgmmaebfaaGreatDoorSph
import Derived.Test.YtfagjhgmmaebfaaGreatDoorValid
namespace Go.Proofs.YtfagjhgmmaebfaaGreatDoor
open Go.RowKit
/-- Whether name and comment are not told as UTF-8. -/
def nonU (h : Hd) : Bool := !(validL h.name).1 || (!(validL h.comment).1 || (((validL h.name).2 || (validL h.comment).2) && decide (h.flags / 2048 % 2 = 0)))
def hcells (h : Hd) (nu : Bool) : List Value := [.string ⟨h.name.toArray⟩, .string ⟨h.comment.toArray⟩, .string ⟨h.extra.toArray⟩, .bool nu, .int .i64 h.creator, .int .i64 h.reader, .int .i64 h.flags, .int .i64 h.method, .int .i64 h.time, .int .i64 h.date, .int .i64 h.crc, .int .i64 h.packed, .int .i64 h.size, .int .i64 h.external]
set_option maxRecDepth 100000 in
set_option maxHeartbeats 2000000 in
theorem NonUTF8_any (h : Hd) (nu : Bool) (hF : h.Fits) (w : World) :
    Calls Tryz.prog 25 #[.agg #[.string ⟨h.name.toArray⟩, .string ⟨h.comment.toArray⟩, .string ⟨h.extra.toArray⟩, .bool nu, .int .i64 h.creator, .int .i64 h.reader, .int .i64 h.flags, .int .i64 h.method, .int .i64 h.time, .int .i64 h.date, .int .i64 h.crc, .int .i64 h.packed, .int .i64 h.size, .int .i64 h.external]] w fun e w' => e = .returned (.bool (nonU h)) ∧ Below w.heap.size w w' := by
  have f1 := hF.name; have f2 := hF.comment; have f6 := hF.flags
  obtain ⟨W, hW⟩ : ∃ W, W = w.alloc (.cells #[.string ⟨h.name.toArray⟩, .string ⟨h.comment.toArray⟩, .string ⟨h.extra.toArray⟩, .bool nu, .int .i64 h.creator, .int .i64 h.reader, .int .i64 h.flags, .int .i64 h.method, .int .i64 h.time, .int .i64 h.date, .int .i64 h.crc, .int .i64 h.packed, .int .i64 h.size, .int .i64 h.external] 39) := ⟨_, rfl⟩
  have hB : Blk W w.heap.size 39 #[.string ⟨h.name.toArray⟩, .string ⟨h.comment.toArray⟩, .string ⟨h.extra.toArray⟩, .bool nu, .int .i64 h.creator, .int .i64 h.reader, .int .i64 h.flags, .int .i64 h.method, .int .i64 h.time, .int .i64 h.date, .int .i64 h.crc, .int .i64 h.packed, .int .i64 h.size, .int .i64 h.external] := by rw [hW]; exact Blk.new _ _ _
  have hK : Below w.heap.size w W := by rw [hW]; exact (Below.refl _ _).alloc (Nat.le_refl _) _
  have V1 := Lib.hid (Valid_any h.name (by omega) W)
  have V2 := Lib.hid (Valid_any h.comment (by omega) W)
  obtain ⟨a, ha⟩ : ∃ a, (validL h.name).1 = a := ⟨_, rfl⟩
  obtain ⟨x, hx⟩ : ∃ x, (validL h.name).2 = x := ⟨_, rfl⟩
  obtain ⟨b, hb⟩ : ∃ b, (validL h.comment).1 = b := ⟨_, rfl⟩
  obtain ⟨y, hy⟩ : ∃ y, (validL h.comment).2 = y := ⟨_, rfl⟩
  rw [ha, hx] at V1
  rw [hb, hy] at V2
  have HV := Lib.hid (show nonU h = (!a || (!b || ((x || y) && decide (h.flags / 2048 % 2 = 0)))) by unfold nonU; rw [ha, hx, hb, hy])
  have k0 : W.cell? ⟨w.heap.size, 0, none⟩ = some (.string ⟨h.name.toArray⟩) := hB.cell 0
  have k1 : W.cell? ⟨w.heap.size, 1, none⟩ = some (.string ⟨h.comment.toArray⟩) := hB.cell 1
  have k6 : W.cell? ⟨w.heap.size, 6, none⟩ = some (.int .i64 h.flags) := hB.cell 6
  obtain ⟨f, hf⟩ : ∃ f, f = h.flags := ⟨_, rfl⟩
  rw [← hf] at k6 HV f6
  obtain ⟨q, hq⟩ : ∃ q : Nat, q = f / 2048 := ⟨_, rfl⟩
  obtain ⟨r, hr⟩ : ∃ r : Nat, r = q % 2 := ⟨_, rfl⟩
  have hd : (f : Int).tdiv 2048 = (q : Int) := by rw [hq]; rfl
  have hm : (q : Int).tmod 2 = (r : Int) := by rw [hr]; rfl
  have hw1 : IntKind.i64.wrap (q : Int) = (q : Int) := IntWalk.i64_in _ (by omega)
  have hw2 : IntKind.i64.wrap (r : Int) = (r : Int) := IntWalk.i64_in _ (by omega)
  have hv : decide (f / 2048 % 2 = 0) = ((r : Int) == 0) := by rw [Bool.eq_iff_iff]; simp; omega
  rw [hv] at HV
  have HW := Lib.hid (And.intro hW hK)
  clear hq hr hv hW hK hB ha hx hb hy hf hF
  go_enter Tryz.func25, Tryz.ntmps25
  go_upto_region 1 with (fail)
  refine atW (fun W1 => W1 = W) HW.out.1.symm ?_
  rintro W1 rfl
  go_wp2_with fail
  refine V1.out.mono ?_
  rintro e w1 ⟨rfl, rfl⟩
  go_wp2_with fail
  refine V2.out.mono ?_
  rintro e w1 ⟨rfl, rfl⟩
  clear V1 V2
  cases a <;> cases b <;> cases x <;> cases y
  all_goals
    go_wp2
    go_ret
    exact ⟨by rw [HV.out]; rfl, HW.out.2⟩
theorem own_ne {w : World} {base n size g : Nat} {e t : TypeId} {v : Value} {xs : List Value} {cs : Array Value} (h : w.ownsRow base e size v n xs) (hb : Blk w g t cs) (he : e ≠ t) : ∀ g', v.ownBlock = some g' → g' ∉ [g] := by
  intro g' hg'
  rcases h.2 with ⟨hv, _⟩ | ⟨g2, cap, cur, hv, _, hh, _⟩
  · rw [hv] at hg'; cases hg'
  · rw [hv] at hg'
    injection hg' with hg'
    subst hg'
    simpa using Blk.ne_ hh hb he
theorem hc_take (L : List En) (k : Nat) (hk : k < L.length) : (L.take (k + 1)).flatMap (fun e => hcells (hdR e) (nonU (hdR e))) = (L.take k).flatMap (fun e => hcells (hdR e) (nonU (hdR e))) ++ hcells (hdR L[k]) (nonU (hdR L[k])) := by
  rw [List.take_succ_eq_append_getElem hk, List.flatMap_append]
  simp
theorem hc_one (h : Hd) (nu : Bool) : ∀ u ∈ hcells h nu, u.oneCell' = true := fun u he => by
  simp only [hcells, List.mem_cons, List.not_mem_nil, or_false] at he
  rcases he with rfl | rfl | rfl | rfl | rfl | rfl | rfl | rfl | rfl | rfl | rfl | rfl | rfl | rfl <;> rfl
def hdZ : Array Value := #[.string ⟨#[]⟩, .string ⟨#[]⟩, .string ⟨#[]⟩, .bool false, .int .i64 0, .int .i64 0, .int .i64 0, .int .i64 0, .int .i64 0, .int .i64 0, .int .i64 0, .int .i64 0, .int .i64 0, .int .i64 0]
theorem infoHd : (Tryz.prog.info? 39).map (fun i => (i.zero, i.size, i.bytes)) = some (some (.agg hdZ), 14, 136) := by kernel_rfl
set_option maxRecDepth 100000 in
set_option maxHeartbeats 4000000 in
theorem Listed_any {w : World} (A : Option Addr) (c : Nat) (L : List En) (hn : L.length ≤ 1000) (hr : Reads w w.heap.size 15 A L.length (L.flatMap En.cells)) (hL : ∀ e ∈ L, e.OkA) :
    Calls Tryz.prog 14 #[.slice A L.length c] w fun e' w' => (∃ v, e' = .returned v ∧ w'.ownsRow w.heap.size 39 14 v L.length (L.flatMap (fun e => hcells (hdR e) (nonU (hdR e))))) ∧ Below w.heap.size w w' := by
  obtain ⟨i0, hi, hz0, hz1, hz2⟩ := info_parts infoHd
  have H := Lib.hid (And.intro hr hL)
  clear hr hL
  go_enter Tryz.func14, Tryz.ntmps14
  go_wp2_with fail
  refine atW (fun W => W.ownsRow w.heap.size 39 14 (.slice (some ⟨w.heap.size, 0, none⟩) 0 0) 0 [] ∧ Below w.heap.size w W) ⟨World.ownsRow_made w #[] 0 (Nat.le_refl _) (by decide) rfl, (Below.refl _ _).alloc (Nat.le_refl _) _⟩ ?_
  rintro W0 hW0
  have HW := Lib.hid hW0
  clear hW0
  go_loopw [3, 9] (fun s3 s9 wr => ∃ k : Nat, s9 = .int .i64 k ∧ k ≤ L.length ∧ Hid (Below w.heap.size w wr ∧ wr.ownsRow w.heap.size 39 14 s3 k ((L.take k).flatMap (fun e => hcells (hdR e) (nonU (hdR e)))))) (fun _ s9 _ => L.length - (intOf s9).toNat)
  case atStart => exact ⟨0, rfl, Nat.zero_le _, Lib.hid ⟨HW.out.2, HW.out.1⟩⟩
  case round =>
    obtain ⟨k, rfl, hk, HI⟩ := hrel
    clear HW
    obtain ⟨A3, cq, hv3⟩ := own_sliceA HI.out.2
    subst hv3
    by_cases hlt : k < L.length
    ·
      obtain ⟨ad, hA, hab, hcell⟩ := H.out.1.2 (by omega)
      subst hA
      have hok := H.out.2 _ (List.getElem_mem hlt)
      obtain ⟨h, hh⟩ : ∃ h, h = hdR L[k] := ⟨_, rfl⟩
      obtain ⟨nu, hnu⟩ : ∃ nu, nu = L[k].nu := ⟨_, rfl⟩
      obtain ⟨d, hd⟩ : ∃ d, d = L[k].data := ⟨_, rfl⟩
      have hF := hdR_fits hok
      have hdl := hok.data
      have hce := cells_R hok
      rw [← hh] at hF
      rw [← hd] at hdl
      rw [← hh, ← hnu, ← hd] at hce
      have hcs : ∀ (j : Nat) (v : Value), (cellsH h nu d)[j]? = some v → wr.cell? (ad.add (k * 15 + j)) = some v := fun j v hj => by
        have hj15 : j < 15 := by
          have := (List.getElem?_eq_some_iff.1 hj).1; exact this
        have := hcell (k * 15 + j) v (by rw [flat_cells L k j hlt hj15, hce]; exact hj)
        rw [← this]
        exact HI.out.1.cell (by rw [block_of_add]; exact hab)
      have c0 : wr.cell? (ad.add (k * 15)) = some (.string ⟨h.name.toArray⟩) := hcs 0 _ rfl
      have c1 : wr.cell? ⟨(ad.add (k * 15)).block, (ad.add (k * 15)).off + 1, none⟩ = some (.string ⟨h.comment.toArray⟩) := by rw [add_off _ _ _ (by decide)]; exact hcs 1 _ rfl
      have c2 : wr.cell? ⟨(ad.add (k * 15)).block, (ad.add (k * 15)).off + 2, none⟩ = some (.string ⟨h.extra.toArray⟩) := by rw [add_off _ _ _ (by decide)]; exact hcs 2 _ rfl
      have c3 : wr.cell? ⟨(ad.add (k * 15)).block, (ad.add (k * 15)).off + 3, none⟩ = some (.bool nu) := by rw [add_off _ _ _ (by decide)]; exact hcs 3 _ rfl
      have c4 : wr.cell? ⟨(ad.add (k * 15)).block, (ad.add (k * 15)).off + 4, none⟩ = some (.int .i64 h.creator) := by rw [add_off _ _ _ (by decide)]; exact hcs 4 _ rfl
      have c5 : wr.cell? ⟨(ad.add (k * 15)).block, (ad.add (k * 15)).off + 5, none⟩ = some (.int .i64 h.reader) := by rw [add_off _ _ _ (by decide)]; exact hcs 5 _ rfl
      have c6 : wr.cell? ⟨(ad.add (k * 15)).block, (ad.add (k * 15)).off + 6, none⟩ = some (.int .i64 h.flags) := by rw [add_off _ _ _ (by decide)]; exact hcs 6 _ rfl
      have c7 : wr.cell? ⟨(ad.add (k * 15)).block, (ad.add (k * 15)).off + 7, none⟩ = some (.int .i64 h.method) := by rw [add_off _ _ _ (by decide)]; exact hcs 7 _ rfl
      have c8 : wr.cell? ⟨(ad.add (k * 15)).block, (ad.add (k * 15)).off + 8, none⟩ = some (.int .i64 h.time) := by rw [add_off _ _ _ (by decide)]; exact hcs 8 _ rfl
      have c9 : wr.cell? ⟨(ad.add (k * 15)).block, (ad.add (k * 15)).off + 9, none⟩ = some (.int .i64 h.date) := by rw [add_off _ _ _ (by decide)]; exact hcs 9 _ rfl
      have c10 : wr.cell? ⟨(ad.add (k * 15)).block, (ad.add (k * 15)).off + 10, none⟩ = some (.int .i64 h.crc) := by rw [add_off _ _ _ (by decide)]; exact hcs 10 _ rfl
      have c11 : wr.cell? ⟨(ad.add (k * 15)).block, (ad.add (k * 15)).off + 11, none⟩ = some (.int .i64 h.packed) := by rw [add_off _ _ _ (by decide)]; exact hcs 11 _ rfl
      have c12 : wr.cell? ⟨(ad.add (k * 15)).block, (ad.add (k * 15)).off + 12, none⟩ = some (.int .i64 h.size) := by rw [add_off _ _ _ (by decide)]; exact hcs 12 _ rfl
      have c13 : wr.cell? ⟨(ad.add (k * 15)).block, (ad.add (k * 15)).off + 13, none⟩ = some (.int .i64 h.external) := by rw [add_off _ _ _ (by decide)]; exact hcs 13 _ rfl
      have c14 : wr.cell? ⟨(ad.add (k * 15)).block, (ad.add (k * 15)).off + 14, none⟩ = some (.string ⟨d.toArray⟩) := by rw [add_off _ _ _ (by decide)]; exact hcs 14 _ rfl
      have HE := Lib.hid (And.intro hh (And.intro hnu (And.intro hd hF)))
      clear hcs hce hcell hab hh hnu hd hok
      have HN := Lib.hid (NonUTF8_any h nu hF)
      obtain ⟨u, hu⟩ : ∃ u, u = nonU h := ⟨_, rfl⟩
      rw [← hu] at HN
      have HU := Lib.hid hu
      clear hu hF
      go_upto_region 5 with (fail)
      refine atW (fun W => Blk W wr.heap.size 41 #[.string ⟨h.name.toArray⟩, .string ⟨h.comment.toArray⟩, .string ⟨h.extra.toArray⟩, .bool nu, .int .i64 h.creator, .int .i64 h.reader, .int .i64 h.flags, .int .i64 h.method, .int .i64 h.time, .int .i64 h.date, .int .i64 h.crc, .int .i64 h.packed, .int .i64 h.size, .int .i64 h.external, .string ⟨d.toArray⟩] ∧ Below w.heap.size w W ∧ W.ownsRow w.heap.size 39 14 (.slice A3 k cq) k ((L.take k).flatMap (fun e => hcells (hdR e) (nonU (hdR e)))) ∧ w.heap.size ≤ wr.heap.size) ⟨Blk.new _ _ _, HI.out.1.alloc HI.out.1.size _, HI.out.2.alloc _, HI.out.1.size⟩ ?_
      rintro W ⟨hW, hbW, hoW, hgz⟩
      obtain ⟨g, hg⟩ : ∃ g, g = wr.heap.size := ⟨_, rfl⟩
      rw [← hg] at hW hgz ⊢
      have k0 : W.cell? ⟨g, 0, none⟩ = some (.string ⟨h.name.toArray⟩) := hW.cell 0
      have k1 : W.cell? ⟨g, 1, none⟩ = some (.string ⟨h.comment.toArray⟩) := hW.cell 1
      have k2 : W.cell? ⟨g, 2, none⟩ = some (.string ⟨h.extra.toArray⟩) := hW.cell 2
      have k3 : W.cell? ⟨g, 3, none⟩ = some (.bool nu) := hW.cell 3
      have k4 : W.cell? ⟨g, 4, none⟩ = some (.int .i64 h.creator) := hW.cell 4
      have k5 : W.cell? ⟨g, 5, none⟩ = some (.int .i64 h.reader) := hW.cell 5
      have k6 : W.cell? ⟨g, 6, none⟩ = some (.int .i64 h.flags) := hW.cell 6
      have k7 : W.cell? ⟨g, 7, none⟩ = some (.int .i64 h.method) := hW.cell 7
      have k8 : W.cell? ⟨g, 8, none⟩ = some (.int .i64 h.time) := hW.cell 8
      have k9 : W.cell? ⟨g, 9, none⟩ = some (.int .i64 h.date) := hW.cell 9
      have k10 : W.cell? ⟨g, 10, none⟩ = some (.int .i64 h.crc) := hW.cell 10
      have k11 : W.cell? ⟨g, 11, none⟩ = some (.int .i64 h.packed) := hW.cell 11
      have k12 : W.cell? ⟨g, 12, none⟩ = some (.int .i64 h.size) := hW.cell 12
      have k13 : W.cell? ⟨g, 13, none⟩ = some (.int .i64 h.external) := hW.cell 13
      have HC := Lib.hid (And.intro hbW (And.intro hoW (And.intro hW hgz)))
      clear hW hbW hoW hg hgz c0 c1 c2 c3 c4 c5 c6 c7 c8 c9 c10 c11 c12 c13 c14
      go_upto_region 6 with (go_at_call 25; refine (HN.out _).mono ?_; rintro e' w1 ⟨rfl, hb1⟩; have hW1 := HC.out.2.2.1.below hb1 HC.out.2.2.1.lt; have HO := Lib.hid (And.intro (HC.out.1.trans (hb1.mono HC.out.1.size)) (own_kept (own_below HC.out.2.1 hb1) ((Kept.refl [g] w1).setCell (p := ⟨g, 3, none⟩) (by simp) (.bool u)) (own_ne (own_below HC.out.2.1 hb1) hW1 (by decide)))); have z0 : w1.cell? ⟨g, 0, none⟩ = some (.string ⟨h.name.toArray⟩) := hW1.cell 0; have z1 : w1.cell? ⟨g, 1, none⟩ = some (.string ⟨h.comment.toArray⟩) := hW1.cell 1; have z2 : w1.cell? ⟨g, 2, none⟩ = some (.string ⟨h.extra.toArray⟩) := hW1.cell 2; have z3 : w1.cell? ⟨g, 3, none⟩ = some (.bool nu) := hW1.cell 3; have z4 : w1.cell? ⟨g, 4, none⟩ = some (.int .i64 h.creator) := hW1.cell 4; have z5 : w1.cell? ⟨g, 5, none⟩ = some (.int .i64 h.reader) := hW1.cell 5; have z6 : w1.cell? ⟨g, 6, none⟩ = some (.int .i64 h.flags) := hW1.cell 6; have z7 : w1.cell? ⟨g, 7, none⟩ = some (.int .i64 h.method) := hW1.cell 7; have z8 : w1.cell? ⟨g, 8, none⟩ = some (.int .i64 h.time) := hW1.cell 8; have z9 : w1.cell? ⟨g, 9, none⟩ = some (.int .i64 h.date) := hW1.cell 9; have z10 : w1.cell? ⟨g, 10, none⟩ = some (.int .i64 h.crc) := hW1.cell 10; have z11 : w1.cell? ⟨g, 11, none⟩ = some (.int .i64 h.packed) := hW1.cell 11; have z12 : w1.cell? ⟨g, 12, none⟩ = some (.int .i64 h.size) := hW1.cell 12; have z13 : w1.cell? ⟨g, 13, none⟩ = some (.int .i64 h.external) := hW1.cell 13; have zf : w1.frozen? ⟨g, 3, none⟩ = false := hW1.frozen 3; clear hb1 hW1)
      go_wp2_with (at_builtin; refine wpList_append_own _ rfl _ _ 31 rfl w.heap.size 39 i0 (.agg hdZ) 14 136 Tryz.underlying31 hi hz0 hz1 hz2 rfl (by decide) _ _ _ rfl (HO.out.2.alloc _) ⟨w1.heap.size, 0, none⟩ 1 1 (hcells h u) rfl rfl ?c1 ?c2 ?c3 ?c4 ?c5 ?_)
      case c1 =>
        intro q x hx
        rw [Addr.add_lit, Nat.zero_add]
        have := (Blk.new (w1.setCell ⟨g, 3, none⟩ (.bool u)) 39 (hcells h u).toArray).cell q
        rw [World.size_setCell] at this
        exact this.trans (by rw [List.getElem?_toArray]; exact hx)
      case c2 => exact hc_one _ _
      case c3 => unfold maxLen; omega
      case c4 => omega
      case c5 => have := HO.out.1.size; simp; omega
      intro v' w6 hown6 hgrow _
      have hb6 : Below w.heap.size w w6 := ((HO.out.1.setCell HC.out.2.2.2 _).alloc (by rw [World.size_setCell]; exact HO.out.1.size) _).grown hgrow (by have := HO.out.1.size; simp; omega) (fun q hq => (HO.out.2.lt q hq).1)
      have HB6 := Lib.hid (And.intro hown6 hb6)
      clear hown6 hgrow hb6
      go_wp2
      go_roundw
      case rel => exact ⟨k + 1, by go_num, by omega, Lib.hid ⟨HB6.out.2, by rw [hc_take L k hlt, ← HE.out.1, ← HU.out]; exact HB6.out.1⟩⟩
      case measure => simp [intOf]; omega
    · obtain rfl : k = L.length := by omega
      go_wp2
      go_ret
      refine ⟨⟨_, rfl, ?_⟩, HI.out.1⟩
      have := HI.out.2
      rwa [List.take_length] at this
end Go.Proofs.YtfagjhgmmaebfaaGreatDoor
