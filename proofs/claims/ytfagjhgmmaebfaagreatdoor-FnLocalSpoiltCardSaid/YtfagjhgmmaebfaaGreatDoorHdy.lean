/- One field of the extra fields; the loop over them. -/
import Derived.Test.YtfagjhgmmaebfaaGreatDoorHdx
namespace Go.Proofs.YtfagjhgmmaebfaaGreatDoor
open Go.RowKit
/-- The state between two fields: x holds n bytes' rest of the row db, mb a time. -/
structure EX (w W : World) (x mb db : Nat) (dl : List UInt8) (n : Nat) : Prop where
  rb : RbA W x db dl n
  row : Blk W db 5 (dl.map byteV).toArray
  tm : TmAt W mb
  kept : Kept [mb] w W
  xw : w.heap.size ≤ x
section
variable {w W W' : World} {x mb db n : Nat} {dl : List UInt8}
theorem EX.rd (h : EX w W x mb db dl n) : x ≠ db := h.rb.tne h.row (by decide)
theorem EX.md (h : EX w W x mb db dl n) : mb ≠ db := h.tm.tne h.row (by decide)
theorem EX.mr (h : EX w W x mb db dl n) : mb ≠ x := h.tm.rne h.rb
theorem EX.call {n' : Nat} (h : EX w W x mb db dl n) (hr : RbA W' x db dl n') (k : Kept [x] W W') : EX w W' x mb db dl n' :=
  ⟨hr, k.blk h.row (by simp; exact h.rd.symm), h.tm.kept k (by simp; exact h.mr), h.kept.trans' k (by simp; exact .inr h.xw), h.xw⟩
theorem EX.on (h : EX w W x mb db dl n) (k : Kept [] W W') : EX w W' x mb db dl n :=
  ⟨h.rb.kept k (by simp), k.blk h.row (by simp), h.tm.kept k (by simp), h.kept.trans' k (by simp), h.xw⟩
theorem EX.fresh {y : Nat} (h : EX w W x mb db dl n) (k : Kept [y] W W') (hy : w.heap.size ≤ y ∧ y ≠ x ∧ y ≠ mb ∧ y ≠ db) : EX w W' x mb db dl n :=
  ⟨h.rb.kept k (by simp; exact hy.2.1.symm), k.blk h.row (by simp; exact hy.2.2.2.symm), h.tm.kept k (by simp; exact hy.2.2.1.symm), h.kept.trans' k (by simp; exact .inr hy.1), h.xw⟩
theorem EX.new (h : EX w W x mb db dl n) : w.heap.size ≤ W.heap.size ∧ W.heap.size ≠ x ∧ W.heap.size ≠ mb ∧ W.heap.size ≠ db :=
  ⟨h.kept.size, Nat.ne_of_gt h.rb.lt, Nat.ne_of_gt h.tm.lt, Nat.ne_of_gt h.row.lt⟩
theorem EX.set3 (h : EX w W x mb db dl n) (a b : Int) (l : Option Addr) : EX w (((W.setCell ⟨mb, 0, none⟩ (.int .u64 a)).setCell ⟨mb, 1, none⟩ (.int .i64 b)).setCell ⟨mb, 2, none⟩ (.pointer l)) x mb db dl n := by
  have k : Kept [mb] W (((W.setCell ⟨mb, 0, none⟩ (.int .u64 a)).setCell ⟨mb, 1, none⟩ (.int .i64 b)).setCell ⟨mb, 2, none⟩ (.pointer l)) := (((Kept.refl _ _).setCell (by simp) _).setCell (by simp) _).setCell (by simp) _
  exact ⟨h.rb.kept k (by simp; exact h.mr.symm), k.blk h.row (by simp; exact h.md.symm), h.tm.set3 a b l, h.kept.trans' k (by simp), h.xw⟩
theorem EX.nt {y : Nat} (h : EX w W x mb db dl n) (k : Kept [y, mb] W W') (ht : TmAt W' mb) (hy : w.heap.size ≤ y ∧ y ≠ x ∧ y ≠ mb ∧ y ≠ db) : EX w W' x mb db dl n :=
  ⟨h.rb.kept k (by simp; exact ⟨hy.2.1.symm, h.mr.symm⟩), k.blk h.row (by simp; exact ⟨hy.2.2.2.symm, h.md.symm⟩), ht, h.kept.trans' k (by simp; exact .inr hy.1), h.xw⟩
end
set_option maxRecDepth 1000000 in
set_option maxHeartbeats 8000000 in
theorem blk2_wp {Q : Exit → Act → World → Prop} {a : Act} {w W : World} {fb mb x db k pk sz off : Nat} {dl : List UInt8} {F : Array Value} (hF : FP fb mb x a) (hE : EX w W x mb db dl k) (h4 : 4 ≤ k)
    (hfb : Blk w fb 74 F) (f11 : F[13]? = some (.int .u32 pk)) (f12 : F[14]? = some (.int .u32 sz)) (f21 : F[21]? = some (.int .i64 off)) (hmf : mb ≠ fb) (hpk : pk < 4294967295) (hsz : sz < 4294967295) (hof : off < 4294967295)
    (hN : ∀ a' W' k', k' < k → FP fb mb x a' → EX w W' x mb db dl k' → Q .normal a' W') (hM : ∀ a' W' k', k' < k → FP fb mb x a' → EX w W' x mb db dl k' → Q (.exit 2) a' W') (hX : ∀ a' W', FP fb mb x a' → TmAt W' mb → Kept [mb] w W' → Q (.exit 1) a' W') : Code.wp Tryz.prog blk2 Q a W := by
  have HQ := Lib.hid (And.intro hN (And.intro hM hX))
  clear hN hM hX
  have hFB : ∀ W', Kept [mb] w W' → TmAt W' mb → W'.cell? ⟨fb, 13, none⟩ = some (.int .u32 pk) ∧ W'.cell? ⟨fb, 14, none⟩ = some (.int .u32 sz) ∧ W'.cell? ⟨fb, 21, none⟩ = some (.int .i64 off) := fun W' kk tt => by
    have hm : fb ∉ [mb] := by
      simp only [List.mem_cons, List.not_mem_nil, or_false]
      exact hmf.symm
    have hb := kk.blk hfb hm
    exact ⟨(hb.cell 13).trans f11, (hb.cell 14).trans f12, (hb.cell 21).trans f21⟩
  have HFB := Lib.hid hFB
  have e1 : ((pk : Int) == 4294967295) = false := by simp; omega
  have e2 : ((sz : Int) == 4294967295) = false := by simp; omega
  have e3 : ((off : Int) == 4294967295) = false := by simp; omega
  clear hFB hfb f11 f12 f21 hpk hsz hof hmf
  conv => arg 2; whnf
  obtain ⟨g, hg, rfl⟩ := frame404 a hF.size hF.defs
  have g0 := hF.s0
  have g4 := hF.s4
  have g20 := hF.s20
  have g21 := hF.s21
  rw [← hg] at g0 g4 g20 g21
  rw [g0, g4, g20, g21]
  clear g0 g4 g20 g21 hF hg
  have HE := Lib.hid hE
  clear hE
  go_wp2_with fail
  refine (rba16 HE.out.rb HE.out.row (by omega)).mono ?_
  rintro e w1 ⟨⟨v, hv, rfl⟩, hr, hk⟩
  have HE1 := Lib.hid (HE.out.call hr hk)
  clear hr hk HE
  go_wp2_with fail
  refine (rba16 HE1.out.rb HE1.out.row (by omega)).mono ?_
  rintro e w2 ⟨⟨v2, hv2, rfl⟩, hr, hk⟩
  have HE2 := Lib.hid (HE1.out.call hr hk)
  clear hr hk HE1
  obtain ⟨m, hm⟩ : ∃ m, m = k - 2 - 2 := ⟨_, rfl⟩
  rw [← hm] at HE2
  obtain ⟨o2, c2, hcl2, hkc2⟩ := HE2.out.rb.val
  by_cases hsz : m < v2
  · have hszi : (m : Int) < v2 := by omega
    go_wp2_with fail
    exact HQ.out.2.2 _ _ ⟨rfl, rfl, rfl, rfl, rfl, rfl⟩ HE2.out.tm HE2.out.kept
  have hszi : ¬ ((m : Int) < v2) := by omega
  go_wp2_with fail
  refine (rbaSub HE2.out.rb (by omega)).mono ?_
  rintro e w3 ⟨⟨o3, c3, rfl, h31, h32, h33⟩, hr, hk⟩
  have HE3 := Lib.hid (HE2.out.call hr hk)
  clear hr hk hcl2
  obtain ⟨r, hr⟩ : ∃ r, r = w3.heap.size := ⟨_, rfl⟩
  have hnew := HE3.out.new
  rw [← hr] at hnew
  have HNW := Lib.hid hnew
  have HR := Lib.hid hr
  clear hr hnew
  go_upto_region 47 with (fail)
  rw [← HR.out]
  refine at_world (fun W4 => RbA W4 r db dl v2 ∧ EX w W4 x mb db dl (m - v2)) ⟨⟨o3, c3, HR.out ▸ Blk.new _ _ _, h31, h32, h33⟩, HE3.out.on ((Kept.refl _ _).alloc _)⟩ ?_
  rintro w4 ⟨h4r, h4n⟩
  have HN4 := Lib.hid (And.intro h4r h4n)
  clear h4r h4n HE3 HE2 h31 h32 h33 HR
  have hmk : m - v2 < k := by omega
  have hr4 : r < w4.heap.size := HN4.out.1.lt
  obtain ⟨k', hk'⟩ : ∃ k', k' = m - v2 := ⟨_, rfl⟩
  rw [← hk'] at HN4 hmk
  clear hk' hsz hszi hm h4 hkc2
  obtain ⟨o4, c4, hcl4, hkc4⟩ := HN4.out.1.val
  by_cases t1 : v = 1
  · subst t1
    obtain ⟨f13, f14, f21⟩ := HFB.out w4 HN4.out.2.kept HN4.out.2.tm
    go_wp2_with fail
    exact HQ.out.1 _ _ _ hmk ⟨rfl, rfl, rfl, rfl, rfl, rfl⟩ HN4.out.2
  by_cases t10 : v = 10
  · subst t10
    by_cases hl : v2 < 4
    · have hli : (v2 : Int) < 4 := by omega
      go_wp2_with fail
      exact HQ.out.2.1 _ _ _ hmk ⟨rfl, rfl, rfl, rfl, rfl, rfl⟩ HN4.out.2
    · have hli : ¬ ((v2 : Int) < 4) := by omega
      go_wp2_with fail
      refine (rba32 HN4.out.1 HN4.out.2.row (by omega)).mono ?_
      rintro e w5 ⟨⟨z, hz, rfl⟩, hr, hk⟩
      have HN5 := Lib.hid (And.intro hr (HN4.out.2.fresh hk HNW.out))
      clear hr hk HN4 hcl4
      go_wp2_with fail
      refine ntLoop_wp (xb := x) ⟨rfl, rfl, rfl, rfl, rfl, rfl⟩ rfl ⟨HN5.out.1, HN5.out.2.row, HN5.out.2.tm, Kept.refl _ _⟩ ?_
      rintro e a' w6 he hF6 hT6 hK6
      have HE6 := Lib.hid (HN5.out.2.nt hK6 hT6 HNW.out)
      clear hK6 hT6
      rcases he with rfl | rfl
      · go_wp2
        exact HQ.out.1 _ _ _ hmk hF6 HE6.out
      · go_wp2
        exact HQ.out.2.1 _ _ _ hmk hF6 HE6.out
  by_cases t13 : v = 13 ∨ v = 22613
  · by_cases hl : v2 < 8
    · have hli : (v2 : Int) < 8 := by omega
      rcases t13 with rfl | rfl
      · go_wp2_with fail
        exact HQ.out.2.1 _ _ _ hmk ⟨rfl, rfl, rfl, rfl, rfl, rfl⟩ HN4.out.2
      · go_wp2_with fail
        exact HQ.out.2.1 _ _ _ hmk ⟨rfl, rfl, rfl, rfl, rfl, rfl⟩ HN4.out.2
    · have hli : ¬ ((v2 : Int) < 8) := by omega
      rcases t13 with rfl | rfl
      · go_wp2_with fail
        refine (rba32 HN4.out.1 HN4.out.2.row (by omega)).mono ?_
        rintro e w5 ⟨⟨z, hz, rfl⟩, hr, hk⟩
        have HN5 := Lib.hid (And.intro hr (HN4.out.2.fresh hk HNW.out))
        clear hr hk HN4 hcl4
        go_wp2_with fail
        refine (rba32 HN5.out.1 HN5.out.2.row (by omega)).mono ?_
        rintro e w7 ⟨⟨z2, hz2, rfl⟩, hr, hk⟩
        have HN7 := Lib.hid (And.intro hr (HN5.out.2.fresh hk HNW.out))
        clear hr hk HN5
        go_wp2_with fail
        refine (TUnix _ _ _).mono ?_
        rintro e w6 ⟨⟨t0, ⟨a2, b2, l2, rfl⟩, rfl⟩, hk⟩
        have HE6 := Lib.hid (HN7.out.2.on hk)
        obtain ⟨ma, mB, ml, hmb⟩ := HE6.out.tm
        have m0 : w6.cell? ⟨mb, 0, none⟩ = some (.int .u64 ma) := hmb.cell 0
        have m1 : w6.cell? ⟨mb, 1, none⟩ = some (.int .i64 mB) := hmb.cell 1
        have m2 : w6.cell? ⟨mb, 2, none⟩ = some (.pointer ml) := hmb.cell 2
        have mf := hmb.frozen
        clear hk hmb
        go_wp2_with fail
        exact HQ.out.1 _ _ _ hmk ⟨rfl, rfl, rfl, rfl, rfl, rfl⟩ (HE6.out.set3 _ _ _)

      · go_wp2_with fail
        refine (rba32 HN4.out.1 HN4.out.2.row (by omega)).mono ?_
        rintro e w5 ⟨⟨z, hz, rfl⟩, hr, hk⟩
        have HN5 := Lib.hid (And.intro hr (HN4.out.2.fresh hk HNW.out))
        clear hr hk HN4 hcl4
        go_wp2_with fail
        refine (rba32 HN5.out.1 HN5.out.2.row (by omega)).mono ?_
        rintro e w7 ⟨⟨z2, hz2, rfl⟩, hr, hk⟩
        have HN7 := Lib.hid (And.intro hr (HN5.out.2.fresh hk HNW.out))
        clear hr hk HN5
        go_wp2_with fail
        refine (TUnix _ _ _).mono ?_
        rintro e w6 ⟨⟨t0, ⟨a2, b2, l2, rfl⟩, rfl⟩, hk⟩
        have HE6 := Lib.hid (HN7.out.2.on hk)
        obtain ⟨ma, mB, ml, hmb⟩ := HE6.out.tm
        have m0 : w6.cell? ⟨mb, 0, none⟩ = some (.int .u64 ma) := hmb.cell 0
        have m1 : w6.cell? ⟨mb, 1, none⟩ = some (.int .i64 mB) := hmb.cell 1
        have m2 : w6.cell? ⟨mb, 2, none⟩ = some (.pointer ml) := hmb.cell 2
        have mf := hmb.frozen
        clear hk hmb
        go_wp2_with fail
        exact HQ.out.1 _ _ _ hmk ⟨rfl, rfl, rfl, rfl, rfl, rfl⟩ (HE6.out.set3 _ _ _)

  by_cases t5 : v = 21589
  · subst t5
    by_cases hl : v2 < 5
    · have hli : (v2 : Int) < 5 := by omega
      go_wp2_with fail
      exact HQ.out.2.1 _ _ _ hmk ⟨rfl, rfl, rfl, rfl, rfl, rfl⟩ HN4.out.2
    · have hli : ¬ ((v2 : Int) < 5) := by omega
      go_wp2_with fail
      refine (rba8 HN4.out.1 HN4.out.2.row (by omega)).mono ?_
      rintro e w5 ⟨⟨z, hz, rfl⟩, hr, hk⟩
      have HN5 := Lib.hid (And.intro hr (HN4.out.2.fresh hk HNW.out))
      clear hr hk HN4 hcl4
      obtain ⟨bz, hbz⟩ : ∃ bz : Bool, (bits .and .u8 (z : Int) 1 == 0) = bz := ⟨_, rfl⟩
      cases bz
      · go_wp2_with fail
        refine (rba32 HN5.out.1 HN5.out.2.row (by omega)).mono ?_
        rintro e w7 ⟨⟨z2, hz2, rfl⟩, hr, hk⟩
        have HN7 := Lib.hid (And.intro hr (HN5.out.2.fresh hk HNW.out))
        clear hr hk HN5
        go_wp2_with fail
        refine (TUnix _ _ _).mono ?_
        rintro e w6 ⟨⟨t0, ⟨a2, b2, l2, rfl⟩, rfl⟩, hk⟩
        have HE6 := Lib.hid (HN7.out.2.on hk)
        obtain ⟨ma, mB, ml, hmb⟩ := HE6.out.tm
        have m0 : w6.cell? ⟨mb, 0, none⟩ = some (.int .u64 ma) := hmb.cell 0
        have m1 : w6.cell? ⟨mb, 1, none⟩ = some (.int .i64 mB) := hmb.cell 1
        have m2 : w6.cell? ⟨mb, 2, none⟩ = some (.pointer ml) := hmb.cell 2
        have mf := hmb.frozen
        clear hk hmb
        go_wp2_with fail
        exact HQ.out.1 _ _ _ hmk ⟨rfl, rfl, rfl, rfl, rfl, rfl⟩ (HE6.out.set3 _ _ _)
      · go_wp2_with fail
        exact HQ.out.2.1 _ _ _ hmk ⟨rfl, rfl, rfl, rfl, rfl, rfl⟩ HN5.out.2
  have t13' : ¬ v = 13 := fun h => t13 (.inl h)
  have t14' : ¬ v = 22613 := fun h => t13 (.inr h)
  go_wp2_with fail
  exact HQ.out.1 _ _ _ hmk ⟨rfl, rfl, rfl, rfl, rfl, rfl⟩ HN4.out.2
set_option maxRecDepth 1000000 in
set_option maxHeartbeats 8000000 in
theorem exLoop_wp {Q : Exit → Act → World → Prop} {a : Act} {w W : World} {fb mb x db n pk sz off : Nat} {dl : List UInt8} {F : Array Value} (hF : FP fb mb x a) (hE : EX w W x mb db dl n)
    (hfb : Blk w fb 74 F) (f11 : F[13]? = some (.int .u32 pk)) (f12 : F[14]? = some (.int .u32 sz)) (f21 : F[21]? = some (.int .i64 off)) (hmf : mb ≠ fb) (hpk : pk < 4294967295) (hsz : sz < 4294967295) (hof : off < 4294967295)
    (hX : ∀ a' x' W', FP fb mb x' a' → TmAt W' mb → Kept [mb] w W' → Q (.exit 1) a' W') : Code.wp Tryz.prog exLoop Q a W := by
  have HQ := Lib.hid hX
  have HB := Lib.hid (fun (Q' : Exit → Act → World → Prop) (a' : Act) (W' : World) (x' k : Nat) (p1 : FP fb mb x' a') (p2 : EX w W' x' mb db dl k) (p3 : 4 ≤ k) => blk2_wp (Q := Q') p1 p2 p3 hfb f11 f12 f21 hmf hpk hsz hof)
  clear hX hfb f11 f12 f21 hmf hpk hsz hof
  conv => arg 2; whnf
  refine wp_loop_ghost (fun k a' W' => ∃ x', FP fb mb x' a' ∧ Hid (EX w W' x' mb db dl k)) n ⟨x, hF, Lib.hid hE⟩ ?_
  clear hF hE
  intro k a' wr hI
  obtain ⟨x', hf, HE⟩ := hI
  obtain ⟨g, hg, rfl⟩ := frame404 a' hf.size hf.defs
  have g0 := hf.s0
  have g4 := hf.s4
  have g20 := hf.s20
  have g21 := hf.s21
  rw [← hg] at g0 g4 g20 g21
  rw [g0, g4, g20, g21]
  clear g0 g4 g20 g21 hf hg
  obtain ⟨o, c, hcl, hkc⟩ := HE.out.rb.val
  by_cases h4 : 4 ≤ k
  · have h4i : (4 : Int) ≤ k := by omega
    refine wp_seq ?_
    refine wp_cut (fun a' W' => FP fb mb x' a' ∧ W' = wr) ?rest ?first
    case first =>
      intro J K' hJ hK
      go_wp2_with fail
      exact Met.intro (hJ _ _ ⟨⟨rfl, rfl, rfl, rfl, rfl, rfl⟩, rfl⟩)
    clear hcl
    rintro a' W' ⟨hf, rfl⟩
    refine wp_seq (wp_block (HB.out _ _ _ _ _ hf HE.out h4 ?pn ?pm ?px))
    case px => intro a2 W2 h1 h2 h3; exact HQ.out _ _ _ h1 h2 h3
    all_goals
      clear hf
      intro a2 W2 k2 h1 h2 h3
      refine show Code.wp Tryz.prog _ _ a2 W2 from ?_
      obtain ⟨g, hg, rfl⟩ := frame404 a2 h2.size h2.defs
      have g0 := h2.s0
      have g4 := h2.s4
      have g20 := h2.s20
      have g21 := h2.s21
      rw [← hg] at g0 g4 g20 g21
      rw [g0, g4, g20, g21]
      clear g0 g4 g20 g21 h2 hg
      have HE2 := Lib.hid h3
      obtain ⟨o2, c2, hb2, hkc, ho2, hc2⟩ := HE2.out.rb
      have hcl := hb2.cell 0
      have HO := Lib.hid (And.intro hkc (And.intro ho2 hc2))
      clear h3 hb2 hkc ho2 hc2
      go_wp2_with fail
      exact ⟨k2, h1, W2.heap.size, ⟨rfl, rfl, rfl, rfl, rfl, rfl⟩, Lib.hid ⟨⟨o2, c2, Blk.new _ _ _, HO.out⟩, HE2.out.row.alloc _, HE2.out.tm.kept ((Kept.refl [] _).alloc _) (by simp), HE2.out.kept.alloc _, HE2.out.kept.size⟩⟩
  · have h4i : ¬ ((4 : Int) ≤ k) := by omega
    go_wp2_with fail
    exact HQ.out _ _ _ ⟨rfl, rfl, rfl, rfl, rfl, rfl⟩ HE.out.tm HE.out.kept
end Go.Proofs.YtfagjhgmmaebfaaGreatDoor
