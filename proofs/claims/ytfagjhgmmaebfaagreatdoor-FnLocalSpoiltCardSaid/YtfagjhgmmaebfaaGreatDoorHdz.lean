/- readDirectoryHeader's regions 87 and 92: the times. -/
import Derived.Test.YtfagjhgmmaebfaaGreatDoorHdx
namespace Go.Proofs.YtfagjhgmmaebfaaGreatDoor
open Go.RowKit
def findRegion (n : Nat) : Code → Option Code
  | .region m ops d => if m = n then some (.region m ops d) else none
  | .seq a b => match findRegion n a with
    | some c => some c
    | none => findRegion n b
  | .cond _ a b => match findRegion n a with
    | some c => some c
    | none => findRegion n b
  | .block _ c => findRegion n c
  | .loop c => findRegion n c
  | .scope c => findRegion n c
  | _ => none
noncomputable def reg87 : Code := (Tryz.f44.body.bind (findRegion 87)).getD .skip
noncomputable def reg92 : Code := (Tryz.f44.body.bind (findRegion 92)).getD .skip
/-- A file's cells with another time. -/
def fileT (F : Array Value) (p q : Int) (l : Option Addr) : Array Value := ((F.setIfInBounds 7 (.int .u64 p)).setIfInBounds 8 (.int .i64 q)).setIfInBounds 9 (.pointer l)
theorem fileT_get {F : Array Value} {v : Value} (h : F[9]? = some v) (p q : Int) (l : Option Addr) : (fileT F p q l)[7]? = some (.int .u64 p) ∧ (fileT F p q l)[8]? = some (.int .i64 q) ∧ (fileT F p q l)[9]? = some (.pointer l) ∧ ∀ i, 10 ≤ i → (fileT F p q l)[i]? = F[i]? := by
  have hs : 9 < F.size := (Array.getElem?_eq_some_iff.1 h).1
  have h7 : 7 < F.size := by omega
  have h8 : 8 < F.size := by omega
  refine ⟨?_, ?_, ?_, fun i hi => ?_⟩
  · simp [fileT, h7]
  · simp [fileT, h8]
  · simp [fileT, hs]
  · have e7 : ¬ 7 = i := by omega
    have e8 : ¬ 8 = i := by omega
    have e9 : ¬ 9 = i := by omega
    simp [fileT, e7, e8, e9]
theorem fileT_twice (F : Array Value) (p q : Int) (l : Option Addr) (p' q' : Int) (l' : Option Addr) : fileT (fileT F p q l) p' q' l' = fileT F p' q' l' := by
  apply Array.ext_getElem?
  intro i
  unfold fileT
  simp only [Array.getElem?_setIfInBounds, Array.size_setIfInBounds]
  by_cases h9 : 9 = i
  · subst h9; simp
  · by_cases h8 : 8 = i
    · subst h8; simp
    · by_cases h7 : 7 = i
      · subst h7; simp
      · simp [h7, h8, h9]
theorem far6 (w : World) (fb mb q : Nat) (x y : Int) (l : Option Addr) {a0 a1 a2 b0 b1 b2 : Value} (h : (w.cell? ⟨mb, 0, none⟩ = some a0 ∧ w.cell? ⟨mb, 1, none⟩ = some a1 ∧ w.cell? ⟨mb, 2, none⟩ = some a2) ∧ (w.cell? ⟨q, 0, none⟩ = some b0 ∧ w.cell? ⟨q, 1, none⟩ = some b1 ∧ w.cell? ⟨q, 2, none⟩ = some b2)) (h1 : mb ≠ fb) (h2 : q ≠ fb) :
    ((((w.setCell ⟨fb, 7, none⟩ (.int .u64 x)).setCell ⟨fb, 8, none⟩ (.int .i64 y)).setCell ⟨fb, 9, none⟩ (.pointer l)).cell? ⟨mb, 0, none⟩ = some a0 ∧ (((w.setCell ⟨fb, 7, none⟩ (.int .u64 x)).setCell ⟨fb, 8, none⟩ (.int .i64 y)).setCell ⟨fb, 9, none⟩ (.pointer l)).cell? ⟨mb, 1, none⟩ = some a1 ∧ (((w.setCell ⟨fb, 7, none⟩ (.int .u64 x)).setCell ⟨fb, 8, none⟩ (.int .i64 y)).setCell ⟨fb, 9, none⟩ (.pointer l)).cell? ⟨mb, 2, none⟩ = some a2) ∧
    ((((w.setCell ⟨fb, 7, none⟩ (.int .u64 x)).setCell ⟨fb, 8, none⟩ (.int .i64 y)).setCell ⟨fb, 9, none⟩ (.pointer l)).cell? ⟨q, 0, none⟩ = some b0 ∧ (((w.setCell ⟨fb, 7, none⟩ (.int .u64 x)).setCell ⟨fb, 8, none⟩ (.int .i64 y)).setCell ⟨fb, 9, none⟩ (.pointer l)).cell? ⟨q, 1, none⟩ = some b1 ∧ (((w.setCell ⟨fb, 7, none⟩ (.int .u64 x)).setCell ⟨fb, 8, none⟩ (.int .i64 y)).setCell ⟨fb, 9, none⟩ (.pointer l)).cell? ⟨q, 2, none⟩ = some b2) := by
  have hb : ∀ b, b ≠ fb → (((w.setCell ⟨fb, 7, none⟩ (.int .u64 x)).setCell ⟨fb, 8, none⟩ (.int .i64 y)).setCell ⟨fb, 9, none⟩ (.pointer l)).heap[b]? = w.heap[b]? := fun b hb =>
    ((Below.heap_setCell _ _ _ b hb).trans (Below.heap_setCell _ _ _ b hb)).trans (Below.heap_setCell _ _ _ b hb)
  have c : ∀ b i, b ≠ fb → (((w.setCell ⟨fb, 7, none⟩ (.int .u64 x)).setCell ⟨fb, 8, none⟩ (.int .i64 y)).setCell ⟨fb, 9, none⟩ (.pointer l)).cell? ⟨b, i, none⟩ = w.cell? ⟨b, i, none⟩ := fun b i h => World.cell?_of_block (hb b h)
  simp only [c _ _ h1, c _ _ h2]
  exact h
set_option maxRecDepth 1000000 in
set_option maxHeartbeats 8000000 in
theorem reg92_wp {Q : Exit → Act → World → Prop} {a : Act} {W : World} {fb mb xb q : Nat} {F : Array Value} {v9 : Value} {p7 p8 qa qb ma mB : Int} {p9 ql ml : Option Addr} (hF : FP fb mb xb a) (h34 : a.tmps.getD 34 undef = .pointer (some ⟨q, 0, none⟩)) (f9 : F[9]? = some v9)
    (h1 : Blk W fb 74 (fileT F p7 p8 p9)) (h2 : Blk W q 69 #[.int .u64 qa, .int .i64 qb, .pointer ql]) (h3 : Blk W mb 69 #[.int .u64 ma, .int .i64 mB, .pointer ml])
    (hQ : ∀ a' W' p q l, FP fb mb xb a' → Blk W' fb 74 (fileT F p q l) → Kept [fb] W W' → Q .normal a' W') : Code.wp Tryz.prog reg92 Q a W := by
  have HQ := Lib.hid hQ
  have HV := Lib.hid (And.intro h1 (And.intro h2 (And.intro h3 f9)))
  clear hQ h1 h2 h3 f9
  have hkey : ∀ w', Kept [] W w' → (w'.cell? ⟨mb, 0, none⟩ = some (.int .u64 ma) ∧ w'.cell? ⟨mb, 1, none⟩ = some (.int .i64 mB) ∧ w'.cell? ⟨mb, 2, none⟩ = some (.pointer ml)) ∧ (w'.cell? ⟨q, 0, none⟩ = some (.int .u64 qa) ∧ w'.cell? ⟨q, 1, none⟩ = some (.int .i64 qb) ∧ w'.cell? ⟨q, 2, none⟩ = some (.pointer ql)) ∧ (w'.cell? ⟨fb, 7, none⟩ = some (.int .u64 p7) ∧ w'.cell? ⟨fb, 8, none⟩ = some (.int .i64 p8) ∧ w'.cell? ⟨fb, 9, none⟩ = some (.pointer p9) ∧ ∀ i, w'.frozen? ⟨fb, i, none⟩ = false) := fun w' k => by
    have b1 := k.blk HV.out.2.2.1 (by simp)
    have b2 := k.blk HV.out.1 (by simp)
    have b3 := k.blk HV.out.2.1 (by simp)
    have hg := fileT_get HV.out.2.2.2 p7 p8 p9
    exact ⟨⟨b1.cell 0, b1.cell 1, b1.cell 2⟩, ⟨b3.cell 0, b3.cell 1, b3.cell 2⟩, (b2.cell 7).trans hg.1, (b2.cell 8).trans hg.2.1, (b2.cell 9).trans hg.2.2.1, b2.frozen⟩
  obtain ⟨⟨m0, m1, m2⟩, ⟨q0, q1, q2⟩, c7, c8, c9, cf⟩ := hkey W (Kept.refl _ _)
  have HKEY := Lib.hid hkey
  have KX := Lib.hid ((Kept.refl [] W).drew)
  clear hkey
  have hmf : mb ≠ fb := HV.out.2.2.1.ne_ HV.out.1 (by decide)
  have hqf : q ≠ fb := HV.out.2.1.ne_ HV.out.1 (by decide)
  have HSET := fun (w' : World) (x y : Int) (l : Option Addr) (h : (w'.cell? ⟨mb, 0, none⟩ = some (.int .u64 ma) ∧ w'.cell? ⟨mb, 1, none⟩ = some (.int .i64 mB) ∧ w'.cell? ⟨mb, 2, none⟩ = some (.pointer ml)) ∧ (w'.cell? ⟨q, 0, none⟩ = some (.int .u64 qa) ∧ w'.cell? ⟨q, 1, none⟩ = some (.int .i64 qb) ∧ w'.cell? ⟨q, 2, none⟩ = some (.pointer ql))) => far6 w' fb mb q x y l h hmf hqf
  conv => arg 2; whnf
  obtain ⟨g, hg, rfl⟩ := frame404 a hF.size hF.defs
  have g0 := hF.s0
  have g4 := hF.s4
  have g20 := hF.s20
  have g21 := hF.s21
  rw [← hg] at g0 g4 g20 g21 h34
  rw [g0, g4, g20, g21, h34]
  clear g0 g4 g20 g21 hF hg h34
  go_region_held3 (fun w' => (w'.cell? ⟨mb, 0, none⟩ = some (.int .u64 ma) ∧ w'.cell? ⟨mb, 1, none⟩ = some (.int .i64 mB) ∧ w'.cell? ⟨mb, 2, none⟩ = some (.pointer ml)) ∧ (w'.cell? ⟨q, 0, none⟩ = some (.int .u64 qa) ∧ w'.cell? ⟨q, 1, none⟩ = some (.int .i64 qb) ∧ w'.cell? ⟨q, 2, none⟩ = some (.pointer ql)))
    (first
      | exact ⟨⟨m0, m1, m2⟩, ⟨q0, q1, q2⟩⟩
      | exact ⟨(HKEY.out _ KX.out).1, (HKEY.out _ KX.out).2.1⟩
      | exact HSET _ _ _ _ ⟨(HKEY.out _ KX.out).1, (HKEY.out _ KX.out).2.1⟩)
    (first
      | (go_at_call 66; (with_reducible refine (TSub _ _ _ _ _ _ _).mono ?_); rintro e w1 ⟨⟨z, rfl⟩, hk⟩; have ky := Lib.hid (KX.out.trans hk); clear KX hk; have KX := ky; clear ky)
      | (go_at_call 65; (with_reducible refine (Tzone _ _).mono ?_); rintro e w2 ⟨⟨lc, rfl, hl0, hll⟩, hk⟩; have ky := Lib.hid (KX.out.trans hk); clear KX hk; have KX := ky; clear ky)
      | (go_at_call 64; (with_reducible refine (TIn _ _ _ _ _ _ hl0 hll).mono ?_); rintro e w3 ⟨⟨v, ⟨va, vb, vl, rfl⟩, rfl⟩, hk⟩; have ky := Lib.hid (KX.out.trans hk); clear KX hk; have KX := ky; clear ky; obtain ⟨_, _, d7, d8, d9, df⟩ := HKEY.out _ KX.out))
  exact HQ.out _ _ va vb vl ⟨rfl, rfl, rfl, rfl, rfl, rfl⟩ (Blk.cast (((KX.out.blk HV.out.1 (by simp)).set_ 7 _).set_ 8 _ |>.set_ 9 _) (fileT_twice F _ _ _ _ _ _)) ((((KX.out.mono (by simp)).setCell (by simp) _).setCell (by simp) _).setCell (by simp) _)
end Go.Proofs.YtfagjhgmmaebfaaGreatDoor
/- readDirectoryHeader's region 87: the time of MS-DOS. -/
namespace Go.Proofs.YtfagjhgmmaebfaaGreatDoor
open Go.RowKit
set_option maxRecDepth 1000000 in
set_option maxHeartbeats 8000000 in
theorem reg87_wp {K : Act → World → Prop} {P : Ending → World → Prop} {a : Act} {W : World} {fb mb xb tm dt : Nat} {F : Array Value} (hF : FP fb mb xb a) (hfb : Blk W fb 74 F) (f10 : F[10]? = some (.int .u16 tm)) (f11 : F[11]? = some (.int .u16 dt))
    (hQ : ∀ a' W', FP fb mb xb a' → (∃ q, a'.tmps.getD 34 undef = .pointer (some ⟨q, 0, none⟩) ∧ TmAt W' q ∧ Kept [] W W') → K a' W') : Code.wp Tryz.prog reg87 (Exit.then K (Exit.noGoto (bodyPost Tryz.prog Tryz.f44 P))) a W := by
  have HQ := Lib.hid hQ
  have c10 : W.cell? ⟨fb, 10, none⟩ = some (.int .u16 tm) := (hfb.cell 10).trans f10
  have c11 : W.cell? ⟨fb, 11, none⟩ = some (.int .u16 dt) := (hfb.cell 11).trans f11
  have hfl := hfb.lt
  clear hQ hfb f10 f11
  conv => arg 2; whnf
  obtain ⟨g, hg, rfl⟩ := frame404 a hF.size hF.defs
  have g0 := hF.s0
  have g4 := hF.s4
  have g20 := hF.s20
  have g21 := hF.s21
  rw [← hg] at g0 g4 g20 g21
  rw [g0, g4, g20, g21]
  clear g0 g4 g20 g21 hF hg
  go_region_with ((go_at_call 61; refine (Tdos _ _ _).mono ?_); rintro e w1 ⟨⟨v, ⟨a1, b1, l1, rfl⟩, rfl⟩, hk⟩; (first | (have hB := hk.blk (Blk.new _ 69 #[.int .u64 0, .int .i64 0, .pointer none]) (by simp); have e0 := hB.cell 0; have e1 := hB.cell 1; have e2 := hB.cell 2; have ef := hB.frozen; have HB := Lib.hid hB; clear hB) | skip); have HK := Lib.hid hk; clear hk)
  all_goals first
    | exact HQ.out _ _ ⟨rfl, rfl, rfl, rfl, rfl, rfl⟩ ⟨_, rfl, TmAt.set3 ⟨_, _, _, HB.out⟩ _ _ _, (((((Kept.refl [] W).alloc _).drew.trans HK.out).setCell (.inr (Nat.le_refl _)) _).setCell (.inr (Nat.le_refl _)) _).setCell (.inr (Nat.le_refl _)) _⟩
    | exact HQ.out _ _ ⟨rfl, rfl, rfl, rfl, rfl, rfl⟩ ⟨_, rfl, TmAt.new _ _ _ _, (((Kept.refl [] W).drew).trans HK.out).alloc _⟩
end Go.Proofs.YtfagjhgmmaebfaaGreatDoor
/- readDirectoryHeader behind the extra fields: the times. -/
namespace Go.Proofs.YtfagjhgmmaebfaaGreatDoor
open Go.RowKit
def findSeq (n : Nat) : Code → Option Code
  | .seq a b => match a with
    | .region m _ _ => if m = n then some (.seq a b) else findSeq n b
    | _ => match findSeq n a with
      | some c => some c
      | none => findSeq n b
  | .block _ c => findSeq n c
  | .cond _ a b => match findSeq n a with
    | some c => some c
    | none => findSeq n b
  | .loop c => findSeq n c
  | .scope c => findSeq n c
  | _ => none
noncomputable def tailC : Code := (Tryz.f44.body.bind (findSeq 87)).getD .skip
set_option maxRecDepth 1000000 in
set_option maxHeartbeats 8000000 in
theorem tail_wp {P : Ending → World → Prop} {a : Act} {W : World} {fb mb xb tm dt : Nat} {p7 p8 : Int} {p9 : Option Addr} {F : Array Value} (hF : FP fb mb xb a) (hfb : Blk W fb 74 F) (f7 : F[7]? = some (.int .u64 p7)) (f8 : F[8]? = some (.int .i64 p8)) (f9 : F[9]? = some (.pointer p9)) (f10 : F[10]? = some (.int .u16 tm)) (f11 : F[11]? = some (.int .u16 dt)) (hm : TmAt W mb)
    (hP : ∀ W' p q l, Blk W' fb 74 (fileT F p q l) → Kept [fb] W W' → P (.returned .nilIface) W') : Code.wp Tryz.prog tailC (Exit.noGoto (bodyPost Tryz.prog Tryz.f44 P)) a W := by
  have HP := Lib.hid hP
  have HF := Lib.hid (And.intro hfb (And.intro f7 (And.intro f8 (And.intro f9 (And.intro f10 (And.intro f11 hm))))))
  have c10 : W.cell? ⟨fb, 10, none⟩ = some (.int .u16 tm) := (hfb.cell 10).trans f10
  have c11 : W.cell? ⟨fb, 11, none⟩ = some (.int .u16 dt) := (hfb.cell 11).trans f11
  have hfl := hfb.lt
  clear hP hfb f7 f8 f9 f10 f11 hm
  conv => arg 2; whnf
  refine wp_seq ?_
  refine wp_cut (fun a' W' => FP fb mb xb a' ∧ Hid (∃ q, a'.tmps.getD 34 undef = .pointer (some ⟨q, 0, none⟩) ∧ TmAt W' q ∧ Kept [] W W')) ?rest ?first
  case first =>
    intro J K' hJ hK
    clear c10 c11
    exact reg87_wp (xb := xb) hF HF.out.1 HF.out.2.2.2.2.1 HF.out.2.2.2.2.2.1 (fun a' W' h1 h2 => hK _ _ (Met.intro (hJ _ _ ⟨h1, Lib.hid h2⟩)))
  case rest =>
  clear hF a
  rintro a' W1 ⟨hf, H1⟩
  obtain ⟨q, h34, hT, hK⟩ := H1.out
  obtain ⟨g, hg, rfl⟩ := frame404 a' hf.size hf.defs
  have g0 := hf.s0
  have g4 := hf.s4
  have g20 := hf.s20
  have g21 := hf.s21
  rw [← hg] at g0 g4 g20 g21 h34
  rw [g0, g4, g20, g21, h34]
  clear g0 g4 g20 g21 hf hg H1 h34
  have hfb1 := hK.blk HF.out.1 (by simp)
  have hm1 := HF.out.2.2.2.2.2.2.kept hK (by simp)
  have hqf : q ≠ fb := hT.tne hfb1 (by decide)
  have hmf : mb ≠ fb := hm1.tne hfb1 (by decide)
  obtain ⟨qa, qb, ql, hq⟩ := hT
  obtain ⟨ma, mB, ml, hm⟩ := hm1
  have q0 := hq.cell 0
  have q1 := hq.cell 1
  have q2 := hq.cell 2
  have c7 : W1.cell? ⟨fb, 7, none⟩ = some (.int .u64 p7) := (hfb1.cell 7).trans HF.out.2.1
  have c8 : W1.cell? ⟨fb, 8, none⟩ = some (.int .i64 p8) := (hfb1.cell 8).trans HF.out.2.2.1
  have c9 : W1.cell? ⟨fb, 9, none⟩ = some (.pointer p9) := (hfb1.cell 9).trans HF.out.2.2.2.1
  have cf := hfb1.frozen
  have HX := Lib.hid (And.intro hfb1 (And.intro hq (And.intro hm hK)))
  clear hfb1 hq hm hK
  go_upto_region 89 with (fail)
  refine at_world (fun W2 => Blk W2 fb 74 (fileT F qa qb ql) ∧ Blk W2 q 69 #[.int .u64 qa, .int .i64 qb, .pointer ql] ∧ Blk W2 mb 69 #[.int .u64 ma, .int .i64 mB, .pointer ml] ∧ Kept [fb] W W2) ⟨((HX.out.1.set_ 7 _).set_ 8 _).set_ 9 _, ((HX.out.2.1.far hqf _).far hqf _).far hqf _, ((HX.out.2.2.1.far hmf _).far hmf _).far hmf _, (((HX.out.2.2.2.mono (by simp)).setCell (by simp) _).setCell (by simp) _).setCell (by simp) _⟩ ?_
  clear HX q0 q1 q2 c7 c8 c9 cf
  rintro W2 hW2
  have HX := Lib.hid hW2
  have m0 := hW2.2.2.1.cell 0
  have m1 := hW2.2.2.1.cell 1
  have m2 := hW2.2.2.1.cell 2
  clear hW2
  go_wp2_with fail
  refine (TZero _ _ _ _).mono ?_
  rintro e W3 ⟨⟨bz, rfl⟩, hk⟩
  have HY := Lib.hid (show Blk W3 fb 74 (fileT F qa qb ql) ∧ Blk W3 q 69 #[.int .u64 qa, .int .i64 qb, .pointer ql] ∧ Blk W3 mb 69 #[.int .u64 ma, .int .i64 mB, .pointer ml] ∧ Kept [fb] W W3 from ⟨hk.blk HX.out.1 (by simp), hk.blk HX.out.2.1 (by simp), hk.blk HX.out.2.2.1 (by simp), HX.out.2.2.2.trans' hk (by simp)⟩)
  clear hk HX m0 m1 m2
  cases bz
  · have m0 := HY.out.2.2.1.cell 0
    have m1 := HY.out.2.2.1.cell 1
    have m2 := HY.out.2.2.1.cell 2
    go_wp2_with fail
    refine (TUTC _ _ _ _).mono ?_
    rintro e W4 ⟨⟨v, ⟨ua, ub, ul, rfl⟩, rfl⟩, hk⟩
    have HZ := Lib.hid (show Blk W4 fb 74 (fileT F qa qb ql) ∧ Blk W4 q 69 #[.int .u64 qa, .int .i64 qb, .pointer ql] ∧ Blk W4 mb 69 #[.int .u64 ma, .int .i64 mB, .pointer ml] ∧ Kept [fb] W W4 from ⟨hk.blk HY.out.1 (by simp), hk.blk HY.out.2.1 (by simp), hk.blk HY.out.2.2.1 (by simp), HY.out.2.2.2.trans' hk (by simp)⟩)
    clear hk HY m0 m1 m2
    have hg := fileT_get HF.out.2.2.2.1 qa qb ql
    have c7 : W4.cell? ⟨fb, 7, none⟩ = some (.int .u64 qa) := (HZ.out.1.cell 7).trans hg.1
    have c8 : W4.cell? ⟨fb, 8, none⟩ = some (.int .i64 qb) := (HZ.out.1.cell 8).trans hg.2.1
    have c9 : W4.cell? ⟨fb, 9, none⟩ = some (.pointer ql) := (HZ.out.1.cell 9).trans hg.2.2.1
    have cf := HZ.out.1.frozen
    clear hg
    go_upto_region 91 with (fail)
    refine at_world (fun W5 => Blk W5 fb 74 (fileT F ua ub ul) ∧ Blk W5 q 69 #[.int .u64 qa, .int .i64 qb, .pointer ql] ∧ Blk W5 mb 69 #[.int .u64 ma, .int .i64 mB, .pointer ml] ∧ Kept [fb] W W5) ⟨Blk.cast (((HZ.out.1.set_ 7 _).set_ 8 _).set_ 9 _) (fileT_twice F _ _ _ _ _ _), ((HZ.out.2.1.far hqf _).far hqf _).far hqf _, ((HZ.out.2.2.1.far hmf _).far hmf _).far hmf _, ((HZ.out.2.2.2.setCell (by simp) _).setCell (by simp) _).setCell (by simp) _⟩ ?_
    clear HZ c7 c8 c9 cf
    rintro W5 hW5
    have HV := Lib.hid hW5
    have HK5 := Lib.hid hW5.2.2.2
    clear hW5
    have hg := fileT_get HF.out.2.2.2.1 ua ub ul
    have c7 : W5.cell? ⟨fb, 7, none⟩ = some (.int .u64 ua) := (HV.out.1.cell 7).trans hg.1
    have c8 : W5.cell? ⟨fb, 8, none⟩ = some (.int .i64 ub) := (HV.out.1.cell 8).trans hg.2.1
    have c9 : W5.cell? ⟨fb, 9, none⟩ = some (.pointer ul) := (HV.out.1.cell 9).trans hg.2.2.1
    have c10 : W5.cell? ⟨fb, 10, none⟩ = some (.int .u16 tm) := ((HV.out.1.cell 10).trans (hg.2.2.2 10 (by decide))).trans HF.out.2.2.2.2.1
    have c11 : W5.cell? ⟨fb, 11, none⟩ = some (.int .u16 dt) := ((HV.out.1.cell 11).trans (hg.2.2.2 11 (by decide))).trans HF.out.2.2.2.2.2.1
    have cf := HV.out.1.frozen
    have q0 := HV.out.2.1.cell 0
    have q1 := HV.out.2.1.cell 1
    have q2 := HV.out.2.1.cell 2
    have m0 := HV.out.2.2.1.cell 0
    have m1 := HV.out.2.2.1.cell 1
    have m2 := HV.out.2.2.1.cell 2
    clear hg
    obtain ⟨bc, hbc⟩ : ∃ bc : Bool, (!((tm : Int) == 0) || !((dt : Int) == 0)) = bc := ⟨_, rfl⟩
    go_upto_region 92 with (fail)
    all_goals first
      | exact show P (.returned .nilIface) W5 from HP.out _ _ _ _ HV.out.1 HV.out.2.2.2
      | skip
    all_goals
      clear hbc c7 c8 c9 c10 c11 cf q0 q1 q2 m0 m1 m2
      refine reg92_wp (xb := xb) ⟨rfl, rfl, rfl, rfl, rfl, rfl⟩ rfl HF.out.2.2.2.1 HV.out.1 HV.out.2.1 HV.out.2.2.1 ?_
      rintro a' W6 p q' l hf h1 h2
      clear HV
      obtain ⟨g, hg, rfl⟩ := frame404 a' hf.size hf.defs
      clear hf hg
      go_wp2
      exact show P (.returned .nilIface) W6 from HP.out _ _ _ _ h1 (HK5.out.trans h2)
  · go_wp2
    exact show P (.returned .nilIface) W3 from HP.out _ _ _ _ HY.out.1 HY.out.2.2.2
end Go.Proofs.YtfagjhgmmaebfaaGreatDoor
