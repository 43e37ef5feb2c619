/- readDirectoryHeader behind the texts: the extra fields, the times. -/
import Derived.Test.YtfagjhgmmaebfaaGreatDoorHdy
import Derived.Test.YtfagjhgmmaebfaaGreatDoorHdz
import Derived.Test.YtfagjhgmmaebfaaGreatDoorFbo
import Derived.Test.YtfagjhgmmaebfaaGreatDoorRba
import Derived.Test.YtfagjhgmmaebfaaGreatDoorTm6
import Derived.Test.YtfagjhgmmaebfaaGreatDoorDetect
import Derived.Test.YtfagjhgmmaebfaaGreatDoorSpt
import Derived.Test.YtfagjhgmmaebfaaGreatDoorSpi
import Derived.Laws.BitsAllLaws
namespace Go.Proofs.YtfagjhgmmaebfaaGreatDoor
open Go.RowKit
noncomputable def restC : Code := (Tryz.f44.body.bind (findSeq 40)).getD .skip
/-- The frame ahead of the extra fields. -/
structure FP0 (fb : Nat) (a : Act) : Prop where
  size : a.tmps.size = 404
  defs : a.defers = []
  s0 : a.tmps.getD 0 undef = .pointer (some ⟨fb, 0, none⟩)
  s4 : a.tmps.getD 4 undef = .nilIface
set_option maxRecDepth 1000000 in
set_option maxHeartbeats 8000000 in
theorem rest40_wp {P : Ending → World → Prop} {a : Act} {W : World} {fb db o xl cq pk sz off tm dt : Nat} {p7 p8 : Int} {p9 : Option Addr} {dl : List UInt8} {F : Array Value} (hF : FP0 fb a) (hfb : Blk W fb 74 F) (hdb : Blk W db 5 (dl.map byteV).toArray)
    (f7 : F[7]? = some (.int .u64 p7)) (f8 : F[8]? = some (.int .i64 p8)) (f9 : F[9]? = some (.pointer p9)) (f10 : F[10]? = some (.int .u16 tm)) (f11 : F[11]? = some (.int .u16 dt)) (f13 : F[13]? = some (.int .u32 pk)) (f14 : F[14]? = some (.int .u32 sz)) (f17 : F[17]? = some (.slice (some ⟨db, o, none⟩) xl cq)) (f21 : F[21]? = some (.int .i64 off))
    (hpk : pk < 4294967295) (hsz : sz < 4294967295) (hof : off < 4294967295) (hx1 : xl ≤ cq) (hx2 : 0 < xl → o + xl ≤ dl.length) (hx3 : cq ≤ 4294967295)
    (hP : ∀ W' p q l, Blk W' fb 74 (fileT F p q l) → Kept [fb] W W' → P (.returned .nilIface) W') : Code.wp Tryz.prog restC (Exit.noGoto (bodyPost Tryz.prog Tryz.f44 P)) a W := by
  have HP := Lib.hid hP
  have H := Lib.hid (And.intro hfb (And.intro hdb (And.intro f17 (And.intro hx1 (And.intro hx2 hx3)))))
  have HT := fun (a' : Act) (W' : World) (x mb : Nat) (h1 : FP fb mb x a') (h2 : Blk W' fb 74 F) (h3 : TmAt W' mb) (h4 : ∀ W'' p q l, Blk W'' fb 74 (fileT F p q l) → Kept [fb] W' W'' → P (.returned .nilIface) W'') => tail_wp h1 h2 f7 f8 f9 f10 f11 h3 h4
  have HX := fun (Q' : Exit → Act → World → Prop) (a' : Act) (W0 W' : World) (x mb : Nat) (h1 : FP fb mb x a') (h2 : EX W0 W' x mb db dl xl) (h3 : Blk W0 fb 74 F) (h4 : mb ≠ fb) => exLoop_wp (Q := Q') h1 h2 h3 f13 f14 f21 h4 hpk hsz hof
  have HT := Lib.hid HT
  have HX := Lib.hid HX
  have hfl := hfb.lt
  clear hP hfb hdb f7 f8 f9 f10 f11 f13 f14 f17 f21 hpk hsz hof hx1 hx2 hx3
  conv => arg 2; whnf
  refine wp_seq ?_
  obtain ⟨mb, hmb⟩ : ∃ mb, mb = W.heap.size := ⟨_, rfl⟩
  have HMB := Lib.hid hmb
  clear hmb
  refine wp_cut (fun a' W' => (a'.tmps.size = 404 ∧ a'.defers = [] ∧ a'.tmps.getD 0 undef = .pointer (some ⟨fb, 0, none⟩) ∧ a'.tmps.getD 4 undef = .nilIface ∧ a'.tmps.getD 20 undef = .pointer (some ⟨mb, 0, none⟩)) ∧ W' = W.alloc (.cells #[.int .u64 0, .int .i64 0, .pointer none] 69)) ?rest ?first
  case first =>
    intro J K' hJ hK
    obtain ⟨g, hg, rfl⟩ := frame404 a hF.size hF.defs
    have g0 := hF.s0
    have g4 := hF.s4
    rw [← hg] at g0 g4
    rw [g0, g4]
    clear g0 g4 hF hg HT HX
    go_wp2_with fail
    exact Met.intro (hJ _ _ ⟨⟨rfl, rfl, rfl, rfl, by rw [HMB.out]; rfl⟩, rfl⟩)
  case rest =>
  clear hF a
  rintro a W1 ⟨⟨hs, hd, g0, g4, g20⟩, hW1⟩
  have hm1 : TmAt W1 mb := by rw [hW1, HMB.out]; exact TmAt.new _ _ _ _
  have hk1 : Kept [] W W1 := by rw [hW1]; exact (Kept.refl _ _).alloc _
  have hfb1 := hk1.blk H.out.1 (by simp)
  have hmf : mb ≠ fb := hm1.tne hfb1 (by decide)
  have HH := Lib.hid (And.intro hm1 (And.intro hk1 (And.intro hfb1 hmf)))
  have f17 : W1.cell? ⟨fb, 17, none⟩ = some (.slice (some ⟨db, o, none⟩) xl cq) := (hfb1.cell 17).trans H.out.2.2.1
  clear hm1 hk1 hfb1 hmf hW1
  refine wp_seq (wp_label ?_)
  refine show Code.wp Tryz.prog _ _ a W1 from ?_
  refine wp_seq ?_
  refine wp_seq ?_
  refine wp_cut (fun a' W' => FP fb mb W1.heap.size a' ∧ W' = W1.alloc (.cells #[.slice (some ⟨db, o, none⟩) xl cq] 113)) ?rest2 ?first2
  case first2 =>
    intro J K' hJ hK
    obtain ⟨g, hg, rfl⟩ := frame404 a hs hd
    rw [← hg] at g0 g4 g20
    rw [g0, g4, g20]
    clear g0 g4 g20 hs hd hg HT HX
    go_wp2_with fail
    exact Met.intro (hJ _ _ ⟨⟨rfl, rfl, rfl, rfl, rfl, rfl⟩, rfl⟩)
  case rest2 =>
  clear g0 g4 g20 hs hd f17 a
  rintro a W2 ⟨hF, rfl⟩
  refine wp_block (HX.out _ _ W1 _ _ _ hF ⟨⟨o, cq, Blk.new _ _ _, H.out.2.2.2⟩, (HH.out.2.1.blk H.out.2.1 (by simp)).alloc _, HH.out.1.kept ((Kept.refl [] _).alloc _) (by simp), (Kept.refl _ _).alloc _, Nat.le_refl _⟩ HH.out.2.2.1 HH.out.2.2.2 ?_)
  intro a' x' W' hF' hT' hK'
  refine show Code.wp Tryz.prog _ _ a' W' from ?_
  refine HT.out a' W' x' mb hF' (hK'.blk HH.out.2.2.1 (by simp; exact HH.out.2.2.2.symm)) hT' ?_
  intro W'' p q l hb hk
  refine HP.out W'' p q l hb ((HH.out.2.1.trans' hK' (fun y hy => .inr (by simp at hy; have := HMB.out; omega))).mono (by simp) |>.trans hk)
end Go.Proofs.YtfagjhgmmaebfaaGreatDoor
/- Contract: readDirectoryHeader of a file's header. -/
namespace Go.Proofs.YtfagjhgmmaebfaaGreatDoor
open Go.RowKit
/-- A new file's cells, and what the walk makes of them. -/
def fileC (zb rb : Nat) (name comment : List UInt8) (nu : Bool) (a b c d : Nat) (t0 t1 : Int) (t2 : Option Addr) (e f g p q p6 q6 : Nat) (x : Value) (ext off : Nat) : Array Value :=
  #[.string ⟨name.toArray⟩, .string ⟨comment.toArray⟩, .bool nu, .int .u16 a, .int .u16 b, .int .u16 c, .int .u16 d, .int .u64 t0, .int .i64 t1, .pointer t2, .int .u16 e, .int .u16 f, .int .u32 g, .int .u32 p, .int .u32 q, .int .u64 p6, .int .u64 q6, x, .int .u32 ext, .pointer (some ⟨zb, 0, none⟩), .iface 54 (.pointer (some ⟨rb, 0, none⟩)), .int .i64 off]
/-- A file of a reader, as its header tells. -/
def FileAt (w : World) (B zb rb fb : Nat) (h : Hd) (off : Nat) : Prop := ∃ (t0 t1 : Int) (t2 : Option Addr) (db o cq a : Nat) (dl : List UInt8), Blk w fb 74 (fileC zb rb h.name h.comment (nonU h) h.creator h.reader h.flags h.method t0 t1 t2 h.time h.date h.crc h.packed h.size h.packed h.size (.slice (some ⟨db, o, none⟩) h.extra.length cq) h.external off) ∧
  Blk w db 5 (dl.map byteV).toArray ∧ sub dl a h.extra.length = h.extra ∧ (0 < h.extra.length → o = a) ∧ B ≤ fb ∧ B ≤ db
theorem FileAt.kept {w w' : World} {B zb rb fb off : Nat} {h : Hd} {S : List Nat} (hf : FileAt w B zb rb fb h off) (k : Kept S w w') (hS : ∀ x ∈ S, x < B ∨ w.heap.size ≤ x ∨ ∃ t cs, Blk w x t cs ∧ t ≠ 74 ∧ t ≠ 5) : FileAt w' B zb rb fb h off := by
  obtain ⟨t0, t1, t2, db, o, cq, a, dl, h1, h2, h3, h4, h5, h6⟩ := hf
  refine ⟨t0, t1, t2, db, o, cq, a, dl, k.blk h1 (fun hx => ?_), k.blk h2 (fun hx => ?_), h3, h4, h5, h6⟩
  · rcases hS _ hx with e | e | ⟨t, cs, e, e1, e2⟩
    · omega
    · have := h1.lt; omega
    · exact e.ne_ h1 e1 rfl
  · rcases hS _ hx with e | e | ⟨t, cs, e, e1, e2⟩
    · omega
    · have := h2.lt; omega
    · exact e.ne_ h2 e2 rfl
theorem flag_bit (f : Nat) (hf : f < 65536) : (bits .and .u16 (f : Int) 2048 == 0) = decide (f / 2048 % 2 = 0) := by
  have h := u16_and_nat f 2048 hf (by decide)
  have e : f &&& 2048 = 2048 * (f / 2048 % 2) := by
    apply Nat.eq_of_testBit_eq
    intro i
    rw [show (2048 : Nat) = 2 ^ 11 from rfl, Nat.testBit_and, Nat.testBit_two_pow, Nat.testBit_two_pow_mul]
    by_cases hi : 11 = i
    · subst hi
      rw [Nat.testBit_zero, Nat.testBit_eq_decide_div_mod_eq]
      simp
    · by_cases h2 : 11 ≤ i
      · have e1 : (f / 2 ^ 11 % 2).testBit (i - 11) = false := Nat.testBit_lt_two_pow (by
          have h3 : f / 2 ^ 11 % 2 < 2 := Nat.mod_lt _ (by decide)
          have h4 : 2 ^ 1 ≤ 2 ^ (i - 11) := Nat.pow_le_pow_right (by decide) (by omega)
          omega)
        simp [hi, e1]
      · simp [hi, h2]
  rw [show ((2048 : Nat) : Int) = 2048 from rfl] at h
  rw [h, e]
  rcases Nat.mod_two_eq_zero_or_one (f / 2048) with e | e <;> rw [e] <;> simp
/-- What stands in a central header: its numbers. -/
structure CenN (s : List UInt8) (q : Nat) (h : Hd) (off : Nat) (l : List UInt8) : Prop where
  len : l.length = 46
  sig : numL (sub l 0 4) = 33639248
  creator : numL (sub l 4 2) = h.creator
  reader : numL (sub l 6 2) = h.reader
  flags : numL (sub l 8 2) = h.flags
  method : numL (sub l 10 2) = h.method
  time : numL (sub l 12 2) = h.time
  date : numL (sub l 14 2) = h.date
  crc : numL (sub l 16 4) = h.crc
  packed : numL (sub l 20 4) = h.packed
  size : numL (sub l 24 4) = h.size
  nlen : numL (sub l 28 2) = h.name.length
  xlen : numL (sub l 30 2) = h.extra.length
  clen : numL (sub l 32 2) = h.comment.length
  external : numL (sub l 38 4) = h.external
  off : numL (sub l 42 4) = off
theorem cenN {s : List UInt8} {q off : Nat} {h : Hd} (hc : CentralAt s q h off) (hF : h.Fits) (ho : off < 4294967296) : CenN s q h off ((s.drop q).take 46) := by
  have hr := hc.rest
  have e : ∀ {a n : Nat}, a + n ≤ 46 → sub ((s.drop q).take 46) a n = sub s (q + a) n := fun h => sub_take h
  refine ⟨by rw [List.length_take, List.length_drop]; omega, ?_, ?_, ?_, ?_, ?_, ?_, ?_, ?_, ?_, ?_, ?_, ?_, ?_, ?_, ?_⟩
  · rw [e (by decide), Nat.add_zero, hc.sig]; decide
  · rw [e (by decide), hc.creator]; exact leB2 _ hF.creator
  · rw [e (by decide), hc.reader]; exact leB2 _ hF.reader
  · rw [e (by decide), hc.flags]; exact leB2 _ hF.flags
  · rw [e (by decide), hc.method]; exact leB2 _ hF.method
  · rw [e (by decide), hc.time]; exact leB2 _ hF.time
  · rw [e (by decide), hc.date]; exact leB2 _ hF.date
  · rw [e (by decide), hc.crc]; exact leB4 _ hF.crc
  · rw [e (by decide), hc.packed]; exact leB4 _ hF.packed
  · rw [e (by decide), hc.size]; exact leB4 _ hF.size
  · rw [e (by decide), hc.nlen]; exact leB2 _ hF.name
  · rw [e (by decide), hc.xlen]; exact leB2 _ hF.extra
  · rw [e (by decide), hc.clen]; exact leB2 _ hF.comment
  · rw [e (by decide), hc.external]; exact leB4 _ hF.external
  · rw [e (by decide), hc.off]; exact leB4 _ ho
/-- Where readDirectoryHeader stands: its readBuf r at o of the row g, its file fb, the reader. -/
structure HS (w W : World) (r g fb bb gb sb rb tl : Nat) (l s : List UInt8) (L q o n : Nat) (F : Array Value) : Prop where
  rd : Blk W r 113 #[.slice (some ⟨g, o, none⟩) n n]
  row : Blk W g tl (l.map byteV).toArray
  fil : Blk W fb 74 F
  br : BR W bb gb sb rb s L q
  kept : Kept [bb, gb, sb, fb] w W
structure HAp (w : World) (r g fb bb gb sb rb : Nat) : Prop where
  ra : r ∉ [g, fb, bb, gb, sb, rb]
  ga : g ∉ [fb, bb, gb, sb, rb]
  fa : fb ∉ [bb, gb, sb, rb]
  wr : w.heap.size ≤ r
  wg : w.heap.size ≤ g
section
variable {w W W' : World} {r g fb bb gb sb rb tl L q o n : Nat} {l s : List UInt8} {F : Array Value}
theorem HS.call {o' n' : Nat} (h : HS w W r g fb bb gb sb rb tl l s L q o n F) (a : HAp w r g fb bb gb sb rb) (hb : Blk W' r 113 #[.slice (some ⟨g, o', none⟩) n' n']) (k : Kept [r] W W') : HS w W' r g fb bb gb sb rb tl l s L q o' n' F := by
  have hr := a.ra
  simp only [List.mem_cons, List.not_mem_nil, or_false, not_or] at hr
  obtain ⟨h1, h2, h3, h4, h5, h6⟩ := hr
  exact ⟨hb, k.blk h.row (by simp; exact Ne.symm h1), k.blk h.fil (by simp; exact Ne.symm h2), h.br.kept k (by simp; exact Ne.symm h3) (by simp; exact Ne.symm h4) (by simp; exact Ne.symm h5) (by simp; exact Ne.symm h6), h.kept.trans' k (fun x hx => by simp at hx; subst hx; exact .inr a.wr)⟩
theorem HS.store {F' : Array Value} (h : HS w W r g fb bb gb sb rb tl l s L q o n F) (a : HAp w r g fb bb gb sb rb) (i : Nat) (v : Value) (e : F.setIfInBounds i v = F') : HS w (W.setCell ⟨fb, i, none⟩ v) r g fb bb gb sb rb tl l s L q o n F' := by
  have hr := a.ra
  have hg := a.ga
  have hf := a.fa
  simp only [List.mem_cons, List.not_mem_nil, or_false, not_or] at hr hg hf
  have k : Kept [fb] W (W.setCell ⟨fb, i, none⟩ v) := (Kept.refl _ _).setCell (by simp) _
  exact ⟨h.rd.far hr.2.1 _, h.row.far hg.1 _, Blk.cast (h.fil.set_ i v) e, h.br.kept k (by simp; exact Ne.symm hf.1) (by simp; exact Ne.symm hf.2.1) (by simp; exact Ne.symm hf.2.2.1) (by simp; exact Ne.symm hf.2.2.2), h.kept.setCell (by simp) _⟩
theorem HS.cut {o' n' : Nat} (h : HS w W r g fb bb gb sb rb tl l s L q o n F) (a : HAp w r g fb bb gb sb rb) : HS w (W.setCell ⟨r, 0, none⟩ (.slice (some ⟨g, o', none⟩) n' n')) r g fb bb gb sb rb tl l s L q o' n' F :=
  h.call a (Blk.cast (h.rd.set_ 0 _) (by simp)) ((Kept.refl _ _).setCell (by simp) _)
end
/-- Where it stands behind the texts: their row db, its file fb, the reader. -/
structure HD (w W : World) (db fb bb gb sb rb : Nat) (dl s : List UInt8) (L q : Nat) (F : Array Value) : Prop where
  row : Blk W db 5 (dl.map byteV).toArray
  fil : Blk W fb 74 F
  br : BR W bb gb sb rb s L q
  kept : Kept [bb, gb, sb, fb] w W
structure HDp (w : World) (db fb bb gb sb rb : Nat) : Prop where
  da : db ∉ [fb, bb, gb, sb, rb]
  fa : fb ∉ [bb, gb, sb, rb]
  wd : w.heap.size ≤ db
section
variable {w W W' : World} {db fb bb gb sb rb L q : Nat} {dl s : List UInt8} {F : Array Value}
theorem HD.on (h : HD w W db fb bb gb sb rb dl s L q F) (k : Kept [] W W') : HD w W' db fb bb gb sb rb dl s L q F :=
  ⟨k.blk h.row (by simp), k.blk h.fil (by simp), h.br.kept k (by simp) (by simp) (by simp) (by simp), h.kept.trans' k (by simp)⟩
theorem HD.fresh {x : Nat} (h : HD w W db fb bb gb sb rb dl s L q F) (k : Kept [x] W W') (hx : x ∉ [db, fb, bb, gb, sb, rb]) (hw : w.heap.size ≤ x) : HD w W' db fb bb gb sb rb dl s L q F := by
  simp only [List.mem_cons, List.not_mem_nil, or_false, not_or] at hx
  obtain ⟨h1, h2, h3, h4, h5, h6⟩ := hx
  exact ⟨k.blk h.row (by simp; exact Ne.symm h1), k.blk h.fil (by simp; exact Ne.symm h2), h.br.kept k (by simp; exact Ne.symm h3) (by simp; exact Ne.symm h4) (by simp; exact Ne.symm h5) (by simp; exact Ne.symm h6), h.kept.trans' k (fun y hy => by simp at hy; subst hy; exact .inr hw)⟩
theorem HD.store {F' : Array Value} (h : HD w W db fb bb gb sb rb dl s L q F) (a : HDp w db fb bb gb sb rb) (i : Nat) (v : Value) (e : F.setIfInBounds i v = F') : HD w (W.setCell ⟨fb, i, none⟩ v) db fb bb gb sb rb dl s L q F' := by
  have hd := a.da
  have hf := a.fa
  simp only [List.mem_cons, List.not_mem_nil, or_false, not_or] at hd hf
  have k : Kept [fb] W (W.setCell ⟨fb, i, none⟩ v) := (Kept.refl _ _).setCell (by simp) _
  exact ⟨h.row.far hd.1 _, Blk.cast (h.fil.set_ i v) e, h.br.kept k (by simp; exact Ne.symm hf.1) (by simp; exact Ne.symm hf.2.1) (by simp; exact Ne.symm hf.2.2.1) (by simp; exact Ne.symm hf.2.2.2), h.kept.setCell (by simp) _⟩
end
theorem slice_any (g r h n c : Nat) (z : Int) (hz : z = (h : Int)) (h1 : r ≤ h) (h2 : h ≤ c) : ∃ o', (r < c → o' = r) ∧ ∀ W : World, (Instr.slice 46 (.slice (some ⟨g, 0, none⟩) n c) (some (.int .i64 r)) (some (.int .i64 z)) none).run Tryz.prog W = .ok (.slice (some ⟨g, o', none⟩) (h - r) (c - r)) W := by
  subst hz
  by_cases h3 : r < c
  · refine ⟨r, fun _ => rfl, fun W => ?_⟩
    have := slice_lh g 0 r h n c h1 h2 h3 W
    rwa [Nat.zero_add] at this
  · obtain rfl : c = r := by omega
    refine ⟨0, fun h => absurd h h3, fun W => ?_⟩
    rw [run_slice_lh (P := Tryz.prog) W 46 (some ⟨g, 0, none⟩) n c (by kernel_rfl) .i64 .i64 c h (by omega) (by omega) (by omega), u8_size]
    simp [sliced, Result.andThen]
theorem slice_lany (g r n c : Nat) (z : Int) (hz : z = (r : Int)) (h1 : r ≤ n) (h2 : n ≤ c) : ∃ o', (r < c → o' = r) ∧ ∀ W : World, (Instr.slice 46 (.slice (some ⟨g, 0, none⟩) n c) (some (.int .i64 z)) none none).run Tryz.prog W = .ok (.slice (some ⟨g, o', none⟩) (n - r) (c - r)) W := by
  subst hz
  by_cases h3 : r < c
  · refine ⟨r, fun _ => rfl, fun W => ?_⟩
    have := slice_l g 0 r n c h1 h3 W
    rwa [Nat.zero_add] at this
  · obtain rfl : c = r := by omega
    refine ⟨0, fun h => absurd h h3, fun W => ?_⟩
    rw [run_slice_l (P := Tryz.prog) W 46 (some ⟨g, 0, none⟩) n c (by kernel_rfl) .i64 c (by omega) (by omega), u8_size]
    simp [sliced, Result.andThen]
theorem conv_u8 {w : World} {g o n cap : Nat} {c : List UInt8} (h : BytesAt w ⟨g, o, none⟩ c) (hn : n = c.length) : (convert 46 9 (.slice (some ⟨g, o, none⟩) n cap)).run Tryz.prog w = .ok (.string ⟨c.toArray⟩) w := by
  subst hn
  exact run_convert_bytes_back w 46 9 5 ⟨g, o, none⟩ cap c (by kernel_rfl) Tryz.underlying5 Tryz.underlying9 h
theorem bytes_sub {w : World} {g t o a n : Nat} {l c : List UInt8} (hl : Blk w g t (l.map byteV).toArray) (hc : sub l a n = c) (hn : c.length = n) (ho : 0 < n → o = a) : BytesAt w ⟨g, o, none⟩ c := fun j hj => by
  obtain rfl := ho (by omega)
  have hlen : o + j < l.length := by
    have := congrArg List.length hc
    unfold sub at this
    rw [List.length_take, List.length_drop] at this
    omega
  have e : l[o + j] = c[j] := by
    have h1 : (sub l o n)[j]? = some l[o + j] := by
      unfold sub
      rw [List.getElem?_take_of_lt (by omega), List.getElem?_drop, List.getElem?_eq_getElem hlen]
    rw [hc, List.getElem?_eq_getElem hj] at h1
    exact (Option.some.inj h1).symm
  rw [add_at, hl.byte (o + j) hlen, e]
  rfl
theorem tabs_kept {g3 g4 : Nat} {W W' : World} {S : List Nat} (h : Lib.Utf8Tabs g3 g4 W) (k : Kept S W W') (h3 : g3 ∉ S) (h4 : g4 ∉ S) : Lib.Utf8Tabs g3 g4 W' := by
  have lt : ∀ (g c : Nat) (v : Value), W.cell? ⟨g, c, none⟩ = some v → g < W.heap.size := fun g c v hc => by
    rcases Nat.lt_or_ge g W.heap.size with h | h
    · exact h
    · exfalso
      unfold World.cell? at hc
      simp [Array.getElem?_eq_none h] at hc
  have l3 := lt g3 0 _ (h.1 0 (by omega))
  have l4 := lt g4 (2 * 0) _ (h.2 0 (by omega)).1
  exact ⟨fun c hc => (k.cell (p := ⟨g3, c, none⟩) l3 h3).trans (h.1 c hc), fun i hi => ⟨(k.cell (p := ⟨g4, 2 * i, none⟩) l4 h4).trans (h.2 i hi).1, (k.cell (p := ⟨g4, 2 * i + 1, none⟩) l4 h4).trans (h.2 i hi).2⟩⟩
set_option maxRecDepth 1000000 in
set_option maxHeartbeats 8000000 in
theorem Hdr_any {w : World} {bb gb sb rb zb fb : Nat} {s : List UInt8} {L q off : Nat} {h : Hd} (hR : BR w bb gb sb rb s L q) (hc : CentralAt s q h off) (hF : h.Fits) (ho : off < 4294967295) (hp : h.packed < 4294967295) (hz : h.size < 4294967295) (hq : q + (46 + h.name.length + h.extra.length + h.comment.length) ≤ L)
    (hf : Blk w fb 74 (fileC zb rb [] [] false 0 0 0 0 0 0 none 0 0 0 0 0 0 0 (.slice none 0 0) 0 0)) (hlt : ∀ x ∈ [bb, gb, sb, rb], x < w.heap.size) (hfx : fb ∉ [bb, gb, sb, rb]) (hT : Lib.Utf8Tabs 9 10 w) (htl : ∀ x ∈ [bb, gb, sb, fb], 9 < x ∧ 10 < x) {B : Nat} (hBf : B ≤ fb) :
    Calls Tryz.prog 44 #[.pointer (some ⟨fb, 0, none⟩), .iface 108 (.pointer (some ⟨bb, 0, none⟩))] w fun e w' => e = .returned .nilIface ∧ FileAt w' B zb rb fb h off ∧ BR w' bb gb sb rb s L (q + (46 + h.name.length + h.extra.length + h.comment.length)) ∧ Kept [bb, gb, sb, fb] w w' := by
  obtain ⟨i0, hi, hz0, hz1, hz2⟩ := info_parts infoU8
  have hn := cenN hc hF (by omega)
  obtain ⟨l, hl⟩ : ∃ l, l = (s.drop q).take 46 := ⟨_, rfl⟩
  rw [← hl] at hn
  have HN := Lib.hid hn
  have HI := Lib.hid (And.intro hR (And.intro hf (And.intro hlt (And.intro hfx (And.intro hT htl)))))
  have HF := Lib.hid (And.intro hF (And.intro ho (And.intro hp (And.intro hz hq))))
  have HC := Lib.hid (And.intro hc hl)
  have hq46 : q + 46 ≤ L := by omega
  have hNl : h.name.length < 65536 := HF.out.1.name
  have hXl : h.extra.length < 65536 := HF.out.1.extra
  have hCl : h.comment.length < 65536 := HF.out.1.comment
  clear hn hl hR hf hlt hfx hT htl hc hF ho hp hz hq
  go_enter Tryz.func44, Tryz.ntmps44
  go_wp2_with fail
  go_step3
  go_upto_region 2 with (fail)
  refine at_world (fun W => (∃ tl cs0, Blk W w.heap.size tl cs0 ∧ cs0.size = 46 ∧ tl ≠ 113 ∧ tl ≠ 74 ∧ tl ≠ 145 ∧ tl ≠ 117) ∧ Kept [] w W) ⟨⟨_, _, Blk.new _ _ _, rfl, by decide, by decide, by decide, by decide⟩, (Kept.refl _ _).alloc _⟩ ?_
  rintro W ⟨⟨tl, cs0, hB, hc0, ht1, ht2, ht3, ht4⟩, hK⟩
  obtain ⟨g, hg⟩ : ∃ g, g = w.heap.size := ⟨_, rfl⟩
  rw [← hg] at hB ⊢
  have hgn : g ∉ [bb, gb, sb, rb] := fun hx => by have := HI.out.2.2.1 _ hx; omega
  have hgf : g ≠ fb := by have := HI.out.2.1.lt; omega
  have HRF := Lib.hid (ReadFull_fullA (HI.out.1.kept hK (by simp) (by simp) (by simp) (by simp)) g 0 46 46 tl cs0 hq46 (by decide) (by decide) hB (by omega) hgn)
  have HG := Lib.hid (And.intro hg (And.intro hgn (And.intro hgf hK)))
  have HB := Lib.hid (And.intro hB hc0)
  clear hg hgn hgf hB hc0 hK
  go_wp2_with fail
  refine HRF.out.mono ?_
  rintro e w1 ⟨rfl, hR1, hB1, hK1⟩
  have hB1' : Blk w1 g tl (l.map byteV).toArray := by rw [HC.out.2]; exact Blk.cast hB1 (putAll_whole _ _ (by rw [List.length_map, ← HC.out.2, HN.out.len, HB.out.2]))
  have hF1 := hK1.blk (HG.out.2.2.2.blk HI.out.2.1 (by simp)) (by have := HI.out.2.2.2.1; simp at this ⊢; exact ⟨this.1, this.2.1, this.2.2.1, HG.out.2.2.1.symm⟩)
  have hK1' : Kept [bb, gb, sb, fb] w w1 := (HG.out.2.2.2.mono (by simp)).trans' hK1 (fun x hx => by simp at hx ⊢; rcases hx with rfl | rfl | rfl | rfl <;> first | simp | (right; right; right; right; have := HG.out.1; omega) | (have := HG.out.1; omega))
  have HX := Lib.hid (And.intro hR1 (And.intro hB1' (And.intro hF1 hK1')))
  clear hR1 hB1 hB1' hF1 hK1 hK1' HRF HB
  go_upto_region 6 with (fail)
  obtain ⟨r, hr⟩ : ∃ r, r = w1.heap.size := ⟨_, rfl⟩
  rw [← hr]
  have hA : HAp w r g fb bb gb sb rb := by
    have hw1 : w.heap.size ≤ w1.heap.size := HX.out.2.2.2.size
    refine ⟨fun hx => ?_, fun hx => ?_, HI.out.2.2.2.1, by omega, Nat.le_of_eq HG.out.1.symm⟩
    · simp only [List.mem_cons, List.not_mem_nil, or_false] at hx
      have h1 := HX.out.2.1.lt
      have h2 := HX.out.2.2.1.lt
      have h3 := HI.out.2.2.1
      rcases hx with rfl | rfl | rfl | rfl | rfl | rfl
      · omega
      · omega
      all_goals (have := h3 r (by simp); omega)
    · rcases List.mem_cons.1 hx with rfl | hx
      · exact HG.out.2.2.1 rfl
      · exact HG.out.2.1 hx
  refine at_world (fun W => HS w W r g fb bb gb sb rb tl l s L (q + 46) 0 46 (fileC zb rb [] [] false 0 0 0 0 0 0 none 0 0 0 0 0 0 0 (.slice none 0 0) 0 0)) ⟨hr ▸ Blk.new _ _ _, HX.out.2.1.alloc _, HX.out.2.2.1.alloc _, HX.out.1.kept ((Kept.refl [] _).alloc _) (by simp) (by simp) (by simp) (by simp), HX.out.2.2.2.alloc _⟩ ?_
  rintro W2 hx
  have HA := Lib.hid hA
  clear HX hA hr
  have HX := Lib.hid hx
  clear hx
  go_wp2_with fail
  refine (rb32t HX.out.rd HX.out.row (by decide) (by decide) (by have := HN.out.len; omega) 33639248 HN.out.sig).mono ?_
  rintro e v2 ⟨rfl, ⟨o', ho', hr'⟩, hk⟩
  obtain rfl : o' = 4 := ho'.out (by decide)
  have HY := Lib.hid (HX.out.call HA.out hr' hk)
  clear HX hr' hk ho'
  go_upto_region 9 with (fail)
  refine at_world (fun W => HS w W r g fb bb gb sb rb tl l s L (q + 46) 4 42 (fileC zb rb [] [] false 0 0 0 0 0 0 none 0 0 0 0 0 0 0 (.slice none 0 0) 0 0)) HY.out ?_
  rintro u0 hx
  clear HY
  have HX := Lib.hid hx
  clear hx
  go_wp2_with fail
  refine (rb16t HX.out.rd HX.out.row (by decide) (by decide) (by have := HN.out.len; omega) h.creator HN.out.creator).mono ?_
  rintro e v3 ⟨rfl, ⟨o', ho', hr'⟩, hk⟩
  obtain rfl : o' = 6 := ho'.out (by decide)
  have HY := Lib.hid (HX.out.call HA.out hr' hk)
  clear HX hr' hk ho'
  have z : v3.cell? ⟨fb, 3, none⟩ = some (.int .u16 (0 : Nat)) := HY.out.fil.cell 3
  have zf : ∀ i, v3.frozen? ⟨fb, i, none⟩ = false := HY.out.fil.frozen
  go_upto_region 10 with (fail)
  refine at_world (fun W => HS w W r g fb bb gb sb rb tl l s L (q + 46) 6 40 (fileC zb rb [] [] false h.creator 0 0 0 0 0 none 0 0 0 0 0 0 0 (.slice none 0 0) 0 0)) (HY.out.store HA.out 3 (.int .u16 h.creator) (by simp [fileC])) ?_
  rintro u4 hx
  clear z zf HY
  have HX := Lib.hid hx
  clear hx
  go_wp2_with fail
  refine (rb16t HX.out.rd HX.out.row (by decide) (by decide) (by have := HN.out.len; omega) h.reader HN.out.reader).mono ?_
  rintro e v5 ⟨rfl, ⟨o', ho', hr'⟩, hk⟩
  obtain rfl : o' = 8 := ho'.out (by decide)
  have HY := Lib.hid (HX.out.call HA.out hr' hk)
  clear HX hr' hk ho'
  have z : v5.cell? ⟨fb, 4, none⟩ = some (.int .u16 (0 : Nat)) := HY.out.fil.cell 4
  have zf : ∀ i, v5.frozen? ⟨fb, i, none⟩ = false := HY.out.fil.frozen
  go_upto_region 11 with (fail)
  refine at_world (fun W => HS w W r g fb bb gb sb rb tl l s L (q + 46) 8 38 (fileC zb rb [] [] false h.creator h.reader 0 0 0 0 none 0 0 0 0 0 0 0 (.slice none 0 0) 0 0)) (HY.out.store HA.out 4 (.int .u16 h.reader) (by simp [fileC])) ?_
  rintro u6 hx
  clear z zf HY
  have HX := Lib.hid hx
  clear hx
  go_wp2_with fail
  refine (rb16t HX.out.rd HX.out.row (by decide) (by decide) (by have := HN.out.len; omega) h.flags HN.out.flags).mono ?_
  rintro e v7 ⟨rfl, ⟨o', ho', hr'⟩, hk⟩
  obtain rfl : o' = 10 := ho'.out (by decide)
  have HY := Lib.hid (HX.out.call HA.out hr' hk)
  clear HX hr' hk ho'
  have z : v7.cell? ⟨fb, 5, none⟩ = some (.int .u16 (0 : Nat)) := HY.out.fil.cell 5
  have zf : ∀ i, v7.frozen? ⟨fb, i, none⟩ = false := HY.out.fil.frozen
  go_upto_region 12 with (fail)
  refine at_world (fun W => HS w W r g fb bb gb sb rb tl l s L (q + 46) 10 36 (fileC zb rb [] [] false h.creator h.reader h.flags 0 0 0 none 0 0 0 0 0 0 0 (.slice none 0 0) 0 0)) (HY.out.store HA.out 5 (.int .u16 h.flags) (by simp [fileC])) ?_
  rintro u8 hx
  clear z zf HY
  have HX := Lib.hid hx
  clear hx
  go_wp2_with fail
  refine (rb16t HX.out.rd HX.out.row (by decide) (by decide) (by have := HN.out.len; omega) h.method HN.out.method).mono ?_
  rintro e v9 ⟨rfl, ⟨o', ho', hr'⟩, hk⟩
  obtain rfl : o' = 12 := ho'.out (by decide)
  have HY := Lib.hid (HX.out.call HA.out hr' hk)
  clear HX hr' hk ho'
  have z : v9.cell? ⟨fb, 6, none⟩ = some (.int .u16 (0 : Nat)) := HY.out.fil.cell 6
  have zf : ∀ i, v9.frozen? ⟨fb, i, none⟩ = false := HY.out.fil.frozen
  go_upto_region 13 with (fail)
  refine at_world (fun W => HS w W r g fb bb gb sb rb tl l s L (q + 46) 12 34 (fileC zb rb [] [] false h.creator h.reader h.flags h.method 0 0 none 0 0 0 0 0 0 0 (.slice none 0 0) 0 0)) (HY.out.store HA.out 6 (.int .u16 h.method) (by simp [fileC])) ?_
  rintro u10 hx
  clear z zf HY
  have HX := Lib.hid hx
  clear hx
  go_wp2_with fail
  refine (rb16t HX.out.rd HX.out.row (by decide) (by decide) (by have := HN.out.len; omega) h.time HN.out.time).mono ?_
  rintro e v11 ⟨rfl, ⟨o', ho', hr'⟩, hk⟩
  obtain rfl : o' = 14 := ho'.out (by decide)
  have HY := Lib.hid (HX.out.call HA.out hr' hk)
  clear HX hr' hk ho'
  have z : v11.cell? ⟨fb, 10, none⟩ = some (.int .u16 (0 : Nat)) := HY.out.fil.cell 10
  have zf : ∀ i, v11.frozen? ⟨fb, i, none⟩ = false := HY.out.fil.frozen
  go_upto_region 14 with (fail)
  refine at_world (fun W => HS w W r g fb bb gb sb rb tl l s L (q + 46) 14 32 (fileC zb rb [] [] false h.creator h.reader h.flags h.method 0 0 none h.time 0 0 0 0 0 0 (.slice none 0 0) 0 0)) (HY.out.store HA.out 10 (.int .u16 h.time) (by simp [fileC])) ?_
  rintro u12 hx
  clear z zf HY
  have HX := Lib.hid hx
  clear hx
  go_wp2_with fail
  refine (rb16t HX.out.rd HX.out.row (by decide) (by decide) (by have := HN.out.len; omega) h.date HN.out.date).mono ?_
  rintro e v13 ⟨rfl, ⟨o', ho', hr'⟩, hk⟩
  obtain rfl : o' = 16 := ho'.out (by decide)
  have HY := Lib.hid (HX.out.call HA.out hr' hk)
  clear HX hr' hk ho'
  have z : v13.cell? ⟨fb, 11, none⟩ = some (.int .u16 (0 : Nat)) := HY.out.fil.cell 11
  have zf : ∀ i, v13.frozen? ⟨fb, i, none⟩ = false := HY.out.fil.frozen
  go_upto_region 15 with (fail)
  refine at_world (fun W => HS w W r g fb bb gb sb rb tl l s L (q + 46) 16 30 (fileC zb rb [] [] false h.creator h.reader h.flags h.method 0 0 none h.time h.date 0 0 0 0 0 (.slice none 0 0) 0 0)) (HY.out.store HA.out 11 (.int .u16 h.date) (by simp [fileC])) ?_
  rintro u14 hx
  clear z zf HY
  have HX := Lib.hid hx
  clear hx
  go_wp2_with fail
  refine (rb32t HX.out.rd HX.out.row (by decide) (by decide) (by have := HN.out.len; omega) h.crc HN.out.crc).mono ?_
  rintro e v15 ⟨rfl, ⟨o', ho', hr'⟩, hk⟩
  obtain rfl : o' = 20 := ho'.out (by decide)
  have HY := Lib.hid (HX.out.call HA.out hr' hk)
  clear HX hr' hk ho'
  have z : v15.cell? ⟨fb, 12, none⟩ = some (.int .u32 (0 : Nat)) := HY.out.fil.cell 12
  have zf : ∀ i, v15.frozen? ⟨fb, i, none⟩ = false := HY.out.fil.frozen
  go_upto_region 16 with (fail)
  refine at_world (fun W => HS w W r g fb bb gb sb rb tl l s L (q + 46) 20 26 (fileC zb rb [] [] false h.creator h.reader h.flags h.method 0 0 none h.time h.date h.crc 0 0 0 0 (.slice none 0 0) 0 0)) (HY.out.store HA.out 12 (.int .u32 h.crc) (by simp [fileC])) ?_
  rintro u16 hx
  clear z zf HY
  have HX := Lib.hid hx
  clear hx
  go_wp2_with fail
  refine (rb32t HX.out.rd HX.out.row (by decide) (by decide) (by have := HN.out.len; omega) h.packed HN.out.packed).mono ?_
  rintro e v17 ⟨rfl, ⟨o', ho', hr'⟩, hk⟩
  obtain rfl : o' = 24 := ho'.out (by decide)
  have HY := Lib.hid (HX.out.call HA.out hr' hk)
  clear HX hr' hk ho'
  have z : v17.cell? ⟨fb, 13, none⟩ = some (.int .u32 (0 : Nat)) := HY.out.fil.cell 13
  have zf : ∀ i, v17.frozen? ⟨fb, i, none⟩ = false := HY.out.fil.frozen
  go_upto_region 17 with (fail)
  refine at_world (fun W => HS w W r g fb bb gb sb rb tl l s L (q + 46) 24 22 (fileC zb rb [] [] false h.creator h.reader h.flags h.method 0 0 none h.time h.date h.crc h.packed 0 0 0 (.slice none 0 0) 0 0)) (HY.out.store HA.out 13 (.int .u32 h.packed) (by simp [fileC])) ?_
  rintro u18 hx
  clear z zf HY
  have HX := Lib.hid hx
  clear hx
  go_wp2_with fail
  refine (rb32t HX.out.rd HX.out.row (by decide) (by decide) (by have := HN.out.len; omega) h.size HN.out.size).mono ?_
  rintro e v19 ⟨rfl, ⟨o', ho', hr'⟩, hk⟩
  obtain rfl : o' = 28 := ho'.out (by decide)
  have HY := Lib.hid (HX.out.call HA.out hr' hk)
  clear HX hr' hk ho'
  have z : v19.cell? ⟨fb, 14, none⟩ = some (.int .u32 (0 : Nat)) := HY.out.fil.cell 14
  have zf : ∀ i, v19.frozen? ⟨fb, i, none⟩ = false := HY.out.fil.frozen
  go_upto_region 18 with (fail)
  refine at_world (fun W => HS w W r g fb bb gb sb rb tl l s L (q + 46) 28 18 (fileC zb rb [] [] false h.creator h.reader h.flags h.method 0 0 none h.time h.date h.crc h.packed h.size 0 0 (.slice none 0 0) 0 0)) (HY.out.store HA.out 14 (.int .u32 h.size) (by simp [fileC])) ?_
  rintro u20 hx
  clear z zf HY
  have HX := Lib.hid hx
  clear hx
  have HY := HX
  clear HX
  have hw1 : IntKind.u64.wrap (h.packed : Int) = (h.packed : Int) := by rw [IntKind.wrap_u64]; have := HF.out.1.packed; omega
  have hw2 : IntKind.u64.wrap (h.size : Int) = (h.size : Int) := by rw [IntKind.wrap_u64]; have := HF.out.1.size; omega
  have z : u20.cell? ⟨fb, 15, none⟩ = some (.int .u64 (0 : Nat)) := HY.out.fil.cell 15
  have z2 : u20.cell? ⟨fb, 13, none⟩ = some (.int .u32 h.packed) := HY.out.fil.cell 13
  have zf : ∀ i, u20.frozen? ⟨fb, i, none⟩ = false := HY.out.fil.frozen
  go_upto_region 19 with (fail)
  refine at_world (fun W => HS w W r g fb bb gb sb rb tl l s L (q + 46) 28 18 (fileC zb rb [] [] false h.creator h.reader h.flags h.method 0 0 none h.time h.date h.crc h.packed h.size h.packed 0 (.slice none 0 0) 0 0)) (HY.out.store HA.out 15 (.int .u64 h.packed) (by simp [fileC])) ?_
  rintro u21 hx
  clear z z2 zf HY
  have HX := Lib.hid hx
  clear hx
  have HY := HX
  clear HX
  have z : u21.cell? ⟨fb, 16, none⟩ = some (.int .u64 (0 : Nat)) := HY.out.fil.cell 16
  have z2 : u21.cell? ⟨fb, 14, none⟩ = some (.int .u32 h.size) := HY.out.fil.cell 14
  have zf : ∀ i, u21.frozen? ⟨fb, i, none⟩ = false := HY.out.fil.frozen
  go_upto_region 20 with (fail)
  refine at_world (fun W => HS w W r g fb bb gb sb rb tl l s L (q + 46) 28 18 (fileC zb rb [] [] false h.creator h.reader h.flags h.method 0 0 none h.time h.date h.crc h.packed h.size h.packed h.size (.slice none 0 0) 0 0)) (HY.out.store HA.out 16 (.int .u64 h.size) (by simp [fileC])) ?_
  rintro u22 hx
  clear z z2 zf HY
  have HX := Lib.hid hx
  clear hx
  go_wp2_with fail
  refine (rb16t HX.out.rd HX.out.row (by decide) (by decide) (by have := HN.out.len; omega) h.name.length HN.out.nlen).mono ?_
  rintro e v23 ⟨rfl, ⟨o', ho', hr'⟩, hk⟩
  obtain rfl : o' = 30 := ho'.out (by decide)
  have HY := Lib.hid (HX.out.call HA.out hr' hk)
  clear HX hr' hk ho'
  go_upto_region 21 with (fail)
  refine at_world (fun W => HS w W r g fb bb gb sb rb tl l s L (q + 46) 30 16 (fileC zb rb [] [] false h.creator h.reader h.flags h.method 0 0 none h.time h.date h.crc h.packed h.size h.packed h.size (.slice none 0 0) 0 0)) HY.out ?_
  rintro u24 hx
  clear HY
  have HX := Lib.hid hx
  clear hx
  go_wp2_with fail
  refine (rb16t HX.out.rd HX.out.row (by decide) (by decide) (by have := HN.out.len; omega) h.extra.length HN.out.xlen).mono ?_
  rintro e v25 ⟨rfl, ⟨o', ho', hr'⟩, hk⟩
  obtain rfl : o' = 32 := ho'.out (by decide)
  have HY := Lib.hid (HX.out.call HA.out hr' hk)
  clear HX hr' hk ho'
  go_upto_region 22 with (fail)
  refine at_world (fun W => HS w W r g fb bb gb sb rb tl l s L (q + 46) 32 14 (fileC zb rb [] [] false h.creator h.reader h.flags h.method 0 0 none h.time h.date h.crc h.packed h.size h.packed h.size (.slice none 0 0) 0 0)) HY.out ?_
  rintro u26 hx
  clear HY
  have HX := Lib.hid hx
  clear hx
  go_wp2_with fail
  refine (rb16t HX.out.rd HX.out.row (by decide) (by decide) (by have := HN.out.len; omega) h.comment.length HN.out.clen).mono ?_
  rintro e v27 ⟨rfl, ⟨o', ho', hr'⟩, hk⟩
  obtain rfl : o' = 34 := ho'.out (by decide)
  have HY := Lib.hid (HX.out.call HA.out hr' hk)
  clear HX hr' hk ho'
  go_upto_region 23 with (fail)
  refine at_world (fun W => HS w W r g fb bb gb sb rb tl l s L (q + 46) 34 12 (fileC zb rb [] [] false h.creator h.reader h.flags h.method 0 0 none h.time h.date h.crc h.packed h.size h.packed h.size (.slice none 0 0) 0 0)) HY.out ?_
  rintro u28 hx
  clear HY
  have HX := Lib.hid hx
  clear hx
  have z : u28.cell? ⟨r, 0, none⟩ = some (.slice (some ⟨g, 34, none⟩) 12 12) := HX.out.rd.cell 0
  have zf : ∀ i, u28.frozen? ⟨r, i, none⟩ = false := HX.out.rd.frozen
  go_upto_region 24 with (fail)
  refine at_world (fun W => HS w W r g fb bb gb sb rb tl l s L (q + 46) 38 8 (fileC zb rb [] [] false h.creator h.reader h.flags h.method 0 0 none h.time h.date h.crc h.packed h.size h.packed h.size (.slice none 0 0) 0 0)) (HX.out.cut HA.out) ?_
  rintro u29 hx
  clear z zf HX
  have HX := Lib.hid hx
  clear hx
  go_wp2_with fail
  refine (rb32t HX.out.rd HX.out.row (by decide) (by decide) (by have := HN.out.len; omega) h.external HN.out.external).mono ?_
  rintro e v30 ⟨rfl, ⟨o', ho', hr'⟩, hk⟩
  obtain rfl : o' = 42 := ho'.out (by decide)
  have HY := Lib.hid (HX.out.call HA.out hr' hk)
  clear HX hr' hk ho'
  have z : v30.cell? ⟨fb, 18, none⟩ = some (.int .u32 (0 : Nat)) := HY.out.fil.cell 18
  have zf : ∀ i, v30.frozen? ⟨fb, i, none⟩ = false := HY.out.fil.frozen
  go_upto_region 25 with (fail)
  refine at_world (fun W => HS w W r g fb bb gb sb rb tl l s L (q + 46) 42 4 (fileC zb rb [] [] false h.creator h.reader h.flags h.method 0 0 none h.time h.date h.crc h.packed h.size h.packed h.size (.slice none 0 0) h.external 0)) (HY.out.store HA.out 18 (.int .u32 h.external) (by simp [fileC])) ?_
  rintro u31 hx
  clear z zf HY
  have HX := Lib.hid hx
  clear hx
  go_wp2_with fail
  refine (rb32t HX.out.rd HX.out.row (by decide) (by decide) (by have := HN.out.len; omega) off HN.out.off).mono ?_
  rintro e v32 ⟨rfl, ⟨o', ho', hr'⟩, hk⟩
  have HY := Lib.hid (show HS w v32 r g fb bb gb sb rb tl l s L (q + 46) o' 0 (fileC zb rb [] [] false h.creator h.reader h.flags h.method 0 0 none h.time h.date h.crc h.packed h.size h.packed h.size (.slice none 0 0) h.external 0) from HX.out.call HA.out hr' hk)
  clear HX hr' hk ho'
  have hw3 : IntKind.i64.wrap (off : Int) = (off : Int) := IntWalk.i64_in _ (by have := HF.out.2.1; omega)
  have z : v32.cell? ⟨fb, 21, none⟩ = some (.int .i64 (0 : Nat)) := HY.out.fil.cell 21
  have zf : ∀ i, v32.frozen? ⟨fb, i, none⟩ = false := HY.out.fil.frozen
  go_upto_region 26 with (fail)
  refine at_world (fun W => HS w W r g fb bb gb sb rb tl l s L (q + 46) o' 0 (fileC zb rb [] [] false h.creator h.reader h.flags h.method 0 0 none h.time h.date h.crc h.packed h.size h.packed h.size (.slice none 0 0) h.external off)) (HY.out.store HA.out 21 (.int .i64 off) (by simp [fileC])) ?_
  rintro u33 hx
  clear z zf HY
  have HX := Lib.hid hx
  clear hx
  obtain ⟨N, hN⟩ : ∃ N, N = h.name.length + h.extra.length + h.comment.length := ⟨_, rfl⟩
  have hqN : q + 46 + N ≤ L := by have := HF.out.2.2.2.2; omega
  have hrl : ∀ x ∈ [bb, gb, sb, rb], x < u33.heap.size := fun x hx => Nat.lt_of_lt_of_le (HI.out.2.2.1 x hx) HX.out.kept.size
  have hdp : HDp w u33.heap.size fb bb gb sb rb := ⟨fun hx => by
    rcases List.mem_cons.1 hx with he | hx
    · have := HX.out.fil.lt; omega
    · exact Nat.lt_irrefl _ (hrl _ hx), HA.out.fa, HX.out.kept.size⟩
  have HDP := Lib.hid hdp
  have HNN := Lib.hid (And.intro hN hqN)
  have hN1 : N ≤ 200000 := by omega
  clear hrl hdp hqN hN
  go_upto_region 27 with (at_make; refine wpList_make_full _ rfl _ _ 46 rfl u33.heap.size 5 i0 (.int .u8 0) 1 Tryz.underlying46 hi hz0 hz1 .i64 .i64 _ _ N rfl rfl (by have := HNN.out.1; omega) (by have := HNN.out.1; omega) (by rw [hz2]; omega) (by unfold maxLen; omega) (Nat.le_refl _) ?_; intro w0 hown hgr; obtain ⟨cur, hcur, hcs, hlt0⟩ := row_of_own hown; have HCU := Lib.hid (And.intro hcur (And.intro hcs ((Kept.refl [] u33).grown hgr (by simp)))); clear hown hgr hcur hcs hlt0)
  have hG := ReadFull_fullA (HX.out.br.kept HCU.out.2.2 (by simp) (by simp) (by simp) (by simp)) u33.heap.size 0 N N 5 cur HNN.out.2 (Nat.le_refl _) (by omega) HCU.out.1 (by rw [HCU.out.2.1]; omega) (fun hx => HDP.out.da (List.mem_cons_of_mem _ hx))
  have HGR := Lib.hid hG
  obtain ⟨dl, hdl⟩ : ∃ dl, dl = (s.drop (q + 46)).take N := ⟨_, rfl⟩
  have hrest := HC.out.1.rest
  have hdlen : dl.length = N := by rw [hdl, List.length_take, List.length_drop]; have := HNN.out.1; omega
  have t1 : sub dl 0 h.name.length = h.name := by rw [hdl, sub_take (by have := HNN.out.1; omega), Nat.add_zero]; exact HC.out.1.name
  have t2 : sub dl h.name.length h.extra.length = h.extra := by rw [hdl, sub_take (by have := HNN.out.1; omega)]; exact HC.out.1.extra
  have t3 : sub dl (h.name.length + h.extra.length) h.comment.length = h.comment := by rw [hdl, sub_take (by have := HNN.out.1; omega), ← Nat.add_assoc]; exact HC.out.1.comment
  have HTX := Lib.hid (And.intro hdl (And.intro hdlen (And.intro t1 (And.intro t2 t3))))
  obtain ⟨db, hdb⟩ : ∃ db, db = u33.heap.size := ⟨_, rfl⟩
  rw [← hdb] at HDP HGR HCU ⊢
  have HDB := Lib.hid hdb
  clear hG hdl hdlen t1 t2 t3 hrest hdb
  go_wp2_with fail
  refine HGR.out.mono ?_
  rintro e x0 ⟨rfl, hR1, hB1, hK1⟩
  have hd0 : HD w x0 db fb bb gb sb rb dl s L (q + 46 + N) (fileC zb rb [] [] false h.creator h.reader h.flags h.method 0 0 none h.time h.date h.crc h.packed h.size h.packed h.size (.slice none 0 0) h.external off) := by
    have hk := HX.out.kept.trans' HCU.out.2.2 (by simp)
    have hda := HDP.out.da
    simp only [List.mem_cons, List.not_mem_nil, or_false, not_or] at hda
    have hfa := HDP.out.fa
    simp only [List.mem_cons, List.not_mem_nil, or_false, not_or] at hfa
    refine ⟨Blk.cast hB1 ?_, hK1.blk (HCU.out.2.2.blk HX.out.fil (by simp)) ?_, hR1, hk.trans' hK1 ?_⟩
    · rw [← HTX.out.1]; exact putAll_whole _ _ (by rw [List.length_map, HTX.out.2.1, HCU.out.2.1])
    · simp only [List.mem_cons, List.not_mem_nil, or_false, not_or]; exact ⟨hfa.1, hfa.2.1, hfa.2.2.1, Ne.symm hda.1⟩
    · intro x hx
      simp only [List.mem_cons, List.not_mem_nil, or_false] at hx
      rcases hx with rfl | rfl | rfl | rfl
      · exact .inl (by simp)
      · exact .inl (by simp)
      · exact .inl (by simp)
      · exact .inr HDP.out.wd
  clear HX hR1 hB1 hK1 HGR HCU
  have HX := Lib.hid hd0
  clear hd0
  go_upto_region 30 with (fail)
  have hNle : h.name.length ≤ N := by have := HNN.out.1; omega
  have hXle : h.name.length + h.extra.length ≤ N := by have := HNN.out.1; omega
  have hsn : IntKind.i64.wrap ((h.name.length : Int) + h.extra.length) = (h.name.length : Int) + h.extra.length := IntWalk.i64_in _ (by omega)
  have hcv := conv_u8 (cap := N) (bytes_sub (o := 0) HX.out.row HTX.out.2.2.1 rfl (fun _ => rfl)) rfl
  have z : x0.cell? ⟨fb, 0, none⟩ = some (.string ⟨([] : List UInt8).toArray⟩) := HX.out.fil.cell 0
  have zf : ∀ i, x0.frozen? ⟨fb, i, none⟩ = false := HX.out.fil.frozen
  go_upto_region 31 with (fail)
  refine at_world (fun W => HD w W db fb bb gb sb rb dl s L (q + 46 + N) (fileC zb rb h.name [] false h.creator h.reader h.flags h.method 0 0 none h.time h.date h.crc h.packed h.size h.packed h.size (.slice none 0 0) h.external off)) (HX.out.store HDP.out 0 (.string ⟨h.name.toArray⟩) (by simp [fileC])) ?_
  rintro x1 hx
  clear z zf HX hcv
  have HX := Lib.hid hx
  clear hx
  obtain ⟨o2, ho2, hs2⟩ := slice_any db h.name.length (h.name.length + h.extra.length) N N ((h.name.length : Int) + h.extra.length) (by omega) (by omega) hXle
  rw [Nat.add_sub_cancel_left] at hs2
  have HO2 := Lib.hid ho2
  clear ho2
  obtain ⟨cq, hcq⟩ : ∃ cq, cq = N - h.name.length := ⟨_, rfl⟩
  rw [← hcq] at hs2
  have HCQ := Lib.hid hcq
  clear hcq
  have z : x1.cell? ⟨fb, 17, none⟩ = some (.slice none 0 0) := HX.out.fil.cell 17
  have zf : ∀ i, x1.frozen? ⟨fb, i, none⟩ = false := HX.out.fil.frozen
  go_upto_region 32 with (fail)
  refine at_world (fun W => HD w W db fb bb gb sb rb dl s L (q + 46 + N) (fileC zb rb h.name [] false h.creator h.reader h.flags h.method 0 0 none h.time h.date h.crc h.packed h.size h.packed h.size (.slice (some ⟨db, o2, none⟩) h.extra.length cq) h.external off)) (HX.out.store HDP.out 17 (.slice (some ⟨db, o2, none⟩) h.extra.length cq) (by simp [fileC])) ?_
  rintro x2 hx
  clear z zf HX hs2
  have HX := Lib.hid hx
  clear hx
  obtain ⟨o3, ho3, hs3⟩ := slice_lany db (h.name.length + h.extra.length) N N ((h.name.length : Int) + h.extra.length) (by omega) hXle (Nat.le_refl _)
  have hNc : N - (h.name.length + h.extra.length) = h.comment.length := by have := HNN.out.1; omega
  rw [hNc] at hs3
  have hcv := conv_u8 (cap := h.comment.length) (bytes_sub (o := o3) HX.out.row HTX.out.2.2.2.2 rfl (fun hh => ho3 (by omega))) rfl
  have z : x2.cell? ⟨fb, 1, none⟩ = some (.string ⟨([] : List UInt8).toArray⟩) := HX.out.fil.cell 1
  have zf : ∀ i, x2.frozen? ⟨fb, i, none⟩ = false := HX.out.fil.frozen
  go_upto_region 33 with (fail)
  refine at_world (fun W => HD w W db fb bb gb sb rb dl s L (q + 46 + N) (fileC zb rb h.name h.comment false h.creator h.reader h.flags h.method 0 0 none h.time h.date h.crc h.packed h.size h.packed h.size (.slice (some ⟨db, o2, none⟩) h.extra.length cq) h.external off)) (HX.out.store HDP.out 1 (.string ⟨h.comment.toArray⟩) (by simp [fileC])) ?_
  rintro x3 hx
  clear z zf HX hcv hs3 ho3 hNc
  have HX := Lib.hid hx
  clear hx
  clear hsn hNle hXle
  have hTt : ∀ W', Kept [bb, gb, sb, fb] w W' → Lib.Utf8Tabs 9 10 W' := fun W' k => tabs_kept HI.out.2.2.2.2.1 k (fun hx => Nat.lt_irrefl _ (HI.out.2.2.2.2.2 _ hx).1) (fun hx => Nat.lt_irrefl _ (HI.out.2.2.2.2.2 _ hx).2)
  have HTT := Lib.hid hTt
  clear hTt
  have HD1 := Lib.hid (detect_any h.name (by omega) x3 (HTT.out x3 HX.out.kept))
  obtain ⟨v1, hv1⟩ : ∃ v, (detectL h.name).1 = v := ⟨_, rfl⟩
  obtain ⟨r1, hr1⟩ : ∃ v, (detectL h.name).2 = v := ⟨_, rfl⟩
  obtain ⟨v2, hv2⟩ : ∃ v, (detectL h.comment).1 = v := ⟨_, rfl⟩
  obtain ⟨r2, hr2⟩ : ∃ v, (detectL h.comment).2 = v := ⟨_, rfl⟩
  rw [hv1, hr1] at HD1
  have HV := Lib.hid (And.intro hv1 (And.intro hr1 (And.intro hv2 hr2)))
  have z0 : x3.cell? ⟨fb, 0, none⟩ = some (.string ⟨h.name.toArray⟩) := HX.out.fil.cell 0
  go_wp2_with fail
  refine HD1.out.mono ?_
  rintro e x4 ⟨rfl, hb⟩
  have HX4 := Lib.hid (HX.out.on (Kept.of_below hb []))
  clear HX hb HD1 z0
  have HD2 := Lib.hid (detect_any h.comment (by omega) x4 (HTT.out x4 HX4.out.kept))
  rw [hv2, hr2] at HD2
  clear hv1 hv2 hr1 hr2
  have z1 : x4.cell? ⟨fb, 1, none⟩ = some (.string ⟨h.comment.toArray⟩) := HX4.out.fil.cell 1
  go_wp2_with fail
  refine HD2.out.mono ?_
  rintro e x5 ⟨rfl, hb⟩
  have HX := Lib.hid (HX4.out.on (Kept.of_below hb []))
  clear HX4 hb HD2 z1
  have z2 : x5.cell? ⟨fb, 2, none⟩ = some (.bool false) := HX.out.fil.cell 2
  have z5 : x5.cell? ⟨fb, 5, none⟩ = some (.int .u16 h.flags) := HX.out.fil.cell 5
  have zf : ∀ i, x5.frozen? ⟨fb, i, none⟩ = false := HX.out.fil.frozen
  obtain ⟨fl, hfl⟩ : ∃ fl, fl = (bits .and .u16 (h.flags : Int) 2048 == 0) := ⟨_, rfl⟩
  have HNU := Lib.hid (show nonU h = (!v1 || (!v2 || ((r1 || r2) && fl))) by
    rw [hfl, flag_bit _ HF.out.1.flags]
    unfold nonU
    rw [← detect_valid, ← detect_valid, HV.out.1, HV.out.2.1, HV.out.2.2.1, HV.out.2.2.2])
  have hfl' : (bits .and .u16 (h.flags : Int) 2048 == 0) = fl := hfl.symm
  clear hfl
  go_upto_block 0 with (fail)
  refine wp_cut (fun a' W' => FP0 fb a' ∧ Hid (HD w W' db fb bb gb sb rb dl s L (q + 46 + N) (fileC zb rb h.name h.comment (nonU h) h.creator h.reader h.flags h.method 0 0 none h.time h.date h.crc h.packed h.size h.packed h.size (.slice (some ⟨db, o2, none⟩) h.extra.length cq) h.external off))) ?rest ?first
  case first =>
    intro J K' hJ hK
    rcases v1 with _ | _
    · go_wp2_with fail
      exact Met.intro (hJ _ _ ⟨⟨rfl, rfl, rfl, rfl⟩, Lib.hid (HX.out.store HDP.out 2 _ (by rw [HNU.out]; simp [fileC]))⟩)
    rcases v2 with _ | _
    · go_wp2_with fail
      exact Met.intro (hJ _ _ ⟨⟨rfl, rfl, rfl, rfl⟩, Lib.hid (HX.out.store HDP.out 2 _ (by rw [HNU.out]; simp [fileC]))⟩)
    rcases r1 with _ | _ <;> rcases r2 with _ | _
    all_goals
      go_wp2_with fail
      exact Met.intro (hJ _ _ ⟨⟨rfl, rfl, rfl, rfl⟩, Lib.hid (HX.out.store HDP.out 2 _ (by rw [HNU.out]; simp [fileC]))⟩)
  case rest =>
    clear z2 z5 zf hfl' HX HNU
    rintro a' W' ⟨hF0, HD0⟩
    go_step
    have hfa := HDP.out.fa
    simp only [List.mem_cons, List.not_mem_nil, or_false, not_or] at hfa
    have hda := HDP.out.da
    simp only [List.mem_cons, List.not_mem_nil, or_false, not_or] at hda
    have hflt := HI.out.2.1.lt
    have hwd := HDP.out.wd
    refine rest40_wp (o := o2) (xl := h.extra.length) (cq := cq) hF0 HD0.out.fil HD0.out.row rfl rfl rfl rfl rfl rfl rfl rfl rfl HF.out.2.2.1 HF.out.2.2.2.1 HF.out.2.1 (by have := HNN.out.1; have := HCQ.out; omega) (fun hh => by have := HNN.out.1; have := HO2.out (by omega); have := HTX.out.2.1; omega) (by have := HCQ.out; omega) ?_
    intro W2 p q2 lo hb hk
    refine ⟨rfl, ⟨p, q2, lo, db, o2, cq, h.name.length, dl, Blk.cast hb (by simp [fileT, fileC]), hk.blk HD0.out.row (by simp; exact hda.1), HTX.out.2.2.2.1, fun hh => HO2.out (by have := HNN.out.1; omega), hBf, by omega⟩, ?_, HD0.out.kept.trans' hk (by simp)⟩
    have hbr := HD0.out.br.kept hk (by simp; exact Ne.symm hfa.1) (by simp; exact Ne.symm hfa.2.1) (by simp; exact Ne.symm hfa.2.2.1) (by simp; exact Ne.symm hfa.2.2.2)
    rwa [show q + (46 + h.name.length + h.extra.length + h.comment.length) = q + 46 + N by have := HNN.out.1; omega]
end Go.Proofs.YtfagjhgmmaebfaaGreatDoor
