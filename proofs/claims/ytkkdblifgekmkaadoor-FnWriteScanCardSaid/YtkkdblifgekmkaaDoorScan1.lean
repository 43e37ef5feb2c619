/- Words for spec.Scan; the closure of central. -/
import Derived.Test.YtkkdblifgekmkaaDoorNum
import Derived.Test.YtkkdblifgekmkaaDoorArch
import Derived.StillTailTactics
import Derived.Deep.QuietTactic
import Derived.BigQuiet
import Derived.Deep.RegionHeld3
import Derived.Outline
import Derived.Deep.CutRange
import Derived.Deep.CutBlock
namespace Go.Proofs.YtkkdblifgekmkaaDoor
open Go.RowKit
theorem ext_sub (l : List UInt8) (a n : Nat) : (ByteArray.mk l.toArray).extract a (a + n) = ⟨(sub l a n).toArray⟩ := by
  rw [Lib.extract_eq, show a + n - a = n by omega]
  rfl
theorem sub_length {l : List UInt8} {a n : Nat} (h : a + n ≤ l.length) : (sub l a n).length = n := by
  unfold sub; rw [List.length_take, List.length_drop]; omega
theorem sub_le (l : List UInt8) (a n : Nat) : (sub l a n).length ≤ n := by
  unfold sub; rw [List.length_take]; omega
/-- The closure of central: the number from at + i to at + j. -/
theorem f_any {w : World} {sb ab at_ : Nat} {l : List UInt8} (i n : Nat) (zi zj : Int) (hi : zi = (i : Int)) (hj : zj = ((i + n : Nat) : Int)) (h6 : n ≤ 6) (hi2 : i ≤ 100) (hs : w.cell? ⟨sb, 0, none⟩ = some (.string ⟨l.toArray⟩)) (ha : w.cell? ⟨ab, 0, none⟩ = some (.int .i64 at_)) (hb : at_ + (i + n) ≤ l.length) (hl : l.length ≤ 4611686018427387904) :
    Calls Tryd.prog 56 #[.int .i64 zi, .int .i64 zj, .pointer (some ⟨sb, 0, none⟩), .pointer (some ⟨ab, 0, none⟩)] w fun e w' => e = .returned (.int .i64 (numL (sub l (at_ + i) n))) ∧ w = w' := by
  subst hi
  subst hj
  have hsz : (ByteArray.mk l.toArray).size = l.length := rfl
  have hx := ext_sub l (at_ + i) n
  have HN := Lib.hid (Number_any (sub l (at_ + i) n) (Nat.le_trans (sub_le _ _ _) h6))
  rw [Nat.add_assoc] at hx
  go_enter Tryd.func56, Tryd.ntmps56
  go_wp2_with fail
  refine (HN.out _).mono ?_
  rintro e w' ⟨rfl, rfl⟩
  go_wp2
  go_ret
  exact ⟨rfl, rfl⟩
theorem f_is {w : World} {sb ab at_ : Nat} {l : List UInt8} (i n : Nat) (zi zj : Int) (hi : zi = (i : Int)) (hj : zj = ((i + n : Nat) : Int)) (h6 : n ≤ 6) (hi2 : i ≤ 100) (hs : w.cell? ⟨sb, 0, none⟩ = some (.string ⟨l.toArray⟩)) (ha : w.cell? ⟨ab, 0, none⟩ = some (.int .i64 at_)) (hb : at_ + (i + n) ≤ l.length) (hl : l.length ≤ 4611686018427387904) (v : Nat) (hv : numL (sub l (at_ + i) n) = v) :
    Calls Tryd.prog 56 #[.int .i64 zi, .int .i64 zj, .pointer (some ⟨sb, 0, none⟩), .pointer (some ⟨ab, 0, none⟩)] w fun e w' => e = .returned (.int .i64 v) ∧ w = w' :=
  hv ▸ f_any i n zi zj hi hj h6 hi2 hs ha hb hl
theorem At_is {w : World} {b : Bool} (l p : List UInt8) (k : Nat) (h : l.length ≤ 4611686018427387904) (hp : p.length ≤ 65536) (hk : k ≤ 4611686018427387904) (hkp : k ≤ l.length ∨ 0 < p.length) (hb : standsL l p k = b) :
    Calls Tryd.prog 29 #[.string ⟨l.toArray⟩, .int .i64 k, .string ⟨p.toArray⟩] w fun e w' => e = .returned (.bool b) ∧ w = w' := hb ▸ At_any l p k h hp hk hkp w
/-- A record's cells. -/
def recCells (h : Hd) (off : Nat) (data : List UInt8) : List Value :=
  [.string ⟨h.name.toArray⟩, .string ⟨h.comment.toArray⟩, .string ⟨h.extra.toArray⟩, .bool false, .int .i64 h.creator, .int .i64 h.reader, .int .i64 h.flags, .int .i64 h.method, .int .i64 h.time, .int .i64 h.date, .int .i64 h.crc, .int .i64 h.packed, .int .i64 h.size, .int .i64 h.external, .int .i64 off, .string ⟨data.toArray⟩]
def recZ : Array Value := #[.string ⟨#[]⟩, .string ⟨#[]⟩, .string ⟨#[]⟩, .bool false, .int .i64 0, .int .i64 0, .int .i64 0, .int .i64 0, .int .i64 0, .int .i64 0, .int .i64 0, .int .i64 0, .int .i64 0, .int .i64 0, .int .i64 0, .string ⟨#[]⟩]
theorem Blk.newAt (w : World) (t : TypeId) (cs : Array Value) (n : Nat) (h : w.heap.size = n) : Blk (w.alloc (.cells cs t)) n t cs := h ▸ Blk.new w t cs
theorem atX {f : Exit → Act → World → Prop} {e : Exit} {a : Act} {W : World} (S : World → Prop) (hS : S W) (key : ∀ W', S W' → f e a W') : f e a W := key _ hS
end Go.Proofs.YtkkdblifgekmkaaDoor
/- Contract: spec.central. -/
namespace Go.Proofs.YtkkdblifgekmkaaDoor
open Go.RowKit
set_option maxRecDepth 100000 in
set_option maxHeartbeats 4000000 in
theorem central_any {l : List UInt8} {at_ off : Nat} {h : Hd} (hc : CentralAt l at_ h off) (hF : h.Fits) (ho : off < 4294967296) (hl : l.length ≤ 4611686018427387904) (w : World) :
    Calls Tryd.prog 31 #[.string ⟨l.toArray⟩, .int .i64 at_] w fun e w' => e = .returned (.tuple #[.agg (recCells h off []).toArray, .int .i64 ((at_ : Int) + 46 + h.name.length + h.extra.length + h.comment.length), .bool true]) ∧ Below w.heap.size w w' := by
  have hsz : (ByteArray.mk l.toArray).size = l.length := rfl
  have hrest := hc.rest
  have hA := At_is (w := ((w.alloc (.cells #[.string ⟨l.toArray⟩] 9)).alloc (.cells #[.int .i64 at_] 3)).alloc (.cells (recZ) 47)) (b := true) l [80, 75, 1, 2] at_ hl (by decide) (by omega) (.inl (by omega)) (by unfold standsL; show (sub l at_ 4 == [80, 75, 1, 2]) = true; rw [hc.sig]; rfl)
  have HA := Lib.hid hA
  have n1 := hF.name
  have n2 := hF.extra
  have n3 := hF.comment
  have HC := Lib.hid (And.intro hc hF)
  have hx1 := ext_sub l (at_ + 46) h.name.length
  have hx2 := ext_sub l (at_ + 46 + h.name.length) h.extra.length
  have hx3 := ext_sub l (at_ + 46 + h.name.length + h.extra.length) h.comment.length
  rw [hc.name] at hx1
  rw [hc.extra] at hx2
  rw [hc.comment] at hx3
  clear hc hF hA
  go_enter Tryd.func31, Tryd.ntmps31
  go_wp2_with fail
  refine HA.out.mono ?_
  rintro e w' ⟨rfl, rfl⟩
  go_wp2_with fail
  refine callsW (fun W => Kept [] w W ∧ W.cell? ⟨w.heap.size, 0, none⟩ = some (.string ⟨l.toArray⟩) ∧ W.cell? ⟨w.heap.size + 1, 0, none⟩ = some (.int .i64 at_) ∧ Blk W (w.heap.size + 2) 47 recZ) ⟨(((Kept.refl [] w).alloc _).alloc _).alloc _, (((Blk.new w 9 #[.string ⟨l.toArray⟩]).alloc _).alloc _).cell 0, ((Blk.newAt _ 3 #[.int .i64 at_] _ (by simp)).alloc _).cell 0, Blk.newAt _ _ _ _ (by simp)⟩ ?_
  rintro W hW
  have X := Lib.hid hW
  have s0 : W.cell? ⟨w.heap.size, 0, none⟩ = some (.string ⟨l.toArray⟩) := hW.2.1
  have a0 : W.cell? ⟨w.heap.size + 1, 0, none⟩ = some (.int .i64 at_) := hW.2.2.1
  have g0 : w.heap.size < W.heap.size := by have := hW.2.2.2.lt; omega
  have g1 : w.heap.size + 1 < W.heap.size := by have := hW.2.2.2.lt; omega
  clear hW HA
  refine (f_is 28 2 28 30 rfl rfl (by decide) (by decide) X.out.2.1 X.out.2.2.1 (by have := hrest; omega) hl (h.name.length) (by rw [HC.out.1.nlen]; exact leB2 _ HC.out.2.name)).mono ?_
  rintro e w' ⟨rfl, rfl⟩
  go_wp2_with fail
  refine (f_is 30 2 30 32 rfl rfl (by decide) (by decide) X.out.2.1 X.out.2.2.1 (by have := hrest; omega) hl (h.extra.length) (by rw [HC.out.1.xlen]; exact leB2 _ HC.out.2.extra)).mono ?_
  rintro e w' ⟨rfl, rfl⟩
  go_wp2_with fail
  refine (f_is 32 2 32 34 rfl rfl (by decide) (by decide) X.out.2.1 X.out.2.2.1 (by have := hrest; omega) hl (h.comment.length) (by rw [HC.out.1.clen]; exact leB2 _ HC.out.2.comment)).mono ?_
  rintro e w' ⟨rfl, rfl⟩
  go_wp2_with fail
  refine (f_is 4 2 4 6 rfl rfl (by decide) (by decide) X.out.2.1 X.out.2.2.1 (by have := hrest; omega) hl (h.creator) (by rw [HC.out.1.creator]; exact leB2 _ HC.out.2.creator)).mono ?_
  rintro e w' ⟨rfl, rfl⟩
  go_wp2_with fail
  refine (f_is 6 2 6 8 rfl rfl (by decide) (by decide) X.out.2.1 X.out.2.2.1 (by have := hrest; omega) hl (h.reader) (by rw [HC.out.1.reader]; exact leB2 _ HC.out.2.reader)).mono ?_
  rintro e w' ⟨rfl, rfl⟩
  go_wp2_with fail
  refine (f_is 8 2 8 10 rfl rfl (by decide) (by decide) X.out.2.1 X.out.2.2.1 (by have := hrest; omega) hl (h.flags) (by rw [HC.out.1.flags]; exact leB2 _ HC.out.2.flags)).mono ?_
  rintro e w' ⟨rfl, rfl⟩
  go_wp2_with fail
  refine (f_is 10 2 10 12 rfl rfl (by decide) (by decide) X.out.2.1 X.out.2.2.1 (by have := hrest; omega) hl (h.method) (by rw [HC.out.1.method]; exact leB2 _ HC.out.2.method)).mono ?_
  rintro e w' ⟨rfl, rfl⟩
  go_wp2_with fail
  refine (f_is 12 2 12 14 rfl rfl (by decide) (by decide) X.out.2.1 X.out.2.2.1 (by have := hrest; omega) hl (h.time) (by rw [HC.out.1.time]; exact leB2 _ HC.out.2.time)).mono ?_
  rintro e w' ⟨rfl, rfl⟩
  go_wp2_with fail
  refine (f_is 14 2 14 16 rfl rfl (by decide) (by decide) X.out.2.1 X.out.2.2.1 (by have := hrest; omega) hl (h.date) (by rw [HC.out.1.date]; exact leB2 _ HC.out.2.date)).mono ?_
  rintro e w' ⟨rfl, rfl⟩
  go_wp2_with fail
  refine (f_is 16 4 16 20 rfl rfl (by decide) (by decide) X.out.2.1 X.out.2.2.1 (by have := hrest; omega) hl (h.crc) (by rw [HC.out.1.crc]; exact leB4 _ HC.out.2.crc)).mono ?_
  rintro e w' ⟨rfl, rfl⟩
  go_wp2_with fail
  refine (f_is 20 4 20 24 rfl rfl (by decide) (by decide) X.out.2.1 X.out.2.2.1 (by have := hrest; omega) hl (h.packed) (by rw [HC.out.1.packed]; exact leB4 _ HC.out.2.packed)).mono ?_
  rintro e w' ⟨rfl, rfl⟩
  go_wp2_with fail
  refine (f_is 24 4 24 28 rfl rfl (by decide) (by decide) X.out.2.1 X.out.2.2.1 (by have := hrest; omega) hl (h.size) (by rw [HC.out.1.size]; exact leB4 _ HC.out.2.size)).mono ?_
  rintro e w' ⟨rfl, rfl⟩
  go_wp2_with fail
  refine (f_is 38 4 38 42 rfl rfl (by decide) (by decide) X.out.2.1 X.out.2.2.1 (by have := hrest; omega) hl (h.external) (by rw [HC.out.1.external]; exact leB4 _ HC.out.2.external)).mono ?_
  rintro e w' ⟨rfl, rfl⟩
  go_upto_region 10 with (fail)
  go_cut [11] from 12 (fun s11 V => s11 = .pointer (some ⟨W.heap.size, 0, none⟩) ∧ Kept [] W V ∧ Blk V W.heap.size 36 ((recCells h off []).take 14).toArray)
  case first =>
    go_wp2_with fail
    go_meet
    exact ⟨rfl, (Kept.refl [] W).alloc _, Blk.new W _ _⟩
  case rest =>
  obtain ⟨rfl, hkV, hbV⟩ := hcut
  obtain ⟨V, hV⟩ : ∃ V, V = wc := ⟨_, rfl⟩
  rw [← hV] at hkV hbV ⊢
  clear hV wc
  have c0 : V.cell? ⟨W.heap.size, 0, none⟩ = some (.string ⟨h.name.toArray⟩) := hbV.cell 0
  have c1 : V.cell? ⟨W.heap.size, 1, none⟩ = some (.string ⟨h.comment.toArray⟩) := hbV.cell 1
  have c2 : V.cell? ⟨W.heap.size, 2, none⟩ = some (.string ⟨h.extra.toArray⟩) := hbV.cell 2
  have c3 : V.cell? ⟨W.heap.size, 3, none⟩ = some (.bool false) := hbV.cell 3
  have c4 : V.cell? ⟨W.heap.size, 4, none⟩ = some (.int .i64 h.creator) := hbV.cell 4
  have c5 : V.cell? ⟨W.heap.size, 5, none⟩ = some (.int .i64 h.reader) := hbV.cell 5
  have c6 : V.cell? ⟨W.heap.size, 6, none⟩ = some (.int .i64 h.flags) := hbV.cell 6
  have c7 : V.cell? ⟨W.heap.size, 7, none⟩ = some (.int .i64 h.method) := hbV.cell 7
  have c8 : V.cell? ⟨W.heap.size, 8, none⟩ = some (.int .i64 h.time) := hbV.cell 8
  have c9 : V.cell? ⟨W.heap.size, 9, none⟩ = some (.int .i64 h.date) := hbV.cell 9
  have c10 : V.cell? ⟨W.heap.size, 10, none⟩ = some (.int .i64 h.crc) := hbV.cell 10
  have c11 : V.cell? ⟨W.heap.size, 11, none⟩ = some (.int .i64 h.packed) := hbV.cell 11
  have c12 : V.cell? ⟨W.heap.size, 12, none⟩ = some (.int .i64 h.size) := hbV.cell 12
  have c13 : V.cell? ⟨W.heap.size, 13, none⟩ = some (.int .i64 h.external) := hbV.cell 13
  have hrV : Blk V (w.heap.size + 1 + 1) 47 recZ := hkV.blk X.out.2.2.2 (by simp)
  have r0 : V.cell? ⟨w.heap.size + 1 + 1, 0, none⟩ = some (.string ⟨#[]⟩) := hrV.cell 0
  have r1 : V.cell? ⟨w.heap.size + 1 + 1, 1, none⟩ = some (.string ⟨#[]⟩) := hrV.cell 1
  have r2 : V.cell? ⟨w.heap.size + 1 + 1, 2, none⟩ = some (.string ⟨#[]⟩) := hrV.cell 2
  have r3 : V.cell? ⟨w.heap.size + 1 + 1, 3, none⟩ = some (.bool false) := hrV.cell 3
  have r4 : V.cell? ⟨w.heap.size + 1 + 1, 4, none⟩ = some (.int .i64 0) := hrV.cell 4
  have r5 : V.cell? ⟨w.heap.size + 1 + 1, 5, none⟩ = some (.int .i64 0) := hrV.cell 5
  have r6 : V.cell? ⟨w.heap.size + 1 + 1, 6, none⟩ = some (.int .i64 0) := hrV.cell 6
  have r7 : V.cell? ⟨w.heap.size + 1 + 1, 7, none⟩ = some (.int .i64 0) := hrV.cell 7
  have r8 : V.cell? ⟨w.heap.size + 1 + 1, 8, none⟩ = some (.int .i64 0) := hrV.cell 8
  have r9 : V.cell? ⟨w.heap.size + 1 + 1, 9, none⟩ = some (.int .i64 0) := hrV.cell 9
  have r10 : V.cell? ⟨w.heap.size + 1 + 1, 10, none⟩ = some (.int .i64 0) := hrV.cell 10
  have r11 : V.cell? ⟨w.heap.size + 1 + 1, 11, none⟩ = some (.int .i64 0) := hrV.cell 11
  have r12 : V.cell? ⟨w.heap.size + 1 + 1, 12, none⟩ = some (.int .i64 0) := hrV.cell 12
  have r13 : V.cell? ⟨w.heap.size + 1 + 1, 13, none⟩ = some (.int .i64 0) := hrV.cell 13
  have r14 : V.cell? ⟨w.heap.size + 1 + 1, 14, none⟩ = some (.int .i64 0) := hrV.cell 14
  have r15 : V.cell? ⟨w.heap.size + 1 + 1, 15, none⟩ = some (.string ⟨#[]⟩) := hrV.cell 15
  have hrf : ∀ i, V.frozen? ⟨w.heap.size + 1 + 1, i, none⟩ = false := hrV.frozen
  have sV : V.cell? ⟨w.heap.size, 0, none⟩ = some (.string ⟨l.toArray⟩) := (hkV.cell (p := ⟨w.heap.size, 0, none⟩) g0 (by simp)).trans s0
  have aV : V.cell? ⟨w.heap.size + 1, 0, none⟩ = some (.int .i64 at_) := (hkV.cell (p := ⟨w.heap.size + 1, 0, none⟩) g1 (by simp)).trans a0
  have HF := (f_is (w := V.drew) 42 4 42 46 rfl rfl (by decide) (by decide) sV aV (by have := hrest; omega) hl off (by rw [HC.out.1.off]; exact leB4 _ ho))
  have HFH := Lib.hid HF
  have HY := Lib.hid (And.intro hkV hrV)
  have t1 : IntKind.i64.wrap ((at_ : Int) + 46) = (at_ : Int) + 46 := IntWalk.i64_in _ (by omega)
  have t2 : IntKind.i64.wrap ((at_ : Int) + 46 + h.name.length) = (at_ : Int) + 46 + h.name.length := IntWalk.i64_in _ (by omega)
  have t3 : IntKind.i64.wrap ((at_ : Int) + 46 + h.name.length + h.extra.length) = (at_ : Int) + 46 + h.name.length + h.extra.length := IntWalk.i64_in _ (by omega)
  have t4 : IntKind.i64.wrap ((at_ : Int) + 46 + h.name.length + h.extra.length + h.comment.length) = (at_ : Int) + 46 + h.name.length + h.extra.length + h.comment.length := IntWalk.i64_in _ (by omega)
  clear HF hkV hbV hrV s0 a0 g0 g1 hx1 hx2 hx3
  go_wp2_with fail
  go_region_with (go_at_call 56; refine HFH.out.mono ?_; rintro e w1 ⟨rfl, rfl⟩)
  all_goals
    refine atX (fun W' => Blk W' (w.heap.size + 1 + 1) 47 (recCells h off []).toArray ∧ Kept [w.heap.size + 1 + 1] V W') ⟨Blk.cast ((((((((((((((((HY.out.2.set_ 0 _).set_ 1 _).set_ 2 _).set_ 3 _).set_ 4 _).set_ 5 _).set_ 6 _).set_ 7 _).set_ 8 _).set_ 9 _).set_ 10 _).set_ 11 _).set_ 12 _).set_ 13 _).set_ 14 _).set_ 15 _).drew (by simp [recZ, recCells]), (((((((((((((((((Kept.refl [w.heap.size + 1 + 1] V).setCell (by simp) _).setCell (by simp) _).setCell (by simp) _).setCell (by simp) _).setCell (by simp) _).setCell (by simp) _).setCell (by simp) _).setCell (by simp) _).setCell (by simp) _).setCell (by simp) _).setCell (by simp) _).setCell (by simp) _).setCell (by simp) _).setCell (by simp) _).setCell (by simp) _).setCell (by simp) _).drew⟩ ?_
    clear HFH c0 c1 c2 c3 c4 c5 c6 c7 c8 c9 c10 c11 c12 c13 r0 r1 r2 r3 r4 r5 r6 r7 r8 r9 r10 r11 r12 r13 r14 r15 hrf sV aV t1 t2 t3 t4
    rintro W' ⟨hbW, hkW⟩
    have q0 : W'.cell? ⟨w.heap.size + 1 + 1, 0, none⟩ = some (.string ⟨h.name.toArray⟩) := hbW.cell 0
    have q1 : W'.cell? ⟨w.heap.size + 1 + 1, 1, none⟩ = some (.string ⟨h.comment.toArray⟩) := hbW.cell 1
    have q2 : W'.cell? ⟨w.heap.size + 1 + 1, 2, none⟩ = some (.string ⟨h.extra.toArray⟩) := hbW.cell 2
    have q3 : W'.cell? ⟨w.heap.size + 1 + 1, 3, none⟩ = some (.bool false) := hbW.cell 3
    have q4 : W'.cell? ⟨w.heap.size + 1 + 1, 4, none⟩ = some (.int .i64 h.creator) := hbW.cell 4
    have q5 : W'.cell? ⟨w.heap.size + 1 + 1, 5, none⟩ = some (.int .i64 h.reader) := hbW.cell 5
    have q6 : W'.cell? ⟨w.heap.size + 1 + 1, 6, none⟩ = some (.int .i64 h.flags) := hbW.cell 6
    have q7 : W'.cell? ⟨w.heap.size + 1 + 1, 7, none⟩ = some (.int .i64 h.method) := hbW.cell 7
    have q8 : W'.cell? ⟨w.heap.size + 1 + 1, 8, none⟩ = some (.int .i64 h.time) := hbW.cell 8
    have q9 : W'.cell? ⟨w.heap.size + 1 + 1, 9, none⟩ = some (.int .i64 h.date) := hbW.cell 9
    have q10 : W'.cell? ⟨w.heap.size + 1 + 1, 10, none⟩ = some (.int .i64 h.crc) := hbW.cell 10
    have q11 : W'.cell? ⟨w.heap.size + 1 + 1, 11, none⟩ = some (.int .i64 h.packed) := hbW.cell 11
    have q12 : W'.cell? ⟨w.heap.size + 1 + 1, 12, none⟩ = some (.int .i64 h.size) := hbW.cell 12
    have q13 : W'.cell? ⟨w.heap.size + 1 + 1, 13, none⟩ = some (.int .i64 h.external) := hbW.cell 13
    have q14 : W'.cell? ⟨w.heap.size + 1 + 1, 14, none⟩ = some (.int .i64 off) := hbW.cell 14
    have q15 : W'.cell? ⟨w.heap.size + 1 + 1, 15, none⟩ = some (.string ⟨([] : List UInt8).toArray⟩) := hbW.cell 15
    have HZ := Lib.hid hkW
    clear hbW hkW
    go_wp2
    exact bodyPost_ret (v := .tuple #[.agg (recCells h off []).toArray, .int .i64 ((at_ : Int) + 46 + h.name.length + h.extra.length + h.comment.length), .bool true]) (by simp [results, Tryd.results31, go_sem, recCells, *]) rfl ⟨rfl, ((X.out.1.trans HY.out.1).trans' HZ.out (fun x hx => .inr (by simp at hx; omega))).to_below (Nat.le_refl _) (by simp)⟩
end Go.Proofs.YtkkdblifgekmkaaDoor
