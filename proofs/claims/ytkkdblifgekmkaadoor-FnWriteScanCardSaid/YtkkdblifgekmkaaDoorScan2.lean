/- Contracts: spec.begin, content, local. -/
import Derived.Test.YtkkdblifgekmkaaDoorScan1
namespace Go.Proofs.YtkkdblifgekmkaaDoor
open Go.RowKit
set_option maxRecDepth 100000 in
set_option maxHeartbeats 1000000 in
theorem begin_any {l : List UInt8} {off : Nat} {h : Hd} (hl : LocalAt l off h) (hF : h.Fits) (hb : l.length ≤ 4611686018427387904) {c0 c1 c2 c3 c4 c5 c6 c7 c8 c9 c10 c11 c12 c13 c15 : Value} (w : World) :
    Calls Tryd.prog 57 #[.string ⟨l.toArray⟩, .agg #[c0, c1, c2, c3, c4, c5, c6, c7, c8, c9, c10, c11, c12, c13, .int .i64 off, c15]] w fun e w' => e = .returned (.int .i64 ((off : Int) + 30 + h.name.length + h.extra.length)) ∧ Below w.heap.size w w' := by
  have hsz : (ByteArray.mk l.toArray).size = l.length := rfl
  have hrest := hl.rest
  have n1 := hF.name
  have n2 := hF.extra
  have hx1 : (ByteArray.mk l.toArray).extract (off + 26) (off + 28) = ⟨(sub l (off + 26) 2).toArray⟩ := ext_sub l (off + 26) 2
  have hx2 : (ByteArray.mk l.toArray).extract (off + 28) (off + 30) = ⟨(sub l (off + 28) 2).toArray⟩ := ext_sub l (off + 28) 2
  have HN1 : ∀ w, Calls Tryd.prog 30 #[.string ⟨(sub l (off + 26) 2).toArray⟩] w fun e w' => e = .returned (.int .i64 h.name.length) ∧ w' = w := fun w => (Number_any _ (Nat.le_trans (sub_le _ _ _) (by decide)) w).mono (fun e w' q => ⟨by rw [q.1, hl.nlen, leB2 _ hF.name], q.2.symm⟩)
  have HN2 : ∀ w, Calls Tryd.prog 30 #[.string ⟨(sub l (off + 28) 2).toArray⟩] w fun e w' => e = .returned (.int .i64 h.extra.length) ∧ w' = w := fun w => (Number_any _ (Nat.le_trans (sub_le _ _ _) (by decide)) w).mono (fun e w' q => ⟨by rw [q.1, hl.xlen, leB2 _ hF.extra], q.2.symm⟩)
  have H1 := Lib.hid HN1
  have H2 := Lib.hid HN2
  have t1 : IntKind.i64.wrap ((off : Int) + 30) = (off : Int) + 30 := IntWalk.i64_in _ (by omega)
  have t2 : IntKind.i64.wrap ((off : Int) + 26) = (off : Int) + 26 := IntWalk.i64_in _ (by omega)
  have t3 : IntKind.i64.wrap ((off : Int) + 28) = (off : Int) + 28 := IntWalk.i64_in _ (by omega)
  have t4 : IntKind.i64.wrap ((off : Int) + 30 + h.name.length) = (off : Int) + 30 + h.name.length := IntWalk.i64_in _ (by omega)
  have t5 : IntKind.i64.wrap ((off : Int) + 30 + h.name.length + h.extra.length) = (off : Int) + 30 + h.name.length + h.extra.length := IntWalk.i64_in _ (by omega)
  have b1 : ((off : Int) + 26).toNat = off + 26 := by omega
  have b2 : ((off : Int) + 28).toNat = off + 28 := by omega
  have b3 : ((off : Int) + 30).toNat = off + 30 := by omega
  have p1 : (0 : Int) ≤ (off : Int) + 26 := by omega
  have p2 : (0 : Int) ≤ (off : Int) + 28 := by omega
  have p3 : (0 : Int) ≤ (off : Int) + 30 := by omega
  clear hl hF HN1 HN2
  go_enter Tryd.func57, Tryd.ntmps57
  go_wp2_with fail
  go_quiet ((first | (go_at_call 30; with_reducible exact Calls.quiet_of_same (H1.out _)) | (go_at_call 30; with_reducible exact Calls.quiet_of_same (H2.out _))))
  go_wp2
  go_ret
  exact ⟨rfl, below_drewN ((Below.refl _ _).alloc (Nat.le_refl _) _) _⟩
/-- A record's block is as it was. -/
def RecAt (w' : World) (b : Nat) (cs : Array Value) : Prop := Blk w' b 47 cs
set_option maxRecDepth 100000 in
set_option maxHeartbeats 4000000 in
theorem content_any {l : List UInt8} {off dlen : Nat} {h : Hd} (hl : LocalAt l off h) (hF : h.Fits) (hb : l.length ≤ 4611686018427387904) (hd : off + 30 + h.name.length + h.extra.length + dlen ≤ l.length) {c0 c1 c2 c3 c4 c5 c6 c7 c8 c9 c10 c12 c13 c15 : Value} (w : World) :
    Calls Tryd.prog 33 #[.string ⟨l.toArray⟩, .agg #[c0, c1, c2, c3, c4, c5, c6, c7, c8, c9, c10, .int .i64 dlen, c12, c13, .int .i64 off, c15]] w fun e w' => e = .returned (.string ⟨(sub l (off + 30 + h.name.length + h.extra.length) dlen).toArray⟩) ∧ Below w.heap.size w w' := by
  have hsz : (ByteArray.mk l.toArray).size = l.length := rfl
  obtain ⟨B, hB⟩ : ∃ B, B = off + 30 + h.name.length + h.extra.length := ⟨_, rfl⟩
  have HBG : ∀ w, Calls Tryd.prog 57 #[.string ⟨l.toArray⟩, .agg #[c0, c1, c2, c3, c4, c5, c6, c7, c8, c9, c10, .int .i64 dlen, c12, c13, .int .i64 off, c15]] w fun e w' => e = .returned (.int .i64 B) ∧ Below w.heap.size w w' := fun w => (begin_any hl hF hb w).mono (fun e w' q => ⟨by rw [q.1, hB]; rfl, q.2⟩)
  rw [← hB] at hd ⊢
  have HG := Lib.hid HBG
  have hx := ext_sub l B dlen
  have t1 : IntKind.i64.wrap ((B : Int) + dlen) = (B : Int) + dlen := IntWalk.i64_in _ (by omega)
  have b1 : ((B : Int) + dlen).toNat = B + dlen := by omega
  have p1 : (0 : Int) ≤ (B : Int) + dlen := by omega
  have p2 : (B : Int) ≤ (B : Int) + dlen := by omega
  have p3 : (B : Int) + dlen ≤ l.length := by omega
  clear HBG hB hl hF
  go_enter Tryd.func33, Tryd.ntmps33
  go_wp2_with fail
  refine atW (fun W => Blk W w.heap.size 47 #[c0, c1, c2, c3, c4, c5, c6, c7, c8, c9, c10, .int .i64 dlen, c12, c13, .int .i64 off, c15] ∧ Below w.heap.size w W) ⟨Blk.new _ _ _, (Below.refl _ _).alloc (Nat.le_refl _) _⟩ ?_
  rintro W ⟨hbk, hbw⟩
  have HX := Lib.hid (And.intro hbk hbw)
  have k0 : W.cell? ⟨w.heap.size, 0, none⟩ = some (c0) := hbk.cell 0
  have k1 : W.cell? ⟨w.heap.size, 1, none⟩ = some (c1) := hbk.cell 1
  have k2 : W.cell? ⟨w.heap.size, 2, none⟩ = some (c2) := hbk.cell 2
  have k3 : W.cell? ⟨w.heap.size, 3, none⟩ = some (c3) := hbk.cell 3
  have k4 : W.cell? ⟨w.heap.size, 4, none⟩ = some (c4) := hbk.cell 4
  have k5 : W.cell? ⟨w.heap.size, 5, none⟩ = some (c5) := hbk.cell 5
  have k6 : W.cell? ⟨w.heap.size, 6, none⟩ = some (c6) := hbk.cell 6
  have k7 : W.cell? ⟨w.heap.size, 7, none⟩ = some (c7) := hbk.cell 7
  have k8 : W.cell? ⟨w.heap.size, 8, none⟩ = some (c8) := hbk.cell 8
  have k9 : W.cell? ⟨w.heap.size, 9, none⟩ = some (c9) := hbk.cell 9
  have k10 : W.cell? ⟨w.heap.size, 10, none⟩ = some (c10) := hbk.cell 10
  have k11 : W.cell? ⟨w.heap.size, 11, none⟩ = some (.int .i64 dlen) := hbk.cell 11
  have k12 : W.cell? ⟨w.heap.size, 12, none⟩ = some (c12) := hbk.cell 12
  have k13 : W.cell? ⟨w.heap.size, 13, none⟩ = some (c13) := hbk.cell 13
  have k14 : W.cell? ⟨w.heap.size, 14, none⟩ = some (.int .i64 off) := hbk.cell 14
  have k15 : W.cell? ⟨w.heap.size, 15, none⟩ = some (c15) := hbk.cell 15
  clear hbk hbw
  apply passW (fun W' => Below W.heap.size W W')
  case k =>
    intro key
    have KEY := Lib.hid key
    clear key
    have HY := Lib.hid ((Below.refl W.heap.size W).drew)
    go_region_held3 (fun w' => w'.cell? ⟨w.heap.size, 0, none⟩ = some (c0) ∧ w'.cell? ⟨w.heap.size, 1, none⟩ = some (c1) ∧ w'.cell? ⟨w.heap.size, 2, none⟩ = some (c2) ∧ w'.cell? ⟨w.heap.size, 3, none⟩ = some (c3) ∧ w'.cell? ⟨w.heap.size, 4, none⟩ = some (c4) ∧ w'.cell? ⟨w.heap.size, 5, none⟩ = some (c5) ∧ w'.cell? ⟨w.heap.size, 6, none⟩ = some (c6) ∧ w'.cell? ⟨w.heap.size, 7, none⟩ = some (c7) ∧ w'.cell? ⟨w.heap.size, 8, none⟩ = some (c8) ∧ w'.cell? ⟨w.heap.size, 9, none⟩ = some (c9) ∧ w'.cell? ⟨w.heap.size, 10, none⟩ = some (c10) ∧ w'.cell? ⟨w.heap.size, 11, none⟩ = some (.int .i64 dlen) ∧ w'.cell? ⟨w.heap.size, 12, none⟩ = some (c12) ∧ w'.cell? ⟨w.heap.size, 13, none⟩ = some (c13) ∧ w'.cell? ⟨w.heap.size, 14, none⟩ = some (.int .i64 off) ∧ w'.cell? ⟨w.heap.size, 15, none⟩ = some (c15))
      (first
        | exact ⟨k0, k1, k2, k3, k4, k5, k6, k7, k8, k9, k10, k11, k12, k13, k14, k15⟩
        | exact ⟨q0, q1, q2, q3, q4, q5, q6, q7, q8, q9, q10, q11, q12, q13, q14, q15⟩)
      ((go_at_call 57
        with_reducible refine (HG.out _).mono ?_
        rintro e' w1 ⟨rfl, hx⟩
        have hy := Lib.hid (HY.out.trans (hx.mono HY.out.size))
        clear HY hx
        have HY := hy
        clear hy
        have q0 : w1.cell? ⟨w.heap.size, 0, none⟩ = some (c0) := (HY.out.cell (p := ⟨w.heap.size, 0, none⟩) HX.out.1.lt).trans (HX.out.1.cell 0)
        have q1 : w1.cell? ⟨w.heap.size, 1, none⟩ = some (c1) := (HY.out.cell (p := ⟨w.heap.size, 1, none⟩) HX.out.1.lt).trans (HX.out.1.cell 1)
        have q2 : w1.cell? ⟨w.heap.size, 2, none⟩ = some (c2) := (HY.out.cell (p := ⟨w.heap.size, 2, none⟩) HX.out.1.lt).trans (HX.out.1.cell 2)
        have q3 : w1.cell? ⟨w.heap.size, 3, none⟩ = some (c3) := (HY.out.cell (p := ⟨w.heap.size, 3, none⟩) HX.out.1.lt).trans (HX.out.1.cell 3)
        have q4 : w1.cell? ⟨w.heap.size, 4, none⟩ = some (c4) := (HY.out.cell (p := ⟨w.heap.size, 4, none⟩) HX.out.1.lt).trans (HX.out.1.cell 4)
        have q5 : w1.cell? ⟨w.heap.size, 5, none⟩ = some (c5) := (HY.out.cell (p := ⟨w.heap.size, 5, none⟩) HX.out.1.lt).trans (HX.out.1.cell 5)
        have q6 : w1.cell? ⟨w.heap.size, 6, none⟩ = some (c6) := (HY.out.cell (p := ⟨w.heap.size, 6, none⟩) HX.out.1.lt).trans (HX.out.1.cell 6)
        have q7 : w1.cell? ⟨w.heap.size, 7, none⟩ = some (c7) := (HY.out.cell (p := ⟨w.heap.size, 7, none⟩) HX.out.1.lt).trans (HX.out.1.cell 7)
        have q8 : w1.cell? ⟨w.heap.size, 8, none⟩ = some (c8) := (HY.out.cell (p := ⟨w.heap.size, 8, none⟩) HX.out.1.lt).trans (HX.out.1.cell 8)
        have q9 : w1.cell? ⟨w.heap.size, 9, none⟩ = some (c9) := (HY.out.cell (p := ⟨w.heap.size, 9, none⟩) HX.out.1.lt).trans (HX.out.1.cell 9)
        have q10 : w1.cell? ⟨w.heap.size, 10, none⟩ = some (c10) := (HY.out.cell (p := ⟨w.heap.size, 10, none⟩) HX.out.1.lt).trans (HX.out.1.cell 10)
        have q11 : w1.cell? ⟨w.heap.size, 11, none⟩ = some (.int .i64 dlen) := (HY.out.cell (p := ⟨w.heap.size, 11, none⟩) HX.out.1.lt).trans (HX.out.1.cell 11)
        have q12 : w1.cell? ⟨w.heap.size, 12, none⟩ = some (c12) := (HY.out.cell (p := ⟨w.heap.size, 12, none⟩) HX.out.1.lt).trans (HX.out.1.cell 12)
        have q13 : w1.cell? ⟨w.heap.size, 13, none⟩ = some (c13) := (HY.out.cell (p := ⟨w.heap.size, 13, none⟩) HX.out.1.lt).trans (HX.out.1.cell 13)
        have q14 : w1.cell? ⟨w.heap.size, 14, none⟩ = some (.int .i64 off) := (HY.out.cell (p := ⟨w.heap.size, 14, none⟩) HX.out.1.lt).trans (HX.out.1.cell 14)
        have q15 : w1.cell? ⟨w.heap.size, 15, none⟩ = some (c15) := (HY.out.cell (p := ⟨w.heap.size, 15, none⟩) HX.out.1.lt).trans (HX.out.1.cell 15)
        skip))
    all_goals exact KEY.out _ HY.out
  clear HG k0 k1 k2 k3 k4 k5 k6 k7 k8 k9 k10 k11 k12 k13 k14 k15
  rintro W' hb'
  have HZ := Lib.hid (HX.out.2.trans (hb'.mono HX.out.2.size))
  clear hb'
  go_wp2
  go_ret
  exact ⟨rfl, HZ.out⟩
end Go.Proofs.YtkkdblifgekmkaaDoor
/- Contract: spec.local. -/
namespace Go.Proofs.YtkkdblifgekmkaaDoor
open Go.RowKit
set_option maxRecDepth 100000 in
set_option maxHeartbeats 4000000 in
theorem local_any {l : List UInt8} {off dlen : Nat} {h : Hd} (hl : LocalAt l off h) (hF : h.Fits) (hb : l.length ≤ 4611686018427387904) (hd : off + 30 + h.name.length + h.extra.length + dlen ≤ l.length) {c1 c2 c3 c4 c5 c6 c8 c9 c10 c12 c13 c15 : Value} (w : World) :
    Calls Tryd.prog 32 #[.string ⟨l.toArray⟩, .agg #[.string ⟨h.name.toArray⟩, c1, c2, c3, c4, c5, c6, .int .i64 h.method, c8, c9, c10, .int .i64 dlen, c12, c13, .int .i64 off, c15]] w fun e w' => e = .returned (.bool true) ∧ Below w.heap.size w w' := by
  have hsz : (ByteArray.mk l.toArray).size = l.length := rfl
  have hsn : (ByteArray.mk h.name.toArray).size = h.name.length := rfl
  obtain ⟨B, hB⟩ : ∃ B, B = off + 30 + h.name.length + h.extra.length := ⟨_, rfl⟩
  have HBG : ∀ w, Calls Tryd.prog 57 #[.string ⟨l.toArray⟩, .agg #[.string ⟨h.name.toArray⟩, c1, c2, c3, c4, c5, c6, .int .i64 h.method, c8, c9, c10, .int .i64 dlen, c12, c13, .int .i64 off, c15]] w fun e w' => e = .returned (.int .i64 B) ∧ Below w.heap.size w w' := fun w => (begin_any hl hF hb w).mono (fun e w' q => ⟨by rw [q.1, hB]; rfl, q.2⟩)
  rw [← hB] at hd
  have hBo : off + 30 + h.name.length ≤ B := by omega
  have hnl := hF.name
  have HA4 : ∀ w, Calls Tryd.prog 29 #[.string ⟨l.toArray⟩, .int .i64 off, .string { data := #[80, 75, 3, 4] }] w fun e w' => e = .returned (.bool true) ∧ w = w' := fun w => At_is l [80, 75, 3, 4] off hb (by decide) (by omega) (.inl (by omega)) (by unfold standsL; show (sub l off 4 == [80, 75, 3, 4]) = true; rw [hl.sig]; rfl)
  have HAN : ∀ w, Calls Tryd.prog 29 #[.string ⟨l.toArray⟩, .int .i64 ((off : Int) + 30), .string ⟨h.name.toArray⟩] w fun e w' => e = .returned (.bool true) ∧ w = w' := fun w => At_is l h.name (off + 30) hb (by omega) (by omega) (.inl (by omega)) (by unfold standsL; show (sub l (off + 30) h.name.length == h.name) = true; rw [hl.name]; simp)
  have HN8 : ∀ w, Calls Tryd.prog 30 #[.string ⟨(sub l (off + 8) 2).toArray⟩] w fun e w' => e = .returned (.int .i64 h.method) ∧ w = w' := fun w => (Number_any _ (Nat.le_trans (sub_le _ _ _) (by decide)) w).mono (fun e w' q => ⟨by rw [q.1, hl.method, leB2 _ hF.method], q.2⟩)
  have HN26 : ∀ w, Calls Tryd.prog 30 #[.string ⟨(sub l (off + 26) 2).toArray⟩] w fun e w' => e = .returned (.int .i64 h.name.length) ∧ w = w' := fun w => (Number_any _ (Nat.le_trans (sub_le _ _ _) (by decide)) w).mono (fun e w' q => ⟨by rw [q.1, hl.nlen, leB2 _ hF.name], q.2⟩)
  have HH := Lib.hid (And.intro HA4 (And.intro HAN (And.intro HN8 (And.intro HN26 HBG))))
  have hx8 : (ByteArray.mk l.toArray).extract (off + 8) (off + 10) = ⟨(sub l (off + 8) 2).toArray⟩ := ext_sub l (off + 8) 2
  have hx26 : (ByteArray.mk l.toArray).extract (off + 26) (off + 28) = ⟨(sub l (off + 26) 2).toArray⟩ := ext_sub l (off + 26) 2
  clear HA4 HAN HN8 HN26 HBG hB hl hF
  go_enter Tryd.func32, Tryd.ntmps32
  go_wp2_with fail
  refine (HH.out.1 _).mono ?_
  rintro e' w1 ⟨rfl, rfl⟩
  go_wp2_with fail
  refine atW (fun W => Blk W w.heap.size 47 #[.string ⟨h.name.toArray⟩, c1, c2, c3, c4, c5, c6, .int .i64 h.method, c8, c9, c10, .int .i64 dlen, c12, c13, .int .i64 off, c15] ∧ Below w.heap.size w W) ⟨Blk.new _ _ _, (Below.refl _ _).alloc (Nat.le_refl _) _⟩ ?_
  rintro W ⟨hbk, hbw⟩
  have HX := Lib.hid (And.intro hbk hbw)
  have k0 : W.cell? ⟨w.heap.size, 0, none⟩ = some (.string ⟨h.name.toArray⟩) := hbk.cell 0
  have k1 : W.cell? ⟨w.heap.size, 1, none⟩ = some (c1) := hbk.cell 1
  have k2 : W.cell? ⟨w.heap.size, 2, none⟩ = some (c2) := hbk.cell 2
  have k3 : W.cell? ⟨w.heap.size, 3, none⟩ = some (c3) := hbk.cell 3
  have k4 : W.cell? ⟨w.heap.size, 4, none⟩ = some (c4) := hbk.cell 4
  have k5 : W.cell? ⟨w.heap.size, 5, none⟩ = some (c5) := hbk.cell 5
  have k6 : W.cell? ⟨w.heap.size, 6, none⟩ = some (c6) := hbk.cell 6
  have k7 : W.cell? ⟨w.heap.size, 7, none⟩ = some (.int .i64 h.method) := hbk.cell 7
  have k8 : W.cell? ⟨w.heap.size, 8, none⟩ = some (c8) := hbk.cell 8
  have k9 : W.cell? ⟨w.heap.size, 9, none⟩ = some (c9) := hbk.cell 9
  have k10 : W.cell? ⟨w.heap.size, 10, none⟩ = some (c10) := hbk.cell 10
  have k11 : W.cell? ⟨w.heap.size, 11, none⟩ = some (.int .i64 dlen) := hbk.cell 11
  have k12 : W.cell? ⟨w.heap.size, 12, none⟩ = some (c12) := hbk.cell 12
  have k13 : W.cell? ⟨w.heap.size, 13, none⟩ = some (c13) := hbk.cell 13
  have k14 : W.cell? ⟨w.heap.size, 14, none⟩ = some (.int .i64 off) := hbk.cell 14
  have k15 : W.cell? ⟨w.heap.size, 15, none⟩ = some (c15) := hbk.cell 15
  have t8 : IntKind.i64.wrap ((off : Int) + 8) = (off : Int) + 8 := IntWalk.i64_in _ (by omega)
  have b8 : ((off : Int) + 8).toNat = off + 8 := by omega
  have p8 : (0 : Int) ≤ (off : Int) + 8 := by omega
  have t10 : IntKind.i64.wrap ((off : Int) + 10) = (off : Int) + 10 := IntWalk.i64_in _ (by omega)
  have b10 : ((off : Int) + 10).toNat = off + 10 := by omega
  have p10 : (0 : Int) ≤ (off : Int) + 10 := by omega
  have t26 : IntKind.i64.wrap ((off : Int) + 26) = (off : Int) + 26 := IntWalk.i64_in _ (by omega)
  have b26 : ((off : Int) + 26).toNat = off + 26 := by omega
  have p26 : (0 : Int) ≤ (off : Int) + 26 := by omega
  have t28 : IntKind.i64.wrap ((off : Int) + 28) = (off : Int) + 28 := IntWalk.i64_in _ (by omega)
  have b28 : ((off : Int) + 28).toNat = off + 28 := by omega
  have p28 : (0 : Int) ≤ (off : Int) + 28 := by omega
  have t30 : IntKind.i64.wrap ((off : Int) + 30) = (off : Int) + 30 := IntWalk.i64_in _ (by omega)
  have b30 : ((off : Int) + 30).toNat = off + 30 := by omega
  have p30 : (0 : Int) ≤ (off : Int) + 30 := by omega
  have tB : IntKind.i64.wrap ((B : Int) + dlen) = (B : Int) + dlen := IntWalk.i64_in _ (by omega)
  have i1 : (off : Int) + 8 ≤ (off : Int) + 10 := by omega
  have i2 : (off : Int) + 26 ≤ (off : Int) + 28 := by omega
  have i3 : (off : Int) + 10 ≤ l.length := by omega
  have i4 : (off : Int) + 28 ≤ l.length := by omega
  have i5 : decide ((B : Int) + dlen ≤ l.length) = true := by simp; omega
  clear hbk hbw
  apply passW (fun W' => Below W.heap.size W W')
  case k =>
    intro key
    have KEY := Lib.hid key
    clear key
    have HY := Lib.hid ((Below.refl W.heap.size W).drew)
    go_region_held3 (fun w' => w'.cell? ⟨w.heap.size, 0, none⟩ = some (.string ⟨h.name.toArray⟩) ∧ w'.cell? ⟨w.heap.size, 1, none⟩ = some (c1) ∧ w'.cell? ⟨w.heap.size, 2, none⟩ = some (c2) ∧ w'.cell? ⟨w.heap.size, 3, none⟩ = some (c3) ∧ w'.cell? ⟨w.heap.size, 4, none⟩ = some (c4) ∧ w'.cell? ⟨w.heap.size, 5, none⟩ = some (c5) ∧ w'.cell? ⟨w.heap.size, 6, none⟩ = some (c6) ∧ w'.cell? ⟨w.heap.size, 7, none⟩ = some (.int .i64 h.method) ∧ w'.cell? ⟨w.heap.size, 8, none⟩ = some (c8) ∧ w'.cell? ⟨w.heap.size, 9, none⟩ = some (c9) ∧ w'.cell? ⟨w.heap.size, 10, none⟩ = some (c10) ∧ w'.cell? ⟨w.heap.size, 11, none⟩ = some (.int .i64 dlen) ∧ w'.cell? ⟨w.heap.size, 12, none⟩ = some (c12) ∧ w'.cell? ⟨w.heap.size, 13, none⟩ = some (c13) ∧ w'.cell? ⟨w.heap.size, 14, none⟩ = some (.int .i64 off) ∧ w'.cell? ⟨w.heap.size, 15, none⟩ = some (c15))
      (first
        | exact ⟨k0, k1, k2, k3, k4, k5, k6, k7, k8, k9, k10, k11, k12, k13, k14, k15⟩
        | exact ⟨q0, q1, q2, q3, q4, q5, q6, q7, q8, q9, q10, q11, q12, q13, q14, q15⟩)
      ((first
        | (go_at_call 30
           with_reducible refine (HH.out.2.2.1 _).mono ?_
           rintro e' w1 ⟨rfl, rfl⟩)
        | (go_at_call 30
           with_reducible refine (HH.out.2.2.2.1 _).mono ?_
           rintro e' w1 ⟨rfl, rfl⟩)
        | (go_at_call 29
           with_reducible refine (HH.out.2.1 _).mono ?_
           rintro e' w1 ⟨rfl, rfl⟩)
        | (go_at_call 57
           with_reducible refine (HH.out.2.2.2.2 _).mono ?_
           rintro e' w1 ⟨rfl, hx⟩
           have hy := Lib.hid (HY.out.trans (hx.mono HY.out.size))
           clear HY hx
           have HY := hy
           clear hy
           have q0 : w1.cell? ⟨w.heap.size, 0, none⟩ = some (.string ⟨h.name.toArray⟩) := (HY.out.cell (p := ⟨w.heap.size, 0, none⟩) HX.out.1.lt).trans (HX.out.1.cell 0)
           have q1 : w1.cell? ⟨w.heap.size, 1, none⟩ = some (c1) := (HY.out.cell (p := ⟨w.heap.size, 1, none⟩) HX.out.1.lt).trans (HX.out.1.cell 1)
           have q2 : w1.cell? ⟨w.heap.size, 2, none⟩ = some (c2) := (HY.out.cell (p := ⟨w.heap.size, 2, none⟩) HX.out.1.lt).trans (HX.out.1.cell 2)
           have q3 : w1.cell? ⟨w.heap.size, 3, none⟩ = some (c3) := (HY.out.cell (p := ⟨w.heap.size, 3, none⟩) HX.out.1.lt).trans (HX.out.1.cell 3)
           have q4 : w1.cell? ⟨w.heap.size, 4, none⟩ = some (c4) := (HY.out.cell (p := ⟨w.heap.size, 4, none⟩) HX.out.1.lt).trans (HX.out.1.cell 4)
           have q5 : w1.cell? ⟨w.heap.size, 5, none⟩ = some (c5) := (HY.out.cell (p := ⟨w.heap.size, 5, none⟩) HX.out.1.lt).trans (HX.out.1.cell 5)
           have q6 : w1.cell? ⟨w.heap.size, 6, none⟩ = some (c6) := (HY.out.cell (p := ⟨w.heap.size, 6, none⟩) HX.out.1.lt).trans (HX.out.1.cell 6)
           have q7 : w1.cell? ⟨w.heap.size, 7, none⟩ = some (.int .i64 h.method) := (HY.out.cell (p := ⟨w.heap.size, 7, none⟩) HX.out.1.lt).trans (HX.out.1.cell 7)
           have q8 : w1.cell? ⟨w.heap.size, 8, none⟩ = some (c8) := (HY.out.cell (p := ⟨w.heap.size, 8, none⟩) HX.out.1.lt).trans (HX.out.1.cell 8)
           have q9 : w1.cell? ⟨w.heap.size, 9, none⟩ = some (c9) := (HY.out.cell (p := ⟨w.heap.size, 9, none⟩) HX.out.1.lt).trans (HX.out.1.cell 9)
           have q10 : w1.cell? ⟨w.heap.size, 10, none⟩ = some (c10) := (HY.out.cell (p := ⟨w.heap.size, 10, none⟩) HX.out.1.lt).trans (HX.out.1.cell 10)
           have q11 : w1.cell? ⟨w.heap.size, 11, none⟩ = some (.int .i64 dlen) := (HY.out.cell (p := ⟨w.heap.size, 11, none⟩) HX.out.1.lt).trans (HX.out.1.cell 11)
           have q12 : w1.cell? ⟨w.heap.size, 12, none⟩ = some (c12) := (HY.out.cell (p := ⟨w.heap.size, 12, none⟩) HX.out.1.lt).trans (HX.out.1.cell 12)
           have q13 : w1.cell? ⟨w.heap.size, 13, none⟩ = some (c13) := (HY.out.cell (p := ⟨w.heap.size, 13, none⟩) HX.out.1.lt).trans (HX.out.1.cell 13)
           have q14 : w1.cell? ⟨w.heap.size, 14, none⟩ = some (.int .i64 off) := (HY.out.cell (p := ⟨w.heap.size, 14, none⟩) HX.out.1.lt).trans (HX.out.1.cell 14)
           have q15 : w1.cell? ⟨w.heap.size, 15, none⟩ = some (c15) := (HY.out.cell (p := ⟨w.heap.size, 15, none⟩) HX.out.1.lt).trans (HX.out.1.cell 15)
           skip)))
    trace_state
    all_goals exact KEY.out _ HY.out
  clear HH k0 k1 k2 k3 k4 k5 k6 k7 k8 k9 k10 k11 k12 k13 k14 k15
  rintro W' hb'
  have HZ := Lib.hid (HX.out.2.trans (hb'.mono HX.out.2.size))
  clear hb'
  go_wp2
  go_ret
  exact ⟨rfl, HZ.out⟩
end Go.Proofs.YtkkdblifgekmkaaDoor
