/- Contracts: Time.Add, Time.Sub, Date, msDosTimeToTime. -/
import Derived.Test.YtfagjhgmmaebfaaGreatDoorTm4
namespace Go.Proofs.YtfagjhgmmaebfaaGreatDoor
open Go.RowKit
set_option maxRecDepth 100000 in
set_option maxHeartbeats 1000000 in
theorem TAdd (a b : Int) (l : Option Addr) (d : Int) (w : World) : Calls Tryz.prog 85 #[.agg #[.int .u64 a, .int .i64 b, .pointer l], .int .i64 d] w fun e w' => (∃ v, IsTm v ∧ e = .returned v) ∧ Kept [] w w' := by
  obtain ⟨W, hW⟩ : ∃ W, W = (w.alloc (.cells #[.int .u64 a, .int .i64 b, .pointer l] 69)).alloc (.cells #[.int .u64 0, .int .i64 0, .pointer none] 69) := ⟨_, rfl⟩
  have h1 : Blk W w.heap.size 69 #[.int .u64 a, .int .i64 b, .pointer l] := by rw [hW]; exact (Blk.new _ _ _).alloc _
  have h2 : Blk W (w.heap.size + 1) 69 #[.int .u64 0, .int .i64 0, .pointer none] := by have := Blk.new (w.alloc (.cells #[.int .u64 a, .int .i64 b, .pointer l] 69)) 69 #[.int .u64 0, .int .i64 0, .pointer none]; rw [hW]; simpa using this
  have hK : Kept [] w W := by rw [hW]; exact ((Kept.refl _ _).alloc _).alloc _
  have HH := Lib.hid (And.intro h1 (And.intro h2 hK))
  have HW := Lib.hid hW
  clear hW h1 h2 hK
  go_enter Tryz.func85, Tryz.ntmps85
  go_upto_region 1 with (fail)
  refine atW (fun W1 => W1 = W) HW.out.symm ?_
  rintro W1 rfl
  have f0 := HH.out.1.cell 0
  have f1 := HH.out.1.cell 1
  have ff := HH.out.1.frozen
  clear HW
  go_wp2_with fail
  refine (Tnsec (p := w.heap.size) ⟨_, _, _, HH.out.1⟩).mono ?_
  rintro e w1 ⟨⟨n, rfl⟩, rfl⟩
  go_upto_region 10 with (fail)
  all_goals
    refine atW (fun W => TmAt W w.heap.size ∧ Blk W (w.heap.size + 1) 69 #[.int .u64 0, .int .i64 0, .pointer none] ∧ Kept [] w W) ⟨(tm_set HH.out.1).1 _, HH.out.2.1.far (by simp) _, HH.out.2.2.setCell (.inr (Nat.le_refl _)) _⟩ ?_
    rintro W2 ⟨hT, hR, hK⟩
    clear HH f0 f1 ff
    go_wp2_with fail
    refine (Tadds hT _).mono ?_
    rintro e w2 ⟨rfl, ⟨a1, b1, l1, hT2⟩, hK2⟩
    have hR2 := hK2.blk hR (by simp)
    have HK := Lib.hid (hK.trans' hK2 (by simp))
    have d0 : w2.cell? ⟨w.heap.size, 0, none⟩ = some (.int .u64 a1) := hT2.cell 0
    have d1 : w2.cell? ⟨w.heap.size, 1, none⟩ = some (.int .i64 b1) := hT2.cell 1
    have d2 : w2.cell? ⟨w.heap.size, 2, none⟩ = some (.pointer l1) := hT2.cell 2
    have df := hT2.frozen
    have r0 := hR2.cell 0
    have r1 := hR2.cell 1
    have r2 := hR2.cell 2
    have rf := hR2.frozen
    have HT2 := Lib.hid (And.intro hT2 hR2)
    clear hT hR hK hK2 hT2 hR2
    cases hq : (bits BinOp.and IntKind.u64 a1 9223372036854775808 != 0)
    · go_wp2
      refine bodyPost_ret (v := .agg #[.int .u64 a1, .int .i64 b1, .pointer l1]) (by simp [results, Tryz.results85, go_sem, r0, r1, r2]) rfl ⟨⟨_, ⟨_, _, _, rfl⟩, rfl⟩, ?_⟩
      exact ((HK.out.setCell (.inr (Nat.le_succ _)) _).setCell (.inr (Nat.le_succ _)) _).setCell (.inr (Nat.le_succ _)) _
    · by_cases h1 : d < 0 <;> by_cases h2 : b1 < wrap64 (b1 + d) <;> by_cases h3 : 0 < d <;> by_cases h4 : wrap64 (b1 + d) < b1
      all_goals try (exfalso; omega)
      all_goals go_wp2_with (go_at_call 91; refine (Tstrip ⟨_, _, _, HT2.out.1⟩).mono ?_; rintro e w3 ⟨rfl, ⟨a3, b3, l3, hT3⟩, hK3⟩; have hR3 := hK3.blk HT2.out.2 (by simp); have HK3 := Lib.hid (HK.out.trans' hK3 (by simp)); have g0 : w3.cell? ⟨w.heap.size, 0, none⟩ = some (.int .u64 a3) := hT3.cell 0; have g1 : w3.cell? ⟨w.heap.size, 1, none⟩ = some (.int .i64 b3) := hT3.cell 1; have g2 : w3.cell? ⟨w.heap.size, 2, none⟩ = some (.pointer l3) := hT3.cell 2; have s0 := hR3.cell 0; have s1 := hR3.cell 1; have s2 := hR3.cell 2; have sf := hR3.frozen; clear d0 d1 d2 r0 r1 r2 rf df hT3 hR3 hK3)
      all_goals first
        | (refine bodyPost_ret (v := .agg #[.int .u64 a3, .int .i64 b3, .pointer l3]) (by simp [results, Tryz.results85, go_sem, s0, s1, s2]) rfl ⟨⟨_, ⟨_, _, _, rfl⟩, rfl⟩, ?_⟩; exact ((HK3.out.setCell (.inr (Nat.le_succ _)) _).setCell (.inr (Nat.le_succ _)) _).setCell (.inr (Nat.le_succ _)) _)
        | (refine bodyPost_ret (v := .agg #[.int .u64 a1, .int .i64 (wrap64 (b1 + d)), .pointer l1]) (by simp [results, Tryz.results85, go_sem, r0, r1, r2]) rfl ⟨⟨_, ⟨_, _, _, rfl⟩, rfl⟩, ?_⟩; exact (((HK.out.setCell (.inr (Nat.le_refl _)) _).setCell (.inr (Nat.le_succ _)) _).setCell (.inr (Nat.le_succ _)) _).setCell (.inr (Nat.le_succ _)) _)
        | trace_state
end Go.Proofs.YtfagjhgmmaebfaaGreatDoor
/- Contracts: Time.Sub, Date in UTC, msDosTimeToTime. -/
namespace Go.Proofs.YtfagjhgmmaebfaaGreatDoor
open Go.RowKit
set_option maxRecDepth 100000 in
set_option maxHeartbeats 1000000 in
theorem TSub (a b : Int) (l : Option Addr) (a' b' : Int) (l' : Option Addr) (w : World) : Calls Tryz.prog 66 #[.agg #[.int .u64 a, .int .i64 b, .pointer l], .agg #[.int .u64 a', .int .i64 b', .pointer l']] w fun e w' => (∃ q : Int, e = .returned (.int .i64 q)) ∧ Kept [] w w' := by
  obtain ⟨W, hW⟩ : ∃ W, W = (w.alloc (.cells #[.int .u64 a, .int .i64 b, .pointer l] 69)).alloc (.cells #[.int .u64 a', .int .i64 b', .pointer l'] 69) := ⟨_, rfl⟩
  have h1 : Blk W w.heap.size 69 #[.int .u64 a, .int .i64 b, .pointer l] := by rw [hW]; exact (Blk.new _ _ _).alloc _
  have h2 : Blk W (w.heap.size + 1) 69 #[.int .u64 a', .int .i64 b', .pointer l'] := by have := Blk.new (w.alloc (.cells #[.int .u64 a, .int .i64 b, .pointer l] 69)) 69 #[.int .u64 a', .int .i64 b', .pointer l']; rw [hW]; simpa using this
  have hK : Kept [] w W := by rw [hW]; exact ((Kept.refl _ _).alloc _).alloc _
  obtain ⟨z1, s1⟩ := Tsec1 a b
  obtain ⟨z2, s2⟩ := Tsec1 a' b'
  obtain ⟨n1, m1⟩ := Tnsec1 a b
  obtain ⟨n2, m2⟩ := Tnsec1 a' b'
  have s1 := Lib.hid (s1 W _ l h1)
  have s2 := Lib.hid (s2 W _ l' h2)
  have m1 := Lib.hid (m1 W _ l h1)
  have m2 := Lib.hid (m2 W _ l' h2)
  have HH := Lib.hid (And.intro h1 (And.intro h2 hK))
  have c0 : W.cell? ⟨w.heap.size, 0, none⟩ = some (.int .u64 a) := h1.cell 0
  have c1 : W.cell? ⟨w.heap.size, 1, none⟩ = some (.int .i64 b) := h1.cell 1
  have c2 : W.cell? ⟨w.heap.size, 2, none⟩ = some (.pointer l) := h1.cell 2
  have d0 : W.cell? ⟨w.heap.size + 1, 0, none⟩ = some (.int .u64 a') := h2.cell 0
  have d1 : W.cell? ⟨w.heap.size + 1, 1, none⟩ = some (.int .i64 b') := h2.cell 1
  have d2 : W.cell? ⟨w.heap.size + 1, 2, none⟩ = some (.pointer l') := h2.cell 2
  have HW := Lib.hid hW
  clear hW h1 h2 hK
  cases hq : (bits BinOp.and IntKind.u64 (bits BinOp.and IntKind.u64 a a') 9223372036854775808 != 0)
  · go_enter Tryz.func66, Tryz.ntmps66
    go_upto_region 1 with (fail)
    refine atW (fun W1 => W1 = W) HW.out.symm ?_
    rintro W1 rfl
    clear HW
    go_wp2_with fail
    refine s1.out.mono ?_
    rintro e w1 ⟨rfl, rfl⟩
    go_wp2_with fail
    refine s2.out.mono ?_
    rintro e w1 ⟨rfl, rfl⟩
    go_wp2_with fail
    refine m1.out.mono ?_
    rintro e w1 ⟨rfl, rfl⟩
    go_wp2_with fail
    refine m2.out.mono ?_
    rintro e w1 ⟨rfl, rfl⟩
    clear s1 s2 m1 m2
    have HY := Lib.hid ((Kept.refl [] w1).drew)
    go_upto_region 5 with (fail)
    go_region_held3 (fun w' => w'.cell? ⟨w.heap.size, 0, none⟩ = some (.int .u64 a) ∧ w'.cell? ⟨w.heap.size, 1, none⟩ = some (.int .i64 b) ∧ w'.cell? ⟨w.heap.size, 2, none⟩ = some (.pointer l) ∧ w'.cell? ⟨w.heap.size + 1, 0, none⟩ = some (.int .u64 a') ∧ w'.cell? ⟨w.heap.size + 1, 1, none⟩ = some (.int .i64 b') ∧ w'.cell? ⟨w.heap.size + 1, 2, none⟩ = some (.pointer l'))
      (first
        | exact ⟨c0, c1, c2, d0, d1, d2⟩
        | exact ⟨q0, q1, q2, q3, q4, q5⟩)
      ((
        (first | (go_at_call 85; (with_reducible refine (TAdd _ _ _ _ _).mono ?_); rintro e' w2 ⟨⟨v, ⟨x0, x1, x2, hv⟩, rfl⟩, hx⟩; subst hv) | (go_at_call 86; (with_reducible refine (Teq _ _ _ _ _ _ _).mono ?_); rintro e' w2 ⟨⟨qq, rfl⟩, hx⟩))
        have hy := Lib.hid (HY.out.trans hx)
        clear HY hx
        have HY := hy
        clear hy
        have q0 : w2.cell? ⟨w.heap.size, 0, none⟩ = some (.int .u64 a) := (HY.out.blk HH.out.1 (by simp)).cell 0
        have q1 : w2.cell? ⟨w.heap.size, 1, none⟩ = some (.int .i64 b) := (HY.out.blk HH.out.1 (by simp)).cell 1
        have q2 : w2.cell? ⟨w.heap.size, 2, none⟩ = some (.pointer l) := (HY.out.blk HH.out.1 (by simp)).cell 2
        have q3 : w2.cell? ⟨w.heap.size + 1, 0, none⟩ = some (.int .u64 a') := (HY.out.blk HH.out.2.1 (by simp)).cell 0
        have q4 : w2.cell? ⟨w.heap.size + 1, 1, none⟩ = some (.int .i64 b') := (HY.out.blk HH.out.2.1 (by simp)).cell 1
        have q5 : w2.cell? ⟨w.heap.size + 1, 2, none⟩ = some (.pointer l') := (HY.out.blk HH.out.2.1 (by simp)).cell 2))
    · have HZ := Lib.hid (HH.out.2.2.trans HY.out)
      cases qq
      · go_wp2_with (go_at_call 87; refine (Tbef _ _ _ _ _ _ _).mono ?_; rintro e w3 ⟨⟨qb, rfl⟩, hK3⟩; have HK3 := Lib.hid (HZ.out.trans hK3); clear hK3; cases qb)
        all_goals go_ret
        all_goals exact ⟨⟨_, rfl⟩, HK3.out⟩
      · go_wp2
        go_ret
        exact ⟨⟨_, rfl⟩, HZ.out⟩
  · go_enter Tryz.func66, Tryz.ntmps66
    go_upto_region 1 with (fail)
    refine atW (fun W1 => W1 = W) HW.out.symm ?_
    rintro W1 rfl
    clear HW
    go_wp2_with fail
    refine (Tsubm _ _ _).mono ?_
    rintro e w1 ⟨⟨z, rfl⟩, rfl⟩
    go_wp2
    go_ret
    exact ⟨⟨_, rfl⟩, HH.out.2.2⟩
set_option maxRecDepth 100000 in
set_option maxHeartbeats 1000000 in
theorem TDate (y m d h mi s n : Int) (q : Nat) (w : World) (hq : Blk w q 164 #[.bool true, .string ⟨#[85, 84, 67]⟩, .slice none 0 0, .slice none 0 0, .string ⟨#[]⟩, .int .i64 0, .int .i64 0, .pointer none]) :
    Calls Tryz.prog 56 #[.int .i64 y, .int .i64 m, .int .i64 d, .int .i64 h, .int .i64 mi, .int .i64 s, .int .i64 n, .pointer (some ⟨q, 0, none⟩)] w fun e w' => (∃ v, IsTm v ∧ e = .returned v) ∧ Kept [] w w' := by
  have HN := Tnorm
  have HD := Tdays
  have HU := Tuni
  have l2 : ∀ w', Kept [] w w' → w'.cell? ⟨q, 2, none⟩ = some (.slice none 0 0) := fun w' k => (k.blk hq (by simp)).cell 2
  go_enter Tryz.func56, Tryz.ntmps56
  go_upto_region 1 with (fail)
  refine atW (fun W => Blk W w.heap.size 69 #[.int .u64 0, .int .i64 0, .pointer none] ∧ Kept [] w W) ⟨Blk.new _ _ _, (Kept.refl _ _).alloc _⟩ ?_
  rintro W ⟨hR, hK⟩
  have hq0 := hK.blk hq (by simp)
  have lz : W.cell? ⟨q, 2, none⟩ = some (.slice none 0 0) := hq0.cell 2
  have HX := Lib.hid (And.intro hR (And.intro hK hq0))
  clear hR hK hq0 l2
  go_upto_region 17 with (first | (go_at_call 74; refine (HN _ _ _ (by decide) _).mono ?_; rintro e w1 ⟨⟨x, y, rfl⟩, rfl⟩) | (go_at_call 75; refine (HD _ _ _ _).mono ?_; rintro e w1 ⟨⟨x, rfl⟩, rfl⟩) | (go_at_call 76; refine (Tlook lz _).mono ?_; rintro e w1 ⟨⟨nm, xa, xb, xc, rfl⟩, rfl⟩))
  go_upto_region 18 with (go_at_call 77; refine (HU _ _ _).mono ?_; rintro e w2 ⟨⟨v, ⟨xa, xb, xl, rfl⟩, rfl⟩, hK2⟩)
  refine atW (fun W3 => TmAt W3 w2.heap.size ∧ Blk W3 w.heap.size 69 #[.int .u64 0, .int .i64 0, .pointer none] ∧ W3.cell? ⟨q, 0, none⟩ = some (.bool true) ∧ Kept [] w W3 ∧ w.heap.size < w2.heap.size) ⟨TmAt.new _ _ _ _, (hK2.blk HX.out.1 (by simp)).alloc _, ((hK2.blk HX.out.2.2 (by simp)).alloc _).cell 0, (HX.out.2.1.trans hK2).alloc _, (hK2.blk HX.out.1 (by simp)).lt⟩ ?_
  rintro W3 ⟨hT, hR, hq0, hK, hlt⟩
  clear HX lz
  have HX := Lib.hid (And.intro hT (And.intro hR (And.intro hK hlt)))
  clear hT hR hK hlt
  go_wp2_with (go_at_call 78; refine (Tsetloc HX.out.1 hq0).mono ?_; rintro e w4 ⟨rfl, ⟨a1, b1, l1, hT2⟩, hK4⟩; have d0 : w4.cell? ⟨w2.heap.size, 0, none⟩ = some (.int .u64 a1) := hT2.cell 0; have d1 : w4.cell? ⟨w2.heap.size, 1, none⟩ = some (.int .i64 b1) := hT2.cell 1; have d2 : w4.cell? ⟨w2.heap.size, 2, none⟩ = some (.pointer l1) := hT2.cell 2; have hR2 := hK4.blk HX.out.2.1 (by simp; have := HX.out.2.2.2; omega); have r0 := hR2.cell 0; have r1 := hR2.cell 1; have r2 := hR2.cell 2; have rf := hR2.frozen; have HK := Lib.hid (HX.out.2.2.1.trans' hK4 (by simp; have := HX.out.2.2.2; omega)); clear hT2 hR2 hK4)
  refine bodyPost_ret (v := .agg #[.int .u64 a1, .int .i64 b1, .pointer l1]) (by simp [results, Tryz.results56, go_sem, r0, r1, r2]) rfl ⟨⟨_, ⟨_, _, _, rfl⟩, rfl⟩, ?_⟩
  exact ((HK.out.setCell (.inr (Nat.le_refl _)) _).setCell (.inr (Nat.le_refl _)) _).setCell (.inr (Nat.le_refl _)) _
set_option maxRecDepth 100000 in
set_option maxHeartbeats 1000000 in
theorem Tdos (d t : Int) (w : World) : Calls Tryz.prog 61 #[.int .u16 d, .int .u16 t] w fun e w' => (∃ v, IsTm v ∧ e = .returned v) ∧ Kept [] w w' := by
  go_enter Tryz.func61, Tryz.ntmps61
  go_upto_region 1 with (fail)
  refine atW (fun W => Blk W w.heap.size 69 #[.int .u64 0, .int .i64 0, .pointer none] ∧ Kept [] w W) ⟨Blk.new _ _ _, (Kept.refl _ _).alloc _⟩ ?_
  rintro W ⟨hR, hK⟩
  have HX := Lib.hid (And.intro hR hK)
  clear hR hK
  go_wp2_with (first | (go_at_call 57; refine (Tutc _).mono ?_; rintro e w1 ⟨rfl, hB, hK1⟩; have HB := Lib.hid hB; have HK1 := Lib.hid hK1; clear hB hK1) | (go_at_call 56; refine (TDate _ _ _ _ _ _ _ _ _ HB.out).mono ?_; rintro e w2 ⟨⟨v, ⟨a1, b1, l1, rfl⟩, rfl⟩, hK2⟩; have hR2 := (HK1.out.trans hK2).blk HX.out.1 (by simp); have r0 := hR2.cell 0; have r1 := hR2.cell 1; have r2 := hR2.cell 2; have rf := hR2.frozen; have HK := Lib.hid (HX.out.2.trans (HK1.out.trans hK2)); clear hR2 hK2))
  refine bodyPost_ret (v := .agg #[.int .u64 a1, .int .i64 b1, .pointer l1]) (by simp [results, Tryz.results61, go_sem, r0, r1, r2]) rfl ⟨⟨_, ⟨_, _, _, rfl⟩, rfl⟩, ?_⟩
  exact ((HK.out.setCell (.inr (Nat.le_refl _)) _).setCell (.inr (Nat.le_refl _)) _).setCell (.inr (Nat.le_refl _)) _
end Go.Proofs.YtfagjhgmmaebfaaGreatDoor
