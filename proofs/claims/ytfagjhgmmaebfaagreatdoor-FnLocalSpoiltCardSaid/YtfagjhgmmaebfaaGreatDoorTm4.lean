/- Contracts: more functions of the laid package time. -/
import Derived.Test.YtfagjhgmmaebfaaGreatDoorTm
namespace Go.Proofs.YtfagjhgmmaebfaaGreatDoor
open Go.RowKit
theorem Tuni (s n : Int) (w : World) :
    Calls Tryz.prog 77 #[.int .i64 s, .int .i32 n] w fun e w' => (∃ v, IsTm v ∧ e = .returned v) ∧ Kept [] w w' := by
  go_enter Tryz.func77, Tryz.ntmps77
  go_wp2
  refine bodyPost_ret (v := .agg #[.int .u64 (IntKind.u64.wrap n), .int .i64 (wrap64 (s + 62135596800)), .pointer none]) (by simp [results, Tryz.results77, go_sem]) rfl ⟨⟨_, ⟨_, _, _, rfl⟩, rfl⟩, ?_⟩
  exact (Kept.refl [] w).alloc _
theorem Tutc (w : World) :
    Calls Tryz.prog 57 #[] w fun e w' => e = .returned (.pointer (some ⟨w.heap.size, 0, none⟩)) ∧ Blk w' w.heap.size 164 #[.bool true, .string ⟨#[85, 84, 67]⟩, .slice none 0 0, .slice none 0 0, .string ⟨#[]⟩, .int .i64 0, .int .i64 0, .pointer none] ∧ Kept [] w w' := by
  go_enter Tryz.func57, Tryz.ntmps57
  go_wp2
  go_ret
  exact ⟨rfl, Blk.new _ _ _, (Kept.refl _ _).alloc _⟩
theorem Tnorm (h l b : Int) (hb : 0 < b) (w : World) :
    Calls Tryz.prog 74 #[.int .i64 h, .int .i64 l, .int .i64 b] w fun e w' => (∃ x y : Int, e = .returned (.tuple #[.int .i64 x, .int .i64 y])) ∧ w' = w := by
  have hb0 : ¬ b = 0 := by omega
  go_enter Tryz.func74, Tryz.ntmps74
  go_wp2
  all_goals go_ret2
  all_goals exact ⟨⟨_, _, rfl⟩, rfl⟩
theorem Tdays (y m d : Int) (w : World) :
    Calls Tryz.prog 75 #[.int .i64 y, .int .i64 m, .int .i64 d] w fun e w' => (∃ x : Int, e = .returned (.int .u64 x)) ∧ w' = w := by
  go_enter Tryz.func75, Tryz.ntmps75
  go_wp2
  all_goals go_ret
  all_goals exact ⟨⟨_, rfl⟩, rfl⟩
theorem Tless (x y : Int) (w : World) :
    Calls Tryz.prog 92 #[.int .i64 x, .int .i64 y] w fun e w' => (∃ q : Bool, e = .returned (.bool q)) ∧ w' = w := by
  go_enter Tryz.func92, Tryz.ntmps92
  go_wp2
  all_goals go_ret
  all_goals exact ⟨⟨_, rfl⟩, rfl⟩
theorem Tround (x y : Int) (hy : 0 < y) (w : World) :
    Calls Tryz.prog 80 #[.int .i64 x, .int .i64 y] w fun e w' => (∃ z : Int, e = .returned (.int .i64 z)) ∧ w' = w := by
  have hy0 : ¬ y = 0 := by omega
  have hy1 : ¬ y ≤ 0 := by omega
  have H := Tless
  go_enter Tryz.func80, Tryz.ntmps80
  go_wp2_with (go_at_call 92; refine (H _ _ _).mono ?_; rintro e w1 ⟨⟨q, rfl⟩, rfl⟩; cases q)
  all_goals go_ret
  all_goals exact ⟨⟨_, rfl⟩, rfl⟩
theorem Tsubm (x y : Int) (w : World) :
    Calls Tryz.prog 82 #[.int .i64 x, .int .i64 y] w fun e w' => (∃ z : Int, e = .returned (.int .i64 z)) ∧ w' = w := by
  go_enter Tryz.func82, Tryz.ntmps82
  go_wp2
  all_goals go_ret
  all_goals exact ⟨⟨_, rfl⟩, rfl⟩
theorem Tget (q : Nat) (w : World) : Calls Tryz.prog 89 #[.pointer (some ⟨q, 0, none⟩)] w fun e w' => e = .returned (.pointer (some ⟨q, 0, none⟩)) ∧ w' = w := by
  go_enter Tryz.func89, Tryz.ntmps89
  go_wp2
  go_ret
  exact ⟨rfl, rfl⟩
set_option maxRecDepth 100000 in
theorem Tlook {q : Nat} {w : World} (h : w.cell? ⟨q, 2, none⟩ = some (.slice none 0 0)) (s : Int) : Calls Tryz.prog 76 #[.pointer (some ⟨q, 0, none⟩), .int .i64 s] w fun e w' => (∃ n a b c, e = .returned (.tuple #[n, .int .i64 0, .int .i64 a, .int .i64 b, c])) ∧ w' = w := by
  have H := Tget
  go_enter Tryz.func76, Tryz.ntmps76
  go_wp2_with (go_at_call 89; refine (H _ _).mono ?_; rintro e w1 ⟨rfl, rfl⟩)
  refine bodyPost_ret (v := .tuple #[.string ⟨#[85, 84, 67]⟩, .int .i64 0, .int .i64 (-9223372036854775808), .int .i64 9223372036854775807, .bool false]) (by simp [results, Tryz.results76, go_sem]) rfl ⟨⟨_, _, _, _, rfl⟩, rfl⟩
theorem TUnix (s n : Int) (w : World) :
    Calls Tryz.prog 58 #[.int .i64 s, .int .i64 n] w fun e w' => (∃ v, IsTm v ∧ e = .returned v) ∧ Kept [] w w' := by
  have H := Tuni
  go_enter Tryz.func58, Tryz.ntmps58
  go_wp2_with (go_at_call 77; refine (H _ _ _).mono ?_; rintro e w1 ⟨⟨v, ⟨a, b, l, rfl⟩, rfl⟩, hK⟩; have hB := hK.blk (Blk.new w 69 #[.int .u64 0, .int .i64 0, .pointer none]) (by simp); have z0 := hB.cell 0; have z1 := hB.cell 1; have z2 := hB.cell 2; have hf := hB.frozen)
  all_goals refine bodyPost_ret (v := .agg #[.int .u64 a, .int .i64 b, .pointer l]) (by simp [results, Tryz.results58, go_sem, z0, z1, z2]) rfl ⟨⟨_, ⟨_, _, _, rfl⟩, rfl⟩, ?_⟩
  all_goals exact (((((Kept.refl [] w).alloc _).trans' hK (by simp)).setCell (.inr (Nat.le_refl _)) _).setCell (.inr (Nat.le_refl _)) _).setCell (.inr (Nat.le_refl _)) _
end Go.Proofs.YtfagjhgmmaebfaaGreatDoor
/- Contracts: Time.Equal, Time.Before: they return. -/
namespace Go.Proofs.YtfagjhgmmaebfaaGreatDoor
open Go.RowKit
theorem Tsec1 (a b : Int) : ∃ z : Int, ∀ (w : World) (p : Nat) (l : Option Addr), Blk w p 69 #[.int .u64 a, .int .i64 b, .pointer l] → Calls Tryz.prog 83 #[.pointer (some ⟨p, 0, none⟩)] w fun e w' => e = .returned (.int .i64 z) ∧ w' = w := by
  cases hq : (bits BinOp.and IntKind.u64 a 9223372036854775808 != 0)
  · refine ⟨b, fun w p l h => ?_⟩
    have c0 : w.cell? ⟨p, 0, none⟩ = some (.int .u64 a) := h.cell 0
    have c1 : w.cell? ⟨p, 1, none⟩ = some (.int .i64 b) := h.cell 1
    go_enter Tryz.func83, Tryz.ntmps83
    go_wp2
    go_ret
    exact ⟨rfl, rfl⟩
  · refine ⟨wrap64 (59453308800 + wrap64 (IntKind.u64.wrap (a * 2) / 2147483648)), fun w p l h => ?_⟩
    have c0 : w.cell? ⟨p, 0, none⟩ = some (.int .u64 a) := h.cell 0
    have c1 : w.cell? ⟨p, 1, none⟩ = some (.int .i64 b) := h.cell 1
    go_enter Tryz.func83, Tryz.ntmps83
    go_wp2
    go_ret
    exact ⟨rfl, rfl⟩
theorem Tnsec1 (a b : Int) : ∃ z : Int, ∀ (w : World) (p : Nat) (l : Option Addr), Blk w p 69 #[.int .u64 a, .int .i64 b, .pointer l] → Calls Tryz.prog 84 #[.pointer (some ⟨p, 0, none⟩)] w fun e w' => e = .returned (.int .i32 z) ∧ w' = w := by
  refine ⟨wrap32 (bits BinOp.and IntKind.u64 a 1073741823), fun w p l h => ?_⟩
  have c0 : w.cell? ⟨p, 0, none⟩ = some (.int .u64 a) := h.cell 0
  have c1 : w.cell? ⟨p, 1, none⟩ = some (.int .i64 b) := h.cell 1
  go_enter Tryz.func84, Tryz.ntmps84
  go_wp2
  go_ret
  exact ⟨rfl, rfl⟩
set_option maxRecDepth 100000 in
set_option maxHeartbeats 1000000 in
theorem Teq (a b : Int) (l : Option Addr) (a' b' : Int) (l' : Option Addr) (w : World) : Calls Tryz.prog 86 #[.agg #[.int .u64 a, .int .i64 b, .pointer l], .agg #[.int .u64 a', .int .i64 b', .pointer l']] w fun e w' => (∃ q : Bool, e = .returned (.bool q)) ∧ Kept [] w w' := by
  obtain ⟨W, hW⟩ : ∃ W, W = (w.alloc (.cells #[.int .u64 a, .int .i64 b, .pointer l] 69)).alloc (.cells #[.int .u64 a', .int .i64 b', .pointer l'] 69) := ⟨_, rfl⟩
  have h1 : Blk W w.heap.size 69 #[.int .u64 a, .int .i64 b, .pointer l] := by rw [hW]; exact (Blk.new _ _ _).alloc _
  have h2 : Blk W (w.heap.size + 1) 69 #[.int .u64 a', .int .i64 b', .pointer l'] := by have := Blk.new (w.alloc (.cells #[.int .u64 a, .int .i64 b, .pointer l] 69)) 69 #[.int .u64 a', .int .i64 b', .pointer l']; rw [hW]; simpa using this
  have hK : Kept [] w W := by rw [hW]; exact ((Kept.refl _ _).alloc _).alloc _
  obtain ⟨z1, s1⟩ := Tsec1 a b
  obtain ⟨z2, s2⟩ := Tsec1 a' b'
  obtain ⟨n1, m1⟩ := Tnsec1 a b
  obtain ⟨n2, m2⟩ := Tnsec1 a' b'
  have s1 := Lib.hid (s1 W _ l h1)
  have s2 := Lib.hid (s2 W _ l' h2)
  have m1 := Lib.hid (m1 W _ l h1)
  have m2 := Lib.hid (m2 W _ l' h2)
  have c0 : W.cell? ⟨w.heap.size, 0, none⟩ = some (.int .u64 a) := h1.cell 0
  have c1 : W.cell? ⟨w.heap.size, 1, none⟩ = some (.int .i64 b) := h1.cell 1
  have d0 : W.cell? ⟨w.heap.size + 1, 0, none⟩ = some (.int .u64 a') := h2.cell 0
  have d1 : W.cell? ⟨w.heap.size + 1, 1, none⟩ = some (.int .i64 b') := h2.cell 1
  have HW := Lib.hid hW
  have HK := Lib.hid hK
  clear hW h1 h2 hK
  have HT := Lib.hid (show ∀ q : Bool, (∃ q' : Bool, Ending.returned (.bool q) = .returned (.bool q')) ∧ Kept [] w W from fun q => ⟨⟨_, rfl⟩, HK.out⟩)
  cases hq : (bits BinOp.and IntKind.u64 (bits BinOp.and IntKind.u64 a a') 9223372036854775808 != 0)
  · go_enter Tryz.func86, Tryz.ntmps86
    go_upto_region 1 with (fail)
    refine atW (fun W1 => W1 = W) HW.out.symm ?_
    rintro W1 rfl
    clear HW HK
    go_wp2_with fail
    refine s1.out.mono ?_
    rintro e w1 ⟨rfl, rfl⟩
    go_wp2_with fail
    refine s2.out.mono ?_
    rintro e w1 ⟨rfl, rfl⟩
    cases hz : (z1 == z2)
    · go_wp2
      go_ret
      exact HT.out _
    go_wp2_with fail
    refine m1.out.mono ?_
    rintro e w1 ⟨rfl, rfl⟩
    go_wp2_with fail
    refine m2.out.mono ?_
    rintro e w1 ⟨rfl, rfl⟩
    go_wp2
    go_ret
    exact HT.out _
  · go_enter Tryz.func86, Tryz.ntmps86
    go_upto_region 1 with (fail)
    refine atW (fun W1 => W1 = W) HW.out.symm ?_
    rintro W1 rfl
    clear HW HK
    go_wp2
    go_ret
    exact HT.out _
set_option maxRecDepth 100000 in
set_option maxHeartbeats 1000000 in
theorem Tbef (a b : Int) (l : Option Addr) (a' b' : Int) (l' : Option Addr) (w : World) : Calls Tryz.prog 87 #[.agg #[.int .u64 a, .int .i64 b, .pointer l], .agg #[.int .u64 a', .int .i64 b', .pointer l']] w fun e w' => (∃ q : Bool, e = .returned (.bool q)) ∧ Kept [] w w' := by
  obtain ⟨W, hW⟩ : ∃ W, W = (w.alloc (.cells #[.int .u64 a, .int .i64 b, .pointer l] 69)).alloc (.cells #[.int .u64 a', .int .i64 b', .pointer l'] 69) := ⟨_, rfl⟩
  have h1 : Blk W w.heap.size 69 #[.int .u64 a, .int .i64 b, .pointer l] := by rw [hW]; exact (Blk.new _ _ _).alloc _
  have h2 : Blk W (w.heap.size + 1) 69 #[.int .u64 a', .int .i64 b', .pointer l'] := by have := Blk.new (w.alloc (.cells #[.int .u64 a, .int .i64 b, .pointer l] 69)) 69 #[.int .u64 a', .int .i64 b', .pointer l']; rw [hW]; simpa using this
  have hK : Kept [] w W := by rw [hW]; exact ((Kept.refl _ _).alloc _).alloc _
  obtain ⟨z1, s1⟩ := Tsec1 a b
  obtain ⟨z2, s2⟩ := Tsec1 a' b'
  obtain ⟨n1, m1⟩ := Tnsec1 a b
  obtain ⟨n2, m2⟩ := Tnsec1 a' b'
  have s1 := Lib.hid (s1 W _ l h1)
  have s2 := Lib.hid (s2 W _ l' h2)
  have m1 := Lib.hid (m1 W _ l h1)
  have m2 := Lib.hid (m2 W _ l' h2)
  have c0 : W.cell? ⟨w.heap.size, 0, none⟩ = some (.int .u64 a) := h1.cell 0
  have c1 : W.cell? ⟨w.heap.size, 1, none⟩ = some (.int .i64 b) := h1.cell 1
  have d0 : W.cell? ⟨w.heap.size + 1, 0, none⟩ = some (.int .u64 a') := h2.cell 0
  have d1 : W.cell? ⟨w.heap.size + 1, 1, none⟩ = some (.int .i64 b') := h2.cell 1
  have HW := Lib.hid hW
  have HK := Lib.hid hK
  clear hW h1 h2 hK
  have HT := Lib.hid (show ∀ q : Bool, (∃ q' : Bool, Ending.returned (.bool q) = .returned (.bool q')) ∧ Kept [] w W from fun q => ⟨⟨_, rfl⟩, HK.out⟩)
  cases hq : (bits BinOp.and IntKind.u64 (bits BinOp.and IntKind.u64 a a') 9223372036854775808 != 0)
  · go_enter Tryz.func87, Tryz.ntmps87
    go_upto_region 1 with (fail)
    refine atW (fun W1 => W1 = W) HW.out.symm ?_
    rintro W1 rfl
    clear HW HK
    go_wp2_with fail
    refine s1.out.mono ?_
    rintro e w1 ⟨rfl, rfl⟩
    go_wp2_with fail
    refine s2.out.mono ?_
    rintro e w1 ⟨rfl, rfl⟩
    by_cases hz : z1 < z2
    · go_wp2
      go_ret
      exact HT.out _
    cases hy : (z1 == z2)
    · go_wp2
      go_ret
      exact HT.out _
    go_wp2_with fail
    refine m1.out.mono ?_
    rintro e w1 ⟨rfl, rfl⟩
    go_wp2_with fail
    refine m2.out.mono ?_
    rintro e w1 ⟨rfl, rfl⟩
    go_wp2
    go_ret
    exact HT.out _
  · go_enter Tryz.func87, Tryz.ntmps87
    go_upto_region 1 with (fail)
    refine atW (fun W1 => W1 = W) HW.out.symm ?_
    rintro W1 rfl
    clear HW HK
    go_wp2
    go_ret
    exact HT.out _
end Go.Proofs.YtfagjhgmmaebfaaGreatDoor
/- Contracts: Time.UTC, Time.In, Time.IsZero, Time.Add, Time.Sub, Date, FixedZone, timeZone, msDosTimeToTime. -/
namespace Go.Proofs.YtfagjhgmmaebfaaGreatDoor
open Go.RowKit
set_option maxRecDepth 100000 in
set_option maxHeartbeats 1000000 in
theorem TUTC (a b : Int) (l : Option Addr)  (w : World) : Calls Tryz.prog 63 #[.agg #[.int .u64 a, .int .i64 b, .pointer l]] w fun e w' => (∃ v, IsTm v ∧ e = .returned v) ∧ Kept [] w w' := by
  obtain ⟨W, hW⟩ : ∃ W, W = (w.alloc (.cells #[.int .u64 a, .int .i64 b, .pointer l] 69)).alloc (.cells #[.int .u64 0, .int .i64 0, .pointer none] 69) := ⟨_, rfl⟩
  have h1 : Blk W w.heap.size 69 #[.int .u64 a, .int .i64 b, .pointer l] := by rw [hW]; exact (Blk.new _ _ _).alloc _
  have h2 : Blk W (w.heap.size + 1) 69 #[.int .u64 0, .int .i64 0, .pointer none] := by have := Blk.new (w.alloc (.cells #[.int .u64 a, .int .i64 b, .pointer l] 69)) 69 #[.int .u64 0, .int .i64 0, .pointer none]; rw [hW]; simpa using this
  have hK : Kept [] w W := by rw [hW]; exact ((Kept.refl _ _).alloc _).alloc _
  have HH := Lib.hid (And.intro h1 (And.intro h2 hK))
  have HW := Lib.hid hW
  clear hW h1 h2 hK
  go_enter Tryz.func63, Tryz.ntmps63
  go_upto_region 1 with (fail)
  refine atW (fun W1 => W1 = W) HW.out.symm ?_
  rintro W1 rfl
  have HK := HH.out.2.2
  go_wp2_with (first | (go_at_call 57; refine (Tutc _).mono ?_; rintro e w1 ⟨rfl, hB, hK⟩; have hq := hB.cell 0; have hT1 : TmAt w1 w.heap.size := ⟨_, _, _, hK.blk HH.out.1 (by simp)⟩; have hR1 := hK.blk HH.out.2.1 (by simp); have HK := Lib.hid (HH.out.2.2.trans' hK (by simp)); clear hB hK) | (go_at_call 78; refine (Tsetloc (p := w.heap.size) hT1 hq).mono ?_; rintro e w2 ⟨rfl, ⟨a1, b1, l1, hT2⟩, hK2⟩; have d0 := hT2.cell 0; have d1 := hT2.cell 1; have d2 := hT2.cell 2; have hR2 := hK2.blk hR1 (by simp); have r0 := hR2.cell 0; have r1 := hR2.cell 1; have r2 := hR2.cell 2; have hf := hR2.frozen; have hk := Lib.hid (HK.out.trans' hK2 (by simp)); clear hT2 hR2 hT1 hR1 hK2 hq))
  refine bodyPost_ret (v := .agg #[.int .u64 a1, .int .i64 b1, .pointer l1]) (by simp [results, Tryz.results63, go_sem, r0, r1, r2]) rfl ⟨⟨_, ⟨_, _, _, rfl⟩, rfl⟩, ?_⟩
  exact ((hk.out.setCell (.inr (Nat.le_succ _)) _).setCell (.inr (Nat.le_succ _)) _).setCell (.inr (Nat.le_succ _)) _
set_option maxRecDepth 100000 in
set_option maxHeartbeats 1000000 in
theorem TIn (a b : Int) (l : Option Addr) (q : Nat) (u : Bool) (w : World) (hq0 : w.cell? ⟨q, 0, none⟩ = some (.bool u)) (hql : q < w.heap.size) : Calls Tryz.prog 64 #[.agg #[.int .u64 a, .int .i64 b, .pointer l], .pointer (some ⟨q, 0, none⟩)] w fun e w' => (∃ v, IsTm v ∧ e = .returned v) ∧ Kept [] w w' := by
  obtain ⟨W, hW⟩ : ∃ W, W = (w.alloc (.cells #[.int .u64 a, .int .i64 b, .pointer l] 69)).alloc (.cells #[.int .u64 0, .int .i64 0, .pointer none] 69) := ⟨_, rfl⟩
  have h1 : Blk W w.heap.size 69 #[.int .u64 a, .int .i64 b, .pointer l] := by rw [hW]; exact (Blk.new _ _ _).alloc _
  have h2 : Blk W (w.heap.size + 1) 69 #[.int .u64 0, .int .i64 0, .pointer none] := by have := Blk.new (w.alloc (.cells #[.int .u64 a, .int .i64 b, .pointer l] 69)) 69 #[.int .u64 0, .int .i64 0, .pointer none]; rw [hW]; simpa using this
  have hK : Kept [] w W := by rw [hW]; exact ((Kept.refl _ _).alloc _).alloc _
  have HH := Lib.hid (And.intro h1 (And.intro h2 hK))
  have HW := Lib.hid hW
  clear hW h1 h2 hK
  go_enter Tryz.func64, Tryz.ntmps64
  go_upto_region 1 with (fail)
  refine atW (fun W1 => W1 = W) HW.out.symm ?_
  rintro W1 rfl
  have hq : W1.cell? ⟨q, 0, none⟩ = some (.bool u) := (HH.out.2.2.cell (p := ⟨q, 0, none⟩) hql (by simp)).trans hq0
  have hT1 : TmAt W1 w.heap.size := ⟨_, _, _, HH.out.1⟩
  have hR1 := HH.out.2.1
  have HK := Lib.hid HH.out.2.2
  clear HH HW
  go_wp2_with (go_at_call 78; refine (Tsetloc (p := w.heap.size) hT1 hq).mono ?_; rintro e w2 ⟨rfl, ⟨a1, b1, l1, hT2⟩, hK2⟩; have d0 := hT2.cell 0; have d1 := hT2.cell 1; have d2 := hT2.cell 2; have hR2 := hK2.blk hR1 (by simp); have r0 := hR2.cell 0; have r1 := hR2.cell 1; have r2 := hR2.cell 2; have hf := hR2.frozen; have hk := Lib.hid (HK.out.trans' hK2 (by simp)); clear hT2 hR2 hT1 hR1 hK2 hq)
  refine bodyPost_ret (v := .agg #[.int .u64 a1, .int .i64 b1, .pointer l1]) (by simp [results, Tryz.results64, go_sem, r0, r1, r2]) rfl ⟨⟨_, ⟨_, _, _, rfl⟩, rfl⟩, ?_⟩
  exact ((hk.out.setCell (.inr (Nat.le_succ _)) _).setCell (.inr (Nat.le_succ _)) _).setCell (.inr (Nat.le_succ _)) _
theorem TZero (a b : Int) (l : Option Addr) (w : World) : Calls Tryz.prog 62 #[.agg #[.int .u64 a, .int .i64 b, .pointer l]] w fun e w' => (∃ q : Bool, e = .returned (.bool q)) ∧ Kept [] w w' := by
  go_enter Tryz.func62, Tryz.ntmps62
  go_wp2
  all_goals go_ret
  all_goals exact ⟨⟨_, rfl⟩, by first | exact Kept.refl _ _ | exact (Kept.refl _ _).alloc _⟩
theorem TFixed (n : ByteArray) (z : Int) (w : World) : Calls Tryz.prog 93 #[.string n, .int .i64 z] w fun e w' => (∃ q, e = .returned (.pointer (some ⟨q, 0, none⟩)) ∧ w'.cell? ⟨q, 0, none⟩ = some (.bool false) ∧ q < w'.heap.size) ∧ Kept [] w w' := by
  go_enter Tryz.func93, Tryz.ntmps93
  go_wp2
  go_ret
  refine ⟨⟨_, rfl, ?_, ?_⟩, (((Kept.refl _ _).alloc _).alloc _).alloc _⟩
  · have := (Blk.new ((w.alloc (Obj.cells #[Value.string n, Value.int IntKind.i64 z, Value.bool false] 172)).alloc (Obj.cells #[Value.int IntKind.i64 (-9223372036854775808), Value.int IntKind.u8 0, Value.bool false, Value.bool false] 174)) 164 #[Value.bool false, Value.string n, Value.slice (some { block := w.heap.size, off := 0 }) 1 1, Value.slice (some { block := w.heap.size + 1, off := 0 }) 1 1, Value.string { data := #[] }, Value.int IntKind.i64 (-9223372036854775808), Value.int IntKind.i64 9223372036854775807, Value.pointer (some { block := w.heap.size, off := 0 })]).cell 0
    simpa using this
  · simp
theorem TFixedZ (n : ByteArray) (z : Int) (w : World) : Calls Tryz.prog 81 #[.string n, .int .i64 z] w fun e w' => (∃ q, e = .returned (.pointer (some ⟨q, 0, none⟩)) ∧ w'.cell? ⟨q, 0, none⟩ = some (.bool false) ∧ q < w'.heap.size) ∧ Kept [] w w' := by
  have H := TFixed
  go_enter Tryz.func81, Tryz.ntmps81
  go_wp2_with (go_at_call 93; refine (H _ _ _).mono ?_; rintro e w1 ⟨⟨q, rfl, hq, hl⟩, hK⟩)
  go_ret
  exact ⟨⟨_, rfl, hq, hl⟩, hK⟩
theorem Tzone (z : Int) (w : World) : Calls Tryz.prog 65 #[.int .i64 z] w fun e w' => (∃ q, e = .returned (.pointer (some ⟨q, 0, none⟩)) ∧ w'.cell? ⟨q, 0, none⟩ = some (.bool false) ∧ q < w'.heap.size) ∧ Kept [] w w' := by
  have H := TFixedZ
  have H2 := Tround
  go_enter Tryz.func65, Tryz.ntmps65
  go_wp2_with (first | (go_at_call 81; refine (H _ _ _).mono ?_; rintro e w1 ⟨⟨q, rfl, hq, hl⟩, hK⟩) | (go_at_call 80; refine (H2 _ _ (by decide) _).mono ?_; rintro e w1 ⟨⟨y, rfl⟩, rfl⟩))
  all_goals go_ret
  all_goals exact ⟨⟨_, rfl, hq, hl⟩, hK⟩
end Go.Proofs.YtfagjhgmmaebfaaGreatDoor
