/- Contracts: leUint16, leUint32, readBuf.uint16, readBuf.uint32. -/
import Derived.Test.YtfagjhgmmaebfaaGreatDoorFind
import Derived.Test.YtfagjhgmmaebfaaGreatDoorRd
import Derived.Test.YtfagjhgmmaebfaaGreatDoorArch
namespace Go.Proofs.YtfagjhgmmaebfaaGreatDoor
open Go.RowKit
set_option maxHeartbeats 400000 in
theorem le16_any (g o n c x y : Nat) (hn : 2 ≤ n) (hx : x < 256) (hy : y < 256) (w : World) (h0 : w.cell? ⟨g, o, none⟩ = some (.int .u8 x)) (h1 : w.cell? ⟨g, o + 1, none⟩ = some (.int .u8 y)) :
    Calls Tryz.prog 68 #[.slice (some ⟨g, o, none⟩) n c] w fun e w' => e = .returned (.int .u16 (x + 256 * y : Nat)) ∧ ∃ k, w' = w.drewN k := by
  have hor : bits .or .u16 (x : Int) ((y : Int) * 256) = ((x + 256 * y : Nat) : Int) := by
    have h := (bits_nat .u16 16 (by decide) (fun n h0 h1 => by rw [IntKind.wrap_u16]; omega) x (256 * y) (by omega) (by omega)).2
    have e : x ||| 256 * y = x + 256 * y := by
      rw [Nat.or_comm, show 256 * y = 2 ^ 8 * y from rfl, ← Nat.two_pow_add_eq_or_of_lt (i := 8) hx]; omega
    rw [show ((y : Int) * 256) = ((256 * y : Nat) : Int) by omega, h]
    first | rw [e] | rw [Nat.or_comm, e]
  go_enter Tryz.func68, Tryz.ntmps68
  go_wp2
  go_quiet (fail)
  go_wp2
  go_ret
  exact ⟨rfl, _, rfl⟩
set_option maxHeartbeats 400000 in
theorem rb16_any (r g o n c x y : Nat) (hn : 2 ≤ n) (_hc : n ≤ c) (hx : x < 256) (hy : y < 256) (w : World) (hr : w.cell? ⟨r, 0, none⟩ = some (.slice (some ⟨g, o, none⟩) n c)) (hf : w.frozen? ⟨r, 0, none⟩ = false) (h0 : w.cell? ⟨g, o, none⟩ = some (.int .u8 x)) (h1 : w.cell? ⟨g, o + 1, none⟩ = some (.int .u8 y)) :
    Calls Tryz.prog 47 #[.pointer (some ⟨r, 0, none⟩)] w fun e w' => e = .returned (.int .u16 (x + 256 * y : Nat)) ∧ ∃ k o', w' = (w.drewN k).setCell ⟨r, 0, none⟩ (.slice (some ⟨g, o', none⟩) (n - 2) (c - 2)) ∧ (2 < c → o' = o + 2) := by
  go_enter Tryz.func47, Tryz.ntmps47
  go_wp2_with (go_at_call 68; refine (le16_any g o n c x y hn hx hy _ h0 h1).mono ?_; rintro e w1 ⟨rfl, k, rfl⟩)
  all_goals go_ret
  · exact ⟨rfl, k, o, rfl⟩
  · exact ⟨rfl, k, o + 2, rfl, fun _ => rfl⟩
end Go.Proofs.YtfagjhgmmaebfaaGreatDoor
/- Contracts: leUint32, readBuf.uint32, readBuf.uint16: of bytes known as numbers. -/
namespace Go.Proofs.YtfagjhgmmaebfaaGreatDoor
open Go.RowKit
theorem or_shift16 (x y : Nat) (hx : x < 65536) (hy : y < 65536) : bits .or .u32 (x : Int) ((y : Int) * 65536) = ((x + 65536 * y : Nat) : Int) := by
  have h := (bits_nat .u32 32 (by decide) (fun n h0 h1 => by rw [IntKind.wrap_u32]; omega) x (65536 * y) (by omega) (by omega)).2
  have e : x ||| 65536 * y = x + 65536 * y := by
    rw [Nat.or_comm, show 65536 * y = 2 ^ 16 * y from rfl, ← Nat.two_pow_add_eq_or_of_lt (i := 16) hx]; omega
  rw [show ((y : Int) * 65536) = ((65536 * y : Nat) : Int) by omega, h]
  first | rw [e] | rw [Nat.or_comm, e]
theorem le16_v (g o n c x y v : Nat) (hv : v = x + 256 * y) (hn : 2 ≤ n) (hx : x < 256) (hy : y < 256) (w : World) (h0 : w.cell? ⟨g, o, none⟩ = some (.int .u8 x)) (h1 : w.cell? ⟨g, o + 1, none⟩ = some (.int .u8 y)) :
    Calls Tryz.prog 68 #[.slice (some ⟨g, o, none⟩) n c] w fun e w' => e = .returned (.int .u16 v) ∧ ∃ k, w' = w.drewN k := by
  subst hv
  exact le16_any g o n c x y hn hx hy w h0 h1
set_option maxHeartbeats 400000 in
theorem le32_v (g o n c x y z t v : Nat) (hv : v = x + 256 * y + 65536 * (z + 256 * t)) (hn : 4 ≤ n) (hc : n ≤ c) (hx : x < 256) (hy : y < 256) (hz : z < 256) (ht : t < 256) (w : World) (h0 : w.cell? ⟨g, o, none⟩ = some (.int .u8 x)) (h1 : w.cell? ⟨g, o + 1, none⟩ = some (.int .u8 y)) (h2 : w.cell? ⟨g, o + 2, none⟩ = some (.int .u8 z)) (h3 : w.cell? ⟨g, o + 2 + 1, none⟩ = some (.int .u8 t)) :
    Calls Tryz.prog 67 #[.slice (some ⟨g, o, none⟩) n c] w fun e w' => e = .returned (.int .u32 v) ∧ ∃ k, w' = w.drewN k := by
  have hc2 : ¬ c = 2 := by omega
  obtain ⟨a, ha⟩ : ∃ a, a = x + 256 * y := ⟨_, rfl⟩
  obtain ⟨b, hb⟩ : ∃ b, b = z + 256 * t := ⟨_, rfl⟩
  have hor := or_shift16 a b (by omega) (by omega)
  rw [← ha, ← hb] at hv
  rw [← hv] at hor
  have ha2 : a < 65536 := by omega
  have hb2 : b < 65536 := by omega
  have hR1 := fun k => Lib.hid (le16_v g o n c x y a ha (by omega) hx hy (w.drewN k) (by simpa using h0) (by simpa using h1))
  have hR2 := fun k => Lib.hid (le16_v g (o + 2) (n - 2) (c - 2) z t b hb (by omega) hz ht (w.drewN k) (by simpa using h2) (by simpa using h3))
  clear ha hb hv
  go_enter Tryz.func67, Tryz.ntmps67
  go_wp2
  go_quiet ((go_at_call 68; first | (with_reducible exact Calls.quiet_of (hR1 _).out) | (with_reducible exact Calls.quiet_of (hR2 _).out)))
  go_wp2
  go_ret
  exact ⟨rfl, _, rfl⟩
set_option maxHeartbeats 400000 in
theorem rb32_v (r g o n c x y z t v : Nat) (hv : v = x + 256 * y + 65536 * (z + 256 * t)) (hn : 4 ≤ n) (hc : n ≤ c) (hx : x < 256) (hy : y < 256) (hz : z < 256) (ht : t < 256) (w : World) (hr : w.cell? ⟨r, 0, none⟩ = some (.slice (some ⟨g, o, none⟩) n c)) (hf : w.frozen? ⟨r, 0, none⟩ = false)
    (h0 : w.cell? ⟨g, o, none⟩ = some (.int .u8 x)) (h1 : w.cell? ⟨g, o + 1, none⟩ = some (.int .u8 y)) (h2 : w.cell? ⟨g, o + 2, none⟩ = some (.int .u8 z)) (h3 : w.cell? ⟨g, o + 2 + 1, none⟩ = some (.int .u8 t)) :
    Calls Tryz.prog 46 #[.pointer (some ⟨r, 0, none⟩)] w fun e w' => e = .returned (.int .u32 v) ∧ ∃ k o', w' = (w.drewN k).setCell ⟨r, 0, none⟩ (.slice (some ⟨g, o', none⟩) (n - 4) (c - 4)) ∧ Hid (4 < c → o' = o + 4) := by
  have H := Lib.hid (le32_v g o n c x y z t v hv hn hc hx hy hz ht w h0 h1 h2 h3)
  clear hv
  by_cases h4 : c = 4
  · subst h4
    obtain rfl : n = 4 := by omega
    go_enter Tryz.func46, Tryz.ntmps46
    go_wp2_with (go_at_call 67; refine H.out.mono ?_; rintro e w1 ⟨rfl, k, rfl⟩)
    go_ret
    exact ⟨rfl, k, o, rfl, Lib.hid (fun h => absurd h (Nat.lt_irrefl 4))⟩
  · go_enter Tryz.func46, Tryz.ntmps46
    go_wp2_with (go_at_call 67; refine H.out.mono ?_; rintro e w1 ⟨rfl, k, rfl⟩)
    go_ret
    exact ⟨rfl, k, o + 4, rfl, Lib.hid (fun _ => rfl)⟩
theorem rb16_v (r g o n c x y v : Nat) (hv : v = x + 256 * y) (hn : 2 ≤ n) (hc : n ≤ c) (hx : x < 256) (hy : y < 256) (w : World) (hr : w.cell? ⟨r, 0, none⟩ = some (.slice (some ⟨g, o, none⟩) n c)) (hf : w.frozen? ⟨r, 0, none⟩ = false) (h0 : w.cell? ⟨g, o, none⟩ = some (.int .u8 x)) (h1 : w.cell? ⟨g, o + 1, none⟩ = some (.int .u8 y)) :
    Calls Tryz.prog 47 #[.pointer (some ⟨r, 0, none⟩)] w fun e w' => e = .returned (.int .u16 v) ∧ ∃ k o', w' = (w.drewN k).setCell ⟨r, 0, none⟩ (.slice (some ⟨g, o', none⟩) (n - 2) (c - 2)) ∧ Hid (2 < c → o' = o + 2) := by
  subst hv
  exact (rb16_any r g o n c x y hn hc hx hy w hr hf h0 h1).mono fun e w' ⟨a, k, o', b, d⟩ => ⟨a, k, o', b, Lib.hid d⟩
end Go.Proofs.YtfagjhgmmaebfaaGreatDoor
/- readBuf.uint16, uint32 over a row of bytes known whole. -/
namespace Go.Proofs.YtfagjhgmmaebfaaGreatDoor
open Go.RowKit
theorem num2 {l : List UInt8} {o : Nat} (h : o + 2 ≤ l.length) : numL (sub l o 2) = (l[o]'(by omega)).toNat + 256 * (l[o + 1]'(by omega)).toNat := by
  have e : sub l o 2 = [l[o]'(by omega), l[o + 1]'(by omega)] := by
    unfold sub
    rw [List.drop_eq_getElem_cons (by omega), List.drop_eq_getElem_cons (by omega)]
    rfl
  rw [e]; simp [numL]
theorem num4 {l : List UInt8} {o : Nat} (h : o + 4 ≤ l.length) : numL (sub l o 4) = (l[o]'(by omega)).toNat + 256 * (l[o + 1]'(by omega)).toNat + 65536 * ((l[o + 2]'(by omega)).toNat + 256 * (l[o + 3]'(by omega)).toNat) := by
  have e : sub l o 4 = [l[o]'(by omega), l[o + 1]'(by omega), l[o + 2]'(by omega), l[o + 3]'(by omega)] := by
    unfold sub
    rw [List.drop_eq_getElem_cons (by omega), List.drop_eq_getElem_cons (by omega), List.drop_eq_getElem_cons (by omega), List.drop_eq_getElem_cons (by omega)]
    rfl
  rw [e]; simp [numL]; omega
/-- The next number of two bytes. -/
theorem rb16 {w : World} {r g o n c t : Nat} {l : List UInt8} (hr : Blk w r t #[.slice (some ⟨g, o, none⟩) n c]) (hl : Blk w g 5 (l.map byteV).toArray) (hn : 2 ≤ n) (hc : n ≤ c) (ho : o + 2 ≤ l.length) (v : Nat) (hv : numL (sub l o 2) = v) :
    Calls Tryz.prog 47 #[.pointer (some ⟨r, 0, none⟩)] w fun e w' => e = .returned (.int .u16 v) ∧ (∃ o', Hid (2 < c → o' = o + 2) ∧ Blk w' r t #[.slice (some ⟨g, o', none⟩) (n - 2) (c - 2)]) ∧ Kept [r] w w' := by
  rw [num2 ho] at hv
  refine (rb16_v r g o n c _ _ v hv.symm hn hc (l[o]'(by omega)).toNat_lt (l[o + 1]'(by omega)).toNat_lt w (hr.cell 0) (hr.frozen 0) (hl.byte o (by omega)) (hl.byte (o + 1) (by omega))).mono ?_
  rintro e w' ⟨rfl, k, o', rfl, ho'⟩
  exact ⟨rfl, ⟨o', ho', Blk.cast ((hr.drewN k).set_ 0 _) (by simp)⟩, ((Kept.refl _ _).drewN k).setCell (by simp) _⟩
theorem rb32 {w : World} {r g o n c t : Nat} {l : List UInt8} (hr : Blk w r t #[.slice (some ⟨g, o, none⟩) n c]) (hl : Blk w g 5 (l.map byteV).toArray) (hn : 4 ≤ n) (hc : n ≤ c) (ho : o + 4 ≤ l.length) (v : Nat) (hv : numL (sub l o 4) = v) :
    Calls Tryz.prog 46 #[.pointer (some ⟨r, 0, none⟩)] w fun e w' => e = .returned (.int .u32 v) ∧ (∃ o', Hid (4 < c → o' = o + 4) ∧ Blk w' r t #[.slice (some ⟨g, o', none⟩) (n - 4) (c - 4)]) ∧ Kept [r] w w' := by
  rw [num4 ho] at hv
  refine (rb32_v r g o n c _ _ _ _ v hv.symm hn hc (l[o]'(by omega)).toNat_lt (l[o + 1]'(by omega)).toNat_lt (l[o + 2]'(by omega)).toNat_lt (l[o + 3]'(by omega)).toNat_lt w (hr.cell 0) (hr.frozen 0) (hl.byte o (by omega)) (hl.byte (o + 1) (by omega)) (hl.byte (o + 2) (by omega)) (hl.byte (o + 3) (by omega))).mono ?_
  rintro e w' ⟨rfl, k, o', rfl, ho'⟩
  exact ⟨rfl, ⟨o', ho', Blk.cast ((hr.drewN k).set_ 0 _) (by simp)⟩, ((Kept.refl _ _).drewN k).setCell (by simp) _⟩
end Go.Proofs.YtfagjhgmmaebfaaGreatDoor
/- Contracts: the methods of readBuf over a part of a row of bytes, whatever the numbers. -/
namespace Go.Proofs.YtfagjhgmmaebfaaGreatDoor
open Go.RowKit
/-- The variable r holds a part of n bytes of the row db = l. -/
def RbA (w : World) (r db : Nat) (l : List UInt8) (n : Nat) : Prop := ∃ (o c : Nat), Blk w r 113 #[.slice (some ⟨db, o, none⟩) n c] ∧ n ≤ c ∧ (0 < n → o + n ≤ l.length) ∧ c ≤ 4294967295
theorem RbA.kept {w w' : World} {r db n : Nat} {l : List UInt8} {S : List Nat} (h : RbA w r db l n) (k : Kept S w w') (hr : r ∉ S) : RbA w' r db l n := by
  obtain ⟨o, c, h, h1⟩ := h
  exact ⟨o, c, k.blk h hr, h1⟩
theorem RbA.lt {w : World} {r db n : Nat} {l : List UInt8} (h : RbA w r db l n) : r < w.heap.size := by
  obtain ⟨o, c, h, h1⟩ := h
  exact h.lt
theorem RbA.val {w : World} {r db n : Nat} {l : List UInt8} (h : RbA w r db l n) : ∃ o c, w.cell? ⟨r, 0, none⟩ = some (.slice (some ⟨db, o, none⟩) n c) ∧ n ≤ c := by
  obtain ⟨o, c, h, h1, _⟩ := h
  exact ⟨o, c, h.cell 0, h1⟩
theorem rba16 {w : World} {r db n : Nat} {l : List UInt8} (hr : RbA w r db l n) (hl : Blk w db 5 (l.map byteV).toArray) (hn : 2 ≤ n) :
    Calls Tryz.prog 47 #[.pointer (some ⟨r, 0, none⟩)] w fun e w' => (∃ v : Nat, v < 65536 ∧ e = .returned (.int .u16 v)) ∧ RbA w' r db l (n - 2) ∧ Kept [r] w w' := by
  obtain ⟨o, c, hr, hc, ho, hc3⟩ := hr
  have ho2 := ho (by omega)
  refine (rb16 hr hl hn hc (by omega) _ rfl).mono ?_
  rintro e w' ⟨rfl, ⟨o', ho', hb⟩, hk⟩
  refine ⟨⟨_, ?_, rfl⟩, ⟨o', c - 2, hb, by omega, fun h => ?_, by omega⟩, hk⟩
  · have := numL_lt (sub l o 2)
    rwa [show (sub l o 2).length = 2 by unfold sub; rw [List.length_take, List.length_drop]; omega] at this
  · have := ho'.out (by omega)
    omega
theorem rba32 {w : World} {r db n : Nat} {l : List UInt8} (hr : RbA w r db l n) (hl : Blk w db 5 (l.map byteV).toArray) (hn : 4 ≤ n) :
    Calls Tryz.prog 46 #[.pointer (some ⟨r, 0, none⟩)] w fun e w' => (∃ v : Nat, v < 4294967296 ∧ e = .returned (.int .u32 v)) ∧ RbA w' r db l (n - 4) ∧ Kept [r] w w' := by
  obtain ⟨o, c, hr, hc, ho, hc3⟩ := hr
  have ho2 := ho (by omega)
  refine (rb32 hr hl hn hc (by omega) _ rfl).mono ?_
  rintro e w' ⟨rfl, ⟨o', ho', hb⟩, hk⟩
  refine ⟨⟨_, ?_, rfl⟩, ⟨o', c - 4, hb, by omega, fun h => ?_, by omega⟩, hk⟩
  · have := numL_lt (sub l o 4)
    rwa [show (sub l o 4).length = 4 by unfold sub; rw [List.length_take, List.length_drop]; omega] at this
  · have := ho'.out (by omega)
    omega
set_option maxHeartbeats 400000 in
theorem rba8 {w : World} {r db n : Nat} {l : List UInt8} (hr : RbA w r db l n) (hl : Blk w db 5 (l.map byteV).toArray) (hn : 1 ≤ n) :
    Calls Tryz.prog 60 #[.pointer (some ⟨r, 0, none⟩)] w fun e w' => (∃ v : Nat, v < 256 ∧ e = .returned (.int .u8 v)) ∧ RbA w' r db l (n - 1) ∧ Kept [r] w w' := by
  obtain ⟨o, c, hr, hc, ho, hc3⟩ := hr
  have ho2 := ho (by omega)
  have hf : w.frozen? ⟨r, 0, none⟩ = false := hr.frozen 0
  have c0 : w.cell? ⟨r, 0, none⟩ = some (.slice (some ⟨db, o, none⟩) n c) := hr.cell 0
  have h0 : w.cell? ⟨db, o, none⟩ = some (.int .u8 (l[o]'(by omega)).toNat) := hl.byte o (by omega)
  have hlt := (l[o]'(by omega)).toNat_lt
  obtain ⟨x, hx⟩ : ∃ x : Nat, x = (l[o]'(by omega)).toNat := ⟨_, rfl⟩
  rw [← hx] at h0 hlt
  have HX := Lib.hid (And.intro hr (And.intro ho2 hl))
  clear hx hr ho ho2 hl
  by_cases h4 : c = 1
  · subst h4
    obtain rfl : n = 1 := by omega
    go_enter Tryz.func60, Tryz.ntmps60
    go_wp2
    go_ret
    exact ⟨⟨x, hlt, rfl⟩, ⟨o, 0, Blk.cast (HX.out.1.set_ 0 _) (by simp), by omega, fun h => absurd h (by omega), by omega⟩, (Kept.refl _ _).setCell (by simp) _⟩
  · go_enter Tryz.func60, Tryz.ntmps60
    go_wp2
    go_ret
    exact ⟨⟨x, hlt, rfl⟩, ⟨o + 1, c - 1, Blk.cast (HX.out.1.set_ 0 _) (by simp), by omega, fun h => by have := HX.out.2.1; omega, by omega⟩, (Kept.refl _ _).setCell (by simp) _⟩
set_option maxHeartbeats 400000 in
theorem le64_a {w : World} {db o n c : Nat} {l : List UInt8} (hl : Blk w db 5 (l.map byteV).toArray) (hn : 8 ≤ n) (hc : n ≤ c) (ho : o + n ≤ l.length) (hc3 : c ≤ 4294967295) :
    Calls Tryz.prog 73 #[.slice (some ⟨db, o, none⟩) n c] w fun e w' => (∃ z : Int, e = .returned (.int .u64 z)) ∧ ∃ k, w' = w.drewN k := by
  have hR1 := fun k => Lib.hid (le32_v db o n c _ _ _ _ _ rfl (by omega) hc (l[o]'(by omega)).toNat_lt (l[o + 1]'(by omega)).toNat_lt (l[o + 2]'(by omega)).toNat_lt (l[o + 3]'(by omega)).toNat_lt (w.drewN k) ((hl.drewN k).byte o (by omega)) ((hl.drewN k).byte (o + 1) (by omega)) ((hl.drewN k).byte (o + 2) (by omega)) ((hl.drewN k).byte (o + 3) (by omega)))
  have hR2 := fun k => Lib.hid (le32_v db (o + 4) (n - 4) (c - 4) _ _ _ _ _ rfl (by omega) (by omega) (l[o + 4]'(by omega)).toNat_lt (l[o + 5]'(by omega)).toNat_lt (l[o + 6]'(by omega)).toNat_lt (l[o + 7]'(by omega)).toNat_lt (w.drewN k) ((hl.drewN k).byte (o + 4) (by omega)) ((hl.drewN k).byte (o + 5) (by omega)) ((hl.drewN k).byte (o + 6) (by omega)) ((hl.drewN k).byte (o + 7) (by omega)))
  have hc2 : ¬ c = 4 := by omega
  obtain ⟨x, hx⟩ : ∃ x : Nat, x = (l[o]'(by omega)).toNat + 256 * (l[o + 1]'(by omega)).toNat + 65536 * ((l[o + 2]'(by omega)).toNat + 256 * (l[o + 3]'(by omega)).toNat) := ⟨_, rfl⟩
  obtain ⟨y, hy⟩ : ∃ y : Nat, y = (l[o + 4]'(by omega)).toNat + 256 * (l[o + 5]'(by omega)).toNat + 65536 * ((l[o + 6]'(by omega)).toNat + 256 * (l[o + 7]'(by omega)).toNat) := ⟨_, rfl⟩
  rw [← hx] at hR1
  rw [← hy] at hR2
  have x1 : x < 4294967296 := by have := (l[o]'(by omega)).toNat_lt; have := (l[o + 1]'(by omega)).toNat_lt; have := (l[o + 2]'(by omega)).toNat_lt; have := (l[o + 3]'(by omega)).toNat_lt; omega
  have y1 : y < 4294967296 := by have := (l[o + 4]'(by omega)).toNat_lt; have := (l[o + 5]'(by omega)).toNat_lt; have := (l[o + 6]'(by omega)).toNat_lt; have := (l[o + 7]'(by omega)).toNat_lt; omega
  clear hx hy hl
  go_enter Tryz.func73, Tryz.ntmps73
  go_wp2
  go_quiet ((go_at_call 67; first | (with_reducible exact Calls.quiet_of (hR1 _).out) | (with_reducible exact Calls.quiet_of (hR2 _).out)))
  go_wp2
  go_ret
  exact ⟨⟨_, rfl⟩, _, rfl⟩
set_option maxHeartbeats 400000 in
theorem rba64 {w : World} {r db n : Nat} {l : List UInt8} (hr : RbA w r db l n) (hl : Blk w db 5 (l.map byteV).toArray) (hn : 8 ≤ n) :
    Calls Tryz.prog 55 #[.pointer (some ⟨r, 0, none⟩)] w fun e w' => (∃ z : Int, e = .returned (.int .u64 z)) ∧ RbA w' r db l (n - 8) ∧ Kept [r] w w' := by
  obtain ⟨o, c, hr, hc, ho, hc3⟩ := hr
  have ho2 := ho (by omega)
  have H := Lib.hid (le64_a (o := o) hl hn hc ho2 hc3)
  have hf : w.frozen? ⟨r, 0, none⟩ = false := hr.frozen 0
  have c0 : w.cell? ⟨r, 0, none⟩ = some (.slice (some ⟨db, o, none⟩) n c) := hr.cell 0
  have HX := Lib.hid (And.intro hr ho2)
  clear hr ho ho2 hl
  by_cases h4 : c = 8
  · subst h4
    obtain rfl : n = 8 := by omega
    go_enter Tryz.func55, Tryz.ntmps55
    go_wp2_with (go_at_call 73; refine H.out.mono ?_; rintro e w1 ⟨⟨z, rfl⟩, k, rfl⟩)
    go_ret
    exact ⟨⟨_, rfl⟩, ⟨o, 0, Blk.cast ((HX.out.1.drewN _).set_ 0 _) (by simp), by omega, fun h => absurd h (by omega), by omega⟩, ((Kept.refl _ _).drewN _).setCell (by simp) _⟩
  · go_enter Tryz.func55, Tryz.ntmps55
    go_wp2_with (go_at_call 73; refine H.out.mono ?_; rintro e w1 ⟨⟨z, rfl⟩, k, rfl⟩)
    go_ret
    exact ⟨⟨_, rfl⟩, ⟨o + 8, c - 8, Blk.cast ((HX.out.1.drewN _).set_ 0 _) (by simp), by omega, fun h => by have := HX.out.2; omega, by omega⟩, ((Kept.refl _ _).drewN _).setCell (by simp) _⟩
set_option maxHeartbeats 400000 in
theorem rbaSub {w : World} {r db n k : Nat} {l : List UInt8} (hr : RbA w r db l n) (hk : k ≤ n) :
    Calls Tryz.prog 54 #[.pointer (some ⟨r, 0, none⟩), .int .i64 k] w fun e w' => (∃ o c, e = .returned (.slice (some ⟨db, o, none⟩) k c) ∧ k ≤ c ∧ (0 < k → o + k ≤ l.length) ∧ c ≤ 4294967295) ∧ RbA w' r db l (n - k) ∧ Kept [r] w w' := by
  obtain ⟨o, c, hr, hc, ho, hc3⟩ := hr
  have hf : w.frozen? ⟨r, 0, none⟩ = false := hr.frozen 0
  have c0 : w.cell? ⟨r, 0, none⟩ = some (.slice (some ⟨db, o, none⟩) n c) := hr.cell 0
  have hkc : k ≤ c := by omega
  have HX := Lib.hid (And.intro hr ho)
  clear hr ho
  by_cases h4 : c = k
  · subst h4
    obtain rfl : n = c := by omega
    go_enter Tryz.func54, Tryz.ntmps54
    go_wp2
    go_ret
    refine ⟨⟨o, n, rfl, by omega, fun h => by have := HX.out.2 h; omega, by omega⟩, ⟨o, _, Blk.cast (HX.out.1.set_ 0 _) (by simp; rfl), by omega, fun h => absurd h (by omega), by omega⟩, (Kept.refl _ _).setCell (by simp) _⟩
  · go_enter Tryz.func54, Tryz.ntmps54
    go_wp2
    go_ret
    refine ⟨⟨o, c, rfl, by omega, fun h => by have := HX.out.2 (by omega); omega, by omega⟩, ⟨o + k, c - k, Blk.cast (HX.out.1.set_ 0 _) (by simp), by omega, fun h => by have := HX.out.2 (by omega); omega, by omega⟩, (Kept.refl _ _).setCell (by simp) _⟩
end Go.Proofs.YtfagjhgmmaebfaaGreatDoor
