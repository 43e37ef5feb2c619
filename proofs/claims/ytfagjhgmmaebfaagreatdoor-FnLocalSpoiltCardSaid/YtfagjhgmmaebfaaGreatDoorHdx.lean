/- The loops of readDirectoryHeader over a header's extra fields, over abstract frames. -/
import Derived.Test.YtfagjhgmmaebfaaGreatDoorRba
import Derived.Test.YtfagjhgmmaebfaaGreatDoorTm6
import Derived.Test.YtfagjhgmmaebfaaGreatDoorFbo
import Derived.Deep.LoopGhost
namespace Go.Proofs.YtfagjhgmmaebfaaGreatDoor
open Go.RowKit
def findBlock (n : Nat) : Code → Option Code
  | .block m c => if m = n then some (.block m c) else findBlock n c
  | .seq a b => match findBlock n a with
    | some c => some c
    | none => findBlock n b
  | .cond _ a b => match findBlock n a with
    | some c => some c
    | none => findBlock n b
  | .loop c => findBlock n c
  | .scope c => findBlock n c
  | _ => none
def unblock : Code → Code
  | .block _ c => c
  | c => c
noncomputable def ntLoop : Code := ((Tryz.f44.body.bind (findBlock 4)).map unblock).getD .skip
noncomputable def blk2 : Code := ((Tryz.f44.body.bind (findBlock 2)).map unblock).getD .skip
noncomputable def exLoop : Code := ((Tryz.f44.body.bind (findBlock 1)).map unblock).getD .skip
set_option maxRecDepth 1000000 in
theorem frame404 (a : Act) (hs : a.tmps.size = 404) (hd : a.defers = []) : ∃ g : Nat → Value, (∀ i, g i = a.tmps.getD i undef) ∧ a = ⟨#[g 0, g 1, g 2, g 3, g 4, g 5, g 6, g 7, g 8, g 9, g 10, g 11, g 12, g 13, g 14, g 15, g 16, g 17, g 18, g 19, g 20, g 21, g 22, g 23, g 24, g 25, g 26, g 27, g 28, g 29, g 30, g 31, g 32, g 33, g 34, g 35, g 36, g 37, g 38, g 39, g 40, g 41, g 42, g 43, g 44, g 45, g 46, g 47, g 48, g 49, g 50, g 51, g 52, g 53, g 54, g 55, g 56, g 57, g 58, g 59, g 60, g 61, g 62, g 63, g 64, g 65, g 66, g 67, g 68, g 69, g 70, g 71, g 72, g 73, g 74, g 75, g 76, g 77, g 78, g 79, g 80, g 81, g 82, g 83, g 84, g 85, g 86, g 87, g 88, g 89, g 90, g 91, g 92, g 93, g 94, g 95, g 96, g 97, g 98, g 99, g 100, g 101, g 102, g 103, g 104, g 105, g 106, g 107, g 108, g 109, g 110, g 111, g 112, g 113, g 114, g 115, g 116, g 117, g 118, g 119, g 120, g 121, g 122, g 123, g 124, g 125, g 126, g 127, g 128, g 129, g 130, g 131, g 132, g 133, g 134, g 135, g 136, g 137, g 138, g 139, g 140, g 141, g 142, g 143, g 144, g 145, g 146, g 147, g 148, g 149, g 150, g 151, g 152, g 153, g 154, g 155, g 156, g 157, g 158, g 159, g 160, g 161, g 162, g 163, g 164, g 165, g 166, g 167, g 168, g 169, g 170, g 171, g 172, g 173, g 174, g 175, g 176, g 177, g 178, g 179, g 180, g 181, g 182, g 183, g 184, g 185, g 186, g 187, g 188, g 189, g 190, g 191, g 192, g 193, g 194, g 195, g 196, g 197, g 198, g 199, g 200, g 201, g 202, g 203, g 204, g 205, g 206, g 207, g 208, g 209, g 210, g 211, g 212, g 213, g 214, g 215, g 216, g 217, g 218, g 219, g 220, g 221, g 222, g 223, g 224, g 225, g 226, g 227, g 228, g 229, g 230, g 231, g 232, g 233, g 234, g 235, g 236, g 237, g 238, g 239, g 240, g 241, g 242, g 243, g 244, g 245, g 246, g 247, g 248, g 249, g 250, g 251, g 252, g 253, g 254, g 255, g 256, g 257, g 258, g 259, g 260, g 261, g 262, g 263, g 264, g 265, g 266, g 267, g 268, g 269, g 270, g 271, g 272, g 273, g 274, g 275, g 276, g 277, g 278, g 279, g 280, g 281, g 282, g 283, g 284, g 285, g 286, g 287, g 288, g 289, g 290, g 291, g 292, g 293, g 294, g 295, g 296, g 297, g 298, g 299, g 300, g 301, g 302, g 303, g 304, g 305, g 306, g 307, g 308, g 309, g 310, g 311, g 312, g 313, g 314, g 315, g 316, g 317, g 318, g 319, g 320, g 321, g 322, g 323, g 324, g 325, g 326, g 327, g 328, g 329, g 330, g 331, g 332, g 333, g 334, g 335, g 336, g 337, g 338, g 339, g 340, g 341, g 342, g 343, g 344, g 345, g 346, g 347, g 348, g 349, g 350, g 351, g 352, g 353, g 354, g 355, g 356, g 357, g 358, g 359, g 360, g 361, g 362, g 363, g 364, g 365, g 366, g 367, g 368, g 369, g 370, g 371, g 372, g 373, g 374, g 375, g 376, g 377, g 378, g 379, g 380, g 381, g 382, g 383, g 384, g 385, g 386, g 387, g 388, g 389, g 390, g 391, g 392, g 393, g 394, g 395, g 396, g 397, g 398, g 399, g 400, g 401, g 402, g 403], []⟩ := by
  refine ⟨fun i => a.tmps.getD i undef, fun _ => rfl, ?_⟩
  have h1 : a.tmps = ((List.range 404).map fun i => a.tmps.getD i undef).toArray := by
    apply Array.ext_getElem?
    intro i
    by_cases hi : i < 404
    · rw [Array.getElem?_eq_getElem (by omega), List.getElem?_toArray, List.getElem?_map, List.getElem?_range hi]
      simp [Array.getD, hs, hi]
    · rw [Array.getElem?_eq_none (by omega), List.getElem?_toArray, List.getElem?_eq_none (by simp; omega)]
  obtain ⟨tm, df⟩ := a
  obtain rfl : df = [] := hd
  exact congrArg (fun x => (⟨x, []⟩ : Act)) h1
/-- The slots of the frame that last: the file, the error, the time, the extra fields' rest. -/
structure FP (fb mb xb : Nat) (a : Act) : Prop where
  size : a.tmps.size = 404
  defs : a.defers = []
  s0 : a.tmps.getD 0 undef = .pointer (some ⟨fb, 0, none⟩)
  s4 : a.tmps.getD 4 undef = .nilIface
  s20 : a.tmps.getD 20 undef = .pointer (some ⟨mb, 0, none⟩)
  s21 : a.tmps.getD 21 undef = .pointer (some ⟨xb, 0, none⟩)
theorem RbA.tne {w : World} {r db n g : Nat} {l : List UInt8} {t : TypeId} {cs : Array Value} (h : RbA w r db l n) (hb : Blk w g t cs) (ht : 113 ≠ t) : r ≠ g := by
  obtain ⟨o, c, h, _⟩ := h
  exact h.ne_ hb ht
theorem TmAt.tne {w : World} {p g : Nat} {t : TypeId} {cs : Array Value} (h : TmAt w p) (hb : Blk w g t cs) (ht : 69 ≠ t) : p ≠ g := by
  obtain ⟨a, b, l, h⟩ := h
  exact h.ne_ hb ht
theorem TmAt.rne {w : World} {p r db n : Nat} {l : List UInt8} (h : TmAt w p) (hr : RbA w r db l n) : p ≠ r := by
  obtain ⟨a, b, t, h⟩ := h
  exact fun e => hr.tne h (by decide) e.symm
theorem TmAt.lt {w : World} {p : Nat} (h : TmAt w p) : p < w.heap.size := by
  obtain ⟨a, b, l, h⟩ := h
  exact h.lt
theorem TmAt.set3 {w : World} {p : Nat} (h : TmAt w p) (a b : Int) (l : Option Addr) : TmAt (((w.setCell ⟨p, 0, none⟩ (.int .u64 a)).setCell ⟨p, 1, none⟩ (.int .i64 b)).setCell ⟨p, 2, none⟩ (.pointer l)) p := by
  obtain ⟨a0, b0, l0, h⟩ := h
  exact ⟨a, b, l, Blk.cast (((h.set_ 0 _).set_ 1 _).set_ 2 _) (by simp)⟩
/-- The state inside: r holds n bytes' rest of the row db, mb a time. -/
structure NX (w W : World) (r mb db : Nat) (dl : List UInt8) (n : Nat) : Prop where
  rb : RbA W r db dl n
  row : Blk W db 5 (dl.map byteV).toArray
  tm : TmAt W mb
  kept : Kept [r, mb] w W
section
variable {w W W' : World} {r mb db n : Nat} {dl : List UInt8}
theorem NX.rd (h : NX w W r mb db dl n) : r ≠ db := h.rb.tne h.row (by decide)
theorem NX.md (h : NX w W r mb db dl n) : mb ≠ db := h.tm.tne h.row (by decide)
theorem NX.mr (h : NX w W r mb db dl n) : mb ≠ r := h.tm.rne h.rb
theorem NX.call {n' : Nat} (h : NX w W r mb db dl n) (hr : RbA W' r db dl n') (k : Kept [r] W W') : NX w W' r mb db dl n' :=
  ⟨hr, k.blk h.row (by simp; exact h.rd.symm), h.tm.kept k (by simp; exact h.mr), h.kept.trans' k (by simp)⟩
theorem NX.on (h : NX w W r mb db dl n) (k : Kept [] W W') : NX w W' r mb db dl n :=
  ⟨h.rb.kept k (by simp), k.blk h.row (by simp), h.tm.kept k (by simp), h.kept.trans' k (by simp)⟩
theorem NX.fresh {x : Nat} (h : NX w W r mb db dl n) (k : Kept [x] W W') (hx : w.heap.size ≤ x ∧ x ≠ r ∧ x ≠ mb ∧ x ≠ db) : NX w W' r mb db dl n :=
  ⟨h.rb.kept k (by simp; exact hx.2.1.symm), k.blk h.row (by simp; exact hx.2.2.2.symm), h.tm.kept k (by simp; exact hx.2.2.1.symm), h.kept.trans' k (by simp; exact .inr hx.1)⟩
theorem NX.new (h : NX w W r mb db dl n) : w.heap.size ≤ W.heap.size ∧ W.heap.size ≠ r ∧ W.heap.size ≠ mb ∧ W.heap.size ≠ db :=
  ⟨h.kept.size, Nat.ne_of_gt h.rb.lt, Nat.ne_of_gt h.tm.lt, Nat.ne_of_gt h.row.lt⟩
theorem NX.set3 (h : NX w W r mb db dl n) (a b : Int) (l : Option Addr) : NX w (((W.setCell ⟨mb, 0, none⟩ (.int .u64 a)).setCell ⟨mb, 1, none⟩ (.int .i64 b)).setCell ⟨mb, 2, none⟩ (.pointer l)) r mb db dl n := by
  have k : Kept [mb] W (((W.setCell ⟨mb, 0, none⟩ (.int .u64 a)).setCell ⟨mb, 1, none⟩ (.int .i64 b)).setCell ⟨mb, 2, none⟩ (.pointer l)) := (((Kept.refl _ _).setCell (by simp) _).setCell (by simp) _).setCell (by simp) _
  exact ⟨h.rb.kept k (by simp; exact h.mr.symm), k.blk h.row (by simp; exact h.md.symm), h.tm.set3 a b l, h.kept.trans' k (by simp)⟩
end
set_option maxRecDepth 1000000 in
set_option maxHeartbeats 8000000 in
theorem ntLoop_wp {Q : Exit → Act → World → Prop} {a : Act} {W : World} {fb mb xb r db n : Nat} {dl : List UInt8} (hF : FP fb mb xb a) (h24 : a.tmps.getD 24 undef = .pointer (some ⟨r, 0, none⟩)) (hN : NX W W r mb db dl n)
    (hQ : ∀ e a' W', (e = .exit 4 ∨ e = .exit 2) → FP fb mb xb a' → TmAt W' mb → Kept [r, mb] W W' → Q e a' W') : Code.wp Tryz.prog ntLoop Q a W := by
  have HQ := Lib.hid hQ
  clear hQ
  conv => arg 2; whnf
  refine wp_loop_ghost (fun k a' W' => FP fb mb xb a' ∧ a'.tmps.getD 24 undef = .pointer (some ⟨r, 0, none⟩) ∧ Hid (NX W W' r mb db dl k)) n ⟨hF, h24, Lib.hid hN⟩ ?_
  clear hF h24 hN
  intro k a' wr hI
  obtain ⟨hf, h24, HN⟩ := hI
  obtain ⟨g, hg, rfl⟩ := frame404 a' hf.size hf.defs
  have g0 := hf.s0
  have g4 := hf.s4
  have g20 := hf.s20
  have g21 := hf.s21
  rw [← hg] at g0 g4 g20 g21 h24
  rw [g0, g4, g20, g21, h24]
  clear g0 g4 g20 g21 h24 hf hg
  obtain ⟨o, c, hcl, hkc⟩ := HN.out.rb.val
  by_cases h4 : 4 ≤ k
  · have h4i : (4 : Int) ≤ k := by omega
    go_wp2_with fail
    refine (rba16 HN.out.rb HN.out.row (by omega)).mono ?_
    rintro e w1 ⟨⟨v, hv, rfl⟩, hr, hk⟩
    have HN1 := Lib.hid (HN.out.call hr hk)
    clear hr hk hcl
    go_wp2_with fail
    refine (rba16 HN1.out.rb HN1.out.row (by omega)).mono ?_
    rintro e w2 ⟨⟨v2, hv2, rfl⟩, hr, hk⟩
    have HN2 := Lib.hid (HN1.out.call hr hk)
    clear hr hk HN1
    obtain ⟨m, hm⟩ : ∃ m, m = k - 2 - 2 := ⟨_, rfl⟩
    rw [← hm] at HN2
    obtain ⟨o2, c2, hcl2, hkc2⟩ := HN2.out.rb.val
    by_cases hsz : m < v2
    · have hszi : (m : Int) < v2 := by omega
      go_wp2_with fail
      exact HQ.out _ _ _ (.inr rfl) ⟨rfl, rfl, rfl, rfl, rfl, rfl⟩ HN2.out.tm HN2.out.kept
    · have hszi : ¬ ((m : Int) < v2) := by omega
      go_wp2_with fail
      refine (rbaSub HN2.out.rb (by omega)).mono ?_
      rintro e w3 ⟨⟨o3, c3, rfl, h31, h32, h33⟩, hr, hk⟩
      have HN3 := Lib.hid (HN2.out.call hr hk)
      clear hr hk hcl2
      obtain ⟨r2, hr2⟩ : ∃ r2, r2 = w3.heap.size := ⟨_, rfl⟩
      have hnew := HN3.out.new
      rw [← hr2] at hnew
      have HR2 := Lib.hid hr2
      clear hr2
      by_cases hv1 : v = 1 ∧ v2 = 24
      · obtain ⟨rfl, rfl⟩ := hv1
        go_upto_region 69 with (fail)
        rw [← HR2.out]
        refine at_world (fun W4 => RbA W4 r2 db dl 24 ∧ NX W W4 r mb db dl (m - 24)) ⟨⟨o3, c3, HR2.out ▸ Blk.new _ _ _, h31, h32, h33⟩, HN3.out.on ((Kept.refl _ _).alloc _)⟩ ?_
        rintro w4 ⟨h4r, h4n⟩
        have HN4 := Lib.hid (And.intro h4r h4n)
        clear h4r h4n HN3
        go_wp2_with fail
        refine (rba64 HN4.out.1 HN4.out.2.row (by omega)).mono ?_
        rintro e w5 ⟨⟨z, rfl⟩, hr, hk⟩
        have HN5 := Lib.hid (HN4.out.2.fresh hk hnew)
        clear hr hk HN4
        go_wp2_with fail
        refine (Tutc _).mono ?_
        rintro e w6 ⟨rfl, hL, hk⟩
        have HN6 := Lib.hid (HN5.out.on hk)
        have HL := Lib.hid hL
        clear hk hL HN5
        go_wp2_with fail
        refine (TDate _ _ _ _ _ _ _ _ _ HL.out).mono ?_
        rintro e w7 ⟨⟨t0, ⟨a1, b1, l1, rfl⟩, rfl⟩, hk⟩
        have HN7 := Lib.hid (HN6.out.on hk)
        clear hk HN6 HL
        go_upto_region 74 with (fail)
        refine at_world (fun W8 => Blk W8 w7.heap.size 69 #[.int .u64 a1, .int .i64 b1, .pointer l1] ∧ NX W W8 r mb db dl (m - 24)) ⟨Blk.new _ _ _, HN7.out.on ((Kept.refl _ _).alloc _)⟩ ?_
        rintro w8 ⟨hT, hn8⟩
        have t0 := hT.cell 0
        have t1 := hT.cell 1
        have t2 := hT.cell 2
        have HN8 := Lib.hid hn8
        clear hT hn8 HN7
        go_wp2_with fail
        refine (Tunix _ _ _ _).mono ?_
        rintro e w9 ⟨⟨zu, rfl⟩, hk⟩
        have HN9 := Lib.hid (HN8.out.on hk)
        clear hk HN8 t0 t1 t2
        go_wp2_with fail
        refine (TUnix _ _ _).mono ?_
        rintro e w10 ⟨⟨t0, ⟨a2, b2, l2, rfl⟩, rfl⟩, hk⟩
        have HN10 := Lib.hid (HN9.out.on hk)
        obtain ⟨ma, mB, ml, hmb⟩ := HN10.out.tm
        have m0 : w10.cell? ⟨mb, 0, none⟩ = some (.int .u64 ma) := hmb.cell 0
        have m1 : w10.cell? ⟨mb, 1, none⟩ = some (.int .i64 mB) := hmb.cell 1
        have m2 : w10.cell? ⟨mb, 2, none⟩ = some (.pointer ml) := hmb.cell 2
        have mf := hmb.frozen
        clear hk HN9 hmb
        go_wp2_with fail
        exact ⟨m - 24, by omega, ⟨rfl, rfl, rfl, rfl, rfl, rfl⟩, rfl, Lib.hid (HN10.out.set3 _ _ _)⟩
      · go_wp2_with fail
        all_goals exact ⟨m - v2, by omega, ⟨rfl, rfl, rfl, rfl, rfl, rfl⟩, rfl, Lib.hid (HN3.out.on ((Kept.refl _ _).alloc _))⟩
  · have h4i : ¬ ((4 : Int) ≤ k) := by omega
    go_wp2_with fail
    exact HQ.out _ _ _ (.inl rfl) ⟨rfl, rfl, rfl, rfl, rfl, rfl⟩ HN.out.tm HN.out.kept
end Go.Proofs.YtfagjhgmmaebfaaGreatDoor
