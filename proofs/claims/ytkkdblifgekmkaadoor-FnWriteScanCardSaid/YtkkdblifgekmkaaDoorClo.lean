/- Contract: Writer.Close. -/
import Derived.Test.YtkkdblifgekmkaaDoorChh
import Derived.Test.YtkkdblifgekmkaaDoorWh
import Derived.Test.YtkkdblifgekmkaaDoorEnd
namespace Go.Proofs.YtkkdblifgekmkaaDoor
open Go.RowKit
set_option linter.unusedSimpArgs false
/-- An entry of the writer: where it lies; what its header holds. -/
structure Ent where
  hb : Nat
  fb : Nat
  h : Hd
  nu : Bool
  cs : Nat
  us : Nat
  off : Nat
  raw : Bool
  A : Option Addr
  ec : Nat
structure EntOk (w : World) (S : List Nat) (e : Ent) : Prop where
  hbb : Blk w e.hb 128 #[.pointer (some ⟨e.fb, 0, none⟩), .int .u64 e.off, .bool e.raw]
  fbb : Blk w e.fb 72 (fhCells e.h e.nu e.cs e.us (.slice e.A e.h.extra.length e.ec))
  src : From w S e.A e.h.extra.length e.ec e.h.extra
/-- The directory of the entries. -/
def cenB : List Ent → List UInt8
  | [] => []
  | e :: r => centralB e.h e.off ++ cenB r
theorem cenB_append (a b : List Ent) : cenB (a ++ b) = cenB a ++ cenB b := by
  induction a with
  | nil => rfl
  | cons e r ih => rw [List.cons_append, cenB, ih, cenB, List.append_assoc]
theorem cenB_step (es : List Ent) (k : Nat) (h : k < es.length) : cenB (es.take (k + 1)) = cenB (es.take k) ++ centralB es[k].h es[k].off := by
  rw [List.take_succ_eq_append_getElem h, cenB_append]; simp [cenB]
theorem From.fresh {w w' : World} {ob bw gb cw : Nat} {ro ro' : Option Nat} {A : Option Addr} {m c : Nat} {p : List UInt8} (h : From w (ob :: bw :: gb :: cw :: ro.toList) A m c p) (hr : ro' = ro ∨ ∃ n, ro' = some n ∧ w.heap.size ≤ n) (k : Kept (ob :: bw :: gb :: cw :: ro.toList) w w') : From w' (ob :: bw :: gb :: cw :: ro'.toList) A m c p := by
  refine ⟨h.cap, h.reads.kept k (fun h0 ad e => h.apart ad e h0), fun ad e h0 hm => ?_⟩
  have h1 := h.apart ad e h0
  have h2 : ad.block < w.heap.size := by
    obtain ⟨ad', e', hb, _⟩ := h.reads.2 h0
    rw [e] at e'
    injection e' with e'
    rw [e']; exact hb
  simp only [List.mem_cons, not_or] at h1 hm
  rcases hm with hm | hm | hm | hm | hm
  · exact h1.1 hm
  · exact h1.2.1 hm
  · exact h1.2.2.1 hm
  · exact h1.2.2.2.1 hm
  · rcases fresh_mem hr _ hm with h3 | h3
    · exact h1.2.2.2.2 h3
    · omega
theorem mem_cw {x ob bw gb cw : Nat} {l : List Nat} (h : x ∈ ob :: bw :: gb :: l) : x ∈ ob :: bw :: gb :: cw :: l := by
  simp only [List.mem_cons] at h ⊢
  rcases h with h | h | h | h
  · exact .inl h
  · exact .inr (.inl h)
  · exact .inr (.inr (.inl h))
  · exact .inr (.inr (.inr (.inr h)))
theorem kept_in {a ob bw gb cw x : Nat} {ro ro1 : Option Nat} (h : ro1 = ro ∨ ∃ n, ro1 = some n ∧ a ≤ n) (hx : x ∈ ob :: bw :: gb :: cw :: ro1.toList) : x ∈ ob :: bw :: gb :: cw :: ro.toList ∨ a ≤ x := by
  simp only [List.mem_cons] at hx ⊢
  rcases hx with hx | hx | hx | hx | hx
  · exact .inl (.inl hx)
  · exact .inl (.inr (.inl hx))
  · exact .inl (.inr (.inr (.inl hx)))
  · exact .inl (.inr (.inr (.inr (.inl hx))))
  · rcases fresh_mem h x hx with hx | hx
    · exact .inl (.inr (.inr (.inr (.inr hx))))
    · exact .inr hx
/-- One write behind another. -/
theorem KJ {wr W W' : World} {ob bw gb cw : Nat} {ro1 ro2 ro3 : Option Nat} {X : List UInt8} (h1 : ro2 = ro1 ∨ ∃ n, ro2 = some n ∧ wr.heap.size ≤ n) (k1 : Kept (ob :: bw :: gb :: cw :: ro1.toList) wr W) (h2 : ro3 = ro2 ∨ ∃ n, ro3 = some n ∧ W.heap.size ≤ n) (s : Snk W' ob bw gb cw ro3 X) (k2 : Kept (ob :: bw :: gb :: cw :: ro2.toList) W W') :
    (ro3 = ro1 ∨ ∃ n, ro3 = some n ∧ wr.heap.size ≤ n) ∧ Snk W' ob bw gb cw ro3 X ∧ Kept (ob :: bw :: gb :: cw :: ro1.toList) wr W' :=
  ⟨fresh_trans h1 h2 k1.size, s, k1.trans' k2 (by have := fresh_mem h1; grind)⟩
def Z46 : Array Value := ((List.replicate 46 (0 : UInt8)).map byteV).toArray
theorem Z46_size : Z46.size = 46 := by decide
theorem put_skip (A : List UInt8) (h : A.length = 34) : putAll Z46 0 (A.map byteV) = putAll Z46 0 ((A ++ [0, 0, 0, 0]).map byteV) := by
  apply Array.ext_getElem?
  intro i
  have hz := Z46_size
  rw [putAll_get _ _ _ _ (by rw [hz, List.length_map]; omega), putAll_get _ _ _ _ (by rw [hz]; simp; omega)]
  simp only [List.length_map, List.length_append, List.length_cons, List.length_nil, h]
  by_cases h1 : i < 34
  · rw [if_pos (by omega), if_pos (by omega), List.map_append, List.getElem?_append_left (by simp; omega)]
  · by_cases h2 : i < 38
    · rw [if_neg (by omega), if_pos (by omega), List.map_append, List.getElem?_append_right (by simp; omega)]
      simp only [List.length_map, h, Nat.sub_zero]
      have : i = 34 ∨ i = 35 ∨ i = 36 ∨ i = 37 := by omega
      rcases this with rfl | rfl | rfl | rfl <;> first | rfl | kernel_rfl
    · rw [if_neg (by omega), if_neg (by omega)]
theorem own_sliceN {w : World} {base n : Nat} {e : TypeId} {v : Value} {xs : List Value} (h : w.ownsRow base e 1 v n xs) : ∃ A c, v = .slice A n c := by
  rcases h.2 with ⟨rfl, h0⟩ | ⟨g, cap, cur, rfl, _⟩
  · exact ⟨none, 0, by rw [h0]⟩
  · exact ⟨_, _, rfl⟩
theorem neq_func_nil (W : World) : (binOp .neq 112 .nilFunc .nilFunc).run Tryd.prog W = .ok (.bool false) W := by kernel_rfl
def Z22 : Array Value := ((List.replicate 22 (0 : UInt8)).map byteV).toArray
theorem Z22_size : Z22.size = 22 := by decide
theorem put_skip22 (A : List UInt8) (h : A.length = 4) : putAll Z22 0 (A.map byteV) = putAll Z22 0 ((A ++ [0, 0, 0, 0]).map byteV) := by
  apply Array.ext_getElem?
  intro i
  have hz := Z22_size
  rw [putAll_get _ _ _ _ (by rw [hz, List.length_map]; omega), putAll_get _ _ _ _ (by rw [hz]; simp; omega)]
  simp only [List.length_map, List.length_append, List.length_cons, List.length_nil, h]
  by_cases h1 : i < 4
  · rw [if_pos (by omega), if_pos (by omega), List.map_append, List.getElem?_append_left (by simp; omega)]
  · by_cases h2 : i < 8
    · rw [if_neg (by omega), if_pos (by omega), List.map_append, List.getElem?_append_right (by simp; omega)]
      simp only [List.length_map, h, Nat.sub_zero]
      have : i = 4 ∨ i = 5 ∨ i = 6 ∨ i = 7 := by omega
      rcases this with rfl | rfl | rfl | rfl <;> first | rfl | kernel_rfl
    · rw [if_neg (by omega), if_neg (by omega)]
theorem assert_bw (a : Addr) (w : World) : (Instr.typeAssert (.iface 105 (.pointer (some a))) 83 105 false).run Tryd.prog w = .ok (.pointer (some a)) w := by kernel_rfl
/-- How far Close has come: k headers of the directory are written. -/
def CloSt (wb W : World) (ob bw gb cw : Nat) (ro : Option Nat) (out : List UInt8) (es : List Ent) (k : Nat) : Prop :=
  ∃ ro1, (ro1 = ro ∨ ∃ n, ro1 = some n ∧ wb.heap.size ≤ n) ∧ Snk W ob bw gb cw ro1 (out ++ cenB (es.take k)) ∧ Kept (ob :: bw :: gb :: cw :: ro.toList) wb W
set_option maxRecDepth 1000000 in
theorem frame_ex (a : Act) (hs : a.tmps.size = 520) (hd : a.defers = []) : ∃ g : Nat → Value, (∀ i, g i = a.tmps.getD i undef) ∧ a = ⟨#[g 0, g 1, g 2, g 3, g 4, g 5, g 6, g 7, g 8, g 9, g 10, g 11, g 12, g 13, g 14, g 15, g 16, g 17, g 18, g 19, g 20, g 21, g 22, g 23, g 24, g 25, g 26, g 27, g 28, g 29, g 30, g 31, g 32, g 33, g 34, g 35, g 36, g 37, g 38, g 39, g 40, g 41, g 42, g 43, g 44, g 45, g 46, g 47, g 48, g 49, g 50, g 51, g 52, g 53, g 54, g 55, g 56, g 57, g 58, g 59, g 60, g 61, g 62, g 63, g 64, g 65, g 66, g 67, g 68, g 69, g 70, g 71, g 72, g 73, g 74, g 75, g 76, g 77, g 78, g 79, g 80, g 81, g 82, g 83, g 84, g 85, g 86, g 87, g 88, g 89, g 90, g 91, g 92, g 93, g 94, g 95, g 96, g 97, g 98, g 99, g 100, g 101, g 102, g 103, g 104, g 105, g 106, g 107, g 108, g 109, g 110, g 111, g 112, g 113, g 114, g 115, g 116, g 117, g 118, g 119, g 120, g 121, g 122, g 123, g 124, g 125, g 126, g 127, g 128, g 129, g 130, g 131, g 132, g 133, g 134, g 135, g 136, g 137, g 138, g 139, g 140, g 141, g 142, g 143, g 144, g 145, g 146, g 147, g 148, g 149, g 150, g 151, g 152, g 153, g 154, g 155, g 156, g 157, g 158, g 159, g 160, g 161, g 162, g 163, g 164, g 165, g 166, g 167, g 168, g 169, g 170, g 171, g 172, g 173, g 174, g 175, g 176, g 177, g 178, g 179, g 180, g 181, g 182, g 183, g 184, g 185, g 186, g 187, g 188, g 189, g 190, g 191, g 192, g 193, g 194, g 195, g 196, g 197, g 198, g 199, g 200, g 201, g 202, g 203, g 204, g 205, g 206, g 207, g 208, g 209, g 210, g 211, g 212, g 213, g 214, g 215, g 216, g 217, g 218, g 219, g 220, g 221, g 222, g 223, g 224, g 225, g 226, g 227, g 228, g 229, g 230, g 231, g 232, g 233, g 234, g 235, g 236, g 237, g 238, g 239, g 240, g 241, g 242, g 243, g 244, g 245, g 246, g 247, g 248, g 249, g 250, g 251, g 252, g 253, g 254, g 255, g 256, g 257, g 258, g 259, g 260, g 261, g 262, g 263, g 264, g 265, g 266, g 267, g 268, g 269, g 270, g 271, g 272, g 273, g 274, g 275, g 276, g 277, g 278, g 279, g 280, g 281, g 282, g 283, g 284, g 285, g 286, g 287, g 288, g 289, g 290, g 291, g 292, g 293, g 294, g 295, g 296, g 297, g 298, g 299, g 300, g 301, g 302, g 303, g 304, g 305, g 306, g 307, g 308, g 309, g 310, g 311, g 312, g 313, g 314, g 315, g 316, g 317, g 318, g 319, g 320, g 321, g 322, g 323, g 324, g 325, g 326, g 327, g 328, g 329, g 330, g 331, g 332, g 333, g 334, g 335, g 336, g 337, g 338, g 339, g 340, g 341, g 342, g 343, g 344, g 345, g 346, g 347, g 348, g 349, g 350, g 351, g 352, g 353, g 354, g 355, g 356, g 357, g 358, g 359, g 360, g 361, g 362, g 363, g 364, g 365, g 366, g 367, g 368, g 369, g 370, g 371, g 372, g 373, g 374, g 375, g 376, g 377, g 378, g 379, g 380, g 381, g 382, g 383, g 384, g 385, g 386, g 387, g 388, g 389, g 390, g 391, g 392, g 393, g 394, g 395, g 396, g 397, g 398, g 399, g 400, g 401, g 402, g 403, g 404, g 405, g 406, g 407, g 408, g 409, g 410, g 411, g 412, g 413, g 414, g 415, g 416, g 417, g 418, g 419, g 420, g 421, g 422, g 423, g 424, g 425, g 426, g 427, g 428, g 429, g 430, g 431, g 432, g 433, g 434, g 435, g 436, g 437, g 438, g 439, g 440, g 441, g 442, g 443, g 444, g 445, g 446, g 447, g 448, g 449, g 450, g 451, g 452, g 453, g 454, g 455, g 456, g 457, g 458, g 459, g 460, g 461, g 462, g 463, g 464, g 465, g 466, g 467, g 468, g 469, g 470, g 471, g 472, g 473, g 474, g 475, g 476, g 477, g 478, g 479, g 480, g 481, g 482, g 483, g 484, g 485, g 486, g 487, g 488, g 489, g 490, g 491, g 492, g 493, g 494, g 495, g 496, g 497, g 498, g 499, g 500, g 501, g 502, g 503, g 504, g 505, g 506, g 507, g 508, g 509, g 510, g 511, g 512, g 513, g 514, g 515, g 516, g 517, g 518, g 519], []⟩ := by
  refine ⟨fun i => a.tmps.getD i undef, fun _ => rfl, ?_⟩
  have h1 : a.tmps = ((List.range 520).map fun i => a.tmps.getD i undef).toArray := by
    apply Array.ext_getElem?
    intro i
    by_cases hi : i < 520
    · rw [Array.getElem?_eq_getElem (by omega), List.getElem?_toArray, List.getElem?_map, List.getElem?_range hi]
      simp [Array.getD, hs, hi]
    · rw [Array.getElem?_eq_none (by omega), List.getElem?_toArray, List.getElem?_eq_none (by simp; omega)]
  obtain ⟨tm, df⟩ := a
  obtain rfl : df = [] := hd
  exact congrArg (fun x => (⟨x, []⟩ : Act)) h1
/-- The frame at the head of Close's loop. -/
def CloWI (zw : Nat) (dv : Value) (n start : Nat) (R : World → Nat → Prop) (a : Act) (W : World) : Prop :=
  a.tmps.size = 520 ∧ a.defers = [] ∧ a.tmps.getD 0 undef = .pointer (some ⟨zw, 0, none⟩) ∧ a.tmps.getD 4 undef = .int .i64 start ∧ a.tmps.getD 5 undef = .bool false ∧ a.tmps.getD 82 undef = dv ∧ a.tmps.getD 83 undef = .int .i64 n ∧ ∃ k : Nat, k ≤ n ∧ a.tmps.getD 84 undef = .int .i64 k ∧ R W k
def CloMu (n : Nat) (a : Act) (_ : World) : Nat := n - (intOf (a.tmps.getD 84 undef)).toNat
/-- What Close's first test leaves. -/
def CloIn (zw ob bw gb cw : Nat) (out : List UInt8) (dirv : Value) (es : List Ent) (cl : List UInt8) (P : Option Nat → World → Prop) (b : Bool) (lv : Value → Prop) (ro : Option Nat) (w1 W : World) : Prop :=
  P ro w1 ∧ Kept [zw] w1 W ∧ (∃ lastv, lv lastv ∧ WSt W zw ob bw gb cw ro out dirv lastv (es.map (·.hb)) b ⟨cl.toArray⟩) ∧ ∀ e ∈ es, EntOk W (zw :: ob :: bw :: gb :: cw :: ro.toList) e
theorem WSt.setZ {w : World} {zw ob bw gb cw : Nat} {ro : Option Nat} {out : List UInt8} {dirv lastv lastv' : Value} {hs : List Nat} {cl cl' : Bool} {cm cm' : ByteArray} (h : WSt w zw ob bw gb cw ro out dirv lastv hs cl cm) (i : Nat) (v : Value) (he : (zwCells cw dirv lastv cl cm).setIfInBounds i v = zwCells cw dirv lastv' cl' cm') : WSt (w.setCell ⟨zw, i, none⟩ v) zw ob bw gb cw ro out dirv lastv' hs cl' cm' := by
  have hk : Kept [zw] w (w.setCell ⟨zw, i, none⟩ v) := (Kept.refl [zw] w).setCell (by simp) _
  have hsz := h.snk.not h.zwb (by decide) (by decide) (by decide) (by decide)
  simp only [List.mem_cons, Option.mem_toList, not_or] at hsz
  exact ⟨h.snk.kept hk (by simp; omega) (by simp; omega) (by simp; omega) (by simp; omega) (fun g hg hm => hsz.2.2.2.2 (by simp at hm; rw [hg, hm])), Blk.cast (h.zwb.set_ i _) he, owns_far h.dir (own_blk_ne h.dir h.zwb (by decide)) _⟩
theorem EntOk.setZ {w : World} {zw ob bw gb cw : Nat} {ro : Option Nat} {out : List UInt8} {dirv lastv : Value} {hs : List Nat} {cl : Bool} {cm : ByteArray} (h : WSt w zw ob bw gb cw ro out dirv lastv hs cl cm) (i : Nat) (v : Value) {e : Ent} (ho : EntOk w (zw :: ob :: bw :: gb :: cw :: ro.toList) e) : EntOk (w.setCell ⟨zw, i, none⟩ v) (zw :: ob :: bw :: gb :: cw :: ro.toList) e := by
  have hk : Kept [zw] w (w.setCell ⟨zw, i, none⟩ v) := (Kept.refl [zw] w).setCell (by simp) _
  exact ⟨hk.blk ho.hbb (by simpa using ho.hbb.ne_ h.zwb (by decide)), hk.blk ho.fbb (by simpa using ho.fbb.ne_ h.zwb (by decide)), ho.src.kept (hk.mono (by grind))⟩
theorem CloIn.setZ {zw ob bw gb cw : Nat} {out : List UInt8} {dirv : Value} {es : List Ent} {cl : List UInt8} {P : Option Nat → World → Prop} {b b' : Bool} {lv lv' : Value → Prop} {ro : Option Nat} {w1 W : World} (h : CloIn zw ob bw gb cw out dirv es cl P b lv ro w1 W) (i : Nat) (v : Value) (he : ∀ l, lv l → ∃ l', lv' l' ∧ (zwCells cw dirv l b ⟨cl.toArray⟩).setIfInBounds i v = zwCells cw dirv l' b' ⟨cl.toArray⟩) : CloIn zw ob bw gb cw out dirv es cl P b' lv' ro w1 (W.setCell ⟨zw, i, none⟩ v) := by
  obtain ⟨h1, h2, ⟨l, hl, h3⟩, h4⟩ := h
  obtain ⟨l', hl', e⟩ := he l hl
  exact ⟨h1, h2.setCell (by simp) _, ⟨l', hl', h3.setZ i v e⟩, fun e he => (h4 e he).setZ h3 i v⟩
set_option maxRecDepth 1000000 in
set_option maxHeartbeats 8000000 in
theorem Close_any {w : World} {zw ob bw gb cw : Nat} {out : List UInt8} {dirv lastv : Value} {es : List Ent} {cl : List UInt8} {P : Option Nat → World → Prop} (hz2 : w.cell? ⟨zw, 2, none⟩ = some lastv)
    (hlast : (lastv = .pointer none ∧ ∃ ro, P ro w) ∨ ∃ fw, lastv = .pointer (some ⟨fw, 0, none⟩) ∧ w.cell? ⟨fw, 6, none⟩ = some (.bool false) ∧ Calls Tryd.prog 65 #[.pointer (some ⟨fw, 0, none⟩)] w fun e w' => e = .returned .nilIface ∧ ∃ ro, P ro w')
    (hP : ∀ ro w1, P ro w1 → WSt w1 zw ob bw gb cw ro out dirv lastv (es.map (·.hb)) false ⟨cl.toArray⟩ ∧ ∀ e ∈ es, EntOk w1 (zw :: ob :: bw :: gb :: cw :: ro.toList) e)
    (hfit : ∀ e ∈ es, e.h.Fits ∧ e.h.packed < 4294967295 ∧ e.h.size < 4294967295 ∧ e.off < 4294967295) (hlen : out.length + (cenB es).length ≤ 4294967294) (hmany : es.length ≤ 65534) (hcm : cl.length ≤ 65535) :
    Calls Tryd.prog 53 #[.pointer (some ⟨zw, 0, none⟩)] w fun e w' => e = .returned .nilIface ∧ ∃ ro w1 ro', P ro w1 ∧ (ro' = ro ∨ ∃ n, ro' = some n ∧ w1.heap.size ≤ n) ∧ Bld w' ob ro' (out ++ cenB es ++ endL es.length (cenB es).length out.length cl) ∧ Kept (zw :: ob :: bw :: gb :: cw :: ro.toList) w1 w' := by
  have hbnd : ∀ k (hk : k < es.length), out.length + (cenB (es.take k)).length + (46 + es[k].h.name.length + es[k].h.extra.length + es[k].h.comment.length) ≤ 4294967294 := by
    intro k hk
    have e1 : cenB es = cenB (es.take (k + 1)) ++ cenB (es.drop (k + 1)) := by rw [← cenB_append, List.take_append_drop]
    have e2 := congrArg List.length e1
    rw [cenB_step es k hk, List.length_append, List.length_append, centralB_length] at e2
    omega
  have HBND := Lib.hid hbnd
  have HP := Lib.hid hP
  have HFT := Lib.hid hfit
  have HZ := Lib.hid hz2
  clear hfit hbnd hP hz2
  go_enter Tryd.func53, Tryd.ntmps53
  iterate 10 go_step
  refine wp_cut (fun a' W => a'.tmps.size = 520 ∧ a'.defers = [] ∧ a'.tmps.getD 0 undef = .pointer (some ⟨zw, 0, none⟩) ∧ Hid (∃ ro w1, CloIn zw ob bw gb cw out dirv es cl P false (fun v => v = .pointer none) ro w1 W)) ?rest ?first
  case first =>
    intro J K' hJ hK
    rcases hlast with ⟨rfl, hp⟩ | ⟨fw, rfl, h6, hc⟩
    · have z2 := HZ.out
      have HPP := Lib.hid hp
      clear hp
      go_wp2_with fail
      obtain ⟨ro, hp⟩ := HPP.out
      exact Met.intro (hJ _ _ ⟨rfl, rfl, rfl, Lib.hid ⟨ro, w, hp, Kept.refl _ _, ⟨_, rfl, (HP.out ro w hp).1⟩, (HP.out ro w hp).2⟩⟩)
    · have z2 := HZ.out
      have HC := Lib.hid hc
      clear hc
      go_wp2_with fail
      refine HC.out.mono ?_
      rintro e w1 ⟨rfl, ro, hp⟩
      have hzf : w1.frozen? ⟨zw, 2, none⟩ = false := (HP.out ro w1 hp).1.zwb.frozen 2
      have hz2 : w1.cell? ⟨zw, 2, none⟩ = some (.pointer (some ⟨fw, 0, none⟩)) := (HP.out ro w1 hp).1.zwb.cell 2
      have hin : CloIn zw ob bw gb cw out dirv es cl P false (fun v => v = .pointer (some ⟨fw, 0, none⟩)) ro w1 w1 := ⟨hp, Kept.refl _ _, ⟨_, rfl, (HP.out ro w1 hp).1⟩, (HP.out ro w1 hp).2⟩
      have HIN := Lib.hid hin
      clear hin hp HC HP HZ z2 h6
      go_wp2_with fail
      refine Met.intro (hJ _ _ ⟨rfl, rfl, rfl, Lib.hid ⟨ro, w1, HIN.out.setZ 2 _ ?_⟩⟩)
      rintro l rfl
      exact ⟨_, rfl, by simp [zwCells]⟩
  case rest =>
  clear hlast HZ HP w
  rintro a' w0 ⟨hsz, hdf, g0, HR⟩
  obtain ⟨g, hg, rfl⟩ := frame_ex a' hsz hdf
  rw [← hg] at g0
  rw [g0]
  clear hg hsz hdf g0
  obtain ⟨ro, w, HIN⟩ := HR.out
  have HPW := Lib.hid HIN.1
  have hkw := HIN.2.1
  obtain ⟨⟨l0, rfl, hst⟩, hen⟩ := HIN.2.2
  have z0 : w0.cell? ⟨zw, 0, none⟩ = some (.pointer (some ⟨cw, 0, none⟩)) := hst.zwb.cell 0
  have z1 : w0.cell? ⟨zw, 1, none⟩ = some dirv := hst.zwb.cell 1
  have z3 : w0.cell? ⟨zw, 3, none⟩ = some (.bool false) := hst.zwb.cell 3
  have c1 : w0.cell? ⟨cw, 1, none⟩ = some (.int .i64 out.length) := hst.snk.cnt.cell 1
  have hz : ∀ i, w0.frozen? ⟨zw, i, none⟩ = false := hst.zwb.frozen
  have ncz : cw ≠ zw := hst.snk.cnt.ne_ hst.zwb (by decide)
  obtain ⟨DA, dc, hdv⟩ := own_sliceN hst.dir
  rw [List.length_map] at hdv
  subst hdv
  have HIN2 := Lib.hid HIN
  have HKW := Lib.hid hkw
  clear HIN hkw hst hen HR
  go_wp2_with fail
  refine atW (fun W => (WSt W zw ob bw gb cw ro out (.slice DA es.length dc) (.pointer none) (es.map (·.hb)) true ⟨cl.toArray⟩ ∧ (∀ e ∈ es, EntOk W (ob :: bw :: gb :: cw :: ro.toList) e)) ∧ Kept [zw] w W) ?_ ?_
  · obtain ⟨c1, c2, ⟨l, rfl, c3⟩, c4⟩ := HIN2.out.setZ (b' := true) (lv' := fun v => v = .pointer none) 3 (.bool true) (fun l hl => ⟨_, rfl, by subst hl; simp [zwCells]⟩)
    exact ⟨⟨c3, fun e he => ⟨(c4 e he).hbb, (c4 e he).fbb, (c4 e he).src.sub (fun x hx => List.mem_cons_of_mem _ hx)⟩⟩, c2⟩
  rintro wb ⟨⟨hwb, heb⟩, hkb⟩
  clear z0 z1 z3 c1 hz ncz
  have HKB := Lib.hid hkb
  have H := Lib.hid (And.intro hwb (And.intro heb (And.intro HFT.out hlen)))
  clear hwb heb hkb HIN2 HKW HFT
  refine wp_loop (CloWI zw (.slice DA es.length dc) es.length out.length (fun W k => Hid (CloSt wb W ob bw gb cw ro out es k))) (CloMu es.length) ?_ ?_
  · exact ⟨rfl, rfl, rfl, rfl, rfl, rfl, rfl, 0, Nat.zero_le _, rfl, Lib.hid ⟨ro, .inl rfl, by simpa [cenB] using H.out.1.snk, Kept.refl _ _⟩⟩
  · intro a wr hI
    obtain ⟨hsz, hdf, g0, g4, g5, g82, g83, k, hk, g84, HK⟩ := hI
    have hmu : CloMu es.length a wr = es.length - k := by unfold CloMu; rw [g84]; simp [intOf]
    rw [hmu]
    obtain ⟨g, hg, rfl⟩ := frame_ex a hsz hdf
    rw [← hg] at g0 g4 g5 g82 g83 g84
    rw [g0, g4, g5, g82, g83, g84]
    clear hg hsz hdf g0 g4 g5 g82 g83 g84 hmu
    by_cases hlt : k < es.length
    · have hek : k < es.length := hlt
      obtain ⟨e, hee⟩ : ∃ e, e = es[k] := ⟨_, rfl⟩
      obtain ⟨ro1, hr1, hs1, hk1⟩ := HK.out
      have hmem : e ∈ es := hee ▸ List.getElem_mem hek
      have hok := H.out.2.1 e hmem
      obtain ⟨hF, hpk, hsz, hof⟩ := H.out.2.2.1 e hmem
      have hS0 := H.out.1.snk
      have nhb := hS0.not hok.hbb (by decide) (by decide) (by decide) (by decide)
      have nfb := hS0.not hok.fbb (by decide) (by decide) (by decide) (by decide)
      have nzw := hS0.not H.out.1.zwb (by decide) (by decide) (by decide) (by decide)
      have ebb := hk1.blk hok.hbb nhb
      have efb := hk1.blk hok.fbb nfb
      have ezb := hk1.blk H.out.1.zwb nzw
      have esrc := hok.src.fresh hr1 hk1
      obtain ⟨g, hDA, hgc⟩ : ∃ g, DA = some ⟨g, 0, none⟩ ∧ wr.cell? ⟨g, k, none⟩ = some (.pointer (some ⟨e.hb, 0, none⟩)) := by
        have hd := owns_kept H.out.1.dir hk1 (fun g hg hm => H.out.1.dir_apart g hm (List.mem_cons_of_mem _ (Option.mem_toList.2 hg)))
        obtain ⟨g, cap, hv, _, _⟩ := hd.form (by simp; omega)
        injection hv with hA _ _
        subst hA
        refine ⟨g, rfl, ?_⟩
        have := hd.cells (g := g) rfl k (hptr e.hb) (by rw [hee]; simp [hek])
        rw [add_atW] at this
        simpa [hptr] using this
      subst hDA
      have hebl := ebb.lt
      have hefl := efb.lt
      have hnl : e.h.name.length ≤ 65535 := by have := hF.name; omega
      have hxl : e.h.extra.length ≤ 65535 := by have := hF.extra; omega
      have hcl : e.h.comment.length ≤ 65535 := by have := hF.comment; omega
      have hsz1 : (ByteArray.mk e.h.name.toArray).size = e.h.name.length := rfl
      have hsz2 : (ByteArray.mk e.h.comment.toArray).size = e.h.comment.length := rfl
      have HE := Lib.hid (And.intro ebb (And.intro efb (And.intro esrc ezb)))
      have HF := Lib.hid (And.intro hF hee)
      have HS := Lib.hid (And.intro hr1 (And.intro hs1 hk1))
      have HZN := Lib.hid (hs1.not ezb (by decide) (by decide) (by decide) (by decide))
      have HNT := Lib.hid (fun (W : World) (ro' : Option Nat) (X : List UInt8) (q1 : ro' = ro1 ∨ ∃ n, ro' = some n ∧ wr.heap.size ≤ n) (s : Snk W ob bw gb cw ro' X) (q : Kept (ob :: bw :: gb :: cw :: ro1.toList) wr W) => by
        have a1 := q.blk ebb (hs1.not ebb (by decide) (by decide) (by decide) (by decide))
        have a2 := q.blk efb (hs1.not efb (by decide) (by decide) (by decide) (by decide))
        have a3 := q.blk ezb (hs1.not ezb (by decide) (by decide) (by decide) (by decide))
        exact And.intro a1 (And.intro a2 (And.intro a3 (And.intro (s.not a1 (by decide) (by decide) (by decide) (by decide)) (And.intro (s.not a2 (by decide) (by decide) (by decide) (by decide)) (And.intro (s.not a3 (by decide) (by decide) (by decide) (by decide)) (esrc.fresh q1 q)))))))
      have kk := Lib.hid (Kept.refl [] wr)
      have d1 : decide ((4294967295 : Int) ≤ (e.h.packed : Int)) = false := by simp; omega
      have d2 : decide ((4294967295 : Int) ≤ (e.h.size : Int)) = false := by simp; omega
      have d3 : decide ((4294967295 : Int) ≤ (e.off : Int)) = false := by simp; omega
      have b1 : e.h.packed < 4294967296 := by omega
      have b2 : e.h.size < 4294967296 := by omega
      have b3 : e.off < 4294967296 := by omega
      have HM := Lib.hid (And.intro hpk (And.intro hsz (And.intro hof hlen)))
      clear hpk hsz hof hlen
      clear hF hee hr1 hs1 hk1 hS0 nhb nfb nzw ebb efb ezb esrc hok hmem HK
      have h0 : wr.cell? ⟨e.hb, 0, none⟩ = some (.pointer (some ⟨e.fb, 0, none⟩)) := (kk.out.blk HE.out.1 (by simp)).cell 0
      have f4 : wr.cell? ⟨e.fb, 4, none⟩ = some (.int .u16 e.h.reader) := (kk.out.blk HE.out.2.1 (by simp)).cell 4
      have f15 : wr.cell? ⟨e.fb, 15, none⟩ = some (.int .u64 e.h.packed) := (kk.out.blk HE.out.2.1 (by simp)).cell 15
      have f16 : wr.cell? ⟨e.fb, 16, none⟩ = some (.int .u64 e.h.size) := (kk.out.blk HE.out.2.1 (by simp)).cell 16
      have h1 : wr.cell? ⟨e.hb, 1, none⟩ = some (.int .u64 e.off) := (kk.out.blk HE.out.1 (by simp)).cell 1
      go_wp2_with fail
      clear d1 d2 d3
      refine callsW (fun W => Blk W (wr.heap.size + 1) 122 #[.slice (some ⟨wr.heap.size, 0, none⟩) 46 46] ∧ Blk W wr.heap.size 175 (putAll Z46 0 (([] : List UInt8).map byteV)) ∧ Kept [] wr W) ⟨Blk.new1 _ _ _ _, Blk.cast ((Blk.new _ _ _).alloc _) (by kernel_rfl), ((Kept.refl [] wr).alloc _).alloc _⟩ ?_
      clear h0 f4 f15 f16 h1
      clear hgc
      rintro w0 ⟨hr, hg, hk⟩
      have HX0 := Lib.hid (And.intro hr (And.intro hg hk))
      clear hr hg hk
      refine (wb32 (o := 0) (n := 46) (c := 46) HX0.out.1 HX0.out.2.1 (by omega) (by omega) (by omega) (by rw [putAll_size]; decide) (33639248) _ (by first | rfl | omega | (rw [IntKind.wrap_u16]; omega) | (rw [IntKind.wrap_u32]; omega)) (by decide)).mono ?_
      rintro e' w1 ⟨rfl, hg, ⟨o', ho, hr⟩, hk⟩
      obtain rfl : o' = 4 := ho.out (by decide)
      have hg2 := Blk.cast hg (put_next (A := []) (by simp))
      have hk2 := HX0.out.2.2.trans' hk (fun x hx => .inr (by simp at hx; omega))
      have h0 : w1.cell? ⟨e.hb, 0, none⟩ = some (.pointer (some ⟨e.fb, 0, none⟩)) := (hk2.blk HE.out.1 (by simp)).cell 0
      have f3 : w1.cell? ⟨e.fb, 3, none⟩ = some (.int .u16 e.h.creator) := (hk2.blk HE.out.2.1 (by simp)).cell 3
      have HX1 := Lib.hid (And.intro hr (And.intro hg2 hk2))
      clear hr hg hg2 hk hk2 ho
      go_wp2_with fail
      clear h0 f3
      refine (wb16 (o := 4) (n := 42) (c := 42) HX1.out.1 HX1.out.2.1 (by omega) (by omega) (by omega) (by rw [putAll_size]; decide) (e.h.creator) _ (by first | rfl | omega | (rw [IntKind.wrap_u16]; omega) | (rw [IntKind.wrap_u32]; omega)) (HF.out.1.creator)).mono ?_
      rintro e' w2 ⟨rfl, hg, ⟨o', ho, hr⟩, hk⟩
      obtain rfl : o' = 6 := ho.out (by decide)
      have hg2 := Blk.cast hg (put_next (A := [] ++ leB (33639248) 4) (by simp [leB_length]))
      have hk2 := HX1.out.2.2.trans' hk (fun x hx => .inr (by simp at hx; omega))
      have HX2 := Lib.hid (And.intro hr (And.intro hg2 hk2))
      clear hr hg hg2 hk hk2 ho
      go_wp2_with fail
      refine (wb16 (o := 6) (n := 40) (c := 40) HX2.out.1 HX2.out.2.1 (by omega) (by omega) (by omega) (by rw [putAll_size]; decide) (e.h.reader) _ (by first | rfl | omega | (rw [IntKind.wrap_u16]; omega) | (rw [IntKind.wrap_u32]; omega)) (HF.out.1.reader)).mono ?_
      rintro e' w3 ⟨rfl, hg, ⟨o', ho, hr⟩, hk⟩
      obtain rfl : o' = 8 := ho.out (by decide)
      have hg2 := Blk.cast hg (put_next (A := [] ++ leB (33639248) 4 ++ leB (e.h.creator) 2) (by simp [leB_length]))
      have hk2 := HX2.out.2.2.trans' hk (fun x hx => .inr (by simp at hx; omega))
      have h0 : w3.cell? ⟨e.hb, 0, none⟩ = some (.pointer (some ⟨e.fb, 0, none⟩)) := (hk2.blk HE.out.1 (by simp)).cell 0
      have f5 : w3.cell? ⟨e.fb, 5, none⟩ = some (.int .u16 e.h.flags) := (hk2.blk HE.out.2.1 (by simp)).cell 5
      have HX3 := Lib.hid (And.intro hr (And.intro hg2 hk2))
      clear hr hg hg2 hk hk2 ho
      go_wp2_with fail
      clear h0 f5
      refine (wb16 (o := 8) (n := 38) (c := 38) HX3.out.1 HX3.out.2.1 (by omega) (by omega) (by omega) (by rw [putAll_size]; decide) (e.h.flags) _ (by first | rfl | omega | (rw [IntKind.wrap_u16]; omega) | (rw [IntKind.wrap_u32]; omega)) (HF.out.1.flags)).mono ?_
      rintro e' w4 ⟨rfl, hg, ⟨o', ho, hr⟩, hk⟩
      obtain rfl : o' = 10 := ho.out (by decide)
      have hg2 := Blk.cast hg (put_next (A := [] ++ leB (33639248) 4 ++ leB (e.h.creator) 2 ++ leB (e.h.reader) 2) (by simp [leB_length]))
      have hk2 := HX3.out.2.2.trans' hk (fun x hx => .inr (by simp at hx; omega))
      have h0 : w4.cell? ⟨e.hb, 0, none⟩ = some (.pointer (some ⟨e.fb, 0, none⟩)) := (hk2.blk HE.out.1 (by simp)).cell 0
      have f6 : w4.cell? ⟨e.fb, 6, none⟩ = some (.int .u16 e.h.method) := (hk2.blk HE.out.2.1 (by simp)).cell 6
      have HX4 := Lib.hid (And.intro hr (And.intro hg2 hk2))
      clear hr hg hg2 hk hk2 ho
      go_wp2_with fail
      clear h0 f6
      refine (wb16 (o := 10) (n := 36) (c := 36) HX4.out.1 HX4.out.2.1 (by omega) (by omega) (by omega) (by rw [putAll_size]; decide) (e.h.method) _ (by first | rfl | omega | (rw [IntKind.wrap_u16]; omega) | (rw [IntKind.wrap_u32]; omega)) (HF.out.1.method)).mono ?_
      rintro e' w5 ⟨rfl, hg, ⟨o', ho, hr⟩, hk⟩
      obtain rfl : o' = 12 := ho.out (by decide)
      have hg2 := Blk.cast hg (put_next (A := [] ++ leB (33639248) 4 ++ leB (e.h.creator) 2 ++ leB (e.h.reader) 2 ++ leB (e.h.flags) 2) (by simp [leB_length]))
      have hk2 := HX4.out.2.2.trans' hk (fun x hx => .inr (by simp at hx; omega))
      have h0 : w5.cell? ⟨e.hb, 0, none⟩ = some (.pointer (some ⟨e.fb, 0, none⟩)) := (hk2.blk HE.out.1 (by simp)).cell 0
      have f10 : w5.cell? ⟨e.fb, 10, none⟩ = some (.int .u16 e.h.time) := (hk2.blk HE.out.2.1 (by simp)).cell 10
      have HX5 := Lib.hid (And.intro hr (And.intro hg2 hk2))
      clear hr hg hg2 hk hk2 ho
      go_wp2_with fail
      clear h0 f10
      refine (wb16 (o := 12) (n := 34) (c := 34) HX5.out.1 HX5.out.2.1 (by omega) (by omega) (by omega) (by rw [putAll_size]; decide) (e.h.time) _ (by first | rfl | omega | (rw [IntKind.wrap_u16]; omega) | (rw [IntKind.wrap_u32]; omega)) (HF.out.1.time)).mono ?_
      rintro e' w6 ⟨rfl, hg, ⟨o', ho, hr⟩, hk⟩
      obtain rfl : o' = 14 := ho.out (by decide)
      have hg2 := Blk.cast hg (put_next (A := [] ++ leB (33639248) 4 ++ leB (e.h.creator) 2 ++ leB (e.h.reader) 2 ++ leB (e.h.flags) 2 ++ leB (e.h.method) 2) (by simp [leB_length]))
      have hk2 := HX5.out.2.2.trans' hk (fun x hx => .inr (by simp at hx; omega))
      have h0 : w6.cell? ⟨e.hb, 0, none⟩ = some (.pointer (some ⟨e.fb, 0, none⟩)) := (hk2.blk HE.out.1 (by simp)).cell 0
      have f11 : w6.cell? ⟨e.fb, 11, none⟩ = some (.int .u16 e.h.date) := (hk2.blk HE.out.2.1 (by simp)).cell 11
      have HX6 := Lib.hid (And.intro hr (And.intro hg2 hk2))
      clear hr hg hg2 hk hk2 ho
      go_wp2_with fail
      clear h0 f11
      refine (wb16 (o := 14) (n := 32) (c := 32) HX6.out.1 HX6.out.2.1 (by omega) (by omega) (by omega) (by rw [putAll_size]; decide) (e.h.date) _ (by first | rfl | omega | (rw [IntKind.wrap_u16]; omega) | (rw [IntKind.wrap_u32]; omega)) (HF.out.1.date)).mono ?_
      rintro e' w7 ⟨rfl, hg, ⟨o', ho, hr⟩, hk⟩
      obtain rfl : o' = 16 := ho.out (by decide)
      have hg2 := Blk.cast hg (put_next (A := [] ++ leB (33639248) 4 ++ leB (e.h.creator) 2 ++ leB (e.h.reader) 2 ++ leB (e.h.flags) 2 ++ leB (e.h.method) 2 ++ leB (e.h.time) 2) (by simp [leB_length]))
      have hk2 := HX6.out.2.2.trans' hk (fun x hx => .inr (by simp at hx; omega))
      have h0 : w7.cell? ⟨e.hb, 0, none⟩ = some (.pointer (some ⟨e.fb, 0, none⟩)) := (hk2.blk HE.out.1 (by simp)).cell 0
      have f12 : w7.cell? ⟨e.fb, 12, none⟩ = some (.int .u32 e.h.crc) := (hk2.blk HE.out.2.1 (by simp)).cell 12
      have HX7 := Lib.hid (And.intro hr (And.intro hg2 hk2))
      clear hr hg hg2 hk hk2 ho
      go_wp2_with fail
      clear h0 f12
      refine (wb32 (o := 16) (n := 30) (c := 30) HX7.out.1 HX7.out.2.1 (by omega) (by omega) (by omega) (by rw [putAll_size]; decide) (e.h.crc) _ (by first | rfl | omega | (rw [IntKind.wrap_u16]; omega) | (rw [IntKind.wrap_u32]; omega)) (HF.out.1.crc)).mono ?_
      rintro e' w8 ⟨rfl, hg, ⟨o', ho, hr⟩, hk⟩
      obtain rfl : o' = 20 := ho.out (by decide)
      have hg2 := Blk.cast hg (put_next (A := [] ++ leB (33639248) 4 ++ leB (e.h.creator) 2 ++ leB (e.h.reader) 2 ++ leB (e.h.flags) 2 ++ leB (e.h.method) 2 ++ leB (e.h.time) 2 ++ leB (e.h.date) 2) (by simp [leB_length]))
      have hk2 := HX7.out.2.2.trans' hk (fun x hx => .inr (by simp at hx; omega))
      have h0 : w8.cell? ⟨e.hb, 0, none⟩ = some (.pointer (some ⟨e.fb, 0, none⟩)) := (hk2.blk HE.out.1 (by simp)).cell 0
      have f15 : w8.cell? ⟨e.fb, 15, none⟩ = some (.int .u64 e.h.packed) := (hk2.blk HE.out.2.1 (by simp)).cell 15
      have HX8 := Lib.hid (And.intro hr (And.intro hg2 hk2))
      clear hr hg hg2 hk hk2 ho
      go_wp2_with fail
      clear h0 f15
      refine (wb32 (o := 20) (n := 26) (c := 26) HX8.out.1 HX8.out.2.1 (by omega) (by omega) (by omega) (by rw [putAll_size]; decide) (e.h.packed) _ (by first | rfl | omega | (rw [IntKind.wrap_u16]; omega) | (rw [IntKind.wrap_u32]; omega)) (HF.out.1.packed)).mono ?_
      rintro e' w9 ⟨rfl, hg, ⟨o', ho, hr⟩, hk⟩
      obtain rfl : o' = 24 := ho.out (by decide)
      have hg2 := Blk.cast hg (put_next (A := [] ++ leB (33639248) 4 ++ leB (e.h.creator) 2 ++ leB (e.h.reader) 2 ++ leB (e.h.flags) 2 ++ leB (e.h.method) 2 ++ leB (e.h.time) 2 ++ leB (e.h.date) 2 ++ leB (e.h.crc) 4) (by simp [leB_length]))
      have hk2 := HX8.out.2.2.trans' hk (fun x hx => .inr (by simp at hx; omega))
      have h0 : w9.cell? ⟨e.hb, 0, none⟩ = some (.pointer (some ⟨e.fb, 0, none⟩)) := (hk2.blk HE.out.1 (by simp)).cell 0
      have f16 : w9.cell? ⟨e.fb, 16, none⟩ = some (.int .u64 e.h.size) := (hk2.blk HE.out.2.1 (by simp)).cell 16
      have HX9 := Lib.hid (And.intro hr (And.intro hg2 hk2))
      clear hr hg hg2 hk hk2 ho
      go_wp2_with fail
      clear h0 f16
      refine (wb32 (o := 24) (n := 22) (c := 22) HX9.out.1 HX9.out.2.1 (by omega) (by omega) (by omega) (by rw [putAll_size]; decide) (e.h.size) _ (by first | rfl | omega | (rw [IntKind.wrap_u16]; omega) | (rw [IntKind.wrap_u32]; omega)) (HF.out.1.size)).mono ?_
      rintro e' w10 ⟨rfl, hg, ⟨o', ho, hr⟩, hk⟩
      obtain rfl : o' = 28 := ho.out (by decide)
      have hg2 := Blk.cast hg (put_next (A := [] ++ leB (33639248) 4 ++ leB (e.h.creator) 2 ++ leB (e.h.reader) 2 ++ leB (e.h.flags) 2 ++ leB (e.h.method) 2 ++ leB (e.h.time) 2 ++ leB (e.h.date) 2 ++ leB (e.h.crc) 4 ++ leB (e.h.packed) 4) (by simp [leB_length]))
      have hk2 := HX9.out.2.2.trans' hk (fun x hx => .inr (by simp at hx; omega))
      have h0 : w10.cell? ⟨e.hb, 0, none⟩ = some (.pointer (some ⟨e.fb, 0, none⟩)) := (hk2.blk HE.out.1 (by simp)).cell 0
      have f0 : w10.cell? ⟨e.fb, 0, none⟩ = some (.string ⟨e.h.name.toArray⟩) := (hk2.blk HE.out.2.1 (by simp)).cell 0
      have HX10 := Lib.hid (And.intro hr (And.intro hg2 hk2))
      clear hr hg hg2 hk hk2 ho
      go_wp2_with fail
      clear h0 f0
      refine (wb16 (o := 28) (n := 18) (c := 18) HX10.out.1 HX10.out.2.1 (by omega) (by omega) (by omega) (by rw [putAll_size]; decide) (e.h.name.length) _ (by first | rfl | omega | (rw [IntKind.wrap_u16]; omega) | (rw [IntKind.wrap_u32]; omega)) (HF.out.1.name)).mono ?_
      rintro e' w11 ⟨rfl, hg, ⟨o', ho, hr⟩, hk⟩
      obtain rfl : o' = 30 := ho.out (by decide)
      have hg2 := Blk.cast hg (put_next (A := [] ++ leB (33639248) 4 ++ leB (e.h.creator) 2 ++ leB (e.h.reader) 2 ++ leB (e.h.flags) 2 ++ leB (e.h.method) 2 ++ leB (e.h.time) 2 ++ leB (e.h.date) 2 ++ leB (e.h.crc) 4 ++ leB (e.h.packed) 4 ++ leB (e.h.size) 4) (by simp [leB_length]))
      have hk2 := HX10.out.2.2.trans' hk (fun x hx => .inr (by simp at hx; omega))
      have h0 : w11.cell? ⟨e.hb, 0, none⟩ = some (.pointer (some ⟨e.fb, 0, none⟩)) := (hk2.blk HE.out.1 (by simp)).cell 0
      have f17 : w11.cell? ⟨e.fb, 17, none⟩ = some (.slice e.A e.h.extra.length e.ec) := (hk2.blk HE.out.2.1 (by simp)).cell 17
      have HX11 := Lib.hid (And.intro hr (And.intro hg2 hk2))
      clear hr hg hg2 hk hk2 ho
      go_wp2_with fail
      clear h0 f17
      refine (wb16 (o := 30) (n := 16) (c := 16) HX11.out.1 HX11.out.2.1 (by omega) (by omega) (by omega) (by rw [putAll_size]; decide) (e.h.extra.length) _ (by first | rfl | omega | (rw [IntKind.wrap_u16]; omega) | (rw [IntKind.wrap_u32]; omega)) (HF.out.1.extra)).mono ?_
      rintro e' w12 ⟨rfl, hg, ⟨o', ho, hr⟩, hk⟩
      obtain rfl : o' = 32 := ho.out (by decide)
      have hg2 := Blk.cast hg (put_next (A := [] ++ leB (33639248) 4 ++ leB (e.h.creator) 2 ++ leB (e.h.reader) 2 ++ leB (e.h.flags) 2 ++ leB (e.h.method) 2 ++ leB (e.h.time) 2 ++ leB (e.h.date) 2 ++ leB (e.h.crc) 4 ++ leB (e.h.packed) 4 ++ leB (e.h.size) 4 ++ leB (e.h.name.length) 2) (by simp [leB_length]))
      have hk2 := HX11.out.2.2.trans' hk (fun x hx => .inr (by simp at hx; omega))
      have h0 : w12.cell? ⟨e.hb, 0, none⟩ = some (.pointer (some ⟨e.fb, 0, none⟩)) := (hk2.blk HE.out.1 (by simp)).cell 0
      have f1 : w12.cell? ⟨e.fb, 1, none⟩ = some (.string ⟨e.h.comment.toArray⟩) := (hk2.blk HE.out.2.1 (by simp)).cell 1
      have HX12 := Lib.hid (And.intro hr (And.intro hg2 hk2))
      clear hr hg hg2 hk hk2 ho
      go_wp2_with fail
      clear h0 f1
      refine (wb16 (o := 32) (n := 14) (c := 14) HX12.out.1 HX12.out.2.1 (by omega) (by omega) (by omega) (by rw [putAll_size]; decide) (e.h.comment.length) _ (by first | rfl | omega | (rw [IntKind.wrap_u16]; omega) | (rw [IntKind.wrap_u32]; omega)) (HF.out.1.comment)).mono ?_
      rintro e' w13 ⟨rfl, hg, ⟨o', ho, hr⟩, hk⟩
      obtain rfl : o' = 34 := ho.out (by decide)
      have hg2 := Blk.cast hg (put_next (A := [] ++ leB (33639248) 4 ++ leB (e.h.creator) 2 ++ leB (e.h.reader) 2 ++ leB (e.h.flags) 2 ++ leB (e.h.method) 2 ++ leB (e.h.time) 2 ++ leB (e.h.date) 2 ++ leB (e.h.crc) 4 ++ leB (e.h.packed) 4 ++ leB (e.h.size) 4 ++ leB (e.h.name.length) 2 ++ leB (e.h.extra.length) 2) (by simp [leB_length]))
      have hk2 := HX12.out.2.2.trans' hk (fun x hx => .inr (by simp at hx; omega))
      have r0 : w13.cell? ⟨wr.heap.size + 1, 0, none⟩ = some (.slice (some ⟨wr.heap.size, 34, none⟩) 12 12) := hr.cell 0
      have rz : w13.frozen? ⟨wr.heap.size + 1, 0, none⟩ = false := hr.frozen 0
      have rne : e.hb ≠ wr.heap.size + 1 := by omega
      have rne2 : e.fb ≠ wr.heap.size + 1 := by omega
      have h0 : w13.cell? ⟨e.hb, 0, none⟩ = some (.pointer (some ⟨e.fb, 0, none⟩)) := (hk2.blk HE.out.1 (by simp)).cell 0
      have f18 : w13.cell? ⟨e.fb, 18, none⟩ = some (.int .u32 e.h.external) := (hk2.blk HE.out.2.1 (by simp)).cell 18
      have HX13 := Lib.hid (And.intro hr (And.intro hg2 hk2))
      clear hr hg hg2 hk hk2 ho
      go_wp2_with fail
      have hps := put_skip ([] ++ leB (33639248) 4 ++ leB (e.h.creator) 2 ++ leB (e.h.reader) 2 ++ leB (e.h.flags) 2 ++ leB (e.h.method) 2 ++ leB (e.h.time) 2 ++ leB (e.h.date) 2 ++ leB (e.h.crc) 4 ++ leB (e.h.packed) 4 ++ leB (e.h.size) 4 ++ leB (e.h.name.length) 2 ++ leB (e.h.extra.length) 2 ++ leB (e.h.comment.length) 2) (by simp only [List.length_append, leB_length, List.length_nil])
      have hq1 : Blk (w13.setCell ⟨wr.heap.size + 1, 0, none⟩ (.slice (some ⟨wr.heap.size, 38, none⟩) 8 8)) (wr.heap.size + 1) 122 #[.slice (some ⟨wr.heap.size, 38, none⟩) 8 8] := HX13.out.1.set_ 0 _
      have hq2 := Blk.cast (HX13.out.2.1.far (p := ⟨wr.heap.size + 1, 0, none⟩) (Nat.ne_of_lt (Nat.lt_succ_self _)) (.slice (some ⟨wr.heap.size, 38, none⟩) 8 8)) hps
      have hq3 : Kept [] wr (w13.setCell ⟨wr.heap.size + 1, 0, none⟩ (.slice (some ⟨wr.heap.size, 38, none⟩) 8 8)) := HX13.out.2.2.setCell (p := ⟨wr.heap.size + 1, 0, none⟩) (.inr (Nat.le_succ _)) _
      have HQ := Lib.hid (And.intro hq1 (And.intro hq2 hq3))
      clear hq1 hq2 hq3 hps
      generalize (w13.setCell ⟨wr.heap.size + 1, 0, none⟩ (.slice (some ⟨wr.heap.size, 38, none⟩) 8 8)) = w13b at HQ ⊢
      clear r0 rz rne rne2 HX13
      clear h0 f18
      have HX13 := HQ
      clear HQ
      refine (wb32 (o := 38) (n := 8) (c := 8) HX13.out.1 HX13.out.2.1 (by omega) (by omega) (by omega) (by rw [putAll_size]; decide) (e.h.external) _ (by first | rfl | omega | (rw [IntKind.wrap_u16]; omega) | (rw [IntKind.wrap_u32]; omega)) (HF.out.1.external)).mono ?_
      rintro e' w14 ⟨rfl, hg, ⟨o', ho, hr⟩, hk⟩
      obtain rfl : o' = 42 := ho.out (by decide)
      have hg2 := Blk.cast hg (put_next (A := [] ++ leB (33639248) 4 ++ leB (e.h.creator) 2 ++ leB (e.h.reader) 2 ++ leB (e.h.flags) 2 ++ leB (e.h.method) 2 ++ leB (e.h.time) 2 ++ leB (e.h.date) 2 ++ leB (e.h.crc) 4 ++ leB (e.h.packed) 4 ++ leB (e.h.size) 4 ++ leB (e.h.name.length) 2 ++ leB (e.h.extra.length) 2 ++ leB (e.h.comment.length) 2 ++ [0, 0, 0, 0]) (by simp [leB_length]))
      have hk2 := HX13.out.2.2.trans' hk (fun x hx => .inr (by simp at hx; omega))
      have h1 : w14.cell? ⟨e.hb, 1, none⟩ = some (.int .u64 e.off) := (hk2.blk HE.out.1 (by simp)).cell 1
      have HX14 := Lib.hid (And.intro hr (And.intro hg2 hk2))
      clear hr hg hg2 hk hk2 ho
      go_wp2_with fail
      clear h1
      refine (wb32 (o := 42) (n := 4) (c := 4) HX14.out.1 HX14.out.2.1 (by omega) (by omega) (by omega) (by rw [putAll_size]; decide) (e.off) _ (by first | rfl | omega | (rw [IntKind.wrap_u16]; omega) | (rw [IntKind.wrap_u32]; omega)) (by omega)).mono ?_
      rintro e' w15 ⟨rfl, hg, ⟨o', ho, hr⟩, hk⟩
      have hg2 := Blk.cast hg (put_next (A := [] ++ leB (33639248) 4 ++ leB (e.h.creator) 2 ++ leB (e.h.reader) 2 ++ leB (e.h.flags) 2 ++ leB (e.h.method) 2 ++ leB (e.h.time) 2 ++ leB (e.h.date) 2 ++ leB (e.h.crc) 4 ++ leB (e.h.packed) 4 ++ leB (e.h.size) 4 ++ leB (e.h.name.length) 2 ++ leB (e.h.extra.length) 2 ++ leB (e.h.comment.length) 2 ++ [0, 0, 0, 0] ++ leB (e.h.external) 4) (by simp [leB_length]))
      have hk2 := HX14.out.2.2.trans' hk (fun x hx => .inr (by simp at hx; omega))
      have z0 : w15.cell? ⟨zw, 0, none⟩ = some (.pointer (some ⟨cw, 0, none⟩)) := (hk2.blk HE.out.2.2.2 (by simp)).cell 0
      have HX15 := Lib.hid (And.intro hr (And.intro hg2 hk2))
      clear hr hg hg2 hk hk2 ho
      go_wp2_with fail
      have S15 : Snk w15 ob bw gb cw ro1 (out ++ cenB (es.take k)) := HS.out.2.1.kept HX15.out.2.2 (by simp) (by simp) (by simp) (by simp) (by simp)
      have hbuf : Reads w15 w15.heap.size 1 (some ⟨wr.heap.size, 0, none⟩) 46 (([] ++ leB (33639248) 4 ++ leB (e.h.creator) 2 ++ leB (e.h.reader) 2 ++ leB (e.h.flags) 2 ++ leB (e.h.method) 2 ++ leB (e.h.time) 2 ++ leB (e.h.date) 2 ++ leB (e.h.crc) 4 ++ leB (e.h.packed) 4 ++ leB (e.h.size) 4 ++ leB (e.h.name.length) 2 ++ leB (e.h.extra.length) 2 ++ leB (e.h.comment.length) 2 ++ [0, 0, 0, 0] ++ leB (e.h.external) 4 ++ leB (e.off) 4).map byteV) := by
        have e1 := put_whole Z46 ([] ++ leB (33639248) 4 ++ leB (e.h.creator) 2 ++ leB (e.h.reader) 2 ++ leB (e.h.flags) 2 ++ leB (e.h.method) 2 ++ leB (e.h.time) 2 ++ leB (e.h.date) 2 ++ leB (e.h.crc) 4 ++ leB (e.h.packed) 4 ++ leB (e.h.size) 4 ++ leB (e.h.name.length) 2 ++ leB (e.h.extra.length) 2 ++ leB (e.h.comment.length) 2 ++ [0, 0, 0, 0] ++ leB (e.h.external) 4 ++ leB (e.off) 4) (by simp [leB_length, Z46])
        have := readsT (Blk.cast HX15.out.2.1 e1) 0 46 (by simp [leB_length])
        rw [List.drop_zero, List.take_of_length_le (by simp [leB_length])] at this
        exact this
      have HC := Lib.hid (Cw_write S15.drew (some ⟨wr.heap.size, 0, none⟩) 46 46 ([] ++ leB (33639248) 4 ++ leB (e.h.creator) 2 ++ leB (e.h.reader) 2 ++ leB (e.h.flags) 2 ++ leB (e.h.method) 2 ++ leB (e.h.time) 2 ++ leB (e.h.date) 2 ++ leB (e.h.crc) 4 ++ leB (e.h.packed) 4 ++ leB (e.h.size) 4 ++ leB (e.h.name.length) 2 ++ leB (e.h.extra.length) 2 ++ leB (e.h.comment.length) 2 ++ [0, 0, 0, 0] ++ leB (e.h.external) 4 ++ leB (e.off) 4) (by decide) hbuf.drew (fun ad e1 _ => by injection e1 with e1; subst e1; exact fun hm => Nat.lt_irrefl _ (HS.out.2.1.lt _ hm)) (by have := HBND.out k hek; rw [HF.out.2.symm] at this; simp [leB_length] at this ⊢; omega))
      clear hbuf S15
      apply passW (fun W => ∃ ro', (ro' = ro1 ∨ ∃ n, ro' = some n ∧ wr.heap.size ≤ n) ∧ Snk W ob bw gb cw ro' (out ++ cenB (es.take k) ++ ([] ++ leB (33639248) 4 ++ leB (e.h.creator) 2 ++ leB (e.h.reader) 2 ++ leB (e.h.flags) 2 ++ leB (e.h.method) 2 ++ leB (e.h.time) 2 ++ leB (e.h.date) 2 ++ leB (e.h.crc) 4 ++ leB (e.h.packed) 4 ++ leB (e.h.size) 4 ++ leB (e.h.name.length) 2 ++ leB (e.h.extra.length) 2 ++ leB (e.h.comment.length) 2 ++ [0, 0, 0, 0] ++ leB (e.h.external) 4 ++ leB (e.off) 4)) ∧ Kept (ob :: bw :: gb :: cw :: ro1.toList) wr W)
      case k =>
        intro key
        have KEY := Lib.hid key
        clear key
        go_region_held3 (fun w' => w'.cell? ⟨zw, 0, none⟩ = some (.pointer (some ⟨cw, 0, none⟩)))
          (first
            | exact z0
            | exact kz)
          ((go_at_call 81
            refine HC.out.mono ?_
            rintro e' w1 ⟨rfl, hx⟩
            have kz : w1.cell? ⟨zw, 0, none⟩ = some (.pointer (some ⟨cw, 0, none⟩)) := by obtain ⟨_, _, hs, hk⟩ := hx; exact (hk.blk (HX15.out.2.2.blk HE.out.2.2.2 (by simp)) HZN.out).cell 0
            have HY := Lib.hid hx
            clear hx))
        all_goals
          obtain ⟨ro', q1, q2, q3⟩ := HY.out
          exact KEY.out _ ⟨ro', fresh_trans (.inl rfl) q1 HX15.out.2.2.size, q2, (HX15.out.2.2.mono (by simp)).trans (((Kept.refl _ w15).drew).trans q3)⟩
      clear HC z0
      rintro w16 ⟨ro2, hr2, hs2, hk2⟩
      have HX16 := Lib.hid (And.intro hr2 (And.intro hs2 hk2))
      have nh := HNT.out w16 ro2 _ hr2 hs2 hk2
      have NH := Lib.hid nh
      clear hr2 hs2 hk2 nh
      have z0 : w16.cell? ⟨zw, 0, none⟩ = some (.pointer (some ⟨cw, 0, none⟩)) := NH.out.2.2.1.cell 0
      have h0 : w16.cell? ⟨e.hb, 0, none⟩ = some (.pointer (some ⟨e.fb, 0, none⟩)) := NH.out.1.cell 0
      have fC : w16.cell? ⟨e.fb, 0, none⟩ = some (.string ⟨e.h.name.toArray⟩) := NH.out.2.1.cell 0
      have hcv := fun W => run_bytes_of_string (P := Tryd.prog) W 9 30 5 ⟨e.h.name.toArray⟩ Tryd.underlying9 Tryd.underlying30 Tryd.underlying5
      go_wp2_with fail
      have S12 := HX16.out.2.1
      have HC2 := Lib.hid (fun c m => Cw_write (w := ((w16.alloc (.cells (bytesRow ⟨e.h.name.toArray⟩ c) 5 m)).drew.drew)) ((S12.kept ((((Kept.refl [] w16).alloc _).drew).drew) (by simp) (by simp) (by simp) (by simp) (by simp))) (some ⟨w16.heap.size, 0, none⟩) e.h.name.length (max c e.h.name.length) e.h.name (Nat.le_max_right _ _) (reads_conv e.h.name c m) (fun ad e1 _ => by injection e1 with e1; subst e1; exact fun hm => Nat.lt_irrefl _ (S12.lt _ hm)) (by have := HBND.out k hek; rw [HF.out.2.symm] at this; simp [leB_length] at this ⊢; omega))
      have hgc : ∀ W : World, max (grownCap W e.h.name.length 0 5) e.h.name.length = grownCap W e.h.name.length 0 5 := fun W => Nat.max_eq_left (grownCap_ge _ _ _ _)
      have HGC := Lib.hid hgc
      clear S12 hgc
      apply passW (fun W => ∃ ro', (ro' = ro2 ∨ ∃ n, ro' = some n ∧ w16.heap.size ≤ n) ∧ Snk W ob bw gb cw ro' (out ++ cenB (es.take k) ++ ([] ++ leB (33639248) 4 ++ leB (e.h.creator) 2 ++ leB (e.h.reader) 2 ++ leB (e.h.flags) 2 ++ leB (e.h.method) 2 ++ leB (e.h.time) 2 ++ leB (e.h.date) 2 ++ leB (e.h.crc) 4 ++ leB (e.h.packed) 4 ++ leB (e.h.size) 4 ++ leB (e.h.name.length) 2 ++ leB (e.h.extra.length) 2 ++ leB (e.h.comment.length) 2 ++ [0, 0, 0, 0] ++ leB (e.h.external) 4 ++ leB (e.off) 4) ++ e.h.name) ∧ Kept (ob :: bw :: gb :: cw :: ro2.toList) w16 W)
      case k =>
        intro key
        have KEY := Lib.hid key
        clear key
        refine wp_region_held_drew (S := fun w' => w'.cell? ⟨zw, 0, none⟩ = some (.pointer (some ⟨cw, 0, none⟩)) ∧ w'.cell? ⟨e.hb, 0, none⟩ = some (.pointer (some ⟨e.fb, 0, none⟩)) ∧ w'.cell? ⟨e.fb, 0, none⟩ = some (.string ⟨e.h.name.toArray⟩)) (by kernel_rfl) ?_ (fun hHeld => ?_)
        · (try dsimp only)
          exact ⟨z0, h0, fC⟩
        (refine wpAnyH_take (i := 0) (v := ?_) rfl (by kernel_rfl) (by kernel_rfl) (by kernel_rfl) (fun _ _ _ h => h) (Or.inl ⟨by rfl, ?_⟩) (by assumption) ?_; rotate_left)
        · (intro w hSw; (try dsimp only at hSw); go_simp; try with_reducible rfl)
        (try simp only [Act.put, List.setIfInBounds_toArray, List.set_cons_zero, List.set_cons_succ])
        (refine wpAnyH_take (i := 1) (v := ?_) rfl (by kernel_rfl) (by kernel_rfl) (by kernel_rfl) (fun _ _ _ h => h) (Or.inl ⟨by rfl, ?_⟩) (by assumption) ?_; rotate_left)
        · (intro w hSw; (try dsimp only at hSw); go_simp; try with_reducible rfl)
        (try simp only [Act.put, List.setIfInBounds_toArray, List.set_cons_zero, List.set_cons_succ])
        (refine wpAnyH_take (i := 2) (v := ?_) rfl (by kernel_rfl) (by kernel_rfl) (by kernel_rfl) (fun _ _ _ h => h) (Or.inl ⟨by rfl, ?_⟩) (by assumption) ?_; rotate_left)
        · (intro w hSw; (try dsimp only at hSw); go_simp; try with_reducible rfl)
        (try simp only [Act.put, List.setIfInBounds_toArray, List.set_cons_zero, List.set_cons_succ])
        (refine wpAnyH_take (i := 3) (v := ?_) rfl (by kernel_rfl) (by kernel_rfl) (by kernel_rfl) (fun _ _ _ h => h) (Or.inl ⟨by rfl, ?_⟩) (by assumption) ?_; rotate_left)
        · (intro w hSw; (try dsimp only at hSw); go_simp; try with_reducible rfl)
        (try simp only [Act.put, List.setIfInBounds_toArray, List.set_cons_zero, List.set_cons_succ])
        (refine wpAnyH_take (i := 4) (v := ?_) rfl (by kernel_rfl) (by kernel_rfl) (by kernel_rfl) (fun _ _ _ h => h) (Or.inl ⟨by rfl, ?_⟩) (by assumption) ?_; rotate_left)
        · (intro w hSw; (try dsimp only at hSw); go_simp; try with_reducible rfl)
        (try simp only [Act.put, List.setIfInBounds_toArray, List.set_cons_zero, List.set_cons_succ])
        (refine wpAnyH_take (i := 5) (v := ?_) rfl (by kernel_rfl) (by kernel_rfl) (by kernel_rfl) (fun _ _ _ h => h) (Or.inl ⟨by rfl, ?_⟩) (by assumption) ?_; rotate_left)
        · (intro w hSw; (try dsimp only at hSw); go_simp; try with_reducible rfl)
        (try simp only [Act.put, List.setIfInBounds_toArray, List.set_cons_zero, List.set_cons_succ])
        (refine wpAnyH_take (i := 6) (v := ?_) rfl (by kernel_rfl) (by kernel_rfl) (by kernel_rfl) (fun _ _ _ h => h) (Or.inl ⟨by rfl, ?_⟩) (by assumption) ?_; rotate_left)
        · (intro w hSw; (try dsimp only at hSw); go_simp; try with_reducible rfl)
        (try simp only [Act.put, List.setIfInBounds_toArray, List.set_cons_zero, List.set_cons_succ])
        (refine wpAnyH_take (i := 7) (v := ?_) rfl (by kernel_rfl) (by kernel_rfl) (by kernel_rfl) (fun _ _ _ h => h) (Or.inl ⟨by rfl, ?_⟩) (by assumption) ?_; rotate_left)
        · (intro w hSw; (try dsimp only at hSw); go_simp; try with_reducible rfl)
        (try simp only [Act.put, List.setIfInBounds_toArray, List.set_cons_zero, List.set_cons_succ])
        (refine wpAnyH_take (i := 8) (v := ?_) rfl (by kernel_rfl) (by kernel_rfl) (by kernel_rfl) (fun _ _ _ h => h) (Or.inl ⟨by rfl, ?_⟩) (by assumption) ?_; rotate_left)
        · (intro w hSw; (try dsimp only at hSw); go_simp; try with_reducible rfl)
        (try simp only [Act.put, List.setIfInBounds_toArray, List.set_cons_zero, List.set_cons_succ])
        (refine wpAnyH_take (i := 9) (v := ?_) rfl (by kernel_rfl) (by kernel_rfl) (by kernel_rfl) (fun _ _ _ h => h) (Or.inl ⟨by rfl, ?_⟩) (by assumption) ?_; rotate_left)
        · (intro w hSw; (try dsimp only at hSw); go_simp; try with_reducible rfl)
        (try simp only [Act.put, List.setIfInBounds_toArray, List.set_cons_zero, List.set_cons_succ])
        (refine wpAnyH_take (i := 10) (v := ?_) rfl (by kernel_rfl) (by kernel_rfl) (by kernel_rfl) (fun _ _ _ h => h) (Or.inl ⟨by rfl, ?_⟩) (by assumption) ?_; rotate_left)
        · (intro w hSw; (try dsimp only at hSw); go_simp; try with_reducible rfl)
        (try simp only [Act.put, List.setIfInBounds_toArray, List.set_cons_zero, List.set_cons_succ])
        refine wpAnyH_ready (rs := [11]) (by kernel_rfl) (by simp) ?_
        refine AllReadyH.cons rfl (fun K hK => ?_) AllReadyH.nil
        go_simp
        refine hK.out _ _ ?_ (fun hHeld => ?_)
        · (try dsimp only)
          exact ⟨(((NH.out.2.2.1.alloc _).drew).drew).cell 0, (((NH.out.1.alloc _).drew).drew).cell 0, (((NH.out.2.1.alloc _).drew).drew).cell 0⟩
        clear hK K
        (try simp only [Act.put, List.setIfInBounds_toArray, List.set_cons_zero, List.set_cons_succ])
        refine wpAnyH_ready (rs := [12]) (by kernel_rfl) (by simp) ?_
        refine AllReadyH.cons rfl (fun K hK => ?_) AllReadyH.nil
        go_simp
        have HC3 := HC2.out (grownCap w16.drew e.h.name.length 0 5) ((bytesRow { data := e.h.name.toArray } (grownCap w16.drew e.h.name.length 0 5)).size, (bytesRow { data := e.h.name.toArray } (grownCap w16.drew e.h.name.length 0 5)).size + 1)
        rw [HGC.out] at HC3
        refine HC3.mono ?_
        rintro e' w1 ⟨rfl, hx⟩
        have k0 : w1.cell? ⟨zw, 0, none⟩ = some (.pointer (some ⟨cw, 0, none⟩)) := by obtain ⟨_, _, _, hk⟩ := hx; exact (hk.blk (((NH.out.2.2.1.alloc _).drew).drew) NH.out.2.2.2.2.2.1).cell 0
        have k1 : w1.cell? ⟨e.hb, 0, none⟩ = some (.pointer (some ⟨e.fb, 0, none⟩)) := by obtain ⟨_, _, _, hk⟩ := hx; exact (hk.blk (((NH.out.1.alloc _).drew).drew) NH.out.2.2.2.1).cell 0
        have k2 : w1.cell? ⟨e.fb, 0, none⟩ = some (.string ⟨e.h.name.toArray⟩) := by obtain ⟨_, _, _, hk⟩ := hx; exact (hk.blk (((NH.out.2.1.alloc _).drew).drew) NH.out.2.2.2.2.1).cell 0
        have HY := Lib.hid hx
        clear hx HC3
        refine hK.out _ _ ?_ (fun hHeld => ?_)
        · (try dsimp only)
          exact ⟨k0, k1, k2⟩
        clear hK K
        (try simp only [Act.put, List.setIfInBounds_toArray, List.set_cons_zero, List.set_cons_succ])
        (refine wpAnyH_take (i := 13) (v := ?_) rfl (by kernel_rfl) (by kernel_rfl) (by kernel_rfl) (fun _ _ _ h => h) (Or.inl ⟨by rfl, ?_⟩) (by assumption) ?_; rotate_left)
        · (intro w hSw; (try dsimp only at hSw); go_simp; try with_reducible rfl)
        (try simp only [Act.put, List.setIfInBounds_toArray, List.set_cons_zero, List.set_cons_succ])
        (refine wpAnyH_take (i := 14) (v := ?_) rfl (by kernel_rfl) (by kernel_rfl) (by kernel_rfl) (fun _ _ _ h => h) (Or.inl ⟨by rfl, ?_⟩) (by assumption) ?_; rotate_left)
        · (intro w hSw; (try dsimp only at hSw); go_simp; try with_reducible rfl)
        (try simp only [Act.put, List.setIfInBounds_toArray, List.set_cons_zero, List.set_cons_succ])
        (refine wpAnyH_take (i := 15) (v := ?_) rfl (by kernel_rfl) (by kernel_rfl) (by kernel_rfl) (fun _ _ _ h => h) (Or.inl ⟨by rfl, ?_⟩) (by assumption) ?_; rotate_left)
        · (intro w hSw; (try dsimp only at hSw); go_simp; try with_reducible rfl)
        (try simp only [Act.put, List.setIfInBounds_toArray, List.set_cons_zero, List.set_cons_succ])
        (refine wpAnyH_take (i := 16) (v := ?_) rfl (by kernel_rfl) (by kernel_rfl) (by kernel_rfl) (fun _ _ _ h => h) (Or.inl ⟨by rfl, ?_⟩) (by assumption) ?_; rotate_left)
        · (intro w hSw; (try dsimp only at hSw); go_simp; try with_reducible rfl)
        (try simp only [Act.put, List.setIfInBounds_toArray, List.set_cons_zero, List.set_cons_succ])
        (refine wpAnyH_take (i := 17) (v := ?_) rfl (by kernel_rfl) (by kernel_rfl) (by kernel_rfl) (fun _ _ _ h => h) (Or.inl ⟨by rfl, ?_⟩) (by assumption) ?_; rotate_left)
        · (intro w hSw; (try dsimp only at hSw); go_simp; try with_reducible rfl)
        (try simp only [Act.put, List.setIfInBounds_toArray, List.set_cons_zero, List.set_cons_succ])
        refine wpAnyH_done (by kernel_rfl) ?_ _
        all_goals
          obtain ⟨ro', h1, h2, h3⟩ := HY.out
          refine KEY.out _ ⟨ro', ?_, h2, (((((Kept.refl _ w16).alloc _).drew).drew).trans h3)⟩
          rcases h1 with h1 | ⟨n, h1, hn⟩
          · exact .inl h1
          · exact .inr ⟨n, h1, Nat.le_trans (by simp) hn⟩
      clear HC2 h0 fC z0 HGC hcv
      rintro w17 ⟨ro3, pr, ps, pk⟩
      obtain ⟨hr3, hs3, hk3⟩ := KJ HX16.out.1 HX16.out.2.2 pr ps pk
      clear pr ps pk HX16 NH
      have HX17 := Lib.hid (And.intro hr3 (And.intro hs3 hk3))
      have nh := HNT.out w17 ro3 _ hr3 hs3 hk3
      have NH := Lib.hid nh
      clear hr3 hs3 hk3 nh
      have z0 : w17.cell? ⟨zw, 0, none⟩ = some (.pointer (some ⟨cw, 0, none⟩)) := NH.out.2.2.1.cell 0
      have h0 : w17.cell? ⟨e.hb, 0, none⟩ = some (.pointer (some ⟨e.fb, 0, none⟩)) := NH.out.1.cell 0
      have fC : w17.cell? ⟨e.fb, 17, none⟩ = some (.slice e.A e.h.extra.length e.ec) := NH.out.2.1.cell 17
      have hfr := NH.out.2.2.2.2.2.2
      have HC := Lib.hid (Cw_write HX17.out.2.1.drew e.A e.h.extra.length e.ec e.h.extra hfr.cap hfr.reads.drew (fun ad e1 hp hm => hfr.apart ad e1 hp (mem_cw hm)) (by have := HBND.out k hek; rw [HF.out.2.symm] at this; simp [leB_length] at this ⊢; omega))
      clear hfr
      go_wp2_with fail
      apply passW (fun W => ∃ ro', (ro' = ro3 ∨ ∃ n, ro' = some n ∧ w17.heap.size ≤ n) ∧ Snk W ob bw gb cw ro' (out ++ cenB (es.take k) ++ ([] ++ leB (33639248) 4 ++ leB (e.h.creator) 2 ++ leB (e.h.reader) 2 ++ leB (e.h.flags) 2 ++ leB (e.h.method) 2 ++ leB (e.h.time) 2 ++ leB (e.h.date) 2 ++ leB (e.h.crc) 4 ++ leB (e.h.packed) 4 ++ leB (e.h.size) 4 ++ leB (e.h.name.length) 2 ++ leB (e.h.extra.length) 2 ++ leB (e.h.comment.length) 2 ++ [0, 0, 0, 0] ++ leB (e.h.external) 4 ++ leB (e.off) 4) ++ e.h.name ++ e.h.extra) ∧ Kept (ob :: bw :: gb :: cw :: ro3.toList) w17 W)
      case k =>
        intro key
        have KEY := Lib.hid key
        clear key
        go_region_held3 (fun w' => w'.cell? ⟨zw, 0, none⟩ = some (.pointer (some ⟨cw, 0, none⟩)) ∧ w'.cell? ⟨e.hb, 0, none⟩ = some (.pointer (some ⟨e.fb, 0, none⟩)) ∧ w'.cell? ⟨e.fb, 17, none⟩ = some (.slice e.A e.h.extra.length e.ec))
          (first
            | exact ⟨z0, h0, fC⟩
            | exact ⟨k0, k1, k2⟩)
          ((go_at_call 81
            refine HC.out.mono ?_
            rintro e' w1 ⟨rfl, hx⟩
            have k0 : w1.cell? ⟨zw, 0, none⟩ = some (.pointer (some ⟨cw, 0, none⟩)) := by obtain ⟨_, _, _, hk⟩ := hx; exact (hk.blk (NH.out.2.2.1.drew) NH.out.2.2.2.2.2.1).cell 0
            have k1 : w1.cell? ⟨e.hb, 0, none⟩ = some (.pointer (some ⟨e.fb, 0, none⟩)) := by obtain ⟨_, _, _, hk⟩ := hx; exact (hk.blk (NH.out.1.drew) NH.out.2.2.2.1).cell 0
            have k2 : w1.cell? ⟨e.fb, 17, none⟩ = some (.slice e.A e.h.extra.length e.ec) := by obtain ⟨_, _, _, hk⟩ := hx; exact (hk.blk (NH.out.2.1.drew) NH.out.2.2.2.2.1).cell 17
            have HY := Lib.hid hx
            clear hx))
        all_goals
          obtain ⟨ro', q1, q2, q3⟩ := HY.out
          exact KEY.out _ ⟨ro', q1, q2, ((Kept.refl _ _).drew).trans q3⟩
      clear HC h0 fC z0
      rintro w18 ⟨ro4, pr, ps, pk⟩
      obtain ⟨hr4, hs4, hk4⟩ := KJ HX17.out.1 HX17.out.2.2 pr ps pk
      clear pr ps pk HX17 NH
      have HX18 := Lib.hid (And.intro hr4 (And.intro hs4 hk4))
      have nh := HNT.out w18 ro4 _ hr4 hs4 hk4
      have NH := Lib.hid nh
      clear hr4 hs4 hk4 nh
      have z0 : w18.cell? ⟨zw, 0, none⟩ = some (.pointer (some ⟨cw, 0, none⟩)) := NH.out.2.2.1.cell 0
      have h0 : w18.cell? ⟨e.hb, 0, none⟩ = some (.pointer (some ⟨e.fb, 0, none⟩)) := NH.out.1.cell 0
      have fC : w18.cell? ⟨e.fb, 1, none⟩ = some (.string ⟨e.h.comment.toArray⟩) := NH.out.2.1.cell 1
      have hcv := fun W => run_bytes_of_string (P := Tryd.prog) W 9 30 5 ⟨e.h.comment.toArray⟩ Tryd.underlying9 Tryd.underlying30 Tryd.underlying5
      go_wp2_with fail
      have S12 := HX18.out.2.1
      have HC2 := Lib.hid (fun c m => Cw_write (w := ((w18.alloc (.cells (bytesRow ⟨e.h.comment.toArray⟩ c) 5 m)).drew.drew)) ((S12.kept ((((Kept.refl [] w18).alloc _).drew).drew) (by simp) (by simp) (by simp) (by simp) (by simp))) (some ⟨w18.heap.size, 0, none⟩) e.h.comment.length (max c e.h.comment.length) e.h.comment (Nat.le_max_right _ _) (reads_conv e.h.comment c m) (fun ad e1 _ => by injection e1 with e1; subst e1; exact fun hm => Nat.lt_irrefl _ (S12.lt _ hm)) (by have := HBND.out k hek; rw [HF.out.2.symm] at this; simp [leB_length] at this ⊢; omega))
      have hgc : ∀ W : World, max (grownCap W e.h.comment.length 0 5) e.h.comment.length = grownCap W e.h.comment.length 0 5 := fun W => Nat.max_eq_left (grownCap_ge _ _ _ _)
      have HGC := Lib.hid hgc
      clear S12 hgc
      apply passW (fun W => ∃ ro', (ro' = ro4 ∨ ∃ n, ro' = some n ∧ w18.heap.size ≤ n) ∧ Snk W ob bw gb cw ro' (out ++ cenB (es.take k) ++ ([] ++ leB (33639248) 4 ++ leB (e.h.creator) 2 ++ leB (e.h.reader) 2 ++ leB (e.h.flags) 2 ++ leB (e.h.method) 2 ++ leB (e.h.time) 2 ++ leB (e.h.date) 2 ++ leB (e.h.crc) 4 ++ leB (e.h.packed) 4 ++ leB (e.h.size) 4 ++ leB (e.h.name.length) 2 ++ leB (e.h.extra.length) 2 ++ leB (e.h.comment.length) 2 ++ [0, 0, 0, 0] ++ leB (e.h.external) 4 ++ leB (e.off) 4) ++ e.h.name ++ e.h.extra ++ e.h.comment) ∧ Kept (ob :: bw :: gb :: cw :: ro4.toList) w18 W)
      case k =>
        intro key
        have KEY := Lib.hid key
        clear key
        refine wp_region_held_drew (S := fun w' => w'.cell? ⟨zw, 0, none⟩ = some (.pointer (some ⟨cw, 0, none⟩)) ∧ w'.cell? ⟨e.hb, 0, none⟩ = some (.pointer (some ⟨e.fb, 0, none⟩)) ∧ w'.cell? ⟨e.fb, 1, none⟩ = some (.string ⟨e.h.comment.toArray⟩)) (by kernel_rfl) ?_ (fun hHeld => ?_)
        · (try dsimp only)
          exact ⟨z0, h0, fC⟩
        (refine wpAnyH_take (i := 0) (v := ?_) rfl (by kernel_rfl) (by kernel_rfl) (by kernel_rfl) (fun _ _ _ h => h) (Or.inl ⟨by rfl, ?_⟩) (by assumption) ?_; rotate_left)
        · (intro w hSw; (try dsimp only at hSw); go_simp; try with_reducible rfl)
        (try simp only [Act.put, List.setIfInBounds_toArray, List.set_cons_zero, List.set_cons_succ])
        (refine wpAnyH_take (i := 1) (v := ?_) rfl (by kernel_rfl) (by kernel_rfl) (by kernel_rfl) (fun _ _ _ h => h) (Or.inl ⟨by rfl, ?_⟩) (by assumption) ?_; rotate_left)
        · (intro w hSw; (try dsimp only at hSw); go_simp; try with_reducible rfl)
        (try simp only [Act.put, List.setIfInBounds_toArray, List.set_cons_zero, List.set_cons_succ])
        (refine wpAnyH_take (i := 2) (v := ?_) rfl (by kernel_rfl) (by kernel_rfl) (by kernel_rfl) (fun _ _ _ h => h) (Or.inl ⟨by rfl, ?_⟩) (by assumption) ?_; rotate_left)
        · (intro w hSw; (try dsimp only at hSw); go_simp; try with_reducible rfl)
        (try simp only [Act.put, List.setIfInBounds_toArray, List.set_cons_zero, List.set_cons_succ])
        (refine wpAnyH_take (i := 3) (v := ?_) rfl (by kernel_rfl) (by kernel_rfl) (by kernel_rfl) (fun _ _ _ h => h) (Or.inl ⟨by rfl, ?_⟩) (by assumption) ?_; rotate_left)
        · (intro w hSw; (try dsimp only at hSw); go_simp; try with_reducible rfl)
        (try simp only [Act.put, List.setIfInBounds_toArray, List.set_cons_zero, List.set_cons_succ])
        (refine wpAnyH_take (i := 4) (v := ?_) rfl (by kernel_rfl) (by kernel_rfl) (by kernel_rfl) (fun _ _ _ h => h) (Or.inl ⟨by rfl, ?_⟩) (by assumption) ?_; rotate_left)
        · (intro w hSw; (try dsimp only at hSw); go_simp; try with_reducible rfl)
        (try simp only [Act.put, List.setIfInBounds_toArray, List.set_cons_zero, List.set_cons_succ])
        (refine wpAnyH_take (i := 5) (v := ?_) rfl (by kernel_rfl) (by kernel_rfl) (by kernel_rfl) (fun _ _ _ h => h) (Or.inl ⟨by rfl, ?_⟩) (by assumption) ?_; rotate_left)
        · (intro w hSw; (try dsimp only at hSw); go_simp; try with_reducible rfl)
        (try simp only [Act.put, List.setIfInBounds_toArray, List.set_cons_zero, List.set_cons_succ])
        (refine wpAnyH_take (i := 6) (v := ?_) rfl (by kernel_rfl) (by kernel_rfl) (by kernel_rfl) (fun _ _ _ h => h) (Or.inl ⟨by rfl, ?_⟩) (by assumption) ?_; rotate_left)
        · (intro w hSw; (try dsimp only at hSw); go_simp; try with_reducible rfl)
        (try simp only [Act.put, List.setIfInBounds_toArray, List.set_cons_zero, List.set_cons_succ])
        (refine wpAnyH_take (i := 7) (v := ?_) rfl (by kernel_rfl) (by kernel_rfl) (by kernel_rfl) (fun _ _ _ h => h) (Or.inl ⟨by rfl, ?_⟩) (by assumption) ?_; rotate_left)
        · (intro w hSw; (try dsimp only at hSw); go_simp; try with_reducible rfl)
        (try simp only [Act.put, List.setIfInBounds_toArray, List.set_cons_zero, List.set_cons_succ])
        (refine wpAnyH_take (i := 8) (v := ?_) rfl (by kernel_rfl) (by kernel_rfl) (by kernel_rfl) (fun _ _ _ h => h) (Or.inl ⟨by rfl, ?_⟩) (by assumption) ?_; rotate_left)
        · (intro w hSw; (try dsimp only at hSw); go_simp; try with_reducible rfl)
        (try simp only [Act.put, List.setIfInBounds_toArray, List.set_cons_zero, List.set_cons_succ])
        (refine wpAnyH_take (i := 9) (v := ?_) rfl (by kernel_rfl) (by kernel_rfl) (by kernel_rfl) (fun _ _ _ h => h) (Or.inl ⟨by rfl, ?_⟩) (by assumption) ?_; rotate_left)
        · (intro w hSw; (try dsimp only at hSw); go_simp; try with_reducible rfl)
        (try simp only [Act.put, List.setIfInBounds_toArray, List.set_cons_zero, List.set_cons_succ])
        (refine wpAnyH_take (i := 10) (v := ?_) rfl (by kernel_rfl) (by kernel_rfl) (by kernel_rfl) (fun _ _ _ h => h) (Or.inl ⟨by rfl, ?_⟩) (by assumption) ?_; rotate_left)
        · (intro w hSw; (try dsimp only at hSw); go_simp; try with_reducible rfl)
        (try simp only [Act.put, List.setIfInBounds_toArray, List.set_cons_zero, List.set_cons_succ])
        refine wpAnyH_ready (rs := [11]) (by kernel_rfl) (by simp) ?_
        refine AllReadyH.cons rfl (fun K hK => ?_) AllReadyH.nil
        go_simp
        refine hK.out _ _ ?_ (fun hHeld => ?_)
        · (try dsimp only)
          exact ⟨(((NH.out.2.2.1.alloc _).drew).drew).cell 0, (((NH.out.1.alloc _).drew).drew).cell 0, (((NH.out.2.1.alloc _).drew).drew).cell 1⟩
        clear hK K
        (try simp only [Act.put, List.setIfInBounds_toArray, List.set_cons_zero, List.set_cons_succ])
        refine wpAnyH_ready (rs := [12]) (by kernel_rfl) (by simp) ?_
        refine AllReadyH.cons rfl (fun K hK => ?_) AllReadyH.nil
        go_simp
        have HC3 := HC2.out (grownCap w18.drew e.h.comment.length 0 5) ((bytesRow { data := e.h.comment.toArray } (grownCap w18.drew e.h.comment.length 0 5)).size, (bytesRow { data := e.h.comment.toArray } (grownCap w18.drew e.h.comment.length 0 5)).size + 1)
        rw [HGC.out] at HC3
        refine HC3.mono ?_
        rintro e' w1 ⟨rfl, hx⟩
        have k0 : w1.cell? ⟨zw, 0, none⟩ = some (.pointer (some ⟨cw, 0, none⟩)) := by obtain ⟨_, _, _, hk⟩ := hx; exact (hk.blk (((NH.out.2.2.1.alloc _).drew).drew) NH.out.2.2.2.2.2.1).cell 0
        have k1 : w1.cell? ⟨e.hb, 0, none⟩ = some (.pointer (some ⟨e.fb, 0, none⟩)) := by obtain ⟨_, _, _, hk⟩ := hx; exact (hk.blk (((NH.out.1.alloc _).drew).drew) NH.out.2.2.2.1).cell 0
        have k2 : w1.cell? ⟨e.fb, 1, none⟩ = some (.string ⟨e.h.comment.toArray⟩) := by obtain ⟨_, _, _, hk⟩ := hx; exact (hk.blk (((NH.out.2.1.alloc _).drew).drew) NH.out.2.2.2.2.1).cell 1
        have HY := Lib.hid hx
        clear hx HC3
        refine hK.out _ _ ?_ (fun hHeld => ?_)
        · (try dsimp only)
          exact ⟨k0, k1, k2⟩
        clear hK K
        (try simp only [Act.put, List.setIfInBounds_toArray, List.set_cons_zero, List.set_cons_succ])
        (refine wpAnyH_take (i := 13) (v := ?_) rfl (by kernel_rfl) (by kernel_rfl) (by kernel_rfl) (fun _ _ _ h => h) (Or.inl ⟨by rfl, ?_⟩) (by assumption) ?_; rotate_left)
        · (intro w hSw; (try dsimp only at hSw); go_simp; try with_reducible rfl)
        (try simp only [Act.put, List.setIfInBounds_toArray, List.set_cons_zero, List.set_cons_succ])
        (refine wpAnyH_take (i := 14) (v := ?_) rfl (by kernel_rfl) (by kernel_rfl) (by kernel_rfl) (fun _ _ _ h => h) (Or.inl ⟨by rfl, ?_⟩) (by assumption) ?_; rotate_left)
        · (intro w hSw; (try dsimp only at hSw); go_simp; try with_reducible rfl)
        (try simp only [Act.put, List.setIfInBounds_toArray, List.set_cons_zero, List.set_cons_succ])
        (refine wpAnyH_take (i := 15) (v := ?_) rfl (by kernel_rfl) (by kernel_rfl) (by kernel_rfl) (fun _ _ _ h => h) (Or.inl ⟨by rfl, ?_⟩) (by assumption) ?_; rotate_left)
        · (intro w hSw; (try dsimp only at hSw); go_simp; try with_reducible rfl)
        (try simp only [Act.put, List.setIfInBounds_toArray, List.set_cons_zero, List.set_cons_succ])
        (refine wpAnyH_take (i := 16) (v := ?_) rfl (by kernel_rfl) (by kernel_rfl) (by kernel_rfl) (fun _ _ _ h => h) (Or.inl ⟨by rfl, ?_⟩) (by assumption) ?_; rotate_left)
        · (intro w hSw; (try dsimp only at hSw); go_simp; try with_reducible rfl)
        (try simp only [Act.put, List.setIfInBounds_toArray, List.set_cons_zero, List.set_cons_succ])
        (refine wpAnyH_take (i := 17) (v := ?_) rfl (by kernel_rfl) (by kernel_rfl) (by kernel_rfl) (fun _ _ _ h => h) (Or.inl ⟨by rfl, ?_⟩) (by assumption) ?_; rotate_left)
        · (intro w hSw; (try dsimp only at hSw); go_simp; try with_reducible rfl)
        (try simp only [Act.put, List.setIfInBounds_toArray, List.set_cons_zero, List.set_cons_succ])
        refine wpAnyH_done (by kernel_rfl) ?_ _
        all_goals
          obtain ⟨ro', h1, h2, h3⟩ := HY.out
          refine KEY.out _ ⟨ro', ?_, h2, (((((Kept.refl _ w18).alloc _).drew).drew).trans h3)⟩
          rcases h1 with h1 | ⟨n, h1, hn⟩
          · exact .inl h1
          · exact .inr ⟨n, h1, Nat.le_trans (by simp) hn⟩
      clear HC2 h0 fC z0 HGC hcv
      rintro w19 ⟨ro5, pr, ps, pk⟩
      obtain ⟨hr5, hs5, hk5⟩ := KJ HX18.out.1 HX18.out.2.2 pr ps pk
      clear pr ps pk HX18 NH
      have HX19 := Lib.hid (And.intro hr5 (And.intro hs5 hk5))
      clear hr5 hs5 hk5
      go_wp2
      go_roundw
      case rel =>
        obtain ⟨q1, q2, q3⟩ := HX19.out
        refine ⟨rfl, rfl, rfl, rfl, rfl, rfl, rfl, k + 1, by omega, by show Value.int .i64 ((k : Int) + 1) = Value.int .i64 ((k + 1 : Nat) : Int); go_num, Lib.hid ⟨ro5, fresh_trans HS.out.1 q1 HS.out.2.2.size, ?_, HS.out.2.2.trans' q3 (fun x hx => kept_in HS.out.1 hx)⟩⟩
        rw [cenB_step es k hek, ← HF.out.2, ← List.append_assoc]
        rw [show leB 33639248 4 = [80, 75, 1, 2] from rfl] at q2
        simpa only [centralB, fieldsB, show leB 0 2 = [0, 0] from rfl, List.nil_append, List.cons_append, List.append_assoc] using q2
      case measure =>
        show es.length - (intOf (Value.int .i64 ((k : Int) + 1))).toNat < es.length - k
        simp only [intOf]
        omega
    · obtain rfl : k = es.length := by omega
      obtain ⟨ro1, hr1, hs1, hk1⟩ := HK.out
      rw [List.take_length] at hs1
      have ezb := hk1.blk H.out.1.zwb (H.out.1.snk.not H.out.1.zwb (by decide) (by decide) (by decide) (by decide))
      have z0 : wr.cell? ⟨zw, 0, none⟩ = some (.pointer (some ⟨cw, 0, none⟩)) := ezb.cell 0
      have z1 : wr.cell? ⟨zw, 1, none⟩ = some (.slice DA es.length dc) := ezb.cell 1
      have z6 : wr.cell? ⟨zw, 6, none⟩ = some .nilFunc := ezb.cell 6
      have hfn := neq_func_nil
      obtain ⟨N, hN⟩ : ∃ N, N = (out ++ cenB es).length := ⟨_, rfl⟩
      have c1 : wr.cell? ⟨cw, 1, none⟩ = some (.int .i64 N) := by rw [hN]; exact hs1.cnt.cell 1
      have hNl : N = out.length + (cenB es).length := by rw [hN, List.length_append]
      have hN1 : out.length ≤ N := by omega
      have hN2 : N ≤ 4294967294 := by omega
      have d1 : decide ((65535 : Int) ≤ (es.length : Int)) = false := by simp; omega
      have d2 : decide ((4294967295 : Int) ≤ (N : Int) - (out.length : Int)) = false := by simp; omega
      have d3 : decide ((4294967295 : Int) ≤ (out.length : Int)) = false := by simp; omega
      have HN := Lib.hid (And.intro hN (And.intro hNl hlen))
      have HS := Lib.hid (And.intro hr1 (And.intro hs1 (And.intro hk1 ezb)))
      clear hr1 hs1 hk1 ezb hN hNl HK hlen hlt
      go_wp2_with fail
      refine callsW (fun W => Blk W (wr.heap.size + 1) 122 #[.slice (some ⟨wr.heap.size, 0, none⟩) 22 22] ∧ Blk W wr.heap.size 177 (putAll Z22 0 (([] : List UInt8).map byteV)) ∧ Kept [] wr W) ⟨Blk.new1 _ _ _ _, Blk.cast ((Blk.new _ _ _).alloc _) (by kernel_rfl), ((Kept.refl [] wr).alloc _).alloc _⟩ ?_
      clear d1 d2 d3 z0 z1 z6 hfn c1
      rintro w0 ⟨hr, hg, hk⟩
      have HX0 := Lib.hid (And.intro hr (And.intro hg hk))
      clear hr hg hk
      refine (wb32 (o := 0) (n := 22) (c := 22) HX0.out.1 HX0.out.2.1 (by omega) (by omega) (by omega) (by rw [putAll_size]; decide) (101010256) _ (by first | rfl | omega | (rw [IntKind.wrap_u16]; omega) | (rw [IntKind.wrap_u32]; omega)) (by decide)).mono ?_
      rintro e' w1 ⟨rfl, hg, ⟨o', ho, hr⟩, hk⟩
      obtain rfl : o' = 4 := ho.out (by decide)
      have hg2 := Blk.cast hg (put_next (A := []) (by simp))
      have hk2 := HX0.out.2.2.trans' hk (fun x hx => .inr (by simp at hx; omega))
      have r0 : w1.cell? ⟨wr.heap.size + 1, 0, none⟩ = some (.slice (some ⟨wr.heap.size, 4, none⟩) 18 18) := hr.cell 0
      have rz : w1.frozen? ⟨wr.heap.size + 1, 0, none⟩ = false := hr.frozen 0
      have HX1 := Lib.hid (And.intro hr (And.intro hg2 hk2))
      clear hr hg hg2 hk hk2 ho
      go_wp2_with fail
      have hps := put_skip22 ([] ++ leB (101010256) 4) (by simp only [List.length_append, leB_length, List.length_nil])
      have hq1 : Blk (w1.setCell ⟨wr.heap.size + 1, 0, none⟩ (.slice (some ⟨wr.heap.size, 8, none⟩) 14 14)) (wr.heap.size + 1) 122 #[.slice (some ⟨wr.heap.size, 8, none⟩) 14 14] := HX1.out.1.set_ 0 _
      have hq2 := Blk.cast (HX1.out.2.1.far (p := ⟨wr.heap.size + 1, 0, none⟩) (Nat.ne_of_lt (Nat.lt_succ_self _)) (.slice (some ⟨wr.heap.size, 8, none⟩) 14 14)) hps
      have hq3 : Kept [] wr (w1.setCell ⟨wr.heap.size + 1, 0, none⟩ (.slice (some ⟨wr.heap.size, 8, none⟩) 14 14)) := HX1.out.2.2.setCell (p := ⟨wr.heap.size + 1, 0, none⟩) (.inr (Nat.le_succ _)) _
      have HQ := Lib.hid (And.intro hq1 (And.intro hq2 hq3))
      clear hq1 hq2 hq3 hps
      generalize (w1.setCell ⟨wr.heap.size + 1, 0, none⟩ (.slice (some ⟨wr.heap.size, 8, none⟩) 14 14)) = w1b at HQ ⊢
      clear r0 rz HX1
      have HX1 := HQ
      clear HQ
      refine (wb16 (o := 8) (n := 14) (c := 14) HX1.out.1 HX1.out.2.1 (by omega) (by omega) (by omega) (by rw [putAll_size]; decide) (es.length) _ (by first | rfl | omega | (rw [IntKind.wrap_u16]; omega) | (rw [IntKind.wrap_u32]; omega)) (by omega)).mono ?_
      rintro e' w2 ⟨rfl, hg, ⟨o', ho, hr⟩, hk⟩
      obtain rfl : o' = 10 := ho.out (by decide)
      have hg2 := Blk.cast hg (put_next (A := [] ++ leB (101010256) 4 ++ [0, 0, 0, 0]) (by simp [leB_length]))
      have hk2 := HX1.out.2.2.trans' hk (fun x hx => .inr (by simp at hx; omega))
      have HX2 := Lib.hid (And.intro hr (And.intro hg2 hk2))
      clear hr hg hg2 hk hk2 ho
      go_wp2_with fail
      refine (wb16 (o := 10) (n := 12) (c := 12) HX2.out.1 HX2.out.2.1 (by omega) (by omega) (by omega) (by rw [putAll_size]; decide) (es.length) _ (by first | rfl | omega | (rw [IntKind.wrap_u16]; omega) | (rw [IntKind.wrap_u32]; omega)) (by omega)).mono ?_
      rintro e' w3 ⟨rfl, hg, ⟨o', ho, hr⟩, hk⟩
      obtain rfl : o' = 12 := ho.out (by decide)
      have hg2 := Blk.cast hg (put_next (A := [] ++ leB (101010256) 4 ++ [0, 0, 0, 0] ++ leB (es.length) 2) (by simp [leB_length]))
      have hk2 := HX2.out.2.2.trans' hk (fun x hx => .inr (by simp at hx; omega))
      have HX3 := Lib.hid (And.intro hr (And.intro hg2 hk2))
      clear hr hg hg2 hk hk2 ho
      go_wp2_with fail
      refine (wb32 (o := 12) (n := 10) (c := 10) HX3.out.1 HX3.out.2.1 (by omega) (by omega) (by omega) (by rw [putAll_size]; decide) (N - out.length) _ (by first | rfl | omega | (rw [IntKind.wrap_u16]; omega) | (rw [IntKind.wrap_u32]; omega)) (by omega)).mono ?_
      rintro e' w4 ⟨rfl, hg, ⟨o', ho, hr⟩, hk⟩
      obtain rfl : o' = 16 := ho.out (by decide)
      have hg2 := Blk.cast hg (put_next (A := [] ++ leB (101010256) 4 ++ [0, 0, 0, 0] ++ leB (es.length) 2 ++ leB (es.length) 2) (by simp [leB_length]))
      have hk2 := HX3.out.2.2.trans' hk (fun x hx => .inr (by simp at hx; omega))
      have HX4 := Lib.hid (And.intro hr (And.intro hg2 hk2))
      clear hr hg hg2 hk hk2 ho
      go_wp2_with fail
      refine (wb32 (o := 16) (n := 6) (c := 6) HX4.out.1 HX4.out.2.1 (by omega) (by omega) (by omega) (by rw [putAll_size]; decide) (out.length) _ (by first | rfl | omega | (rw [IntKind.wrap_u16]; omega) | (rw [IntKind.wrap_u32]; omega)) (by omega)).mono ?_
      rintro e' w5 ⟨rfl, hg, ⟨o', ho, hr⟩, hk⟩
      obtain rfl : o' = 20 := ho.out (by decide)
      have hg2 := Blk.cast hg (put_next (A := [] ++ leB (101010256) 4 ++ [0, 0, 0, 0] ++ leB (es.length) 2 ++ leB (es.length) 2 ++ leB (N - out.length) 4) (by simp [leB_length]))
      have hk2 := HX4.out.2.2.trans' hk (fun x hx => .inr (by simp at hx; omega))
      have z5 : w5.cell? ⟨zw, 5, none⟩ = some (.string ⟨cl.toArray⟩) := (hk2.blk HS.out.2.2.2 (by simp)).cell 5
      have HX5 := Lib.hid (And.intro hr (And.intro hg2 hk2))
      clear hr hg hg2 hk hk2 ho
      go_wp2_with fail
      clear z5
      refine (wb16 (o := 20) (n := 2) (c := 2) HX5.out.1 HX5.out.2.1 (by omega) (by omega) (by omega) (by rw [putAll_size]; decide) (cl.length) _ (by first | rfl | omega | (rw [IntKind.wrap_u16]; omega) | (rw [IntKind.wrap_u32]; omega)) (by omega)).mono ?_
      rintro e' w6 ⟨rfl, hg, ⟨o', ho, hr⟩, hk⟩
      have hg2 := Blk.cast hg (put_next (A := [] ++ leB (101010256) 4 ++ [0, 0, 0, 0] ++ leB (es.length) 2 ++ leB (es.length) 2 ++ leB (N - out.length) 4 ++ leB (out.length) 4) (by simp [leB_length]))
      have hk2 := HX5.out.2.2.trans' hk (fun x hx => .inr (by simp at hx; omega))
      have z0 : w6.cell? ⟨zw, 0, none⟩ = some (.pointer (some ⟨cw, 0, none⟩)) := (hk2.blk HS.out.2.2.2 (by simp)).cell 0
      have HX6 := Lib.hid (And.intro hr (And.intro hg2 hk2))
      clear hr hg hg2 hk hk2 ho
      go_wp2_with fail
      have S6 : Snk w6 ob bw gb cw ro1 (out ++ cenB es) := HS.out.2.1.kept HX6.out.2.2 (by simp) (by simp) (by simp) (by simp) (by simp)
      have hbuf : Reads w6 w6.heap.size 1 (some ⟨wr.heap.size, 0, none⟩) 22 (([] ++ leB (101010256) 4 ++ [0, 0, 0, 0] ++ leB (es.length) 2 ++ leB (es.length) 2 ++ leB (N - out.length) 4 ++ leB (out.length) 4 ++ leB (cl.length) 2).map byteV) := by
        have e1 := put_whole Z22 ([] ++ leB (101010256) 4 ++ [0, 0, 0, 0] ++ leB (es.length) 2 ++ leB (es.length) 2 ++ leB (N - out.length) 4 ++ leB (out.length) 4 ++ leB (cl.length) 2) (by simp [leB_length, Z22])
        have := readsT (Blk.cast HX6.out.2.1 e1) 0 22 (by simp [leB_length])
        rw [List.drop_zero, List.take_of_length_le (by simp [leB_length])] at this
        exact this
      have HC := Lib.hid (Cw_write S6.drew (some ⟨wr.heap.size, 0, none⟩) 22 22 ([] ++ leB (101010256) 4 ++ [0, 0, 0, 0] ++ leB (es.length) 2 ++ leB (es.length) 2 ++ leB (N - out.length) 4 ++ leB (out.length) 4 ++ leB (cl.length) 2) (by decide) hbuf.drew (fun ad e1 _ => by injection e1 with e1; subst e1; exact fun hm => Nat.lt_irrefl _ (HS.out.2.1.lt _ hm)) (by have := HN.out.2.1; simp [leB_length] at this ⊢; omega))
      have HZN := Lib.hid (HS.out.2.1.not HS.out.2.2.2 (by decide) (by decide) (by decide) (by decide))
      clear hbuf S6
      apply passW (fun W => ∃ ro', (ro' = ro1 ∨ ∃ n, ro' = some n ∧ wr.heap.size ≤ n) ∧ Snk W ob bw gb cw ro' (out ++ cenB es ++ ([] ++ leB (101010256) 4 ++ [0, 0, 0, 0] ++ leB (es.length) 2 ++ leB (es.length) 2 ++ leB (N - out.length) 4 ++ leB (out.length) 4 ++ leB (cl.length) 2)) ∧ Kept (ob :: bw :: gb :: cw :: ro1.toList) wr W)
      case k =>
        intro key
        have KEY := Lib.hid key
        clear key
        go_region_held3 (fun w' => w'.cell? ⟨zw, 0, none⟩ = some (.pointer (some ⟨cw, 0, none⟩)))
          (first
            | exact z0
            | exact kz)
          ((go_at_call 81
            refine HC.out.mono ?_
            rintro e' w1 ⟨rfl, hx⟩
            have kz : w1.cell? ⟨zw, 0, none⟩ = some (.pointer (some ⟨cw, 0, none⟩)) := by obtain ⟨_, _, hs, hk⟩ := hx; exact (hk.blk (HX6.out.2.2.blk HS.out.2.2.2 (by simp)) HZN.out).cell 0
            have HY := Lib.hid hx
            clear hx))
        all_goals
          obtain ⟨ro', q1, q2, q3⟩ := HY.out
          exact KEY.out _ ⟨ro', fresh_trans (.inl rfl) q1 HX6.out.2.2.size, q2, (HX6.out.2.2.mono (by simp)).trans (((Kept.refl _ w6).drew).trans q3)⟩
      clear HC z0
      rintro w7 ⟨ro2, hr2, hs2, hk2⟩
      have HX7 := Lib.hid (And.intro hr2 (And.intro hs2 hk2))
      have ezb7 := hk2.blk HS.out.2.2.2 HZN.out
      have nzw7 := hs2.not ezb7 (by decide) (by decide) (by decide) (by decide)
      have NH := Lib.hid (And.intro ezb7 nzw7)
      clear hr2 hs2 hk2 ezb7 nzw7
      have z0 : w7.cell? ⟨zw, 0, none⟩ = some (.pointer (some ⟨cw, 0, none⟩)) := NH.out.1.cell 0
      have z5 : w7.cell? ⟨zw, 5, none⟩ = some (.string ⟨cl.toArray⟩) := NH.out.1.cell 5
      have hcv := fun W => run_bytes_of_string (P := Tryd.prog) W 9 30 5 ⟨cl.toArray⟩ Tryd.underlying9 Tryd.underlying30 Tryd.underlying5
      go_wp2_with fail
      have S12 := HX7.out.2.1
      have HC2 := Lib.hid (fun c m => Cw_write (w := ((w7.alloc (.cells (bytesRow ⟨cl.toArray⟩ c) 5 m)).drew.drew)) ((S12.kept ((((Kept.refl [] w7).alloc _).drew).drew) (by simp) (by simp) (by simp) (by simp) (by simp))) (some ⟨w7.heap.size, 0, none⟩) cl.length (max c cl.length) cl (Nat.le_max_right _ _) (reads_conv cl c m) (fun ad e1 _ => by injection e1 with e1; subst e1; exact fun hm => Nat.lt_irrefl _ (S12.lt _ hm)) (by have := HN.out.2.1; have := HN.out.2.2; simp [leB_length] at this ⊢; omega))
      have hgc : ∀ W : World, max (grownCap W cl.length 0 5) cl.length = grownCap W cl.length 0 5 := fun W => Nat.max_eq_left (grownCap_ge _ _ _ _)
      have HGC := Lib.hid hgc
      clear S12 hgc
      apply passW (fun W => ∃ ro', (ro' = ro2 ∨ ∃ n, ro' = some n ∧ w7.heap.size ≤ n) ∧ Snk W ob bw gb cw ro' (out ++ cenB es ++ ([] ++ leB (101010256) 4 ++ [0, 0, 0, 0] ++ leB (es.length) 2 ++ leB (es.length) 2 ++ leB (N - out.length) 4 ++ leB (out.length) 4 ++ leB (cl.length) 2) ++ cl) ∧ Kept (ob :: bw :: gb :: cw :: ro2.toList) w7 W)
      case k =>
        intro key
        have KEY := Lib.hid key
        clear key
        refine wp_region_held_drew (S := fun w' => w'.cell? ⟨zw, 0, none⟩ = some (.pointer (some ⟨cw, 0, none⟩)) ∧ w'.cell? ⟨zw, 5, none⟩ = some (.string ⟨cl.toArray⟩)) (by kernel_rfl) ?_ (fun hHeld => ?_)
        · (try dsimp only)
          exact ⟨z0, z5⟩
        (refine wpAnyH_take (i := 0) (v := ?_) rfl (by kernel_rfl) (by kernel_rfl) (by kernel_rfl) (fun _ _ _ h => h) (Or.inl ⟨by rfl, ?_⟩) (by assumption) ?_; rotate_left)
        · (intro w hSw; (try dsimp only at hSw); go_simp; try with_reducible rfl)
        (try simp only [Act.put, List.setIfInBounds_toArray, List.set_cons_zero, List.set_cons_succ])
        (refine wpAnyH_take (i := 1) (v := ?_) rfl (by kernel_rfl) (by kernel_rfl) (by kernel_rfl) (fun _ _ _ h => h) (Or.inl ⟨by rfl, ?_⟩) (by assumption) ?_; rotate_left)
        · (intro w hSw; (try dsimp only at hSw); go_simp; try with_reducible rfl)
        (try simp only [Act.put, List.setIfInBounds_toArray, List.set_cons_zero, List.set_cons_succ])
        (refine wpAnyH_take (i := 2) (v := ?_) rfl (by kernel_rfl) (by kernel_rfl) (by kernel_rfl) (fun _ _ _ h => h) (Or.inl ⟨by rfl, ?_⟩) (by assumption) ?_; rotate_left)
        · (intro w hSw; (try dsimp only at hSw); go_simp; try with_reducible rfl)
        (try simp only [Act.put, List.setIfInBounds_toArray, List.set_cons_zero, List.set_cons_succ])
        (refine wpAnyH_take (i := 3) (v := ?_) rfl (by kernel_rfl) (by kernel_rfl) (by kernel_rfl) (fun _ _ _ h => h) (Or.inl ⟨by rfl, ?_⟩) (by assumption) ?_; rotate_left)
        · (intro w hSw; (try dsimp only at hSw); go_simp; try with_reducible rfl)
        (try simp only [Act.put, List.setIfInBounds_toArray, List.set_cons_zero, List.set_cons_succ])
        (refine wpAnyH_take (i := 4) (v := ?_) rfl (by kernel_rfl) (by kernel_rfl) (by kernel_rfl) (fun _ _ _ h => h) (Or.inl ⟨by rfl, ?_⟩) (by assumption) ?_; rotate_left)
        · (intro w hSw; (try dsimp only at hSw); go_simp; try with_reducible rfl)
        (try simp only [Act.put, List.setIfInBounds_toArray, List.set_cons_zero, List.set_cons_succ])
        (refine wpAnyH_take (i := 5) (v := ?_) rfl (by kernel_rfl) (by kernel_rfl) (by kernel_rfl) (fun _ _ _ h => h) (Or.inl ⟨by rfl, ?_⟩) (by assumption) ?_; rotate_left)
        · (intro w hSw; (try dsimp only at hSw); go_simp; try with_reducible rfl)
        (try simp only [Act.put, List.setIfInBounds_toArray, List.set_cons_zero, List.set_cons_succ])
        (refine wpAnyH_take (i := 6) (v := ?_) rfl (by kernel_rfl) (by kernel_rfl) (by kernel_rfl) (fun _ _ _ h => h) (Or.inl ⟨by rfl, ?_⟩) (by assumption) ?_; rotate_left)
        · (intro w hSw; (try dsimp only at hSw); go_simp; try with_reducible rfl)
        (try simp only [Act.put, List.setIfInBounds_toArray, List.set_cons_zero, List.set_cons_succ])
        (refine wpAnyH_take (i := 7) (v := ?_) rfl (by kernel_rfl) (by kernel_rfl) (by kernel_rfl) (fun _ _ _ h => h) (Or.inl ⟨by rfl, ?_⟩) (by assumption) ?_; rotate_left)
        · (intro w hSw; (try dsimp only at hSw); go_simp; try with_reducible rfl)
        (try simp only [Act.put, List.setIfInBounds_toArray, List.set_cons_zero, List.set_cons_succ])
        refine wpAnyH_ready (rs := [8]) (by kernel_rfl) (by simp) ?_
        refine AllReadyH.cons rfl (fun K hK => ?_) AllReadyH.nil
        go_simp
        refine hK.out _ _ ?_ (fun hHeld => ?_)
        · (try dsimp only)
          exact ⟨(((NH.out.1.alloc _).drew).drew).cell 0, (((NH.out.1.alloc _).drew).drew).cell 5⟩
        clear hK K
        (try simp only [Act.put, List.setIfInBounds_toArray, List.set_cons_zero, List.set_cons_succ])
        refine wpAnyH_ready (rs := [9]) (by kernel_rfl) (by simp) ?_
        refine AllReadyH.cons rfl (fun K hK => ?_) AllReadyH.nil
        go_simp
        have HC3 := HC2.out (grownCap w7.drew cl.length 0 5) ((bytesRow { data := cl.toArray } (grownCap w7.drew cl.length 0 5)).size, (bytesRow { data := cl.toArray } (grownCap w7.drew cl.length 0 5)).size + 1)
        rw [HGC.out] at HC3
        refine HC3.mono ?_
        rintro e' w1 ⟨rfl, hx⟩
        have k0 : w1.cell? ⟨zw, 0, none⟩ = some (.pointer (some ⟨cw, 0, none⟩)) := by obtain ⟨_, _, _, hk⟩ := hx; exact (hk.blk (((NH.out.1.alloc _).drew).drew) NH.out.2).cell 0
        have k1 : w1.cell? ⟨zw, 5, none⟩ = some (.string ⟨cl.toArray⟩) := by obtain ⟨_, _, _, hk⟩ := hx; exact (hk.blk (((NH.out.1.alloc _).drew).drew) NH.out.2).cell 5
        have HY := Lib.hid hx
        clear hx HC3
        refine hK.out _ _ ?_ (fun hHeld => ?_)
        · (try dsimp only)
          exact ⟨k0, k1⟩
        clear hK K
        (try simp only [Act.put, List.setIfInBounds_toArray, List.set_cons_zero, List.set_cons_succ])
        (refine wpAnyH_take (i := 10) (v := ?_) rfl (by kernel_rfl) (by kernel_rfl) (by kernel_rfl) (fun _ _ _ h => h) (Or.inl ⟨by rfl, ?_⟩) (by assumption) ?_; rotate_left)
        · (intro w hSw; (try dsimp only at hSw); go_simp; try with_reducible rfl)
        (try simp only [Act.put, List.setIfInBounds_toArray, List.set_cons_zero, List.set_cons_succ])
        (refine wpAnyH_take (i := 11) (v := ?_) rfl (by kernel_rfl) (by kernel_rfl) (by kernel_rfl) (fun _ _ _ h => h) (Or.inl ⟨by rfl, ?_⟩) (by assumption) ?_; rotate_left)
        · (intro w hSw; (try dsimp only at hSw); go_simp; try with_reducible rfl)
        (try simp only [Act.put, List.setIfInBounds_toArray, List.set_cons_zero, List.set_cons_succ])
        (refine wpAnyH_take (i := 12) (v := ?_) rfl (by kernel_rfl) (by kernel_rfl) (by kernel_rfl) (fun _ _ _ h => h) (Or.inl ⟨by rfl, ?_⟩) (by assumption) ?_; rotate_left)
        · (intro w hSw; (try dsimp only at hSw); go_simp; try with_reducible rfl)
        (try simp only [Act.put, List.setIfInBounds_toArray, List.set_cons_zero, List.set_cons_succ])
        (refine wpAnyH_take (i := 13) (v := ?_) rfl (by kernel_rfl) (by kernel_rfl) (by kernel_rfl) (fun _ _ _ h => h) (Or.inl ⟨by rfl, ?_⟩) (by assumption) ?_; rotate_left)
        · (intro w hSw; (try dsimp only at hSw); go_simp; try with_reducible rfl)
        (try simp only [Act.put, List.setIfInBounds_toArray, List.set_cons_zero, List.set_cons_succ])
        (refine wpAnyH_take (i := 14) (v := ?_) rfl (by kernel_rfl) (by kernel_rfl) (by kernel_rfl) (fun _ _ _ h => h) (Or.inl ⟨by rfl, ?_⟩) (by assumption) ?_; rotate_left)
        · (intro w hSw; (try dsimp only at hSw); go_simp; try with_reducible rfl)
        (try simp only [Act.put, List.setIfInBounds_toArray, List.set_cons_zero, List.set_cons_succ])
        refine wpAnyH_done (by kernel_rfl) ?_ _
        all_goals
          obtain ⟨ro', h1, h2, h3⟩ := HY.out
          refine KEY.out _ ⟨ro', ?_, h2, (((((Kept.refl _ w7).alloc _).drew).drew).trans h3)⟩
          rcases h1 with h1 | ⟨n, h1, hn⟩
          · exact .inl h1
          · exact .inr ⟨n, h1, Nat.le_trans (by simp) hn⟩
      clear HC2 z5 z0 HGC hcv
      rintro w8 ⟨ro3, pr, ps, pk⟩
      obtain ⟨hr3, hs3, hk3⟩ := KJ HX7.out.1 HX7.out.2.2 pr ps pk
      clear pr ps pk HX7 NH
      have z0 : w8.cell? ⟨zw, 0, none⟩ = some (.pointer (some ⟨cw, 0, none⟩)) := (hk3.blk HS.out.2.2.2 HZN.out).cell 0
      have k0 : w8.cell? ⟨cw, 0, none⟩ = some (.iface 105 (.pointer (some ⟨bw, 0, none⟩))) := hs3.cnt.cell 0
      obtain ⟨done, l, n, hbx, hout⟩ := hs3.buf
      have hta := assert_bw
      have HFL := Lib.hid (Bw_flush hbx (by
        have h1 := congrArg List.length hout
        have h2 := hbx.len
        have h3 := hbx.le
        have h4 := HN.out.2.1
        have h5 := HN.out.2.2
        simp only [List.length_append, List.length_take, leB_length, List.length_cons, List.length_nil] at h1
        omega))
      have HX8 := Lib.hid (And.intro hr3 (And.intro hk3 hout))
      clear hr3 hs3 hk3 hbx hout
      go_wp2_with fail
      refine HFL.out.mono ?_
      rintro e' w9 ⟨rfl, ro4, f1, f2, f3⟩
      have HF9 := Lib.hid (And.intro f1 (And.intro f2 f3))
      clear f1 f2 f3 z0 k0 hta HFL
      go_wp2
      go_ret
      obtain ⟨f1, f2, f3⟩ := HF9.out
      obtain ⟨r3, k3, hout⟩ := HX8.out
      have r1 := HS.out.1
      have k1 := HS.out.2.2.1
      have kb := HKB.out
      have s3 : wr.heap.size ≤ w8.heap.size := k3.size
      refine ⟨rfl, ro, w, ro4, HPW.out, ?_, ?_, ?_⟩
      · exact fresh_trans (.inl rfl) (fresh_trans (fresh_trans r1 r3 k1.size) f1 (Nat.le_trans k1.size k3.size)) kb.size
      · have hb := f2.bld
        rw [← hout] at hb
        have e2 : N - out.length = (cenB es).length := by have := HN.out.2.1; omega
        rw [e2] at hb
        have e3 : endL es.length (cenB es).length out.length cl = ([] ++ leB (101010256) 4 ++ [0, 0, 0, 0] ++ leB (es.length) 2 ++ leB (es.length) 2 ++ leB (N - out.length) 4 ++ leB (out.length) 4 ++ leB (cl.length) 2) ++ cl := by
          simp only [endL, show leB 101010256 4 = [80, 75, 5, 6] from rfl, show leB 0 2 = [0, 0] from rfl, List.nil_append, List.cons_append, List.append_assoc, e2]
        rw [e3]
        simpa only [List.append_assoc, e2] using hb
      · have kk := ((k1.trans' k3 (fun x hx => kept_in r1 hx)))
        have k9 := kk.trans' f3 (fun x hx => by
          have : x ∈ ob :: bw :: gb :: cw :: ro3.toList := by
            simp only [List.mem_cons] at hx ⊢
            rcases hx with h | h | h
            · exact .inl h
            · exact .inr (.inl h)
            · exact .inr (.inr (.inr (.inr h)))
          exact kept_in (fresh_trans r1 r3 k1.size) this)
        exact (kb.mono (fun x hx => .inl (by simp at hx; simp [hx]))).trans (k9.mono (fun x hx => .inl (List.mem_cons_of_mem _ hx)))
end Go.Proofs.YtkkdblifgekmkaaDoor
