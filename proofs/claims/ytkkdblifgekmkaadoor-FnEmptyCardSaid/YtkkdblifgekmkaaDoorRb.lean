/- readBuf.uint16, uint32 over a row of bytes known whole. -/
import Derived.Test.YtkkdblifgekmkaaDoorLe32
import Derived.Test.YtkkdblifgekmkaaDoorLay
namespace Go.Proofs.YtkkdblifgekmkaaDoor
open Go.RowKit
theorem num2 {l : List UInt8} {o : Nat} (h : o + 2 ≤ l.length) : numL (sub l o 2) = (l[o]'(by omega)).toNat + 256 * (l[o + 1]'(by omega)).toNat := by
  have e : sub l o 2 = [l[o]'(by omega), l[o + 1]'(by omega)] := by
    unfold sub
    rw [List.drop_eq_getElem_cons (by omega), List.drop_eq_getElem_cons (by omega)]
    rfl
  rw [e]; simp [numL]
theorem num4 {l : List UInt8} {o : Nat} (h : o + 4 ≤ l.length) : numL (sub l o 4) = (l[o]'(by omega)).toNat + 256 * (l[o + 1]'(by omega)).toNat + 65536 * ((l[o + 2]'(by omega)).toNat + 256 * (l[o + 3]'(by omega)).toNat) := by
  have e : sub l o 4 = [l[o]'(by omega), l[o + 1]'(by omega), l[o + 2]'(by omega), l[o + 3]'(by omega)] := by
    unfold sub
    rw [List.drop_eq_getElem_cons (by omega), List.drop_eq_getElem_cons (by omega), List.drop_eq_getElem_cons (by omega), List.drop_eq_getElem_cons (by omega)]
    rfl
  rw [e]; simp [numL]; omega
/-- The next number of two bytes. -/
theorem rb16 {w : World} {r g o n c t : Nat} {l : List UInt8} (hr : Blk w r t #[.slice (some ⟨g, o, none⟩) n c]) (hl : Blk w g 5 (l.map byteV).toArray) (hn : 2 ≤ n) (hc : n ≤ c) (ho : o + 2 ≤ l.length) (v : Nat) (hv : numL (sub l o 2) = v) :
    Calls Tryd.prog 84 #[.pointer (some ⟨r, 0, none⟩)] w fun e w' => e = .returned (.int .u16 v) ∧ (∃ o', Hid (2 < c → o' = o + 2) ∧ Blk w' r t #[.slice (some ⟨g, o', none⟩) (n - 2) (c - 2)]) ∧ Kept [r] w w' := by
  rw [num2 ho] at hv
  refine (rb16_v r g o n c _ _ v hv.symm hn hc (l[o]'(by omega)).toNat_lt (l[o + 1]'(by omega)).toNat_lt w (hr.cell 0) (hr.frozen 0) (hl.byte o (by omega)) (hl.byte (o + 1) (by omega))).mono ?_
  rintro e w' ⟨rfl, k, o', rfl, ho'⟩
  exact ⟨rfl, ⟨o', ho', Blk.cast ((hr.drewN k).set_ 0 _) (by simp)⟩, ((Kept.refl _ _).drewN k).setCell (by simp) _⟩
theorem rb32 {w : World} {r g o n c t : Nat} {l : List UInt8} (hr : Blk w r t #[.slice (some ⟨g, o, none⟩) n c]) (hl : Blk w g 5 (l.map byteV).toArray) (hn : 4 ≤ n) (hc : n ≤ c) (ho : o + 4 ≤ l.length) (v : Nat) (hv : numL (sub l o 4) = v) :
    Calls Tryd.prog 85 #[.pointer (some ⟨r, 0, none⟩)] w fun e w' => e = .returned (.int .u32 v) ∧ (∃ o', Hid (4 < c → o' = o + 4) ∧ Blk w' r t #[.slice (some ⟨g, o', none⟩) (n - 4) (c - 4)]) ∧ Kept [r] w w' := by
  rw [num4 ho] at hv
  refine (rb32_v r g o n c _ _ _ _ v hv.symm hn hc (l[o]'(by omega)).toNat_lt (l[o + 1]'(by omega)).toNat_lt (l[o + 2]'(by omega)).toNat_lt (l[o + 3]'(by omega)).toNat_lt w (hr.cell 0) (hr.frozen 0) (hl.byte o (by omega)) (hl.byte (o + 1) (by omega)) (hl.byte (o + 2) (by omega)) (hl.byte (o + 3) (by omega))).mono ?_
  rintro e w' ⟨rfl, k, o', rfl, ho'⟩
  exact ⟨rfl, ⟨o', ho', Blk.cast ((hr.drewN k).set_ 0 _) (by simp)⟩, ((Kept.refl _ _).drewN k).setCell (by simp) _⟩
end Go.Proofs.YtkkdblifgekmkaaDoor
