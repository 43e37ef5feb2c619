/- Words: a text whose directory and end are those of an archive; one byte of a local header that is turned. No program in sight. -/
import Derived.Test.YtfagjhgmmaebfaaGreatDoorEnt
import Derived.Test.YtfagjhgmmaebfaaGreatDoorEnd
namespace Go.Proofs.YtfagjhgmmaebfaaGreatDoor
open Go.RowKit
/-- From the end of the files on the text is an archive's directory and end. -/
structure RdS (s : List UInt8) (is : List Item) (cl : List UInt8) : Prop where
  tail : s.drop (filesB is).length = dirB 0 is ++ endL is.length (dirB 0 is).length (filesB is).length cl
  len : s.length = (filesB is).length + (dirB 0 is).length + 22 + cl.length
  one : endsL s = 1
  fit : ∀ i ∈ is, i.cen.Fits ∧ i.cen.packed < 4294967295 ∧ i.cen.size < 4294967295
  many : is.length ≤ 1000
  cl : cl.length ≤ 65535
  short : s.length ≤ 4294967294
theorem RdS.dir {s : List UInt8} {is : List Item} {cl : List UInt8} (h : RdS s is cl) (k : Nat) (hk : k < is.length) : ∃ r, s.drop ((filesB is).length + dats is k) = centralB is[k].cen (offs is k) ++ r := by
  have e := h.tail
  have hm := dats_mono is k hk
  rw [← List.drop_drop, e, List.drop_append_of_le_length (by omega), dir_drop is k hk, List.append_assoc]
  exact ⟨_, rfl⟩
theorem RdS.end_ {s : List UInt8} {is : List Item} {cl : List UInt8} (h : RdS s is cl) : s.drop ((filesB is).length + (dirB 0 is).length) = endL is.length (dirB 0 is).length (filesB is).length cl := by
  rw [← List.drop_drop, h.tail, List.drop_left]
theorem files_drop_next (is : List Item) (k : Nat) (h : k < is.length) : offs is k + is[k].bytes.length ≤ (filesB is).length := by
  have h1 := files_drop is k h
  have h2 := congrArg List.length h1
  simp only [List.length_drop, List.length_append] at h2
  have h3 : 0 < (localB is[k].loc).length := by rw [localB_length]; omega
  simp only [Item.bytes, List.length_append]
  omega
theorem offs_le (is : List Item) (j k : Nat) (h : j < k) (hk : k ≤ is.length) : ∀ hj : j < is.length, offs is j + is[j].bytes.length ≤ offs is k := by
  intro hj
  obtain ⟨d, rfl⟩ : ∃ d, k = j + 1 + d := ⟨k - (j + 1), by omega⟩
  clear h
  rw [← offs_next is j hj]
  induction d with
  | zero => exact Nat.le_refl _
  | succ d ih =>
    have := offs_next is (j + 1 + d) (by omega)
    have := ih (by omega)
    rw [show j + 1 + (d + 1) = j + 1 + d + 1 by omega]
    omega
/-- The archive with the byte at p turned. -/
theorem rds_turned {s : List UInt8} {is : List Item} {cl : List UInt8} {p : Nat} {v : UInt8} (hs : s = (archB is cl).set p v) (hp : p < (filesB is).length) (h1 : endsL s = 1) (hf : ∀ i ∈ is, i.cen.Fits ∧ i.cen.packed < 4294967295 ∧ i.cen.size < 4294967295) (hm : is.length ≤ 1000) (hc : cl.length ≤ 65535) (hsh : (archB is cl).length ≤ 4294967294) : RdS s is cl := by
  have e : (archB is cl).drop (filesB is).length = dirB 0 is ++ endL is.length (dirB 0 is).length (filesB is).length cl := by
    unfold archB
    rw [List.append_assoc, List.drop_left]
  refine ⟨?_, ?_, h1, hf, hm, hc, ?_⟩
  · rw [hs, List.drop_set_of_lt hp, e]
  · rw [hs, List.length_set]
    have := endL_length is.length (dirB 0 is).length (filesB is).length cl
    simp only [archB, List.length_append]
    omega
  · rw [hs, List.length_set]; exact hsh
theorem arch_file (is : List Item) (cl : List UInt8) (j : Nat) (hj : j < is.length) : ∃ r, (archB is cl).drop (offs is j) = localB is[j].loc ++ (is[j].data ++ r) := by
  unfold archB
  rw [List.append_assoc, files_at is j hj]
  exact ⟨_, rfl⟩
/-- The other files stand as they were. -/
theorem turned_other {s : List UInt8} {is : List Item} {cl : List UInt8} {k a : Nat} {v : UInt8} (hk : k < is.length) (ha : a ≤ 3) (hs : s = (archB is cl).set (offs is k + a) v) (j : Nat) (hj : j < is.length) (hjk : j ≠ k) : ∃ r, s.drop (offs is j) = localB is[j].loc ++ (is[j].data ++ r) := by
  obtain ⟨r, hr⟩ := arch_file is cl j hj
  have hbk : 30 ≤ is[k].bytes.length := by
    simp only [Item.bytes, List.length_append, localB_length]; omega
  rcases Nat.lt_or_ge k j with h | h
  · have h2 := offs_le is k j h (by omega) hk
    refine ⟨r, ?_⟩
    rw [hs, List.drop_set_of_lt (by omega), hr]
  · have h2 := offs_le is j k (by omega) (by omega) hj
    have hbj : is[j].bytes.length = (localB is[j].loc).length + (is[j].data.length + is[j].tail.length) := by
      simp only [Item.bytes, List.length_append]
    refine ⟨r.set (offs is k + a - offs is j - (localB is[j].loc).length - is[j].data.length) v, ?_⟩
    rw [hs, List.drop_set, if_neg (by omega), hr, List.set_append_right _ _ (by omega), List.set_append_right _ _ (by omega)]
theorem leB_numL (l : List UInt8) : leB (numL l) l.length = l := by
  induction l with
  | nil => rfl
  | cons b r ih =>
    have hb := b.toNat_lt
    show UInt8.ofNat ((b.toNat + 256 * numL r) % 256) :: leB ((b.toNat + 256 * numL r) / 256) r.length = b :: r
    rw [show (b.toNat + 256 * numL r) % 256 = b.toNat by omega, show (b.toNat + 256 * numL r) / 256 = numL r by omega, ih]
    simp
/-- The spoilt one bears another signature. -/
theorem turned_sig {s : List UInt8} {is : List Item} {cl : List UInt8} {k a : Nat} {v : UInt8} (hk : k < is.length) (ha : a ≤ 3) (hs : s = (archB is cl).set (offs is k + a) v) (hv : (archB is cl)[offs is k + a]? ≠ some v) : numL (sub s (offs is k) 4) ≠ 67324752 := by
  obtain ⟨r, hr⟩ := arch_file is cl k hk
  have hlen : offs is k + 30 ≤ (archB is cl).length := by
    have h2 := congrArg List.length hr
    simp only [List.length_drop, List.length_append, localB_length] at h2
    omega
  intro h
  have h3 := leB_numL (sub s (offs is k) 4)
  have hl4 : (sub s (offs is k) 4).length = 4 := by unfold sub; rw [List.length_take, List.length_drop, hs, List.length_set]; omega
  rw [h, hl4] at h3
  have h5 : leB 67324752 4 = [80, 75, 3, 4] := by decide
  rw [h5] at h3
  have h6 : ∀ i, i < 4 → s[offs is k + i]? = (archB is cl)[offs is k + i]? := fun i hi => by
    have e1 : (sub s (offs is k) 4)[i]? = s[offs is k + i]? := by
      unfold sub; rw [List.getElem?_take_of_lt hi, List.getElem?_drop]
    have e2 : ((archB is cl).drop (offs is k))[i]? = (archB is cl)[offs is k + i]? := by rw [List.getElem?_drop]
    rw [← e1, ← e2, ← h3, hr]
    match i, hi with
    | 0, _ => rfl
    | 1, _ => rfl
    | 2, _ => rfl
    | 3, _ => rfl
  have h7 := h6 a (by omega)
  rw [hs, List.getElem?_set_self (by omega)] at h7
  exact hv h7.symm
end Go.Proofs.YtfagjhgmmaebfaaGreatDoor
