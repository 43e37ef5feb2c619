/- Plain words: an archive as bytes, and where its parts stand. No program in sight. -/
import Derived.Test.YtkkdblifgekmkaaDoorLay
namespace Go.Proofs.YtkkdblifgekmkaaDoor
/-- A file: its local header, its header in the directory, its content, what stands behind the content. -/
structure Item where
  loc : Hd
  cen : Hd
  data : List UInt8
  tail : List UInt8
def Item.bytes (i : Item) : List UInt8 := localB i.loc ++ (i.data ++ i.tail)
def filesB : List Item → List UInt8
  | [] => []
  | i :: r => i.bytes ++ filesB r
def dirB : Nat → List Item → List UInt8
  | _, [] => []
  | o, i :: r => centralB i.cen o ++ dirB (o + i.bytes.length) r
theorem filesB_append (a b : List Item) : filesB (a ++ b) = filesB a ++ filesB b := by
  induction a with
  | nil => rfl
  | cons i r ih => rw [List.cons_append, filesB, ih, filesB, List.append_assoc]
theorem dirB_append (a b : List Item) (o : Nat) : dirB o (a ++ b) = dirB o a ++ dirB (o + (filesB a).length) b := by
  induction a generalizing o with
  | nil => rfl
  | cons i r ih => rw [List.cons_append, dirB, ih, dirB, List.append_assoc, filesB, List.length_append, Nat.add_assoc]
/-- The place of file k; the place of its header in the directory. -/
def offs (l : List Item) (k : Nat) : Nat := (filesB (l.take k)).length
def dats (l : List Item) (k : Nat) : Nat := (dirB 0 (l.take k)).length
theorem split_at (l : List Item) (k : Nat) (h : k < l.length) : l = l.take k ++ l[k] :: l.drop (k + 1) := by
  rw [← List.drop_eq_getElem_cons h, List.take_append_drop]
theorem take_one (l : List Item) (k : Nat) (h : k < l.length) : l.take (k + 1) = l.take k ++ [l[k]] := List.take_succ_eq_append_getElem h
theorem offs_next (l : List Item) (k : Nat) (h : k < l.length) : offs l (k + 1) = offs l k + l[k].bytes.length := by
  unfold offs; rw [take_one l k h, filesB_append]; simp [filesB]
theorem dats_next (l : List Item) (k : Nat) (h : k < l.length) : dats l (k + 1) = dats l k + (centralB l[k].cen (offs l k)).length := by
  unfold dats; rw [take_one l k h, dirB_append]; simp [dirB, offs]
theorem offs_all (l : List Item) : offs l l.length = (filesB l).length := by unfold offs; rw [List.take_length]
theorem dats_all (l : List Item) : dats l l.length = (dirB 0 l).length := by unfold dats; rw [List.take_length]
theorem files_drop (l : List Item) (k : Nat) (h : k < l.length) : (filesB l).drop (offs l k) = localB l[k].loc ++ (l[k].data ++ (l[k].tail ++ filesB (l.drop (k + 1)))) := by
  conv => lhs; arg 2; rw [split_at l k h]
  rw [filesB_append]
  unfold offs
  rw [List.drop_left, filesB, Item.bytes]
  simp only [List.append_assoc]
theorem dir_drop (l : List Item) (k : Nat) (h : k < l.length) : (dirB 0 l).drop (dats l k) = centralB l[k].cen (offs l k) ++ dirB (offs l (k + 1)) (l.drop (k + 1)) := by
  rw [offs_next l k h]
  conv => lhs; arg 2; rw [split_at l k h]
  rw [dirB_append]
  unfold dats
  rw [List.drop_left, dirB, Nat.zero_add]
  rfl
theorem offs_mono (l : List Item) (k : Nat) (h : k < l.length) : offs l k + (localB l[k].loc).length + l[k].data.length ≤ (filesB l).length := by
  have e := congrArg List.length (files_drop l k h)
  simp only [List.length_append, List.length_drop, localB_length] at e
  rw [localB_length]
  omega
theorem dats_mono (l : List Item) (k : Nat) (h : k < l.length) : dats l k + (centralB l[k].cen (offs l k)).length ≤ (dirB 0 l).length := by
  have e := congrArg List.length (dir_drop l k h)
  simp only [List.length_append, List.length_drop, centralB_length] at e
  rw [centralB_length]
  omega
/-- In a text that begins with the files. -/
theorem files_at (l : List Item) (k : Nat) (h : k < l.length) (r : List UInt8) : (filesB l ++ r).drop (offs l k) = localB l[k].loc ++ (l[k].data ++ (l[k].tail ++ filesB (l.drop (k + 1)) ++ r)) := by
  have := offs_mono l k h
  rw [List.drop_append_of_le_length (by omega), files_drop l k h]
  simp only [List.append_assoc]
theorem dir_at (l : List Item) (k : Nat) (h : k < l.length) : (filesB l ++ dirB 0 l).drop ((filesB l).length + dats l k) = centralB l[k].cen (offs l k) ++ dirB (offs l (k + 1)) (l.drop (k + 1)) := by
  rw [← List.drop_drop, List.drop_left, dir_drop l k h]
end Go.Proofs.YtkkdblifgekmkaaDoor
