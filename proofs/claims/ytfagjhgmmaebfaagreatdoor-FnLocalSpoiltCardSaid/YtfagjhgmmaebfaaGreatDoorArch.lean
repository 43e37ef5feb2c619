/- Plain words: numbers as bytes and back; the headers of an archive's files as bytes; where each field stands. No program in sight. -/
import Derived.Test.YtfagjhgmmaebfaaGreatDoorBlk
namespace Go.Proofs.YtfagjhgmmaebfaaGreatDoor
/-- The number of bytes, the lowest one first. -/
def numL : List UInt8 → Nat
  | [] => 0
  | b :: r => b.toNat + 256 * numL r
theorem numL_leB (n k : Nat) : numL (leB n k) = n % 256 ^ k := by
  induction k generalizing n with
  | zero => simp [leB, numL, Nat.mod_one]
  | succ k ih =>
    rw [leB, numL, ih, Nat.pow_succ, Nat.mul_comm (256 ^ k), Nat.mod_mul]
    have : (UInt8.ofNat (n % 256)).toNat = n % 256 := by simp
    rw [this]
theorem numL_append_one (l : List UInt8) (b : UInt8) : numL (l ++ [b]) = numL l + 256 ^ l.length * b.toNat := by
  induction l with
  | nil => simp [numL]
  | cons a r ih => rw [List.cons_append, numL, ih, numL, List.length_cons, Nat.pow_succ]; rw [Nat.mul_add, Nat.add_assoc, ← Nat.mul_assoc, Nat.mul_comm 256 (256 ^ r.length)]
theorem numL_lt (l : List UInt8) : numL l < 256 ^ l.length := by
  induction l with
  | nil => simp [numL]
  | cons a r ih =>
    rw [numL, List.length_cons, Nat.pow_succ]
    have := a.toNat_lt
    omega
theorem leB2 (n : Nat) (h : n < 65536) : numL (leB n 2) = n := by rw [numL_leB]; exact Nat.mod_eq_of_lt h
theorem leB4 (n : Nat) (h : n < 4294967296) : numL (leB n 4) = n := by rw [numL_leB]; exact Nat.mod_eq_of_lt h
theorem leB_mod (n k : Nat) : leB (n % 256 ^ k) k = leB n k := by
  induction k generalizing n with
  | zero => rfl
  | succ k ih =>
    rw [leB, leB, Nat.pow_succ, Nat.mul_comm, Nat.mod_mul_right_mod, Nat.mod_mul_right_div_self, ih]

/-- A file's header. -/
structure Hd where
  name : List UInt8
  comment : List UInt8
  extra : List UInt8
  creator : Nat
  reader : Nat
  flags : Nat
  method : Nat
  time : Nat
  date : Nat
  crc : Nat
  packed : Nat
  size : Nat
  external : Nat
/-- Its numbers fit into their fields. -/
structure Hd.Fits (h : Hd) : Prop where
  name : h.name.length < 65536
  comment : h.comment.length < 65536
  extra : h.extra.length < 65536
  creator : h.creator < 65536
  reader : h.reader < 65536
  flags : h.flags < 65536
  method : h.method < 65536
  time : h.time < 65536
  date : h.date < 65536
  crc : h.crc < 4294967296
  packed : h.packed < 4294967296
  size : h.size < 4294967296
  external : h.external < 4294967296
def fieldsB (h : Hd) : List UInt8 := leB h.flags 2 ++ leB h.method 2 ++ leB h.time 2 ++ leB h.date 2 ++ leB h.crc 4 ++ leB h.packed 4 ++ leB h.size 4
def localB (h : Hd) : List UInt8 := [80, 75, 3, 4] ++ leB h.reader 2 ++ fieldsB h ++ leB h.name.length 2 ++ leB h.extra.length 2 ++ h.name ++ h.extra
def centralB (h : Hd) (at_ : Nat) : List UInt8 :=
  [80, 75, 1, 2] ++ leB h.creator 2 ++ leB h.reader 2 ++ fieldsB h ++ leB h.name.length 2 ++ leB h.extra.length 2 ++ leB h.comment.length 2 ++ leB 0 2 ++ leB 0 2 ++ leB h.external 4 ++ leB at_ 4 ++ h.name ++ h.extra ++ h.comment
theorem localB_length (h : Hd) : (localB h).length = 30 + h.name.length + h.extra.length := by
  simp [localB, fieldsB, leB_length]; omega
theorem centralB_length (h : Hd) (a : Nat) : (centralB h a).length = 46 + h.name.length + h.extra.length + h.comment.length := by
  simp [centralB, fieldsB, leB_length]; omega
/-- Bytes 'at' to 'at + n' of a text. -/
def sub (l : List UInt8) (at_ n : Nat) : List UInt8 := (l.drop at_).take n
theorem sub_mid {l a b c : List UInt8} {at_ i n : Nat} (h : l.drop at_ = a ++ (b ++ c)) (hi : a.length = i) (hn : b.length = n) : sub l (at_ + i) n = b := by
  unfold sub
  subst hi
  subst hn
  rw [← List.drop_drop, h, List.drop_left, List.take_left]
theorem drop_mid {l a c : List UInt8} {at_ i : Nat} (h : l.drop at_ = a ++ c) (hi : a.length = i) : l.drop (at_ + i) = c := by
  subst hi
  rw [← List.drop_drop, h, List.drop_left]
/-- What stands in a directory's header at 'at'. -/
structure CentralAt (l : List UInt8) (at_ : Nat) (h : Hd) (off : Nat) : Prop where
  sig : sub l at_ 4 = [80, 75, 1, 2]
  creator : sub l (at_ + 4) 2 = leB h.creator 2
  reader : sub l (at_ + 6) 2 = leB h.reader 2
  flags : sub l (at_ + 8) 2 = leB h.flags 2
  method : sub l (at_ + 10) 2 = leB h.method 2
  time : sub l (at_ + 12) 2 = leB h.time 2
  date : sub l (at_ + 14) 2 = leB h.date 2
  crc : sub l (at_ + 16) 4 = leB h.crc 4
  packed : sub l (at_ + 20) 4 = leB h.packed 4
  size : sub l (at_ + 24) 4 = leB h.size 4
  nlen : sub l (at_ + 28) 2 = leB h.name.length 2
  xlen : sub l (at_ + 30) 2 = leB h.extra.length 2
  clen : sub l (at_ + 32) 2 = leB h.comment.length 2
  external : sub l (at_ + 38) 4 = leB h.external 4
  off : sub l (at_ + 42) 4 = leB off 4
  name : sub l (at_ + 46) h.name.length = h.name
  extra : sub l (at_ + 46 + h.name.length) h.extra.length = h.extra
  comment : sub l (at_ + 46 + h.name.length + h.extra.length) h.comment.length = h.comment
  rest : at_ + (46 + h.name.length + h.extra.length + h.comment.length) ≤ l.length
theorem central_at {l : List UInt8} {at_ off : Nat} {h : Hd} {r : List UInt8} (e : l.drop at_ = centralB h off ++ r) : CentralAt l at_ h off := by
  have hl : at_ + (46 + h.name.length + h.extra.length + h.comment.length) ≤ l.length := by
    have h1 := congrArg List.length e
    rw [List.length_append, List.length_drop, centralB_length] at h1
    omega
  have e2 := e
  simp only [centralB, fieldsB, List.append_assoc] at e2
  have g : ∀ {a b c : List UInt8} {i n : Nat}, l.drop at_ = a ++ (b ++ c) → a.length = i → b.length = n → sub l (at_ + i) n = b := sub_mid
  refine ⟨?_, ?_, ?_, ?_, ?_, ?_, ?_, ?_, ?_, ?_, ?_, ?_, ?_, ?_, ?_, ?_, ?_, ?_, hl⟩
  · unfold sub; rw [e2]; rfl
  · exact g (a := [80, 75, 1, 2]) e2 rfl (leB_length _ _)
  · exact g (a := [80, 75, 1, 2] ++ leB h.creator 2) (by simpa only [List.append_assoc] using e2) (by simp [leB_length]) (leB_length _ _)
  · exact g (a := [80, 75, 1, 2] ++ (leB h.creator 2 ++ leB h.reader 2)) (by simpa only [List.append_assoc] using e2) (by simp [leB_length]) (leB_length _ _)
  · exact g (a := [80, 75, 1, 2] ++ (leB h.creator 2 ++ (leB h.reader 2 ++ leB h.flags 2))) (by simpa only [List.append_assoc] using e2) (by simp [leB_length]) (leB_length _ _)
  · exact g (a := [80, 75, 1, 2] ++ (leB h.creator 2 ++ (leB h.reader 2 ++ (leB h.flags 2 ++ leB h.method 2)))) (by simpa only [List.append_assoc] using e2) (by simp [leB_length]) (leB_length _ _)
  · exact g (a := [80, 75, 1, 2] ++ (leB h.creator 2 ++ (leB h.reader 2 ++ (leB h.flags 2 ++ (leB h.method 2 ++ leB h.time 2))))) (by simpa only [List.append_assoc] using e2) (by simp [leB_length]) (leB_length _ _)
  · exact g (a := [80, 75, 1, 2] ++ (leB h.creator 2 ++ (leB h.reader 2 ++ (leB h.flags 2 ++ (leB h.method 2 ++ (leB h.time 2 ++ leB h.date 2)))))) (by simpa only [List.append_assoc] using e2) (by simp [leB_length]) (leB_length _ _)
  · exact g (a := [80, 75, 1, 2] ++ (leB h.creator 2 ++ (leB h.reader 2 ++ (leB h.flags 2 ++ (leB h.method 2 ++ (leB h.time 2 ++ (leB h.date 2 ++ leB h.crc 4))))))) (by simpa only [List.append_assoc] using e2) (by simp [leB_length]) (leB_length _ _)
  · exact g (a := [80, 75, 1, 2] ++ (leB h.creator 2 ++ (leB h.reader 2 ++ (leB h.flags 2 ++ (leB h.method 2 ++ (leB h.time 2 ++ (leB h.date 2 ++ (leB h.crc 4 ++ leB h.packed 4)))))))) (by simpa only [List.append_assoc] using e2) (by simp [leB_length]) (leB_length _ _)
  · exact g (a := [80, 75, 1, 2] ++ (leB h.creator 2 ++ (leB h.reader 2 ++ (leB h.flags 2 ++ (leB h.method 2 ++ (leB h.time 2 ++ (leB h.date 2 ++ (leB h.crc 4 ++ (leB h.packed 4 ++ leB h.size 4))))))))) (by simpa only [List.append_assoc] using e2) (by simp [leB_length]) (leB_length _ _)
  · exact g (a := [80, 75, 1, 2] ++ (leB h.creator 2 ++ (leB h.reader 2 ++ (leB h.flags 2 ++ (leB h.method 2 ++ (leB h.time 2 ++ (leB h.date 2 ++ (leB h.crc 4 ++ (leB h.packed 4 ++ (leB h.size 4 ++ leB h.name.length 2)))))))))) (by simpa only [List.append_assoc] using e2) (by simp [leB_length]) (leB_length _ _)
  · exact g (a := [80, 75, 1, 2] ++ (leB h.creator 2 ++ (leB h.reader 2 ++ (leB h.flags 2 ++ (leB h.method 2 ++ (leB h.time 2 ++ (leB h.date 2 ++ (leB h.crc 4 ++ (leB h.packed 4 ++ (leB h.size 4 ++ (leB h.name.length 2 ++ leB h.extra.length 2))))))))))) (by simpa only [List.append_assoc] using e2) (by simp [leB_length]) (leB_length _ _)
  · exact g (a := [80, 75, 1, 2] ++ (leB h.creator 2 ++ (leB h.reader 2 ++ (leB h.flags 2 ++ (leB h.method 2 ++ (leB h.time 2 ++ (leB h.date 2 ++ (leB h.crc 4 ++ (leB h.packed 4 ++ (leB h.size 4 ++ (leB h.name.length 2 ++ (leB h.extra.length 2 ++ (leB h.comment.length 2 ++ (leB 0 2 ++ leB 0 2)))))))))))))) (by simpa only [List.append_assoc] using e2) (by simp [leB_length]) (leB_length _ _)
  · exact g (a := [80, 75, 1, 2] ++ (leB h.creator 2 ++ (leB h.reader 2 ++ (leB h.flags 2 ++ (leB h.method 2 ++ (leB h.time 2 ++ (leB h.date 2 ++ (leB h.crc 4 ++ (leB h.packed 4 ++ (leB h.size 4 ++ (leB h.name.length 2 ++ (leB h.extra.length 2 ++ (leB h.comment.length 2 ++ (leB 0 2 ++ (leB 0 2 ++ leB h.external 4))))))))))))))) (by simpa only [List.append_assoc] using e2) (by simp [leB_length]) (leB_length _ _)
  · have e3 : l.drop (at_ + 46) = h.name ++ (h.extra ++ (h.comment ++ r)) :=
      drop_mid (a := [80, 75, 1, 2] ++ (leB h.creator 2 ++ (leB h.reader 2 ++ (leB h.flags 2 ++ (leB h.method 2 ++ (leB h.time 2 ++ (leB h.date 2 ++ (leB h.crc 4 ++ (leB h.packed 4 ++ (leB h.size 4 ++ (leB h.name.length 2 ++ (leB h.extra.length 2 ++ (leB h.comment.length 2 ++ (leB 0 2 ++ (leB 0 2 ++ (leB h.external 4 ++ leB off 4)))))))))))))))) (by simpa only [List.append_assoc] using e2) (by simp [leB_length])
    unfold sub; rw [e3, List.take_left]
  · have e3 : l.drop (at_ + 46) = h.name ++ (h.extra ++ (h.comment ++ r)) :=
      drop_mid (a := [80, 75, 1, 2] ++ (leB h.creator 2 ++ (leB h.reader 2 ++ (leB h.flags 2 ++ (leB h.method 2 ++ (leB h.time 2 ++ (leB h.date 2 ++ (leB h.crc 4 ++ (leB h.packed 4 ++ (leB h.size 4 ++ (leB h.name.length 2 ++ (leB h.extra.length 2 ++ (leB h.comment.length 2 ++ (leB 0 2 ++ (leB 0 2 ++ (leB h.external 4 ++ leB off 4)))))))))))))))) (by simpa only [List.append_assoc] using e2) (by simp [leB_length])
    exact sub_mid e3 rfl rfl
  · have e3 : l.drop (at_ + 46) = h.name ++ (h.extra ++ (h.comment ++ r)) :=
      drop_mid (a := [80, 75, 1, 2] ++ (leB h.creator 2 ++ (leB h.reader 2 ++ (leB h.flags 2 ++ (leB h.method 2 ++ (leB h.time 2 ++ (leB h.date 2 ++ (leB h.crc 4 ++ (leB h.packed 4 ++ (leB h.size 4 ++ (leB h.name.length 2 ++ (leB h.extra.length 2 ++ (leB h.comment.length 2 ++ (leB 0 2 ++ (leB 0 2 ++ (leB h.external 4 ++ leB off 4)))))))))))))))) (by simpa only [List.append_assoc] using e2) (by simp [leB_length])
    have e4 := drop_mid (at_ := at_ + 46) e3 rfl
    exact sub_mid e4 rfl rfl
/-- What stands in a local header at 'at'. -/
structure LocalAt (l : List UInt8) (at_ : Nat) (h : Hd) : Prop where
  sig : sub l at_ 4 = [80, 75, 3, 4]
  method : sub l (at_ + 8) 2 = leB h.method 2
  nlen : sub l (at_ + 26) 2 = leB h.name.length 2
  xlen : sub l (at_ + 28) 2 = leB h.extra.length 2
  name : sub l (at_ + 30) h.name.length = h.name
  rest : at_ + (30 + h.name.length + h.extra.length) ≤ l.length
theorem local_at {l : List UInt8} {at_ : Nat} {h : Hd} {r : List UInt8} (e : l.drop at_ = localB h ++ r) : LocalAt l at_ h := by
  have hl : at_ + (30 + h.name.length + h.extra.length) ≤ l.length := by
    have h1 := congrArg List.length e
    rw [List.length_append, List.length_drop, localB_length] at h1
    omega
  have e2 := e
  simp only [localB, fieldsB, List.append_assoc] at e2
  have g : ∀ {a b c : List UInt8} {i n : Nat}, l.drop at_ = a ++ (b ++ c) → a.length = i → b.length = n → sub l (at_ + i) n = b := sub_mid
  refine ⟨?_, ?_, ?_, ?_, ?_, hl⟩
  · unfold sub; rw [e2]; rfl
  · exact g (a := [80, 75, 3, 4] ++ (leB h.reader 2 ++ leB h.flags 2)) (by simpa only [List.append_assoc] using e2) (by simp [leB_length]) (leB_length _ _)
  · exact g (a := [80, 75, 3, 4] ++ (leB h.reader 2 ++ (leB h.flags 2 ++ (leB h.method 2 ++ (leB h.time 2 ++ (leB h.date 2 ++ (leB h.crc 4 ++ (leB h.packed 4 ++ leB h.size 4)))))))) (by simpa only [List.append_assoc] using e2) (by simp [leB_length]) (leB_length _ _)
  · exact g (a := [80, 75, 3, 4] ++ (leB h.reader 2 ++ (leB h.flags 2 ++ (leB h.method 2 ++ (leB h.time 2 ++ (leB h.date 2 ++ (leB h.crc 4 ++ (leB h.packed 4 ++ (leB h.size 4 ++ leB h.name.length 2))))))))) (by simpa only [List.append_assoc] using e2) (by simp [leB_length]) (leB_length _ _)
  · exact g (a := [80, 75, 3, 4] ++ (leB h.reader 2 ++ (leB h.flags 2 ++ (leB h.method 2 ++ (leB h.time 2 ++ (leB h.date 2 ++ (leB h.crc 4 ++ (leB h.packed 4 ++ (leB h.size 4 ++ (leB h.name.length 2 ++ leB h.extra.length 2)))))))))) (by simpa only [List.append_assoc] using e2) (by simp [leB_length]) rfl
end Go.Proofs.YtfagjhgmmaebfaaGreatDoor
/- Plain words: an archive as bytes, and where its parts stand. No program in sight. -/
namespace Go.Proofs.YtfagjhgmmaebfaaGreatDoor
/-- A file: its local header, its header in the directory, its content, what stands behind the content. -/
structure Item where
  loc : Hd
  cen : Hd
  data : List UInt8
  tail : List UInt8
def Item.bytes (i : Item) : List UInt8 := localB i.loc ++ (i.data ++ i.tail)
def filesB : List Item → List UInt8
  | [] => []
  | i :: r => i.bytes ++ filesB r
def dirB : Nat → List Item → List UInt8
  | _, [] => []
  | o, i :: r => centralB i.cen o ++ dirB (o + i.bytes.length) r
theorem filesB_append (a b : List Item) : filesB (a ++ b) = filesB a ++ filesB b := by
  induction a with
  | nil => rfl
  | cons i r ih => rw [List.cons_append, filesB, ih, filesB, List.append_assoc]
theorem dirB_append (a b : List Item) (o : Nat) : dirB o (a ++ b) = dirB o a ++ dirB (o + (filesB a).length) b := by
  induction a generalizing o with
  | nil => rfl
  | cons i r ih => rw [List.cons_append, dirB, ih, dirB, List.append_assoc, filesB, List.length_append, Nat.add_assoc]
/-- The place of file k; the place of its header in the directory. -/
def offs (l : List Item) (k : Nat) : Nat := (filesB (l.take k)).length
def dats (l : List Item) (k : Nat) : Nat := (dirB 0 (l.take k)).length
theorem split_at (l : List Item) (k : Nat) (h : k < l.length) : l = l.take k ++ l[k] :: l.drop (k + 1) := by
  rw [← List.drop_eq_getElem_cons h, List.take_append_drop]
theorem take_one (l : List Item) (k : Nat) (h : k < l.length) : l.take (k + 1) = l.take k ++ [l[k]] := List.take_succ_eq_append_getElem h
theorem offs_next (l : List Item) (k : Nat) (h : k < l.length) : offs l (k + 1) = offs l k + l[k].bytes.length := by
  unfold offs; rw [take_one l k h, filesB_append]; simp [filesB]
theorem dats_next (l : List Item) (k : Nat) (h : k < l.length) : dats l (k + 1) = dats l k + (centralB l[k].cen (offs l k)).length := by
  unfold dats; rw [take_one l k h, dirB_append]; simp [dirB, offs]
theorem offs_all (l : List Item) : offs l l.length = (filesB l).length := by unfold offs; rw [List.take_length]
theorem dats_all (l : List Item) : dats l l.length = (dirB 0 l).length := by unfold dats; rw [List.take_length]
theorem files_drop (l : List Item) (k : Nat) (h : k < l.length) : (filesB l).drop (offs l k) = localB l[k].loc ++ (l[k].data ++ (l[k].tail ++ filesB (l.drop (k + 1)))) := by
  conv => lhs; arg 2; rw [split_at l k h]
  rw [filesB_append]
  unfold offs
  rw [List.drop_left, filesB, Item.bytes]
  simp only [List.append_assoc]
theorem dir_drop (l : List Item) (k : Nat) (h : k < l.length) : (dirB 0 l).drop (dats l k) = centralB l[k].cen (offs l k) ++ dirB (offs l (k + 1)) (l.drop (k + 1)) := by
  rw [offs_next l k h]
  conv => lhs; arg 2; rw [split_at l k h]
  rw [dirB_append]
  unfold dats
  rw [List.drop_left, dirB, Nat.zero_add]
  rfl
theorem offs_mono (l : List Item) (k : Nat) (h : k < l.length) : offs l k + (localB l[k].loc).length + l[k].data.length ≤ (filesB l).length := by
  have e := congrArg List.length (files_drop l k h)
  simp only [List.length_append, List.length_drop, localB_length] at e
  rw [localB_length]
  omega
theorem dats_mono (l : List Item) (k : Nat) (h : k < l.length) : dats l k + (centralB l[k].cen (offs l k)).length ≤ (dirB 0 l).length := by
  have e := congrArg List.length (dir_drop l k h)
  simp only [List.length_append, List.length_drop, centralB_length] at e
  rw [centralB_length]
  omega
/-- In a text that begins with the files. -/
theorem files_at (l : List Item) (k : Nat) (h : k < l.length) (r : List UInt8) : (filesB l ++ r).drop (offs l k) = localB l[k].loc ++ (l[k].data ++ (l[k].tail ++ filesB (l.drop (k + 1)) ++ r)) := by
  have := offs_mono l k h
  rw [List.drop_append_of_le_length (by omega), files_drop l k h]
  simp only [List.append_assoc]
theorem dir_at (l : List Item) (k : Nat) (h : k < l.length) : (filesB l ++ dirB 0 l).drop ((filesB l).length + dats l k) = centralB l[k].cen (offs l k) ++ dirB (offs l (k + 1)) (l.drop (k + 1)) := by
  rw [← List.drop_drop, List.drop_left, dir_drop l k h]
end Go.Proofs.YtfagjhgmmaebfaaGreatDoor
