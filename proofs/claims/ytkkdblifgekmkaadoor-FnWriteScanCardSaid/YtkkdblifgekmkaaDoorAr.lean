/- Plain words: where the parts of an archive stand; its records. No program in sight. -/
import Derived.Test.YtkkdblifgekmkaaDoorArch
import Derived.Test.YtkkdblifgekmkaaDoorScan1
import Derived.Test.YtkkdblifgekmkaaDoorEnd
namespace Go.Proofs.YtkkdblifgekmkaaDoor
/-- An archive of items with a comment. -/
def archB (is : List Item) (cl : List UInt8) : List UInt8 := filesB is ++ dirB 0 is ++ endL is.length (dirB 0 is).length (filesB is).length cl
structure ItemOk (i : Item) : Prop where
  loc : i.loc.Fits
  cen : i.cen.Fits
  name : i.loc.name = i.cen.name
  method : i.loc.method = i.cen.method
  packed : i.cen.packed = i.data.length
/-- The records of the items. -/
def recsB : Nat → List Item → List Value
  | _, [] => []
  | o, i :: r => recCells i.cen o i.data ++ recsB (o + i.bytes.length) r
theorem recsB_append (a b : List Item) (o : Nat) : recsB o (a ++ b) = recsB o a ++ recsB (o + (filesB a).length) b := by
  induction a generalizing o with
  | nil => rfl
  | cons i r ih => rw [List.cons_append, recsB, ih, recsB, List.append_assoc, filesB, List.length_append, Nat.add_assoc]
theorem recsB_step (is : List Item) (k : Nat) (h : k < is.length) : recsB 0 (is.take (k + 1)) = recsB 0 (is.take k) ++ recCells is[k].cen (offs is k) is[k].data := by
  rw [take_one is k h, recsB_append, Nat.zero_add]
  simp [recsB, offs]
structure ArchAt (l : List UInt8) (F D n : Nat) (cl : List UInt8) : Prop where
  len : l.length = F + D + 22 + cl.length
  sig : standsL l [80, 75, 5, 6] (F + D) = true
  many0 : numL (sub l (F + D + 8) 2) = n
  many : numL (sub l (F + D + 10) 2) = n
  size : numL (sub l (F + D + 12) 4) = D
  at_ : numL (sub l (F + D + 16) 4) = F
  clen : numL (sub l (F + D + 20) 2) = cl.length
  rest : l.drop (F + D + 22) = cl
theorem endL_length (n d f : Nat) (cl : List UInt8) : (endL n d f cl).length = 22 + cl.length := by
  simp [endL, leB_length]; omega
theorem arch_parts {l : List UInt8} (is : List Item) (cl : List UInt8) {F D : Nat} (hl : l = archB is cl) (hF : F = (filesB is).length) (hD : D = (dirB 0 is).length) (hb : F + D ≤ 4294967295) (hm : is.length < 65536) (hcl : cl.length < 65536) : ArchAt l F D is.length cl := by
  have e : l.drop (F + D) = endL is.length D F cl := by
    rw [hl, archB, hF, hD, ← List.length_append, List.drop_left]
  have g : ∀ {a b c : List UInt8} {i n : Nat}, l.drop (F + D) = a ++ (b ++ c) → a.length = i → b.length = n → sub l (F + D + i) n = b := sub_mid
  have e2 := e
  simp only [endL, List.append_assoc] at e2
  have s8 : sub l (F + D + 8) 2 = leB is.length 2 := g (a := [80, 75, 5, 6] ++ (leB 0 2 ++ leB 0 2)) (by simpa only [List.append_assoc] using e2) (by simp [leB_length]) (leB_length _ _)
  have s10 : sub l (F + D + 10) 2 = leB is.length 2 := g (a := [80, 75, 5, 6] ++ (leB 0 2 ++ (leB 0 2 ++ leB is.length 2))) (by simpa only [List.append_assoc] using e2) (by simp [leB_length]) (leB_length _ _)
  have s12 : sub l (F + D + 12) 4 = leB D 4 := g (a := [80, 75, 5, 6] ++ (leB 0 2 ++ (leB 0 2 ++ (leB is.length 2 ++ leB is.length 2)))) (by simpa only [List.append_assoc] using e2) (by simp [leB_length]) (leB_length _ _)
  have s16 : sub l (F + D + 16) 4 = leB F 4 := g (a := [80, 75, 5, 6] ++ (leB 0 2 ++ (leB 0 2 ++ (leB is.length 2 ++ (leB is.length 2 ++ leB D 4))))) (by simpa only [List.append_assoc] using e2) (by simp [leB_length]) (leB_length _ _)
  have s20 : sub l (F + D + 20) 2 = leB cl.length 2 := g (a := [80, 75, 5, 6] ++ (leB 0 2 ++ (leB 0 2 ++ (leB is.length 2 ++ (leB is.length 2 ++ (leB D 4 ++ leB F 4)))))) (by simpa only [List.append_assoc] using e2) (by simp [leB_length]) (leB_length _ _)
  have s22 : l.drop (F + D + 22) = cl := drop_mid (a := [80, 75, 5, 6] ++ (leB 0 2 ++ (leB 0 2 ++ (leB is.length 2 ++ (leB is.length 2 ++ (leB D 4 ++ (leB F 4 ++ leB cl.length 2))))))) (by simpa only [List.append_assoc] using e2) (by simp [leB_length])
  refine ⟨?_, ?_, ?_, ?_, ?_, ?_, ?_, s22⟩
  · rw [hl, archB, List.length_append, List.length_append, endL_length, ← hF, ← hD]; omega
  · unfold standsL
    rw [e]; rfl
  · rw [s8]; exact leB2 _ hm
  · rw [s10]; exact leB2 _ hm
  · rw [s12]; exact leB4 _ (by omega)
  · rw [s16]; exact leB4 _ (by omega)
  · rw [s20]; exact leB2 _ hcl
theorem arch_take {l : List UInt8} (is : List Item) (cl : List UInt8) {F D : Nat} (hl : l = archB is cl) (hF : F = (filesB is).length) (hD : D = (dirB 0 is).length) : l.take (F + D) = filesB is ++ dirB 0 is := by
  rw [hl, archB, hF, hD, ← List.length_append, List.take_left]
end Go.Proofs.YtkkdblifgekmkaaDoor
