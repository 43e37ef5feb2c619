/- The plain law: the end of an archive is found where it stands, if it is the only one and its comment is there. -/
import Derived.Test.YtkkdblifgekmkaaDoorFind
import Derived.Test.YtkkdblifgekmkaaDoorEnd
namespace Go.Proofs.YtkkdblifgekmkaaDoor

theorem sig_len {l : List UInt8} {j : Nat} (h : sigAt l j = true) : j + 4 ≤ l.length := by
  unfold sigAt at h
  have e : (l.drop j).take 4 = [80, 75, 5, 6] := by simpa using h
  have := congrArg List.length e
  simp at this
  omega
theorem sig_take {l : List UInt8} {m j : Nat} (h : sigAt (l.take m) j = true) : sigAt l j = true ∧ j + 4 ≤ m := by
  have hl := sig_len h
  rw [List.length_take] at hl
  refine ⟨?_, by omega⟩
  unfold sigAt at h ⊢
  rw [List.drop_take, List.take_take, Nat.min_eq_left (by omega)] at h
  exact h
theorem take_sig {l : List UInt8} {m j : Nat} (h : sigAt l j = true) (hm : j + 4 ≤ m) : sigAt (l.take m) j = true := by
  unfold sigAt at h ⊢
  rw [List.drop_take, List.take_take, Nat.min_eq_left (by omega)]
  exact h
theorem cnt_one {l : List UInt8} {a k : Nat} (ha : a < k) (h : sigAt l a = true) : 1 ≤ cnt l k := by
  induction k with
  | zero => omega
  | succ k ih =>
    unfold cnt
    by_cases e : a = k
    · subst e; rw [if_pos h]; omega
    · have := ih (by omega); omega
theorem cnt_two {l : List UInt8} {a b k : Nat} (hab : a < b) (hb : b < k) (h : sigAt l a = true) (h' : sigAt l b = true) : 2 ≤ cnt l k := by
  induction k with
  | zero => omega
  | succ k ih =>
    unfold cnt
    by_cases e : b = k
    · subst e; rw [if_pos h']; have := cnt_one hab h; omega
    · have := ih (by omega); omega
theorem only_one {l : List UInt8} (h1 : endsL l = 1) {a b : Nat} (ha : sigAt l a = true) (hb : sigAt l b = true) : a = b := by
  unfold endsL at h1
  have la := sig_len ha
  have lb := sig_len hb
  rcases Nat.lt_trichotomy a b with h | h | h
  · have := cnt_two h (show b < l.length - 3 by omega) ha hb; omega
  · exact h
  · have := cnt_two h (show a < l.length - 3 by omega) hb ha; omega
theorem find_none {l : List UInt8} (K : Nat) (h : ∀ i, i < K → sigAt l i = false) : findFrom l K = -1 := by
  induction K with
  | zero => rfl
  | succ K ih =>
    unfold findFrom
    rw [if_neg (by rw [h K (by omega)]; decide)]
    exact ih fun i hi => h i (by omega)
theorem find_at {l : List UInt8} (K a : Nat) (ha : a < K) (hs : sigAt l a = true) (h : ∀ i, i < K → sigAt l i = true → i = a) : findFrom l K = if le2 l (a + 20) + 22 + a > l.length then -1 else (a : Int) := by
  induction K with
  | zero => omega
  | succ K ih =>
    unfold findFrom
    by_cases e : a = K
    · subst e; rw [if_pos hs]
    · rw [if_neg ?_]
      · exact ih (by omega) fun i hi => h i (by omega)
      · intro hK; exact e (h K (by omega) hK).symm

theorem end_eq (c : List UInt8) : endL 0 0 0 c = [80, 75, 5, 6, 0, 0, 0, 0, 0, 0, 0, 0, 0, 0, 0, 0, 0, 0, 0, 0] ++ (UInt8.ofNat (c.length % 256) :: UInt8.ofNat (c.length / 256 % 256) :: c) := rfl
theorem find_law (b c : List UInt8) (hc : c.length ≤ 65535) (h1 : endsL (b ++ endL 0 0 0 c) = 1) (cut : Nat) (hcut : cut ≤ (b ++ endL 0 0 0 c).length) :
    findL ((b ++ endL 0 0 0 c).take ((b ++ endL 0 0 0 c).length - cut)) = if cut > 0 then -1 else (b.length : Int) := by
  have hlen : (b ++ endL 0 0 0 c).length = b.length + 22 + c.length := by rw [end_eq]; simp; omega
  have hs : sigAt (b ++ endL 0 0 0 c) b.length = true := by
    unfold sigAt
    rw [List.drop_left, end_eq]; rfl
  obtain ⟨s, hS⟩ : ∃ s, s = b ++ endL 0 0 0 c := ⟨_, rfl⟩
  have hg : ∀ i, s.getD (b.length + i) 0 = (endL 0 0 0 c).getD i 0 := fun i => by
    rw [hS]; simp [List.getD, List.getElem?_append_right]
  rw [← hS] at hlen hs h1 hcut ⊢
  obtain ⟨m, hm⟩ : ∃ m, m = s.length - cut := ⟨_, rfl⟩
  rw [← hm]
  have hml : (s.take m).length = m := by rw [List.length_take]; omega
  unfold findL
  rw [hml]
  by_cases hfit : b.length + 22 ≤ m
  · rw [find_at (m - 21) b.length (by omega) (take_sig hs (by omega)) fun i hi h => only_one h1 (sig_take h).1 hs]
    have hle : le2 (s.take m) (b.length + 20) = c.length := by
      have g : ∀ i, i < m → (s.take m).getD i 0 = s.getD i 0 := fun i hi => by simp [List.getD, hi]
      unfold le2
      rw [g _ (by omega), g _ (by omega), hg 20, show b.length + 20 + 1 = b.length + 21 by omega, hg 21, end_eq]
      have e1 : (UInt8.ofNat (c.length % 256)).toNat = c.length % 256 := by simp
      have e2 : (UInt8.ofNat (c.length / 256 % 256)).toNat = c.length / 256 % 256 := by simp
      show (UInt8.ofNat (c.length % 256)).toNat + 256 * (UInt8.ofNat (c.length / 256 % 256)).toNat = _
      rw [e1, e2]; omega
    rw [hle, hml]
    by_cases h0 : cut > 0
    · rw [if_pos h0, if_pos (by omega)]
    · rw [if_neg h0, if_neg (by omega)]
  · rw [find_none, if_pos (by omega)]
    intro i hi
    cases h : sigAt (s.take m) i
    · rfl
    · have := only_one h1 (sig_take h).1 hs
      omega
theorem find_empty_end : findL (endL 0 0 0 []) = 0 := by decide
theorem find_empty : findL [] = -1 := by decide
end Go.Proofs.YtkkdblifgekmkaaDoor
