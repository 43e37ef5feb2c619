/- Contract of findSignatureInBlock. -/
import Derived.Test.YtfagjhgmmaebfaaGreatDoorEnd
import Derived.Deep.QuietTactic
import Derived.BigQuiet
namespace Go.Proofs.YtfagjhgmmaebfaaGreatDoor
open Go.RowKit
/-- Two bytes at a place, the lowest one first. -/
def le2 (l : List UInt8) (i : Nat) : Nat := (l.getD i 0).toNat + 256 * (l.getD (i + 1) 0).toNat
/-- The last beginning of an end before place k, if the comment behind it fits; else -1. -/
def findFrom (l : List UInt8) : Nat → Int
  | 0 => -1
  | i + 1 => if sigAt l i then (if le2 l (i + 20) + 22 + i > l.length then -1 else i) else findFrom l i
def findL (l : List UInt8) : Int := findFrom l (l.length - 21)

theorem find_short (A : Option Addr) (n c : Nat) (hn : n < 22) (w : World) :
    Calls Tryz.prog 48 #[.slice A n c] w fun e w' => e = .returned (.int .i64 (-1)) ∧ w = w' := by
  go_enter Tryz.func48, Tryz.ntmps48
  go_wp2
  refine wp_loop_rounds 1 ?_
  rw [rounds_succ]
  go_wp2
  go_ret
  exact ⟨rfl, rfl⟩
theorem sig_at (l : List UInt8) (k : Nat) (h : k + 4 ≤ l.length) : sigAt l k = (l[k] == 80 && (l[k + 1] == 75 && (l[k + 2] == 5 && l[k + 3] == 6))) := by
  unfold sigAt
  have e : (l.drop k).take 4 = [l[k], l[k + 1], l[k + 2], l[k + 3]] := by
    rw [List.drop_eq_getElem_cons (by omega), List.drop_eq_getElem_cons (by omega), List.drop_eq_getElem_cons (by omega), List.drop_eq_getElem_cons (by omega)]
    rfl
  rw [e]
  rw [Bool.eq_iff_iff]
  simp
theorem byte_int (x y : UInt8) : (((x.toNat : Nat) : Int) == ((y.toNat : Nat) : Int)) = (x == y) := by
  rw [Bool.eq_iff_iff]
  simp only [beq_iff_eq]
  constructor
  · intro h; exact UInt8.toNat_inj.1 (by omega)
  · rintro rfl; rfl
theorem sig_cases (l : List UInt8) (k : Nat) (h : k + 4 ≤ l.length) :
    (sigAt l k = true ∧ (l[k].toNat : Int) = 80 ∧ (l[k + 1].toNat : Int) = 75 ∧ (l[k + 2].toNat : Int) = 5 ∧ (l[k + 3].toNat : Int) = 6) ∨
    (sigAt l k = false ∧ (((l[k].toNat : Int) == 80) = false ∨ (l[k].toNat : Int) = 80 ∧ (((l[k + 1].toNat : Int) == 75) = false ∨ (l[k + 1].toNat : Int) = 75 ∧ (((l[k + 2].toNat : Int) == 5) = false ∨ (l[k + 2].toNat : Int) = 5 ∧ ((l[k + 3].toNat : Int) == 6) = false)))) := by
  rw [sig_at l k h]
  have e0 := byte_int l[k] 80
  have e1 := byte_int l[k + 1] 75
  have e2 := byte_int l[k + 2] 5
  have e3 := byte_int l[k + 3] 6
  simp only [show ((80 : UInt8).toNat : Int) = 80 from rfl] at e0
  simp only [show ((75 : UInt8).toNat : Int) = 75 from rfl] at e1
  simp only [show ((5 : UInt8).toNat : Int) = 5 from rfl] at e2
  simp only [show ((6 : UInt8).toNat : Int) = 6 from rfl] at e3
  rw [← e0, ← e1, ← e2, ← e3]
  cases h0 : ((l[k].toNat : Int) == 80) <;> cases h1 : ((l[k + 1].toNat : Int) == 75) <;> cases h2 : ((l[k + 2].toNat : Int) == 5) <;> cases h3 : ((l[k + 3].toNat : Int) == 6) <;> simp_all
theorem rel_next {l : List UInt8} {k : Nat} (hk : k + 22 ≤ l.length) (h : findL l = findFrom l k) :
    (∃ k1 : Nat, Value.int .i64 ((k : Int) - 1) = .int .i64 k1 ∧ k1 + 22 ≤ l.length ∧ findL l = findFrom l (k1 + 1)) ∨ (Value.int .i64 ((k : Int) - 1) = .int .i64 (-1) ∧ findL l = -1) := by
  rcases k with _ | k
  · exact .inr ⟨rfl, h⟩
  · exact .inl ⟨k, by rw [show (((k + 1 : Nat) : Int) - 1) = k by omega], by omega, h⟩
theorem or16 (x y : Nat) (hx : x < 256) (hy : y < 256) : bits .or .i64 (x : Int) ((y : Int) * 256) = ((x + 256 * y : Nat) : Int) := by
  have h := (bits_nat .i64 16 (by decide) (fun n h0 h1 => by rw [IntKind.wrap_i64]; omega) x (256 * y) (by omega) (by omega)).2
  rw [show ((y : Int) * 256) = ((256 * y : Nat) : Int) by omega, h, Nat.or_comm]
  have := Nat.two_pow_add_eq_or_of_lt (i := 8) hx y
  simp only [show 2 ^ 8 = 256 from rfl] at this
  rw [← this]
  omega
set_option maxHeartbeats 1000000 in
theorem find_long (b off c : Nat) (l : List UInt8) (h22 : 22 ≤ l.length) (hmax : l.length ≤ 140737488355328) (w : World) (hl : BytesAt w ⟨b, off, none⟩ l) :
    Calls Tryz.prog 48 #[.slice (some ⟨b, off, none⟩) l.length c] w fun e w' => e = .returned (.int .i64 (findL l)) ∧ Below w.heap.size w w' := by
  go_enter Tryz.func48, Tryz.ntmps48
  go_wp2
  go_loop [3] (fun s3 => (∃ k : Nat, s3 = .int .i64 k ∧ k + 22 ≤ l.length ∧ findL l = findFrom l (k + 1)) ∨ (s3 = .int .i64 (-1) ∧ findL l = -1)) (fun s3 => (intOf s3 + 1).toNat)
  case atStart =>
    refine .inl ⟨l.length - 22, ?_, by omega, ?_⟩
    · rw [show ((l.length - 22 : Nat) : Int) = (l.length : Int) - 22 by omega]
    · unfold findL; congr 1; omega
  case round =>
    rcases hrel with ⟨k, rfl, hk, HF0⟩ | ⟨rfl, HF0⟩
    · have H0 := hl k (by omega)
      have H1 := hl (k + 1) (by omega)
      have H2 := hl (k + 2) (by omega)
      have H3 := hl (k + 3) (by omega)
      have H20 := hl (k + 20) (by omega)
      have H21 := hl (k + 21) (by omega)
      rw [Addr.add_lit] at H0 H1 H2 H3 H20 H21
      unfold byteV at H0 H1 H2 H3 H20 H21
      have HF := Lib.hid HF0
      clear HF0
      rcases sig_cases l k (by omega) with ⟨hs, h0, h1, h2, h3⟩ | ⟨hs, hh⟩
      · rw [h0] at H0
        rw [h1] at H1
        rw [h2] at H2
        rw [h3] at H3
        have HS := Lib.hid hs
        clear hs h0 h1 h2 h3
        have hw1 : IntKind.i64.wrap ((k : Int) + 22) = (k : Int) + 22 := IntWalk.i64_in _ (by omega)
        have hw2 : IntKind.i64.wrap ((k : Int) + 22 - 2) = ((k + 20 : Nat) : Int) := by rw [IntWalk.i64_in _ (by omega)]; omega
        have hw3 : IntKind.i64.wrap ((k : Int) + 22 - 1) = ((k + 21 : Nat) : Int) := by rw [IntWalk.i64_in _ (by omega)]; omega
        obtain ⟨x, hx⟩ : ∃ x : Nat, x = l[k + 20].toNat := ⟨_, rfl⟩
        obtain ⟨y, hy⟩ : ∃ y : Nat, y = l[k + 21].toNat := ⟨_, rfl⟩
        have x1 : x < 256 := by rw [hx]; exact UInt8.toNat_lt _
        have y1 : y < 256 := by rw [hy]; exact UInt8.toNat_lt _
        rw [← hx] at H20
        rw [← hy] at H21
        have hle : le2 l (k + 20) = x + 256 * y := by
          unfold le2
          rw [hx, hy]
          simp [List.getD, List.getElem?_eq_getElem (show k + 20 < l.length by omega), List.getElem?_eq_getElem (show k + 20 + 1 < l.length by omega)]
        have hor := or16 x y x1 y1
        have hwx : IntKind.i64.wrap (x : Int) = x := IntWalk.i64_in _ (by omega)
        have hwy : IntKind.i64.wrap (y : Int) = y := IntWalk.i64_in _ (by omega)
        have hws : IntKind.i64.wrap ((y : Int) * 256) = (y : Int) * 256 := IntWalk.i64_in _ (by omega)
        have HL := Lib.hid hle
        clear hx hy hle
        go_wp2
        go_quiet (fail)
        by_cases hfit : x + 256 * y + 22 + k > l.length
        · have HR : Hid (findL l = -1) := by
            refine Lib.hid ?_
            rw [HF.out]; unfold findFrom
            rw [if_pos HS.out, HL.out, if_pos hfit]
          clear HF HS HL
          go_wp2
          go_ret
          exact ⟨by rw [HR.out]; rfl, below_self _ _ _⟩
        · have HR : Hid (findL l = k) := by
            refine Lib.hid ?_
            rw [HF.out]; unfold findFrom
            rw [if_pos HS.out, HL.out, if_neg hfit]
          clear HF HS HL
          go_wp2
          go_ret
          exact ⟨by rw [HR.out]; rfl, below_self _ _ _⟩
      · have HN : Hid (findL l = findFrom l k) := by
          refine Lib.hid ?_
          rw [HF.out]; rw [findFrom]; rw [if_neg (by rw [hs]; decide)]
        clear HF hs
        rcases hh with h0 | ⟨h0, h1 | ⟨h1, h2 | ⟨h2, h3⟩⟩⟩
        · clear H1 H2 H3 H20 H21
          go_wp2
          go_round
          case rel => exact rel_next (by omega) HN.out
          case measure => simp [intOf]
        · rw [h0] at H0
          clear H2 H3 H20 H21 h0
          go_wp2
          go_round
          case rel => exact rel_next (by omega) HN.out
          case measure => simp [intOf]
        · rw [h0] at H0
          rw [h1] at H1
          clear H3 H20 H21 h0 h1
          go_wp2
          go_round
          case rel => exact rel_next (by omega) HN.out
          case measure => simp [intOf]
        · rw [h0] at H0
          rw [h1] at H1
          rw [h2] at H2
          clear H20 H21 h0 h1 h2
          go_wp2
          go_round
          case rel => exact rel_next (by omega) HN.out
          case measure => simp [intOf]
    · have HF := Lib.hid HF0
      clear HF0
      go_wp2
      go_ret
      exact ⟨by rw [HF.out]; rfl, Below.refl _ _⟩
end Go.Proofs.YtfagjhgmmaebfaaGreatDoor
/- The plain law: the end of an archive is found where it stands, if it is the only one and its comment is there. -/
namespace Go.Proofs.YtfagjhgmmaebfaaGreatDoor

theorem sig_len {l : List UInt8} {j : Nat} (h : sigAt l j = true) : j + 4 ≤ l.length := by
  unfold sigAt at h
  have e : (l.drop j).take 4 = [80, 75, 5, 6] := by simpa using h
  have := congrArg List.length e
  simp at this
  omega
theorem sig_take {l : List UInt8} {m j : Nat} (h : sigAt (l.take m) j = true) : sigAt l j = true ∧ j + 4 ≤ m := by
  have hl := sig_len h
  rw [List.length_take] at hl
  refine ⟨?_, by omega⟩
  unfold sigAt at h ⊢
  rw [List.drop_take, List.take_take, Nat.min_eq_left (by omega)] at h
  exact h
theorem take_sig {l : List UInt8} {m j : Nat} (h : sigAt l j = true) (hm : j + 4 ≤ m) : sigAt (l.take m) j = true := by
  unfold sigAt at h ⊢
  rw [List.drop_take, List.take_take, Nat.min_eq_left (by omega)]
  exact h
theorem cnt_one {l : List UInt8} {a k : Nat} (ha : a < k) (h : sigAt l a = true) : 1 ≤ cnt l k := by
  induction k with
  | zero => omega
  | succ k ih =>
    unfold cnt
    by_cases e : a = k
    · subst e; rw [if_pos h]; omega
    · have := ih (by omega); omega
theorem cnt_two {l : List UInt8} {a b k : Nat} (hab : a < b) (hb : b < k) (h : sigAt l a = true) (h' : sigAt l b = true) : 2 ≤ cnt l k := by
  induction k with
  | zero => omega
  | succ k ih =>
    unfold cnt
    by_cases e : b = k
    · subst e; rw [if_pos h']; have := cnt_one hab h; omega
    · have := ih (by omega); omega
theorem only_one {l : List UInt8} (h1 : endsL l = 1) {a b : Nat} (ha : sigAt l a = true) (hb : sigAt l b = true) : a = b := by
  unfold endsL at h1
  have la := sig_len ha
  have lb := sig_len hb
  rcases Nat.lt_trichotomy a b with h | h | h
  · have := cnt_two h (show b < l.length - 3 by omega) ha hb; omega
  · exact h
  · have := cnt_two h (show a < l.length - 3 by omega) hb ha; omega
theorem find_none {l : List UInt8} (K : Nat) (h : ∀ i, i < K → sigAt l i = false) : findFrom l K = -1 := by
  induction K with
  | zero => rfl
  | succ K ih =>
    unfold findFrom
    rw [if_neg (by rw [h K (by omega)]; decide)]
    exact ih fun i hi => h i (by omega)
theorem find_at {l : List UInt8} (K a : Nat) (ha : a < K) (hs : sigAt l a = true) (h : ∀ i, i < K → sigAt l i = true → i = a) : findFrom l K = if le2 l (a + 20) + 22 + a > l.length then -1 else (a : Int) := by
  induction K with
  | zero => omega
  | succ K ih =>
    unfold findFrom
    by_cases e : a = K
    · subst e; rw [if_pos hs]
    · rw [if_neg ?_]
      · exact ih (by omega) fun i hi => h i (by omega)
      · intro hK; exact e (h K (by omega) hK).symm

theorem end_eq (c : List UInt8) : endL 0 0 0 c = [80, 75, 5, 6, 0, 0, 0, 0, 0, 0, 0, 0, 0, 0, 0, 0, 0, 0, 0, 0] ++ (UInt8.ofNat (c.length % 256) :: UInt8.ofNat (c.length / 256 % 256) :: c) := rfl
theorem find_law (b c : List UInt8) (hc : c.length ≤ 65535) (h1 : endsL (b ++ endL 0 0 0 c) = 1) (cut : Nat) (hcut : cut ≤ (b ++ endL 0 0 0 c).length) :
    findL ((b ++ endL 0 0 0 c).take ((b ++ endL 0 0 0 c).length - cut)) = if cut > 0 then -1 else (b.length : Int) := by
  have hlen : (b ++ endL 0 0 0 c).length = b.length + 22 + c.length := by rw [end_eq]; simp; omega
  have hs : sigAt (b ++ endL 0 0 0 c) b.length = true := by
    unfold sigAt
    rw [List.drop_left, end_eq]; rfl
  obtain ⟨s, hS⟩ : ∃ s, s = b ++ endL 0 0 0 c := ⟨_, rfl⟩
  have hg : ∀ i, s.getD (b.length + i) 0 = (endL 0 0 0 c).getD i 0 := fun i => by
    rw [hS]; simp [List.getD, List.getElem?_append_right]
  rw [← hS] at hlen hs h1 hcut ⊢
  obtain ⟨m, hm⟩ : ∃ m, m = s.length - cut := ⟨_, rfl⟩
  rw [← hm]
  have hml : (s.take m).length = m := by rw [List.length_take]; omega
  unfold findL
  rw [hml]
  by_cases hfit : b.length + 22 ≤ m
  · rw [find_at (m - 21) b.length (by omega) (take_sig hs (by omega)) fun i hi h => only_one h1 (sig_take h).1 hs]
    have hle : le2 (s.take m) (b.length + 20) = c.length := by
      have g : ∀ i, i < m → (s.take m).getD i 0 = s.getD i 0 := fun i hi => by simp [List.getD, hi]
      unfold le2
      rw [g _ (by omega), g _ (by omega), hg 20, show b.length + 20 + 1 = b.length + 21 by omega, hg 21, end_eq]
      have e1 : (UInt8.ofNat (c.length % 256)).toNat = c.length % 256 := by simp
      have e2 : (UInt8.ofNat (c.length / 256 % 256)).toNat = c.length / 256 % 256 := by simp
      show (UInt8.ofNat (c.length % 256)).toNat + 256 * (UInt8.ofNat (c.length / 256 % 256)).toNat = _
      rw [e1, e2]; omega
    rw [hle, hml]
    by_cases h0 : cut > 0
    · rw [if_pos h0, if_pos (by omega)]
    · rw [if_neg h0, if_neg (by omega)]
  · rw [find_none, if_pos (by omega)]
    intro i hi
    cases h : sigAt (s.take m) i
    · rfl
    · have := only_one h1 (sig_take h).1 hs
      omega
theorem find_empty_end : findL (endL 0 0 0 []) = 0 := by decide
theorem find_empty : findL [] = -1 := by decide
end Go.Proofs.YtfagjhgmmaebfaaGreatDoor
