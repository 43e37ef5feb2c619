/- The plain law on UTF-8: the reference's first sign against Go's decoder. No program in sight. -/
import Derived.Test.YtfagjhgmmaebfaaGreatDoorBlk
import Derived.Shelf.Unicode.DecodeSlow
import Derived.Lib.Small
namespace Go.Proofs.YtfagjhgmmaebfaaGreatDoor

/-- The signs behind the first byte. -/
def contR : List UInt8 → Nat → Option Nat
  | [], c => some c
  | b :: bs, c => if 128 ≤ b.toNat ∧ b.toNat ≤ 191 then contR bs (c * 64 + b.toNat - 128) else none
/-- How many bytes, what is taken off the first one, the least sign. -/
def headR (c : Nat) : Option (Nat × Nat × Nat) :=
  if 194 ≤ c ∧ c ≤ 223 then some (2, 192, 128) else if 224 ≤ c ∧ c ≤ 239 then some (3, 224, 2048) else if 240 ≤ c ∧ c ≤ 244 then some (4, 240, 65536) else none
def rune1N : List UInt8 → Nat
  | [] => 0
  | b :: t => if b.toNat < 128 then 1 else match headR b.toNat with
    | none => 0
    | some (n, o, low) => if t.length + 1 < n then 0 else match contR (t.take (n - 1)) (b.toNat - o) with
      | none => 0
      | some c => if c < low ∨ 1114111 < c ∨ (55296 ≤ c ∧ c ≤ 57343) then 0 else n
def decL (l : List UInt8) : Nat × Nat := Lib.decodeGo ⟨l.toArray⟩

theorem get_lit (l : List UInt8) (i : Nat) (h : i < l.length) : (ByteArray.mk l.toArray).get! i = l[i] := by
  show l.toArray[i]! = _
  simp [h]

def Rel (b x : Nat) (L r : Nat) (d : Nat × Nat) : Prop :=
  (r = 0 ∧ d = (65533, 1)) ∨ (r = 1 ∧ d = (b, 1) ∧ x < 128) ∨ (2 ≤ r ∧ r ≤ L ∧ d.2 = r ∧ 128 ≤ d.1 ∧ d.1 ≤ 1114111 ∧ Lib.validRune (d.1 : Int) = true)
theorem rel_err {b x L r : Nat} {d : Nat × Nat} (h : r = 0) (h' : d = (65533, 1)) : Rel b x L r d := .inl ⟨h, h'⟩
theorem rel_ok {b x L r c n : Nat} (h1 : 2 ≤ r) (h2 : r ≤ L) (h3 : n = r) (h4 : 128 ≤ c) (h5 : c ≤ 1114111) (h6 : c < 55296 ∨ 57343 < c) : Rel b x L r (c, n) := by
  refine .inr (.inr ⟨h1, h2, h3, h4, h5, ?_⟩)
  simp only [Lib.validRune, decide_eq_true_eq]
  omega

/-- Both, over numbers. -/
def decN (L x0 x1 x2 x3 : Nat) : Nat × Nat :=
  if x0 < 128 then (x0, 1)
  else if x0 / 32 = 6 ∧ (1 < L ∧ x1 / 64 = 2) then (if x0 % 32 * 64 + x1 % 64 ≥ 128 then (x0 % 32 * 64 + x1 % 64, 2) else (65533, 1))
  else if (x0 / 16 = 14 ∧ (1 < L ∧ x1 / 64 = 2)) ∧ (2 < L ∧ x2 / 64 = 2) then
    (if x0 % 16 * 4096 + x1 % 64 * 64 + x2 % 64 ≥ 2048 ∧ Utf8.valid ((x0 % 16 * 4096 + x1 % 64 * 64 + x2 % 64 : Nat) : Int) = true then (x0 % 16 * 4096 + x1 % 64 * 64 + x2 % 64, 3) else (65533, 1))
  else if ((x0 / 8 = 30 ∧ (1 < L ∧ x1 / 64 = 2)) ∧ (2 < L ∧ x2 / 64 = 2)) ∧ (3 < L ∧ x3 / 64 = 2) then
    (if x0 % 8 * 262144 + x1 % 64 * 4096 + x2 % 64 * 64 + x3 % 64 ≥ 65536 ∧ Utf8.valid ((x0 % 8 * 262144 + x1 % 64 * 4096 + x2 % 64 * 64 + x3 % 64 : Nat) : Int) = true then (x0 % 8 * 262144 + x1 % 64 * 4096 + x2 % 64 * 64 + x3 % 64, 4) else (65533, 1))
  else (65533, 1)
def finR (n low c : Nat) : Nat := if c < low ∨ 1114111 < c ∨ (55296 ≤ c ∧ c ≤ 57343) then 0 else n
def runN (L x0 x1 x2 x3 : Nat) : Nat :=
  if x0 < 128 then 1
  else if 194 ≤ x0 ∧ x0 ≤ 223 then (if L < 2 ∨ ¬ (128 ≤ x1 ∧ x1 ≤ 191) then 0 else finR 2 128 ((x0 - 192) * 64 + x1 - 128))
  else if 224 ≤ x0 ∧ x0 ≤ 239 then (if L < 3 ∨ ¬ (128 ≤ x1 ∧ x1 ≤ 191) ∨ ¬ (128 ≤ x2 ∧ x2 ≤ 191) then 0 else finR 3 2048 (((x0 - 224) * 64 + x1 - 128) * 64 + x2 - 128))
  else if 240 ≤ x0 ∧ x0 ≤ 244 then (if L < 4 ∨ ¬ (128 ≤ x1 ∧ x1 ≤ 191) ∨ ¬ (128 ≤ x2 ∧ x2 ≤ 191) ∨ ¬ (128 ≤ x3 ∧ x3 ≤ 191) then 0 else finR 4 65536 ((((x0 - 240) * 64 + x1 - 128) * 64 + x2 - 128) * 64 + x3 - 128))
  else 0

theorem valid_iff (c : Nat) : Utf8.valid (c : Int) = true ↔ (c < 55296 ∨ 57344 ≤ c) ∧ c ≤ 1114111 := by
  unfold Utf8.valid
  simp only [Bool.or_eq_true, Bool.and_eq_true, decide_eq_true_eq]
  omega
theorem num_rel (L x0 x1 x2 x3 : Nat) (h0 : x0 < 256) (h1 : x1 < 256) (h2 : x2 < 256) (h3 : x3 < 256) : Rel x0 x0 L (runN L x0 x1 x2 x3) (decN L x0 x1 x2 x3) := by
  unfold runN decN
  simp only [valid_iff]
  by_cases a : x0 < 128
  · rw [if_pos a, if_pos a]; exact .inr (.inl ⟨rfl, rfl, a⟩)
  rw [if_neg a, if_neg a]
  by_cases a2 : 194 ≤ x0 ∧ x0 ≤ 223
  · rw [if_pos a2]
    unfold finR
    repeat' split
    all_goals first | exact rel_err rfl rfl | exact rel_ok (by omega) (by omega) (by omega) (by omega) (by omega) (by omega) | (exfalso; omega)
  rw [if_neg a2]
  by_cases a3 : 224 ≤ x0 ∧ x0 ≤ 239
  · rw [if_pos a3]
    unfold finR
    repeat' split
    all_goals first | exact rel_err rfl rfl | exact rel_ok (by omega) (by omega) (by omega) (by omega) (by omega) (by omega) | (exfalso; omega)
  rw [if_neg a3]
  by_cases a4 : 240 ≤ x0 ∧ x0 ≤ 244
  · rw [if_pos a4]
    unfold finR
    repeat' split
    all_goals first | exact rel_err rfl rfl | exact rel_ok (by omega) (by omega) (by omega) (by omega) (by omega) (by omega) | (exfalso; omega)
  rw [if_neg a4]
  repeat' split
  all_goals first | exact rel_err rfl rfl | (exfalso; omega)

def byteN (l : List UInt8) (i : Nat) : Nat := ((ByteArray.mk l.toArray).get! i).toNat
theorem byteN_at (l : List UInt8) (i : Nat) (h : i < l.length) : byteN l i = l[i].toNat := by unfold byteN; rw [get_lit l i h]
theorem byteN_lt (l : List UInt8) (i : Nat) : byteN l i < 256 := UInt8.toNat_lt _
theorem decL_eq (b : UInt8) (t : List UInt8) : decL (b :: t) = decN (t.length + 1) b.toNat (byteN (b :: t) 1) (byteN (b :: t) 2) (byteN (b :: t) 3) := by
  have hsz : (ByteArray.mk (b :: t).toArray).size = t.length + 1 := rfl
  have g0 : (ByteArray.mk (b :: t).toArray).get! 0 = b := get_lit (b :: t) 0 (by simp)
  unfold decL Lib.decodeGo
  rw [if_neg (by omega)]
  unfold Utf8.decode decN byteN
  simp only [hsz, Nat.zero_add, g0, Bool.and_eq_true, beq_iff_eq, decide_eq_true_eq, Utf8.runeError]
theorem run_eq (b : UInt8) (t : List UInt8) : rune1N (b :: t) = runN (t.length + 1) b.toNat (byteN (b :: t) 1) (byteN (b :: t) 2) (byteN (b :: t) 3) := by
  simp only [rune1N, runN, headR]
  by_cases a : b.toNat < 128
  · rw [if_pos a, if_pos a]
  rw [if_neg a, if_neg a]
  by_cases a2 : 194 ≤ b.toNat ∧ b.toNat ≤ 223
  · rw [if_pos a2, if_pos a2]
    rcases t with _ | ⟨b1, t⟩
    · rfl
    · have e1 : byteN (b :: b1 :: t) 1 = b1.toNat := byteN_at _ 1 (by simp)
      simp only [e1, List.length_cons, List.take_succ_cons, List.take_zero, contR, finR, Nat.add_one_sub_one]
      by_cases q1 : 128 ≤ b1.toNat ∧ b1.toNat ≤ 191
      · rw [if_neg (by omega), if_pos q1, if_neg (by omega)]
      · rw [if_neg (by omega), if_neg q1, if_pos (by omega)]
  rw [if_neg a2, if_neg a2]
  by_cases a3 : 224 ≤ b.toNat ∧ b.toNat ≤ 239
  · rw [if_pos a3, if_pos a3]
    rcases t with _ | ⟨b1, _ | ⟨b2, t⟩⟩
    · rfl
    · rw [if_pos (show ([b1] : List UInt8).length + 1 < 3 ∨ _ from .inl (by simp))]; rfl
    · have e1 : byteN (b :: b1 :: b2 :: t) 1 = b1.toNat := byteN_at _ 1 (by simp)
      have e2 : byteN (b :: b1 :: b2 :: t) 2 = b2.toNat := byteN_at _ 2 (by simp)
      simp only [e1, e2, List.length_cons, List.take_succ_cons, List.take_zero, contR, finR, Nat.add_one_sub_one]
      by_cases q1 : 128 ≤ b1.toNat ∧ b1.toNat ≤ 191
      · by_cases q2 : 128 ≤ b2.toNat ∧ b2.toNat ≤ 191
        · rw [if_neg (by omega), if_pos q1, if_pos q2, if_neg (by omega)]
        · rw [if_neg (by omega), if_pos q1, if_neg q2, if_pos (by omega)]
      · rw [if_neg (by omega), if_neg q1, if_pos (by omega)]
  rw [if_neg a3, if_neg a3]
  by_cases a4 : 240 ≤ b.toNat ∧ b.toNat ≤ 244
  · rw [if_pos a4, if_pos a4]
    rcases t with _ | ⟨b1, _ | ⟨b2, _ | ⟨b3, t⟩⟩⟩
    · rfl
    · rw [if_pos (show ([b1] : List UInt8).length + 1 < 4 ∨ _ from .inl (by simp))]; rfl
    · rw [if_pos (show ([b1, b2] : List UInt8).length + 1 < 4 ∨ _ from .inl (by simp))]; rfl
    · have e1 : byteN (b :: b1 :: b2 :: b3 :: t) 1 = b1.toNat := byteN_at _ 1 (by simp)
      have e2 : byteN (b :: b1 :: b2 :: b3 :: t) 2 = b2.toNat := byteN_at _ 2 (by simp)
      have e3 : byteN (b :: b1 :: b2 :: b3 :: t) 3 = b3.toNat := byteN_at _ 3 (by simp)
      simp only [e1, e2, e3, List.length_cons, List.take_succ_cons, List.take_zero, contR, finR, Nat.add_one_sub_one]
      by_cases q1 : 128 ≤ b1.toNat ∧ b1.toNat ≤ 191
      · by_cases q2 : 128 ≤ b2.toNat ∧ b2.toNat ≤ 191
        · by_cases q3 : 128 ≤ b3.toNat ∧ b3.toNat ≤ 191
          · rw [if_neg (by omega), if_pos q1, if_pos q2, if_pos q3, if_neg (by omega)]
          · rw [if_neg (by omega), if_pos q1, if_pos q2, if_neg q3, if_pos (by omega)]
        · rw [if_neg (by omega), if_pos q1, if_neg q2, if_pos (by omega)]
      · rw [if_neg (by omega), if_neg q1, if_pos (by omega)]
  rw [if_neg a4, if_neg a4]
theorem dec_rune (b : UInt8) (t : List UInt8) : Rel b.toNat b.toNat (t.length + 1) (rune1N (b :: t)) (decL (b :: t)) := by
  rw [run_eq, decL_eq]
  exact num_rel _ _ _ _ _ (UInt8.toNat_lt _) (byteN_lt _ _) (byteN_lt _ _) (byteN_lt _ _)

/-- detectUTF8, sign by sign (f: no fewer than the bytes that are left). -/
def oddR (r : Nat) : Bool := decide (r < 32) || decide (125 < r) || r == 92
def detF : Nat → List UInt8 → Bool → Bool × Bool
  | _, [], q => (true, q)
  | 0, _, q => (true, q)
  | f + 1, b :: t, q =>
    if oddR (decL (b :: t)).1 then (if !Lib.validRune ((decL (b :: t)).1 : Int) || ((decL (b :: t)).1 == 65533 && (decL (b :: t)).2 == 1) then (false, false) else detF f ((b :: t).drop (decL (b :: t)).2) true)
    else detF f ((b :: t).drop (decL (b :: t)).2) q
def valF : Nat → List UInt8 → Bool → Bool × Bool
  | _, [], q => (true, q)
  | 0, _, q => (true, q)
  | f + 1, b :: t, q =>
    if rune1N (b :: t) == 0 then (false, false) else valF f ((b :: t).drop (rune1N (b :: t))) (q || (decide (1 < rune1N (b :: t)) || oddR b.toNat))
theorem det_val (f : Nat) : ∀ (l : List UInt8) (q : Bool), detF f l q = valF f l q := by
  induction f with
  | zero => intro l q; cases l <;> rfl
  | succ f ih =>
    intro l q
    rcases l with _ | ⟨b, t⟩
    · rfl
    unfold detF valF
    rcases dec_rune b t with ⟨h1, h2⟩ | ⟨h1, h2, h3⟩ | ⟨h1, h2, h3, h4, h5, h6⟩
    · rw [h1, h2]
      have : oddR 65533 = true := by decide
      simp [this]
    · rw [h1, h2]
      have hv : Lib.validRune (b.toNat : Int) = true := by simp only [Lib.validRune, decide_eq_true_eq]; omega
      have hne : (b.toNat == 65533) = false := by rw [beq_eq_false_iff_ne]; omega
      cases ho : oddR b.toNat
      · simp [ih]
      · simp [ih, hv, hne]
    · have ho : oddR (decL (b :: t)).1 = true := by unfold oddR; simp; omega
      have hn1 : ((decL (b :: t)).2 == 1) = false := by rw [beq_eq_false_iff_ne]; omega
      have hn0 : (rune1N (b :: t) == 0) = false := by rw [beq_eq_false_iff_ne]; omega
      have hgt : decide (1 < rune1N (b :: t)) = true := by simp; omega
      rw [if_pos ho, h6, hn1, hn0, hgt, h3]
      simp [ih]
theorem rune_le (b : UInt8) (t : List UInt8) : rune1N (b :: t) ≤ t.length + 1 := by
  rcases dec_rune b t with ⟨h1, _⟩ | ⟨h1, _, _⟩ | ⟨_, h2, _, _, _, _⟩
  · omega
  · omega
  · exact h2
theorem dec_size (b : UInt8) (t : List UInt8) : 1 ≤ (decL (b :: t)).2 ∧ (decL (b :: t)).2 ≤ t.length + 1 ∧ (decL (b :: t)).1 ≤ 1114111 := by
  rcases dec_rune b t with ⟨h1, h2⟩ | ⟨h1, h2, h3⟩ | ⟨h1, h2, h3, h4, h5, h6⟩
  · rw [h2]; simp
  · rw [h2]; simp; omega
  · omega
end Go.Proofs.YtfagjhgmmaebfaaGreatDoor
