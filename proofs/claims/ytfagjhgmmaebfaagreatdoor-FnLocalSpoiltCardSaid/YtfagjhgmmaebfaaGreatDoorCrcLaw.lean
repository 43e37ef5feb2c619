/- Plain law: the checksum by slicing eight bytes at a time is the checksum bit by bit. No program in sight. -/
import Derived.WalkKit
namespace Go.Proofs.YtfagjhgmmaebfaaGreatDoor
/-- One bit. -/
def crcStep (c : Nat) : Nat := (c >>> 1) ^^^ (if c % 2 = 1 then 3988292384 else 0)
def crcSteps : Nat → Nat → Nat
  | 0, c => c
  | n + 1, c => crcSteps n (crcStep c)
theorem xor_mod2 (a b : Nat) : (a ^^^ b) % 2 = (a % 2) ^^^ (b % 2) := Nat.xor_mod_two_pow (n := 1)
theorem crcStep_xor (a b : Nat) : crcStep (a ^^^ b) = crcStep a ^^^ crcStep b := by
  unfold crcStep
  rw [Nat.shiftRight_xor_distrib, xor_mod2]
  rcases Nat.mod_two_eq_zero_or_one a with ha | ha <;> rcases Nat.mod_two_eq_zero_or_one b with hb | hb <;> simp only [ha, hb]
  · simp
  · simp [Nat.xor_assoc]
  · simp only [if_true, if_neg (show ¬ (0 : Nat) = 1 by decide), Nat.xor_zero]; ac_rfl
  · simp only [Nat.xor_self, if_neg (show ¬ (0 : Nat) = 1 by decide), if_true, Nat.xor_zero]
    rw [Nat.xor_assoc, Nat.xor_comm (b >>> 1), ← Nat.xor_assoc 3988292384, Nat.xor_self, Nat.zero_xor]
theorem crcSteps_xor (n a b : Nat) : crcSteps n (a ^^^ b) = crcSteps n a ^^^ crcSteps n b := by
  induction n generalizing a b with
  | zero => rfl
  | succ n ih => rw [crcSteps, crcStep_xor, ih]; rfl
theorem crcSteps_add (m n c : Nat) : crcSteps (m + n) c = crcSteps n (crcSteps m c) := by
  induction m generalizing c with
  | zero => rw [Nat.zero_add]; rfl
  | succ m ih => rw [Nat.succ_add, crcSteps, ih]; rfl
theorem crcSteps_shift (n y : Nat) : crcSteps n (2 ^ n * y) = y := by
  induction n generalizing y with
  | zero => simp [crcSteps]
  | succ n ih =>
    have e : 2 ^ (n + 1) * y = 2 * (2 ^ n * y) := by rw [Nat.pow_succ]; rw [Nat.mul_comm (2 ^ n) 2, Nat.mul_assoc]
    rw [crcSteps, crcStep, e, if_neg (by omega), Nat.xor_zero, Nat.shiftRight_eq_div_pow, Nat.pow_one, Nat.mul_div_cancel_left _ (by decide), ih]
theorem crcSteps_late (m n y : Nat) : crcSteps (m + n) (2 ^ m * y) = crcSteps n y := by
  rw [crcSteps_add, crcSteps_shift]
theorem split_xor (k c : Nat) : c = (c % 2 ^ k) ^^^ (2 ^ k * (c >>> k)) := by
  rw [Nat.shiftRight_eq_div_pow]
  apply Nat.eq_of_testBit_eq
  intro i
  rw [Nat.testBit_xor, Nat.testBit_mod_two_pow, Nat.mul_comm, Nat.testBit_mul_two_pow, Nat.testBit_div_two_pow]
  by_cases h : i < k
  · simp [h, Nat.not_le.2 h]
  · have h' : k ≤ i := by omega
    simp [h, h', Nat.sub_add_cancel h']
/-- The table number j at i. -/
def crcTab (j i : Nat) : Nat := crcSteps (8 * (j + 1)) i
theorem crcSteps8 (c : Nat) : crcSteps 8 c = crcTab 0 (c % 256) ^^^ (c >>> 8) := by
  conv => lhs; rw [split_xor 8 c]
  rw [crcSteps_xor, crcSteps_shift]
  rfl
theorem crcTab_next (j i : Nat) : crcTab (j + 1) i = crcTab 0 (crcTab j i % 256) ^^^ (crcTab j i >>> 8) := by
  rw [← crcSteps8]
  unfold crcTab
  rw [← crcSteps_add]; rfl
/-- One byte. -/
def crcUpd (c b : Nat) : Nat := crcSteps 8 (c ^^^ b)
theorem crcUpd_tab (c b : Nat) (hb : b < 256) : crcUpd c b = crcTab 0 ((c % 256) ^^^ b) ^^^ (c >>> 8) := by
  unfold crcUpd
  rw [crcSteps8, Nat.shiftRight_xor_distrib]
  have h1 : b >>> 8 = 0 := by rw [Nat.shiftRight_eq_div_pow]; exact Nat.div_eq_of_lt hb
  have h2 : (c ^^^ b) % 256 = (c % 256) ^^^ b := by
    have := Nat.xor_mod_two_pow (a := c) (b := b) (n := 8)
    rw [show (2 : Nat) ^ 8 = 256 from rfl] at this
    rw [this, Nat.mod_eq_of_lt hb]
  rw [h1, h2, Nat.xor_zero]
theorem crcUpd2 (n z b : Nat) : crcSteps 8 (crcSteps n z ^^^ b) = crcSteps (n + 8) (z ^^^ (2 ^ n * b)) := by
  rw [crcSteps_add, crcSteps_xor n z, crcSteps_shift]
theorem crcUpd4 (c b0 b1 b2 b3 : Nat) : crcUpd (crcUpd (crcUpd (crcUpd c b0) b1) b2) b3 = crcSteps 32 (c ^^^ (b0 ^^^ 256 * b1 ^^^ 65536 * b2 ^^^ 16777216 * b3)) := by
  unfold crcUpd
  rw [crcUpd2 8 (c ^^^ b0) b1, crcUpd2 (8 + 8) _ b2, crcUpd2 (8 + 8 + 8) _ b3]
  simp only [Nat.xor_assoc, Nat.reduceAdd, Nat.reducePow]
theorem crcSteps_four (m x0 x1 x2 x3 : Nat) : crcSteps (32 + m) (x0 ^^^ 256 * x1 ^^^ 65536 * x2 ^^^ 16777216 * x3) = crcSteps (32 + m) x0 ^^^ crcSteps (24 + m) x1 ^^^ crcSteps (16 + m) x2 ^^^ crcSteps (8 + m) x3 := by
  rw [crcSteps_xor, crcSteps_xor, crcSteps_xor]
  have h1 := crcSteps_late 8 (24 + m) x1
  have h2 := crcSteps_late 16 (16 + m) x2
  have h3 := crcSteps_late 24 (8 + m) x3
  rw [show 8 + (24 + m) = 32 + m by omega] at h1
  rw [show 16 + (16 + m) = 32 + m by omega] at h2
  rw [show 24 + (8 + m) = 32 + m by omega] at h3
  simp only [Nat.reducePow] at h1 h2 h3
  rw [h1, h2, h3]
theorem four_bytes (x : Nat) : x = x % 256 ^^^ 256 * ((x >>> 8) % 256) ^^^ 65536 * ((x >>> 16) % 256) ^^^ 16777216 * (x >>> 24) := by
  have a := split_xor 24 x
  have b := split_xor 16 (x % 2 ^ 24)
  have c := split_xor 8 (x % 2 ^ 16)
  have e1 : x % 2 ^ 24 % 2 ^ 16 = x % 2 ^ 16 := Nat.mod_mod_of_dvd _ (by decide)
  have e2 : x % 2 ^ 16 % 2 ^ 8 = x % 2 ^ 8 := Nat.mod_mod_of_dvd _ (by decide)
  have e3 : (x % 2 ^ 24) >>> 16 = (x >>> 16) % 256 := by rw [Nat.shiftRight_eq_div_pow, Nat.shiftRight_eq_div_pow]; omega
  have e4 : (x % 2 ^ 16) >>> 8 = (x >>> 8) % 256 := by rw [Nat.shiftRight_eq_div_pow, Nat.shiftRight_eq_div_pow]; omega
  rw [e1, e3] at b
  rw [e2, e4] at c
  simp only [Nat.reducePow] at a b c
  conv => lhs; rw [a, b, c]
/-- Eight bytes at a time. -/
theorem crcUpd8 (c b0 b1 b2 b3 b4 b5 b6 b7 x : Nat) (hx : x = c ^^^ (b0 ^^^ 256 * b1 ^^^ 65536 * b2 ^^^ 16777216 * b3)) :
    crcUpd (crcUpd (crcUpd (crcUpd (crcUpd (crcUpd (crcUpd (crcUpd c b0) b1) b2) b3) b4) b5) b6) b7 =
      crcTab 0 b7 ^^^ crcTab 1 b6 ^^^ crcTab 2 b5 ^^^ crcTab 3 b4 ^^^ crcTab 4 (x >>> 24) ^^^ crcTab 5 ((x >>> 16) % 256) ^^^ crcTab 6 ((x >>> 8) % 256) ^^^ crcTab 7 (x % 256) := by
  rw [crcUpd4 c, crcUpd4 (crcSteps 32 _), ← hx, crcSteps_xor, ← crcSteps_add]
  have h1 := crcSteps_four 0 b4 b5 b6 b7
  rw [show 32 + 0 = 32 from rfl] at h1
  rw [h1]
  have h2 : crcSteps (32 + 32) x = crcSteps (32 + 32) (x % 256) ^^^ crcSteps (24 + 32) ((x >>> 8) % 256) ^^^ crcSteps (16 + 32) ((x >>> 16) % 256) ^^^ crcSteps (8 + 32) (x >>> 24) := by
    rw [← crcSteps_four 32, ← four_bytes x]
  rw [h2]
  unfold crcTab
  simp only [Nat.reduceMul, Nat.reduceAdd]
  ac_rfl
theorem xor_lt32 {a b : Nat} (ha : a < 4294967296) (hb : b < 4294967296) : a ^^^ b < 4294967296 := Nat.xor_lt_two_pow (n := 32) ha hb
theorem crcStep_lt {c : Nat} (h : c < 4294967296) : crcStep c < 4294967296 := by
  unfold crcStep
  refine xor_lt32 ?_ ?_
  · rw [Nat.shiftRight_eq_div_pow]; omega
  · split <;> omega
theorem crcSteps_lt (n : Nat) {c : Nat} (h : c < 4294967296) : crcSteps n c < 4294967296 := by
  induction n generalizing c with
  | zero => exact h
  | succ n ih => exact ih (crcStep_lt h)
theorem crcTab_lt (j : Nat) {i : Nat} (h : i < 4294967296) : crcTab j i < 4294967296 := crcSteps_lt _ h
theorem crcUpd_lt {c b : Nat} (hc : c < 4294967296) (hb : b < 256) : crcUpd c b < 4294967296 := crcSteps_lt _ (xor_lt32 hc (by omega))
/-- The running checksum over a list of bytes. -/
def crcFold (c : Nat) (l : List UInt8) : Nat := l.foldl (fun c b => crcUpd c b.toNat) c
theorem crcFold_lt {c : Nat} (hc : c < 4294967296) (l : List UInt8) : crcFold c l < 4294967296 := by
  induction l generalizing c with
  | nil => exact hc
  | cons b l ih => exact ih (crcUpd_lt hc b.toNat_lt)
theorem crcFold_append (c : Nat) (a b : List UInt8) : crcFold c (a ++ b) = crcFold (crcFold c a) b := by
  unfold crcFold; rw [List.foldl_append]
/-- The checksum of a text. -/
def crcOf (l : List UInt8) : Nat := crcFold 4294967295 l ^^^ 4294967295
theorem crcOf_lt (l : List UInt8) : crcOf l < 4294967296 := xor_lt32 (crcFold_lt (by decide) l) (by decide)
theorem xor_self_mask (c : Nat) : (c ^^^ 4294967295) ^^^ 4294967295 = c := by rw [Nat.xor_assoc, Nat.xor_self, Nat.xor_zero]
end Go.Proofs.YtfagjhgmmaebfaaGreatDoor
