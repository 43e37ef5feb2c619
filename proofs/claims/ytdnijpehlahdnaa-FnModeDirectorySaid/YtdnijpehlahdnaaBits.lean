/- Plain laws on modes: what the functions of Modes compute, apart in permissions (the lowest nine bits) and the rest. -/
import Derived.Test.YtdnijpehlahdnaaModes4
namespace Go.Proofs.Ytdnijpehlahdnaa
open Go.RowKit

theorem lo_and (p q m : Nat) (hp : p < 512) : (512 * q + p) &&& (512 * m) = 512 * (q &&& m) := by
  apply Nat.eq_of_testBit_eq
  intro i
  have h1 := Nat.testBit_two_pow_mul_add q (b := p) (i := 9) hp i
  have h2 := Nat.testBit_two_pow_mul_add m (b := 0) (i := 9) (by decide) i
  have h3 := Nat.testBit_two_pow_mul_add (q &&& m) (b := 0) (i := 9) (by decide) i
  simp only [Nat.add_zero, show 2 ^ 9 = 512 from rfl] at h1 h2 h3
  rw [Nat.testBit_and, h1, h2, h3]
  split <;> simp
theorem lo_or (p q m : Nat) (hp : p < 512) : (512 * q + p) ||| (512 * m) = 512 * (q ||| m) + p := by
  apply Nat.eq_of_testBit_eq
  intro i
  have h1 := Nat.testBit_two_pow_mul_add q (b := p) (i := 9) hp i
  have h2 := Nat.testBit_two_pow_mul_add m (b := 0) (i := 9) (by decide) i
  have h3 := Nat.testBit_two_pow_mul_add (q ||| m) (b := p) (i := 9) hp i
  simp only [Nat.add_zero, show 2 ^ 9 = 512 from rfl] at h1 h2 h3
  rw [Nat.testBit_or, h1, h2, h3]
  split <;> simp
theorem lo_511 (p q : Nat) (hp : p < 512) : (512 * q + p) &&& 511 = p := by
  rw [show 511 = 2 ^ 9 - 1 from rfl, Nat.and_two_pow_sub_one_eq_mod]
  omega

/-- A number whose lowest nine bits are clear. -/
def Hi (X : Int) : Prop := ∃ q : Nat, X = ((512 * q : Nat) : Int) ∧ q < 8388608
theorem Hi.lt {X : Int} (h : Hi X) : 0 ≤ X ∧ X < 4294967296 := by obtain ⟨q, rfl, h⟩ := h; omega

section
variable {p X Y : Int} (p0 : 0 ≤ p) (p1 : p ≤ 511) (hX : Hi X) (hY : Hi Y)
include p0 p1 hX
theorem hi_511 : bits .and .u32 (p + X) 511 = p := by
  obtain ⟨P, rfl⟩ := Int.eq_ofNat_of_zero_le p0
  obtain ⟨q, rfl, hq⟩ := hX
  have := u32_and_nat (512 * q + P) 511 (by omega) (by omega)
  rw [lo_511 P q (by omega)] at this
  rw [← this]; congr 1; omega
include hY
theorem hi_and : bits .and .u32 (p + X) Y = bits .and .u32 X Y := by
  obtain ⟨P, rfl⟩ := Int.eq_ofNat_of_zero_le p0
  obtain ⟨q, rfl, hq⟩ := hX
  obtain ⟨m, rfl, hm⟩ := hY
  have h1 := u32_and_nat (512 * q + P) (512 * m) (by omega) (by omega)
  have h2 := u32_and_nat (512 * q + 0) (512 * m) (by omega) (by omega)
  rw [lo_and P q m (by omega)] at h1
  rw [lo_and 0 q m (by omega)] at h2
  have e : ((P : Int) + ((512 * q : Nat) : Int)) = ((512 * q + P : Nat) : Int) := by omega
  rw [e, h1, ← h2]; rfl
theorem hi_or : bits .or .u32 (p + X) Y = p + bits .or .u32 X Y := by
  obtain ⟨P, rfl⟩ := Int.eq_ofNat_of_zero_le p0
  obtain ⟨q, rfl, hq⟩ := hX
  obtain ⟨m, rfl, hm⟩ := hY
  have h1 := u32_or_nat (512 * q + P) (512 * m) (by omega) (by omega)
  have h2 := u32_or_nat (512 * q + 0) (512 * m) (by omega) (by omega)
  rw [lo_or P q m (by omega)] at h1
  rw [lo_or 0 q m (by omega)] at h2
  have e : ((P : Int) + ((512 * q : Nat) : Int)) = ((512 * q + P : Nat) : Int) := by omega
  have e2 : bits .or .u32 ((512 * q : Nat) : Int) ((512 * m : Nat) : Int) = ((512 * (q ||| m) + 0 : Nat) : Int) := h2
  rw [e, h1, e2]; omega
end
theorem Hi.or {X Y : Int} (hX : Hi X) (hY : Hi Y) : Hi (bits .or .u32 X Y) := by
  obtain ⟨q, rfl, hq⟩ := hX
  obtain ⟨m, rfl, hm⟩ := hY
  have h2 := u32_or_nat (512 * q + 0) (512 * m) (by omega) (by omega)
  rw [lo_or 0 q m (by omega)] at h2
  exact ⟨q ||| m, h2, Nat.or_lt_two_pow (n := 23) hq hm⟩
theorem hi_orLo {p X : Int} (p0 : 0 ≤ p) (p1 : p ≤ 511) (hX : Hi X) : bits .or .u32 X p = p + X := by
  obtain ⟨P, rfl⟩ := Int.eq_ofNat_of_zero_le p0
  obtain ⟨q, rfl, hq⟩ := hX
  have h1 := u32_or_nat (512 * q) P (by omega) (by omega)
  have h2 := lo_or P 0 q (by omega)
  rw [Nat.or_comm] at h1
  simp only [Nat.mul_zero, Nat.zero_add, Nat.zero_or] at h2
  rw [h1, h2]; omega
theorem hi_of (n : Nat) (h : n < 8388608) : Hi ((512 * n : Nat) : Int) := ⟨n, rfl, h⟩
theorem Hi.orIf {c : Bool} {X Y : Int} (hX : Hi X) (hY : Hi Y) : Hi (orIf c X Y) := by
  unfold Ytdnijpehlahdnaa.orIf; split
  · exact hX.or hY
  · exact hX
theorem orIf_lo {c : Bool} {p X Y : Int} (p0 : 0 ≤ p) (p1 : p ≤ 511) (hX : Hi X) (hY : Hi Y) : orIf c (p + X) Y = p + orIf c X Y := by
  unfold orIf; split
  · exact hi_or p0 p1 hX hY
  · rfl

theorem H31 : Hi 2147483648 := hi_of 4194304 (by decide)
theorem H27 : Hi 134217728 := hi_of 262144 (by decide)
theorem H26 : Hi 67108864 := hi_of 131072 (by decide)
theorem H2621 : Hi 69206016 := hi_of 135168 (by decide)
theorem H25 : Hi 33554432 := hi_of 65536 (by decide)
theorem H24 : Hi 16777216 := hi_of 32768 (by decide)
theorem H23 : Hi 8388608 := hi_of 16384 (by decide)
theorem H22 : Hi 4194304 := hi_of 8192 (by decide)
theorem H21 : Hi 2097152 := hi_of 4096 (by decide)
theorem H20 : Hi 1048576 := hi_of 2048 (by decide)
theorem H11 : Hi 2048 := hi_of 4 (by decide)
theorem H10 : Hi 1024 := hi_of 2 (by decide)
theorem H9 : Hi 512 := hi_of 1 (by decide)
theorem H0 : Hi 0 := hi_of 0 (by decide)
theorem HT : Hi 2401763328 := hi_of 4690944 (by decide)
theorem HF : Hi 61440 := hi_of 120 (by decide)

theorem num_lo {p k : Int} {a b c : Bool} (p0 : 0 ≤ p) (p1 : p ≤ 511) : numV p k a b c = p + numV 0 k a b c ∧ Hi (numV 0 k a b c) := by
  have z : ∀ {Y : Int}, Hi Y → bits .or .u32 p Y = p + bits .or .u32 0 Y := fun {Y} hY => by
    have := hi_or p0 p1 H0 hY
    simpa using this
  have hK : numKind p k = p + numKind 0 k ∧ Hi (numKind 0 k) := by
    unfold numKind
    (repeat' split) <;> first
      | exact ⟨z H31, H0.or H31⟩ | exact ⟨z H27, H0.or H27⟩ | exact ⟨z H25, H0.or H25⟩ | exact ⟨z H24, H0.or H24⟩ | exact ⟨z H26, H0.or H26⟩ | exact ⟨z H2621, H0.or H2621⟩ | exact ⟨by simp, H0⟩
  obtain ⟨e, hK⟩ := hK
  unfold numV
  rw [e, orIf_lo p0 p1 hK H23, orIf_lo p0 p1 (hK.orIf H23) H22, orIf_lo p0 p1 ((hK.orIf H23).orIf H22) H20]
  exact ⟨rfl, ((hK.orIf H23).orIf H22).orIf H20⟩

theorem unixKind_hi (T : Int) : Hi (unixKind T) := by
  unfold unixKind
  (repeat' split) <;> first | exact hi_of 32 (by decide) | exact hi_of 80 (by decide) | exact hi_of 8 (by decide) | exact hi_of 96 (by decide) | exact hi_of 48 (by decide) | exact hi_of 16 (by decide) | exact hi_of 64 (by decide)
theorem unix_lo {p C : Int} (p0 : 0 ≤ p) (p1 : p ≤ 511) (hC : Hi C) : unixV (p + C) = p + unixV C ∧ Hi (unixV C) := by
  have hU := (((unixKind_hi (bits .and .u32 C 2401763328)).orIf (c := bits .and .u32 C 8388608 != 0) H11).orIf (c := bits .and .u32 C 4194304 != 0) H10).orIf (c := bits .and .u32 C 1048576 != 0) H9
  have h0 : bits .and .u32 C 511 = 0 := by have := hi_511 (p := 0) (by omega) (by omega) hC; simpa using this
  have e : unixV C = orIf (bits .and .u32 C 1048576 != 0) (orIf (bits .and .u32 C 4194304 != 0) (orIf (bits .and .u32 C 8388608 != 0) (unixKind (bits .and .u32 C 2401763328)) 2048) 1024) 512 := by
    unfold unixV
    rw [h0, hi_orLo (p := 0) (by omega) (by omega) hU]; omega
  refine ⟨?_, by rw [e]; exact hU⟩
  rw [e]
  unfold unixV
  rw [hi_and p0 p1 hC H20, hi_and p0 p1 hC H22, hi_and p0 p1 hC H23, hi_and p0 p1 hC HT, hi_511 p0 p1 hC, hi_orLo p0 p1 hU]

theorem fs_lo {p C : Int} (p0 : 0 ≤ p) (p1 : p ≤ 511) (hC : Hi C) : fsV (p + C) = p + fsV C ∧ Hi (fsV C) := by
  have z : ∀ {Y : Int}, Hi Y → bits .or .u32 p Y = p + bits .or .u32 0 Y := fun {Y} hY => by
    have := hi_or p0 p1 H0 hY
    simpa using this
  have h0 : bits .and .u32 C 511 = 0 := by have := hi_511 (p := 0) (by omega) (by omega) hC; simpa using this
  have hK : ∀ T, fsKind T p = p + fsKind T 0 ∧ Hi (fsKind T 0) := fun T => by
    unfold fsKind
    (repeat' split) <;> first
      | exact ⟨z H31, H0.or H31⟩ | exact ⟨z H27, H0.or H27⟩ | exact ⟨z H25, H0.or H25⟩ | exact ⟨z H24, H0.or H24⟩ | exact ⟨z H26, H0.or H26⟩ | exact ⟨z H2621, H0.or H2621⟩ | exact ⟨by simp, H0⟩
  obtain ⟨e, hK⟩ := hK (bits .and .u32 C 61440)
  unfold fsV
  rw [hi_and p0 p1 hC HF, hi_and p0 p1 hC H9, hi_and p0 p1 hC H10, hi_and p0 p1 hC H11, hi_511 p0 p1 hC, h0, e, orIf_lo p0 p1 hK H22, orIf_lo p0 p1 (hK.orIf H22) H23, orIf_lo p0 p1 ((hK.orIf H22).orIf H23) H20]
  exact ⟨rfl, ((hK.orIf H22).orIf H23).orIf H20⟩

theorem andNot_nat (N : Nat) (hN : N < 4294967296) : bits .andNot .u32 (N : Int) 16777215 = ((N &&& 4278190080 : Nat) : Int) := u32_andNot_nat N 16777215 hN (by decide)
theorem kind_lo {p C : Int} (p0 : 0 ≤ p) (p1 : p ≤ 511) (hC : Hi C) : modeKind (p + C) = modeKind C := by
  have e : bits .andNot .u32 (p + C) 16777215 = bits .andNot .u32 C 16777215 := by
    have h := hi_and p0 p1 hC (hi_of 8355840 (by decide))
    obtain ⟨P, rfl⟩ := Int.eq_ofNat_of_zero_le p0
    obtain ⟨q, rfl, hq⟩ := hC
    have e : ((P : Int) + ((512 * q : Nat) : Int)) = ((512 * q + P : Nat) : Int) := by omega
    rw [e] at h ⊢
    rw [andNot_nat _ (by omega), andNot_nat _ (by omega)]
    rw [u32_and_nat _ _ (by omega) (by omega), u32_and_nat _ _ (by omega) (by omega)] at h
    exact h
  unfold modeKind
  rw [e, hi_and p0 p1 hC H21]
theorem shr_lo {p C : Int} (k : Nat) (hk : k = 8388608 ∨ k = 4194304 ∨ k = 1048576) (p0 : 0 ≤ p) (p1 : p ≤ 511) (hC : Hi C) : (p + C) / (k : Int) = C / (k : Int) := by
  obtain ⟨q, rfl, hq⟩ := hC
  rcases hk with rfl | rfl | rfl <;> omega
theorem flags_lo {p C : Int} (p0 : 0 ≤ p) (p1 : p ≤ 511) (hC : Hi C) : modeU (p + C) = modeU C ∧ modeG (p + C) = modeG C ∧ modeS (p + C) = modeS C := by
  unfold modeU modeG modeS
  have h1 := shr_lo 8388608 (.inl rfl) p0 p1 hC
  have h2 := shr_lo 4194304 (.inr (.inl rfl)) p0 p1 hC
  have h3 := shr_lo 1048576 (.inr (.inr rfl)) p0 p1 hC
  refine ⟨?_, ?_, ?_⟩
  · rw [show (8388608 : Int) = ((8388608 : Nat) : Int) from rfl, h1]
  · rw [show (4194304 : Int) = ((4194304 : Nat) : Int) from rfl, h2]
  · rw [show (1048576 : Int) = ((1048576 : Nat) : Int) from rfl, h3]
theorem mod_lo {p C : Int} (p0 : 0 ≤ p) (p1 : p ≤ 511) (hC : Hi C) : (p + C) % 512 = p := by
  obtain ⟨q, rfl, hq⟩ := hC
  omega
#print axioms flags_lo
end Go.Proofs.Ytdnijpehlahdnaa
