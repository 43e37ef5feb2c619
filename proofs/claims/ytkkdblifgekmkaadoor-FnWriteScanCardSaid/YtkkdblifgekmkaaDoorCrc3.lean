/- Contracts: crc32's leUint32, simpleUpdate. -/
import Derived.Test.YtkkdblifgekmkaaDoorCrc2
import Derived.Deep.QuietTactic
import Derived.BigQuiet
namespace Go.Proofs.YtkkdblifgekmkaaDoor
open Go.RowKit
theorem or_xor (k a b : Nat) (h : a < 2 ^ k) : a ||| 2 ^ k * b = a ^^^ 2 ^ k * b := by
  apply Nat.eq_of_testBit_eq
  intro i
  rw [Nat.testBit_or, Nat.testBit_xor, Nat.mul_comm, Nat.testBit_mul_two_pow]
  by_cases hi : k ≤ i
  · have : a.testBit i = false := Nat.testBit_lt_two_pow (Nat.lt_of_lt_of_le h (Nat.pow_le_pow_right (by decide) hi))
    simp [this]
  · simp [hi]
/-- Four bytes as a number, spelled by xor. -/
def four (b0 b1 b2 b3 : Nat) : Nat := b0 ^^^ 256 * b1 ^^^ 65536 * b2 ^^^ 16777216 * b3
theorem four_or (b0 b1 b2 b3 : Nat) (h0 : b0 < 256) (h1 : b1 < 256) (h2 : b2 < 256) (h3 : b3 < 256) :
    bits .or .u32 (bits .or .u32 (bits .or .u32 (b0 : Int) ((b1 : Int) * 256)) ((b2 : Int) * 65536)) ((b3 : Int) * 16777216) = ((four b0 b1 b2 b3 : Nat) : Int) := by
  have e1 := u32_or_nat b0 (2 ^ 8 * b1) (by omega) (by omega)
  have x1 := or_xor 8 b0 b1 h0
  have l1 : b0 ||| 2 ^ 8 * b1 < 2 ^ 16 := Nat.or_lt_two_pow (by omega) (by omega)
  have e2 := u32_or_nat (b0 ||| 2 ^ 8 * b1) (2 ^ 16 * b2) (by omega) (by omega)
  have x2 := or_xor 16 (b0 ||| 2 ^ 8 * b1) b2 l1
  have l2 : b0 ||| 2 ^ 8 * b1 ||| 2 ^ 16 * b2 < 2 ^ 24 := Nat.or_lt_two_pow (by omega) (by omega)
  have e3 := u32_or_nat (b0 ||| 2 ^ 8 * b1 ||| 2 ^ 16 * b2) (2 ^ 24 * b3) (by omega) (by omega)
  have x3 := or_xor 24 (b0 ||| 2 ^ 8 * b1 ||| 2 ^ 16 * b2) b3 l2
  rw [show ((b1 : Int) * 256) = ((2 ^ 8 * b1 : Nat) : Int) by omega, show ((b2 : Int) * 65536) = ((2 ^ 16 * b2 : Nat) : Int) by omega, show ((b3 : Int) * 16777216) = ((2 ^ 24 * b3 : Nat) : Int) by omega, e1, e2, e3, x3, x2, x1]
  rfl
theorem le32_any {w : World} {g o n c : Nat} {b0 b1 b2 b3 : UInt8} (hn : 4 ≤ n) (h0 : w.cell? ⟨g, o, none⟩ = some (byteV b0)) (h1 : w.cell? ⟨g, o + 1, none⟩ = some (byteV b1)) (h2 : w.cell? ⟨g, o + 2, none⟩ = some (byteV b2)) (h3 : w.cell? ⟨g, o + 3, none⟩ = some (byteV b3)) :
    Calls Tryd.prog 173 #[.slice (some ⟨g, o, none⟩) n c] w fun e w' => e = .returned (.int .u32 (four b0.toNat b1.toNat b2.toNat b3.toNat : Nat)) ∧ ∃ k, w' = w.drewN k := by
  have l0 := b0.toNat_lt
  have l1 := b1.toNat_lt
  have l2 := b2.toNat_lt
  have l3 := b3.toNat_lt
  unfold byteV at h0 h1 h2 h3
  have HF := Lib.hid (four_or b0.toNat b1.toNat b2.toNat b3.toNat l0 l1 l2 l3)
  have hn1 : (1 : Int) < n := by omega
  have hn2 : (2 : Int) < n := by omega
  have hn3 : (3 : Int) < n := by omega
  have hn0 : (0 : Int) < n := by omega
  go_enter Tryd.func173, Tryd.ntmps173
  go_wp2_with fail
  go_quiet (fail)
  go_wp2
  go_ret
  rw [← HF.out]
  exact ⟨rfl, _, rfl⟩
/-- The complement. -/
def notU (c : Nat) : Nat := c ^^^ 4294967295
theorem notU_eq (c : Nat) (hc : c < 4294967296) : bits .xor .u32 IntKind.u32.max (c : Int) = ((notU c : Nat) : Int) := by
  have := u32_xor_nat 4294967295 c (by decide) hc
  unfold notU
  rw [Nat.xor_comm c]
  exact this
theorem notU_lt {c : Nat} (h : c < 4294967296) : notU c < 4294967296 := xor_lt32 h (by decide)
set_option maxRecDepth 100000 in
theorem simple_any {w : World} {tb g o n cp T c : Nat} {cs : Array Value} {l : List UInt8} (hb : Blk w tb T cs) (ht : TabsTo cs 256) (hl : l.length = n) (hr : ∀ j (h : j < l.length), w.cell? ⟨g, o + j, none⟩ = some (byteV l[j])) (hc : c < 4294967296) (hn : n ≤ 140737488355328) :
    Calls Tryd.prog 174 #[.int .u32 c, .pointer (some ⟨tb, 0, none⟩), .slice (some ⟨g, o, none⟩) n cp] w fun e w' => e = .returned (.int .u32 (notU (crcFold (notU c) l) : Nat)) ∧ w = w' := by
  have hnot := notU_eq c hc
  have hc0 := notU_lt hc
  obtain ⟨c0, hc0e⟩ : ∃ c0, c0 = notU c := ⟨_, rfl⟩
  rw [← hc0e] at hnot hc0 ⊢
  have H := Lib.hid (And.intro hb (And.intro ht (And.intro hl hr)))
  clear hb ht hl hr hc0e
  go_enter Tryd.func174, Tryd.ntmps174
  go_wp2
  go_loop [0, 8, 13] (fun s0 _ s13 => ∃ (k c1 : Nat), k ≤ n ∧ c1 < 4294967296 ∧ s0 = .int .u32 c1 ∧ s13 = .int .i64 k ∧ Hid (c1 = crcFold c0 (l.take k))) (fun _ _ s13 => n - (intOf s13).toNat)
  case atStart => exact ⟨0, c0, by omega, hc0, rfl, rfl, Lib.hid rfl⟩
  case round =>
    obtain ⟨k, c1, hk, hc1, rfl, rfl, HK⟩ := hrel
    clear hnot
    by_cases hlt : k < n
    · have hkl : k < l.length := by have := H.out.2.2.1; omega
      obtain ⟨b, hbe⟩ : ∃ b, b = l[k] := ⟨_, rfl⟩
      have hcell : w.cell? ⟨g, o + k, none⟩ = some (.int .u8 (b.toNat : Int)) := by rw [hbe]; exact H.out.2.2.2 k hkl
      have hb8 := b.toNat_lt
      have hx := u8_xor_nat (c1 % 256) b.toNat (Nat.mod_lt _ (by decide)) hb8
      have hx8 : (c1 % 256) ^^^ b.toNat < 256 := Nat.xor_lt_two_pow (n := 8) (Nat.mod_lt _ (by decide)) hb8
      have hup := crcUpd_tab c1 b.toNat hb8
      obtain ⟨x, hxe⟩ : ∃ x, x = (c1 % 256) ^^^ b.toNat := ⟨_, rfl⟩
      rw [← hxe] at hx hx8 hup
      have htab : w.cell? ⟨tb, x, none⟩ = some (.int .u32 (crcTab 0 x)) := by rw [H.out.1.cell]; exact H.out.2.1.2.1 x hx8
      have hxx := u32_xor_nat (crcTab 0 x) (c1 / 256) (crcTab_lt 0 (by omega)) (by omega)
      rw [Nat.shiftRight_eq_div_pow] at hup
      rw [show (2 : Nat) ^ 8 = 256 from rfl] at hup
      rw [← hup] at hxx
      have hul : crcUpd c1 b.toNat < 4294967296 := crcUpd_lt hc1 hb8
      have HE := Lib.hid (And.intro hbe (And.intro hxe hup))
      clear hbe hxe hup
      obtain ⟨u, hu⟩ : ∃ u, u = crcUpd c1 b.toNat := ⟨_, rfl⟩
      rw [← hu] at hxx hul
      have hx' : bits .xor .u8 ((c1 : Int) % 256) (b.toNat : Int) = (x : Int) := by simpa using hx
      have hxx' : bits .xor .u32 ((crcTab 0 x : Nat) : Int) ((c1 : Int) / 256) = (u : Int) := by simpa using hxx
      have HU := Lib.hid hu
      clear hu hx hxx
      go_wp2
      go_round
      case rel =>
        refine ⟨k + 1, u, by omega, hul, rfl, by go_num, Lib.hid ?_⟩
        rw [HU.out, HE.out.1, HK.out, List.take_succ_eq_append_getElem hkl, crcFold_append]
        rfl
      case measure => simp [intOf]; omega
    · obtain rfl : k = n := by omega
      have hn1 := notU_eq c1 hc1
      go_wp2
      go_ret
      refine ⟨?_, rfl⟩
      rw [HK.out, List.take_of_length_le (by have := H.out.2.2.1; omega)]
      rfl
end Go.Proofs.YtkkdblifgekmkaaDoor
