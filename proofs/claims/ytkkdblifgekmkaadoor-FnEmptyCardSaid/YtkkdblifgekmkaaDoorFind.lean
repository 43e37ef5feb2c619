/- Contract of findSignatureInBlock. -/
import Derived.Test.YtkkdblifgekmkaaDoorEnds
import Derived.Deep.QuietTactic
import Derived.BigQuiet
namespace Go.Proofs.YtkkdblifgekmkaaDoor
open Go.RowKit
/-- Two bytes at a place, the lowest one first. -/
def le2 (l : List UInt8) (i : Nat) : Nat := (l.getD i 0).toNat + 256 * (l.getD (i + 1) 0).toNat
/-- The last beginning of an end before place k, if the comment behind it fits; else -1. -/
def findFrom (l : List UInt8) : Nat → Int
  | 0 => -1
  | i + 1 => if sigAt l i then (if le2 l (i + 20) + 22 + i > l.length then -1 else i) else findFrom l i
def findL (l : List UInt8) : Int := findFrom l (l.length - 21)

theorem find_short (A : Option Addr) (n c : Nat) (hn : n < 22) (w : World) :
    Calls Tryd.prog 83 #[.slice A n c] w fun e w' => e = .returned (.int .i64 (-1)) ∧ w = w' := by
  go_enter Tryd.func83, Tryd.ntmps83
  go_wp2
  refine wp_loop_rounds 1 ?_
  rw [rounds_succ]
  go_wp2
  go_ret
  exact ⟨rfl, rfl⟩
theorem sig_at (l : List UInt8) (k : Nat) (h : k + 4 ≤ l.length) : sigAt l k = (l[k] == 80 && (l[k + 1] == 75 && (l[k + 2] == 5 && l[k + 3] == 6))) := by
  unfold sigAt
  have e : (l.drop k).take 4 = [l[k], l[k + 1], l[k + 2], l[k + 3]] := by
    rw [List.drop_eq_getElem_cons (by omega), List.drop_eq_getElem_cons (by omega), List.drop_eq_getElem_cons (by omega), List.drop_eq_getElem_cons (by omega)]
    rfl
  rw [e]
  rw [Bool.eq_iff_iff]
  simp
theorem byte_int (x y : UInt8) : (((x.toNat : Nat) : Int) == ((y.toNat : Nat) : Int)) = (x == y) := by
  rw [Bool.eq_iff_iff]
  simp only [beq_iff_eq]
  constructor
  · intro h; exact UInt8.toNat_inj.1 (by omega)
  · rintro rfl; rfl
theorem sig_cases (l : List UInt8) (k : Nat) (h : k + 4 ≤ l.length) :
    (sigAt l k = true ∧ (l[k].toNat : Int) = 80 ∧ (l[k + 1].toNat : Int) = 75 ∧ (l[k + 2].toNat : Int) = 5 ∧ (l[k + 3].toNat : Int) = 6) ∨
    (sigAt l k = false ∧ (((l[k].toNat : Int) == 80) = false ∨ (l[k].toNat : Int) = 80 ∧ (((l[k + 1].toNat : Int) == 75) = false ∨ (l[k + 1].toNat : Int) = 75 ∧ (((l[k + 2].toNat : Int) == 5) = false ∨ (l[k + 2].toNat : Int) = 5 ∧ ((l[k + 3].toNat : Int) == 6) = false)))) := by
  rw [sig_at l k h]
  have e0 := byte_int l[k] 80
  have e1 := byte_int l[k + 1] 75
  have e2 := byte_int l[k + 2] 5
  have e3 := byte_int l[k + 3] 6
  simp only [show ((80 : UInt8).toNat : Int) = 80 from rfl] at e0
  simp only [show ((75 : UInt8).toNat : Int) = 75 from rfl] at e1
  simp only [show ((5 : UInt8).toNat : Int) = 5 from rfl] at e2
  simp only [show ((6 : UInt8).toNat : Int) = 6 from rfl] at e3
  rw [← e0, ← e1, ← e2, ← e3]
  cases h0 : ((l[k].toNat : Int) == 80) <;> cases h1 : ((l[k + 1].toNat : Int) == 75) <;> cases h2 : ((l[k + 2].toNat : Int) == 5) <;> cases h3 : ((l[k + 3].toNat : Int) == 6) <;> simp_all
theorem rel_next {l : List UInt8} {k : Nat} (hk : k + 22 ≤ l.length) (h : findL l = findFrom l k) :
    (∃ k1 : Nat, Value.int .i64 ((k : Int) - 1) = .int .i64 k1 ∧ k1 + 22 ≤ l.length ∧ findL l = findFrom l (k1 + 1)) ∨ (Value.int .i64 ((k : Int) - 1) = .int .i64 (-1) ∧ findL l = -1) := by
  rcases k with _ | k
  · exact .inr ⟨rfl, h⟩
  · exact .inl ⟨k, by rw [show (((k + 1 : Nat) : Int) - 1) = k by omega], by omega, h⟩
theorem or16 (x y : Nat) (hx : x < 256) (hy : y < 256) : bits .or .i64 (x : Int) ((y : Int) * 256) = ((x + 256 * y : Nat) : Int) := by
  have h := (bits_nat .i64 16 (by decide) (fun n h0 h1 => by rw [IntKind.wrap_i64]; omega) x (256 * y) (by omega) (by omega)).2
  rw [show ((y : Int) * 256) = ((256 * y : Nat) : Int) by omega, h, Nat.or_comm]
  have := Nat.two_pow_add_eq_or_of_lt (i := 8) hx y
  simp only [show 2 ^ 8 = 256 from rfl] at this
  rw [← this]
  omega
set_option maxHeartbeats 1000000 in
theorem find_long (b off c : Nat) (l : List UInt8) (h22 : 22 ≤ l.length) (hmax : l.length ≤ 140737488355328) (w : World) (hl : BytesAt w ⟨b, off, none⟩ l) :
    Calls Tryd.prog 83 #[.slice (some ⟨b, off, none⟩) l.length c] w fun e w' => e = .returned (.int .i64 (findL l)) ∧ Below w.heap.size w w' := by
  go_enter Tryd.func83, Tryd.ntmps83
  go_wp2
  go_loop [3] (fun s3 => (∃ k : Nat, s3 = .int .i64 k ∧ k + 22 ≤ l.length ∧ findL l = findFrom l (k + 1)) ∨ (s3 = .int .i64 (-1) ∧ findL l = -1)) (fun s3 => (intOf s3 + 1).toNat)
  case atStart =>
    refine .inl ⟨l.length - 22, ?_, by omega, ?_⟩
    · rw [show ((l.length - 22 : Nat) : Int) = (l.length : Int) - 22 by omega]
    · unfold findL; congr 1; omega
  case round =>
    rcases hrel with ⟨k, rfl, hk, HF0⟩ | ⟨rfl, HF0⟩
    · have H0 := hl k (by omega)
      have H1 := hl (k + 1) (by omega)
      have H2 := hl (k + 2) (by omega)
      have H3 := hl (k + 3) (by omega)
      have H20 := hl (k + 20) (by omega)
      have H21 := hl (k + 21) (by omega)
      rw [Addr.add_lit] at H0 H1 H2 H3 H20 H21
      unfold byteV at H0 H1 H2 H3 H20 H21
      have HF := Lib.hid HF0
      clear HF0
      rcases sig_cases l k (by omega) with ⟨hs, h0, h1, h2, h3⟩ | ⟨hs, hh⟩
      · rw [h0] at H0
        rw [h1] at H1
        rw [h2] at H2
        rw [h3] at H3
        have HS := Lib.hid hs
        clear hs h0 h1 h2 h3
        have hw1 : IntKind.i64.wrap ((k : Int) + 22) = (k : Int) + 22 := IntWalk.i64_in _ (by omega)
        have hw2 : IntKind.i64.wrap ((k : Int) + 22 - 2) = ((k + 20 : Nat) : Int) := by rw [IntWalk.i64_in _ (by omega)]; omega
        have hw3 : IntKind.i64.wrap ((k : Int) + 22 - 1) = ((k + 21 : Nat) : Int) := by rw [IntWalk.i64_in _ (by omega)]; omega
        obtain ⟨x, hx⟩ : ∃ x : Nat, x = l[k + 20].toNat := ⟨_, rfl⟩
        obtain ⟨y, hy⟩ : ∃ y : Nat, y = l[k + 21].toNat := ⟨_, rfl⟩
        have x1 : x < 256 := by rw [hx]; exact UInt8.toNat_lt _
        have y1 : y < 256 := by rw [hy]; exact UInt8.toNat_lt _
        rw [← hx] at H20
        rw [← hy] at H21
        have hle : le2 l (k + 20) = x + 256 * y := by
          unfold le2
          rw [hx, hy]
          simp [List.getD, List.getElem?_eq_getElem (show k + 20 < l.length by omega), List.getElem?_eq_getElem (show k + 20 + 1 < l.length by omega)]
        have hor := or16 x y x1 y1
        have hwx : IntKind.i64.wrap (x : Int) = x := IntWalk.i64_in _ (by omega)
        have hwy : IntKind.i64.wrap (y : Int) = y := IntWalk.i64_in _ (by omega)
        have hws : IntKind.i64.wrap ((y : Int) * 256) = (y : Int) * 256 := IntWalk.i64_in _ (by omega)
        have HL := Lib.hid hle
        clear hx hy hle
        go_wp2
        go_quiet (fail)
        by_cases hfit : x + 256 * y + 22 + k > l.length
        · have HR : Hid (findL l = -1) := by
            refine Lib.hid ?_
            rw [HF.out]; unfold findFrom
            rw [if_pos HS.out, HL.out, if_pos hfit]
          clear HF HS HL
          go_wp2
          go_ret
          exact ⟨by rw [HR.out]; rfl, below_self _ _ _⟩
        · have HR : Hid (findL l = k) := by
            refine Lib.hid ?_
            rw [HF.out]; unfold findFrom
            rw [if_pos HS.out, HL.out, if_neg hfit]
          clear HF HS HL
          go_wp2
          go_ret
          exact ⟨by rw [HR.out]; rfl, below_self _ _ _⟩
      · have HN : Hid (findL l = findFrom l k) := by
          refine Lib.hid ?_
          rw [HF.out]; rw [findFrom]; rw [if_neg (by rw [hs]; decide)]
        clear HF hs
        rcases hh with h0 | ⟨h0, h1 | ⟨h1, h2 | ⟨h2, h3⟩⟩⟩
        · clear H1 H2 H3 H20 H21
          go_wp2
          go_round
          case rel => exact rel_next (by omega) HN.out
          case measure => simp [intOf]
        · rw [h0] at H0
          clear H2 H3 H20 H21 h0
          go_wp2
          go_round
          case rel => exact rel_next (by omega) HN.out
          case measure => simp [intOf]
        · rw [h0] at H0
          rw [h1] at H1
          clear H3 H20 H21 h0 h1
          go_wp2
          go_round
          case rel => exact rel_next (by omega) HN.out
          case measure => simp [intOf]
        · rw [h0] at H0
          rw [h1] at H1
          rw [h2] at H2
          clear H20 H21 h0 h1 h2
          go_wp2
          go_round
          case rel => exact rel_next (by omega) HN.out
          case measure => simp [intOf]
    · have HF := Lib.hid HF0
      clear HF0
      go_wp2
      go_ret
      exact ⟨by rw [HF.out]; rfl, Below.refl _ _⟩
end Go.Proofs.YtkkdblifgekmkaaDoor
