/- Contracts: hasDataDescriptor, Sum32, nopCloser.Close, dirWriter.Write, compressor, Writer.compressor, SetComment. -/
import Derived.Test.YtkkdblifgekmkaaDoorWhBase
import Derived.Laws.BitsAllLaws
namespace Go.Proofs.YtkkdblifgekmkaaDoor
open Go.RowKit
theorem and_pow (N k : Nat) : N &&& 2 ^ k = N / 2 ^ k % 2 * 2 ^ k := by
  apply Nat.eq_of_testBit_eq
  intro i
  rw [Nat.testBit_and, Nat.testBit_two_pow]
  by_cases h : N / 2 ^ k % 2 = 1
  · have hb : N.testBit k = true := by rw [Nat.testBit_eq_decide_div_mod_eq]; simp [h]
    rw [h, Nat.one_mul, Nat.testBit_two_pow]
    by_cases hi : k = i
    · rw [← hi, hb]; simp
    · simp [hi]
  · have hb : N.testBit k = false := by rw [Nat.testBit_eq_decide_div_mod_eq]; simp [h]
    have h0 : N / 2 ^ k % 2 = 0 := by omega
    rw [h0, Nat.zero_mul, Nat.zero_testBit]
    by_cases hi : k = i
    · rw [← hi, hb]; simp
    · simp [hi]
theorem has_bit (f : Nat) (hf : f < 65536) : (bits .and .u16 (f : Int) 8 != 0) = (f / 8 % 2 == 1) := by
  have h := u16_and_nat f 8 hf (by decide)
  rw [show (8 : Nat) = 2 ^ 3 from rfl, and_pow] at h
  rw [show ((2 ^ 3 : Nat) : Int) = 8 from rfl] at h
  rw [h]
  rcases Nat.mod_two_eq_zero_or_one (f / 2 ^ 3) with e | e <;> rw [e] <;> simp only [show (2 : Nat) ^ 3 = 8 from rfl] at e ⊢ <;> simp
theorem has_any {w : World} {fb : Nat} {h : Hd} {nu : Bool} {cs us : Nat} {X : Value} (hf : Blk w fb 72 (fhCells h nu cs us X)) (hF : h.flags < 65536) :
    Calls Tryd.prog 79 #[.pointer (some ⟨fb, 0, none⟩)] w fun e w' => e = .returned (.bool (h.flags / 8 % 2 == 1)) ∧ w = w' := by
  have f5 : w.cell? ⟨fb, 5, none⟩ = some (.int .u16 h.flags) := hf.cell 5
  have hb := Lib.hid (has_bit h.flags hF)
  clear hf
  go_enter Tryd.func79, Tryd.ntmps79
  go_wp2
  go_ret
  exact ⟨by rw [← hb.out]; rfl, rfl⟩
theorem has_no {w : World} {fb : Nat} {h : Hd} {nu : Bool} {cs us : Nat} {X : Value} (hf : Blk w fb 72 (fhCells h nu cs us X)) (hF : h.flags < 65536) (h0 : h.flags / 8 % 2 = 0) :
    Calls Tryd.prog 79 #[.pointer (some ⟨fb, 0, none⟩)] w fun e w' => e = .returned (.bool false) ∧ w = w' := by
  refine (has_any hf hF).mono ?_
  rintro e w' ⟨rfl, rfl⟩
  exact ⟨by rw [h0]; rfl, rfl⟩
theorem has_yes {w : World} {fb : Nat} {h : Hd} {nu : Bool} {cs us : Nat} {X : Value} (hf : Blk w fb 72 (fhCells h nu cs us X)) (hF : h.flags < 65536) (h0 : h.flags / 8 % 2 = 1) :
    Calls Tryd.prog 79 #[.pointer (some ⟨fb, 0, none⟩)] w fun e w' => e = .returned (.bool true) ∧ w = w' := by
  refine (has_any hf hF).mono ?_
  rintro e w' ⟨rfl, rfl⟩
  exact ⟨by rw [h0]; rfl, rfl⟩
theorem Sum32_any {w : World} {b : Nat} {v : Int} (h : Blk w b 133 #[.int .u32 v]) :
    Calls Tryd.prog 102 #[.pointer (some ⟨b, 0, none⟩)] w fun e w' => e = .returned (.int .u32 v) ∧ w = w' := by
  have c0 : w.cell? ⟨b, 0, none⟩ = some (.int .u32 v) := h.cell 0
  go_enter Tryd.func102, Tryd.ntmps102
  go_wp2
  go_ret
  exact ⟨rfl, rfl⟩
theorem nopClose_any (v : Value) (w : World) : Calls Tryd.prog 191 #[.agg #[v]] w fun e w' => e = .returned .nilIface ∧ Below w.heap.size w w' := by
  go_enter Tryd.func191, Tryd.ntmps191
  go_wp2
  go_ret
  exact ⟨rfl, (Below.refl _ _).alloc (Nat.le_refl _) _⟩
theorem errNew_any (s : ByteArray) (w : World) : Calls Tryd.prog 35 #[.string s] w fun e w' => (∃ a, e = .returned (.iface 147 (.pointer (some a)))) ∧ Below w.heap.size w w' := by
  go_enter Tryd.func35, Tryd.ntmps35
  go_wp2
  go_ret
  exact ⟨⟨_, rfl⟩, (Below.refl _ _).alloc (Nat.le_refl _) _⟩
theorem dirW_nil (A : Option Addr) (c : Nat) (w : World) : Calls Tryd.prog 176 #[.agg #[], .slice A 0 c] w fun e w' => e = .returned (.tuple #[.int .i64 0, .nilIface]) ∧ Below w.heap.size w w' := by
  go_enter Tryd.func176, Tryd.ntmps176
  go_wp2
  go_ret2
  exact ⟨rfl, (Below.refl _ _).alloc (Nat.le_refl _) _⟩
theorem dirW_err (A : Option Addr) (n c : Nat) (hn : 0 < n) (w : World) : Calls Tryd.prog 176 #[.agg #[], .slice A n c] w fun e w' => (∃ a, e = .returned (.tuple #[.int .i64 0, .iface 147 (.pointer (some a))])) ∧ Below w.heap.size w w' := by
  have h0 : ((n : Int) == 0) = false := by simp; omega
  go_enter Tryd.func176, Tryd.ntmps176
  go_wp2_with fail
  refine (errNew_any _ _).mono ?_
  rintro e w1 ⟨⟨a, rfl⟩, hb⟩
  go_wp2
  go_ret2
  exact ⟨⟨a, rfl⟩, below_new hb⟩
theorem comp1_any (v : Value) (hv : ∃ t a, v = .iface t (.pointer (some a))) (w : World) : Calls Tryd.prog 112 #[v] w fun e w' => e = .returned (.tuple #[.iface 225 (.pointer (some ⟨w.heap.size, 0, none⟩)), .nilIface]) ∧ w' = w.alloc (.cells #[v] 227) := by
  obtain ⟨t, a, rfl⟩ := hv
  go_enter Tryd.func112, Tryd.ntmps112
  go_wp2
  go_ret2
  exact ⟨rfl, rfl⟩
theorem comp0_any (w : World) : Calls Tryd.prog 78 #[.int .u16 0] w fun e w' => e = .returned (.func (.func 112) #[] #[]) ∧ w = w' := by
  go_enter Tryd.func78, Tryd.ntmps78
  go_wp2
  go_ret
  exact ⟨rfl, rfl⟩
theorem look_comp (v : Int) (w : World) : (Instr.lookup 111 (.map none) (.int .u16 v) false).run Tryd.prog w = .ok .nilFunc w := by kernel_rfl
theorem eql_func_nil (W : World) : (binOp .eql 139 .nilFunc .nilFunc).run Tryd.prog W = .ok (.bool true) W := by kernel_rfl
theorem compW_any {w : World} {zw : Nat} {c0 c1 c2 c3 c5 c6 : Value} (h : Blk w zw 114 #[c0, c1, c2, c3, .map none, c5, c6]) :
    Calls Tryd.prog 50 #[.pointer (some ⟨zw, 0, none⟩), .int .u16 0] w fun e w' => e = .returned (.func (.func 112) #[] #[]) ∧ w = w' := by
  have z4 : w.cell? ⟨zw, 4, none⟩ = some (.map none) := h.cell 4
  have hl := look_comp
  have he := eql_func_nil
  clear h
  go_enter Tryd.func50, Tryd.ntmps50
  go_wp2_with fail
  refine (comp0_any _).mono ?_
  rintro e w1 ⟨rfl, rfl⟩
  go_wp2
  go_ret
  exact ⟨rfl, rfl⟩
theorem setComment_any {w : World} {zw : Nat} {c5s : ByteArray} {c0 c1 c2 c3 c4 c6 : Value} (h : Blk w zw 114 #[c0, c1, c2, c3, c4, .string c5s, c6]) (s : ByteArray) (hs : s.size ≤ 65535) :
    Calls Tryd.prog 52 #[.pointer (some ⟨zw, 0, none⟩), .string s] w fun e w' => e = .returned .nilIface ∧ Blk w' zw 114 #[c0, c1, c2, c3, c4, .string s, c6] ∧ Kept [zw] w w' := by
  have z5 : w.cell? ⟨zw, 5, none⟩ = some (.string c5s) := h.cell 5
  have hf : w.frozen? ⟨zw, 5, none⟩ = false := h.frozen 5
  have H := Lib.hid h
  clear h
  go_enter Tryd.func52, Tryd.ntmps52
  go_wp2
  go_ret
  exact ⟨rfl, Blk.cast (H.out.set_ 5 _) (by simp), (Kept.refl _ _).setCell (by simp) _⟩
theorem setComment_long (a : Option Addr) (s : ByteArray) (hs : 65535 < s.size) (hm : s.size ≤ 9223372036854775807) (w : World) :
    Calls Tryd.prog 52 #[.pointer a, .string s] w fun e w' => (∃ a, e = .returned (.iface 147 (.pointer (some a)))) ∧ Below w.heap.size w w' := by
  go_enter Tryd.func52, Tryd.ntmps52
  go_wp2_with fail
  refine (errNew_any _ _).mono ?_
  rintro e w1 ⟨⟨a, rfl⟩, hb⟩
  go_wp2
  go_ret
  exact ⟨⟨a, rfl⟩, hb⟩
end Go.Proofs.YtkkdblifgekmkaaDoor
