/- An argument []impl.Entry opened to cells. -/
import Derived.Test.YtfagjhgmmaebfaaGreatDoorEnt
import Derived.Test.YtfagjhgmmaebfaaGreatDoorRows
import Derived.Deep.Slices
import Derived.Deep.Fields
import Derived.ChangeSame
import Derived.ChangeArms
import Derived.Test.YtfagjhgmmaebfaaGreatDoorEnd
namespace Go.Proofs.YtfagjhgmmaebfaaGreatDoor
open Go.ChangeShapes Go.WideShapes Go.Deep
/-- An entry as it can come in. -/
structure En.Wf (e : En) : Prop where
  name : e.name.length ≤ 9223372036854775807
  comment : e.comment.length ≤ 9223372036854775807
  extra : e.extra.length ≤ 9223372036854775807
  data : e.data.length ≤ 9223372036854775807
  creator : -9223372036854775808 ≤ e.creator ∧ e.creator ≤ 9223372036854775807
  reader : -9223372036854775808 ≤ e.reader ∧ e.reader ≤ 9223372036854775807
  flags : -9223372036854775808 ≤ e.flags ∧ e.flags ≤ 9223372036854775807
  method : -9223372036854775808 ≤ e.method ∧ e.method ≤ 9223372036854775807
  time : -9223372036854775808 ≤ e.time ∧ e.time ≤ 9223372036854775807
  date : -9223372036854775808 ≤ e.date ∧ e.date ≤ 9223372036854775807
  crc : -9223372036854775808 ≤ e.crc ∧ e.crc ≤ 9223372036854775807
  packed : -9223372036854775808 ≤ e.packed ∧ e.packed ≤ 9223372036854775807
  size : -9223372036854775808 ≤ e.size ∧ e.size ≤ 9223372036854775807
  external : -9223372036854775808 ≤ e.external ∧ e.external ≤ 9223372036854775807
theorem wf_i64 {z : Int} (h : (Lit.int .i64 z).wf = true) : -9223372036854775808 ≤ z ∧ z ≤ 9223372036854775807 := by
  have h1 : IntKind.i64.min = -9223372036854775808 := by decide
  have h2 : IntKind.i64.max = 9223372036854775807 := by decide
  simp only [Lit.wf, Bool.and_eq_true, decide_eq_true_eq, h1, h2] at h
  exact h
theorem cE : Tryz.prog.cellsOf 41 = 15 := by kernel_rfl
theorem cH : Tryz.prog.cellsOf 39 = 14 := by kernel_rfl
theorem cS : Tryz.prog.cellsOf 9 = 1 := by kernel_rfl
theorem cI : Tryz.prog.cellsOf 3 = 1 := by kernel_rfl
theorem cB : Tryz.prog.cellsOf 4 = 1 := by kernel_rfl
section
variable {H : Type} {enc : TypeId × Value → H} {w : World} {base : Nat} {spare : Nat → Bool} {held : Bool}
theorem some_of {α : Type} {xs : List α} {i : Nat} {o : Option α} (h : o = xs[i]?) (hi : i < xs.length) : ∃ y, o = some y := ⟨xs[i], by rw [h, List.getElem?_eq_getElem hi]⟩
theorem field_at {P : Program} {fs : Array Field} {n : Nat} {cs : List Value} {xs : List (DataW H × List MemPlace)} (hf : ∀ (i : Nat) (f : Field), fs[i]? = some f → DataW.trod enc P w base spare held n f.type ((cs.drop f.offset).take (P.cellsOf f.type)) = xs[i]?) (i t o k : Nat) (h : (fs[i]?).map (fun f => (f.type, f.offset)) = some (t, o)) (hk : P.cellsOf t = k) :
    DataW.trod enc P w base spare held n t ((cs.drop o).take k) = xs[i]? := by
  obtain ⟨f, h1, h2⟩ := Option.map_eq_some_iff.1 h
  injection h2 with h3 h4
  subst h3; subst h4; subst hk
  exact hf i f h1
set_option maxRecDepth 100000 in
set_option maxHeartbeats 1000000 in
theorem entry_of {fuel : Nat} {cs : List Value} {x : DataW H × List MemPlace} (h : DataW.trod enc Tryz.prog w base spare held fuel 41 cs = some x) : ∃ e : En, cs = e.cells ∧ e.Wf := by
  obtain ⟨xs, n, _, _, hlen, hxl, hf⟩ := DataW.trod_struct Tryz.underlying41 h
  rw [cE] at hlen
  match cs, hlen with
  | [c0, c1, c2, c3, c4, c5, c6, c7, c8, c9, c10, c11, c12, c13, c14], _ =>
    have h0 : DataW.trod enc Tryz.prog w base spare held n 39 [c0, c1, c2, c3, c4, c5, c6, c7, c8, c9, c10, c11, c12, c13] = xs[0]? := field_at hf 0 _ 0 14 rfl cH
    have h1 : DataW.trod enc Tryz.prog w base spare held n 9 [c14] = xs[1]? := field_at hf 1 _ 14 1 rfl cS
    obtain ⟨y0, h0⟩ := some_of h0 (by rw [hxl]; decide)
    obtain ⟨y1, h1⟩ := some_of h1 (by rw [hxl]; decide)
    obtain ⟨zs, m, _, _, _, hzl, hg⟩ := DataW.trod_struct Tryz.underlying39 h0
    obtain ⟨s14, e14, _, b14⟩ := DataW.trod_string Tryz.underlying9 h1
    have g0 : DataW.trod enc Tryz.prog w base spare held m 9 [c0] = zs[0]? := field_at hg 0 _ 0 1 rfl cS
    obtain ⟨z0, g0⟩ := some_of g0 (by rw [hzl]; decide)
    obtain ⟨s0, e0, _, b0⟩ := DataW.trod_string Tryz.underlying9 g0
    have g1 : DataW.trod enc Tryz.prog w base spare held m 9 [c1] = zs[1]? := field_at hg 1 _ 1 1 rfl cS
    obtain ⟨z1, g1⟩ := some_of g1 (by rw [hzl]; decide)
    obtain ⟨s1, e1, _, b1⟩ := DataW.trod_string Tryz.underlying9 g1
    have g2 : DataW.trod enc Tryz.prog w base spare held m 9 [c2] = zs[2]? := field_at hg 2 _ 2 1 rfl cS
    obtain ⟨z2, g2⟩ := some_of g2 (by rw [hzl]; decide)
    obtain ⟨s2, e2, _, b2⟩ := DataW.trod_string Tryz.underlying9 g2
    have g3 : DataW.trod enc Tryz.prog w base spare held m 4 [c3] = zs[3]? := field_at hg 3 _ 3 1 rfl cB
    obtain ⟨z3, g3⟩ := some_of g3 (by rw [hzl]; decide)
    obtain ⟨s3, e3, _⟩ := DataW.trod_bool Tryz.underlying4 g3
    have g4 : DataW.trod enc Tryz.prog w base spare held m 3 [c4] = zs[4]? := field_at hg 4 _ 4 1 rfl cI
    obtain ⟨z4, g4⟩ := some_of g4 (by rw [hzl]; decide)
    obtain ⟨s4, e4, _, b4⟩ := DataW.trod_int Tryz.underlying3 g4
    have g5 : DataW.trod enc Tryz.prog w base spare held m 3 [c5] = zs[5]? := field_at hg 5 _ 5 1 rfl cI
    obtain ⟨z5, g5⟩ := some_of g5 (by rw [hzl]; decide)
    obtain ⟨s5, e5, _, b5⟩ := DataW.trod_int Tryz.underlying3 g5
    have g6 : DataW.trod enc Tryz.prog w base spare held m 3 [c6] = zs[6]? := field_at hg 6 _ 6 1 rfl cI
    obtain ⟨z6, g6⟩ := some_of g6 (by rw [hzl]; decide)
    obtain ⟨s6, e6, _, b6⟩ := DataW.trod_int Tryz.underlying3 g6
    have g7 : DataW.trod enc Tryz.prog w base spare held m 3 [c7] = zs[7]? := field_at hg 7 _ 7 1 rfl cI
    obtain ⟨z7, g7⟩ := some_of g7 (by rw [hzl]; decide)
    obtain ⟨s7, e7, _, b7⟩ := DataW.trod_int Tryz.underlying3 g7
    have g8 : DataW.trod enc Tryz.prog w base spare held m 3 [c8] = zs[8]? := field_at hg 8 _ 8 1 rfl cI
    obtain ⟨z8, g8⟩ := some_of g8 (by rw [hzl]; decide)
    obtain ⟨s8, e8, _, b8⟩ := DataW.trod_int Tryz.underlying3 g8
    have g9 : DataW.trod enc Tryz.prog w base spare held m 3 [c9] = zs[9]? := field_at hg 9 _ 9 1 rfl cI
    obtain ⟨z9, g9⟩ := some_of g9 (by rw [hzl]; decide)
    obtain ⟨s9, e9, _, b9⟩ := DataW.trod_int Tryz.underlying3 g9
    have g10 : DataW.trod enc Tryz.prog w base spare held m 3 [c10] = zs[10]? := field_at hg 10 _ 10 1 rfl cI
    obtain ⟨z10, g10⟩ := some_of g10 (by rw [hzl]; decide)
    obtain ⟨s10, e10, _, b10⟩ := DataW.trod_int Tryz.underlying3 g10
    have g11 : DataW.trod enc Tryz.prog w base spare held m 3 [c11] = zs[11]? := field_at hg 11 _ 11 1 rfl cI
    obtain ⟨z11, g11⟩ := some_of g11 (by rw [hzl]; decide)
    obtain ⟨s11, e11, _, b11⟩ := DataW.trod_int Tryz.underlying3 g11
    have g12 : DataW.trod enc Tryz.prog w base spare held m 3 [c12] = zs[12]? := field_at hg 12 _ 12 1 rfl cI
    obtain ⟨z12, g12⟩ := some_of g12 (by rw [hzl]; decide)
    obtain ⟨s12, e12, _, b12⟩ := DataW.trod_int Tryz.underlying3 g12
    have g13 : DataW.trod enc Tryz.prog w base spare held m 3 [c13] = zs[13]? := field_at hg 13 _ 13 1 rfl cI
    obtain ⟨z13, g13⟩ := some_of g13 (by rw [hzl]; decide)
    obtain ⟨s13, e13, _, b13⟩ := DataW.trod_int Tryz.underlying3 g13
    simp only [List.cons.injEq, and_true] at e14 e0 e1 e2 e3 e4 e5 e6 e7 e8 e9 e10 e11 e12 e13
    subst e14 e0 e1 e2 e3 e4 e5 e6 e7 e8 e9 e10 e11 e12 e13
    obtain ⟨⟨s0⟩⟩ := s0
    obtain ⟨⟨s1⟩⟩ := s1
    obtain ⟨⟨s2⟩⟩ := s2
    obtain ⟨⟨s14⟩⟩ := s14
    exact ⟨⟨s0, s1, s2, s3, s4, s5, s6, s7, s8, s9, s10, s11, s12, s13, s14⟩, rfl, b0, b1, b2, b14, wf_i64 b4, wf_i64 b5, wf_i64 b6, wf_i64 b7, wf_i64 b8, wf_i64 b9, wf_i64 b10, wf_i64 b11, wf_i64 b12, wf_i64 b13⟩
theorem list_of {α : Type} {Q : Nat → α → Prop} : ∀ n : Nat, (∀ i, i < n → ∃ e, Q i e) → ∃ L : List α, L.length = n ∧ ∀ i (h : i < L.length), Q i L[i]
  | 0, _ => ⟨[], rfl, fun i h => absurd h (Nat.not_lt_zero _)⟩
  | n + 1, h => by
    obtain ⟨L, hL, hQ⟩ := list_of n (fun i hi => h i (by omega))
    obtain ⟨e, he⟩ := h n (by omega)
    refine ⟨L ++ [e], by simp [hL], fun i hi => ?_⟩
    by_cases hin : i < L.length
    · rw [List.getElem_append_left hin]; exact hQ i hin
    · obtain rfl : i = L.length := by simp at hi; omega
      rw [List.getElem_append_right (Nat.le_refl _)]
      simpa [hL] using he
theorem cell_lt {w : World} {p : Addr} {v : Value} (h : w.cell? p = some v) : p.block < w.heap.size := by
  rcases Nat.lt_or_ge p.block w.heap.size with h1 | h1
  · exact h1
  · exfalso
    unfold World.cell? at h
    rw [Array.getElem?_eq_none h1] at h
    cases h
/-- The argument: a list of entries, in cells. -/
theorem open_entries {fuel : Nat} {cs : List Value} {x : DataW H × List MemPlace} (h : DataW.trod enc Tryz.prog w base spare held fuel 22 cs = some x) :
    ∃ (A : Option Addr) (c : Nat) (L : List En), cs = [.slice A L.length c] ∧ L.length ≤ c ∧ c ≤ 9223372036854775807 ∧ (A = none → L = []) ∧ Reads w w.heap.size 15 A L.length (L.flatMap En.cells) ∧ ∀ e ∈ L, e.Wf := by
  rcases open_slice Tryz.underlying22 h with ⟨rfl, _⟩ | ⟨a, len, cap, m, n, D, Pl, rfl, _, hl, hm, hmm, _, hi⟩
  · exact ⟨none, 0, [], rfl, Nat.le_refl _, by decide, fun _ => rfl, ⟨rfl, fun h => absurd h (Nat.lt_irrefl 0)⟩, by simp⟩
  · have hlm : len ≤ m := by rw [hmm]; split <;> omega
    obtain ⟨L, hL, hQ⟩ := list_of (Q := fun i (e : En) => (∀ j u, e.cells[j]? = some u → w.cell? (a.add (i * 15 + j)) = some u) ∧ e.Wf) len (fun i hil => by
      obtain ⟨cs', h1, h2⟩ := hi i (by omega)
      rw [cE] at h1
      obtain ⟨_, hc2, hc3⟩ := World.cells?_some h1
      obtain ⟨e, rfl, he⟩ := entry_of h2
      refine ⟨e, fun j u hj => ?_, he⟩
      have hj15 : j < 15 := by rw [← hc2]; exact (List.getElem?_eq_some_iff.1 hj).1
      rw [← add_of_add, hc3 j hj15]
      exact hj)
    subst hL
    refine ⟨some a, cap, L, rfl, hl, hm, (fun h => by cases h), ⟨flat_length L, fun hn => ⟨a, rfl, ?_, ?_⟩⟩, fun e he => ?_⟩
    · have := (hQ 0 hn).1 0 _ rfl
      have h2 := cell_lt this
      rwa [block_of_add] at h2
    · intro j u hj
      have hj2 : j < L.length * 15 := by
        have := (List.getElem?_eq_some_iff.1 hj).1
        rwa [flat_length] at this
      have hk : j / 15 < L.length := by omega
      have e1 : j = j / 15 * 15 + j % 15 := by omega
      rw [e1] at hj ⊢
      rw [flat_cells L (j / 15) (j % 15) hk (by omega)] at hj
      exact (hQ _ hk).1 _ _ hj
    · obtain ⟨i, hi, rfl⟩ := List.mem_iff_getElem.1 he
      exact (hQ i hi).2
end
end Go.Proofs.YtfagjhgmmaebfaaGreatDoor
/- Plain words: an archive's end, where it stands once. No program in sight. -/
namespace Go.Proofs.YtfagjhgmmaebfaaGreatDoor
theorem sig_lenA {l : List UInt8} {j : Nat} (h : sigAt l j = true) : j + 4 ≤ l.length := by
  unfold sigAt at h
  have e : (l.drop j).take 4 = [80, 75, 5, 6] := by simpa using h
  have := congrArg List.length e
  simp at this
  omega
theorem cnt_oneA {l : List UInt8} {a k : Nat} (ha : a < k) (h : sigAt l a = true) : 1 ≤ cnt l k := by
  induction k with
  | zero => omega
  | succ k ih =>
    unfold cnt
    by_cases e : a = k
    · subst e; rw [if_pos h]; omega
    · have := ih (by omega); omega
theorem cnt_twoA {l : List UInt8} {a b k : Nat} (hab : a < b) (hb : b < k) (h : sigAt l a = true) (h' : sigAt l b = true) : 2 ≤ cnt l k := by
  induction k with
  | zero => omega
  | succ k ih =>
    unfold cnt
    by_cases e : b = k
    · subst e; rw [if_pos h']; have := cnt_oneA hab h; omega
    · have := ih (by omega); omega
theorem only_oneA {l : List UInt8} (h1 : endsL l = 1) {a b : Nat} (ha : sigAt l a = true) (hb : sigAt l b = true) : a = b := by
  unfold endsL at h1
  have la := sig_lenA ha
  have lb := sig_lenA hb
  rcases Nat.lt_trichotomy a b with h | h | h
  · have := cnt_twoA h (show b < l.length - 3 by omega) ha hb; omega
  · exact h
  · have := cnt_twoA h (show a < l.length - 3 by omega) hb ha; omega
end Go.Proofs.YtfagjhgmmaebfaaGreatDoor
