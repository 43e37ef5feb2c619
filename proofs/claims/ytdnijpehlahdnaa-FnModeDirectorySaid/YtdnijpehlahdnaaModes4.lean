/- Contracts: ModeOf and SetMode of the thin package. -/
import Derived.Test.YtdnijpehlahdnaaModes3
namespace Go.Proofs.Ytdnijpehlahdnaa
open Go.ChangeShapes Go.WideShapes Go.ChangeAt Go.RowKit

theorem dosV_lt (m : Int) : 0 ≤ dosV m ∧ dosV m < 4294967296 := by
  unfold dosV
  split
  · exact bits_u32 _ _ _
  · split <;> omega
theorem attrV_lt (c x : Int) : 0 ≤ attrV c x ∧ attrV c x < 4294967296 := by
  unfold attrV
  have hf := fsV_lt (x / 65536)
  have hd := dosV_lt x
  generalize fsV (x / 65536) = f at *
  generalize dosV x = d at *
  (repeat' split) <;> omega


def ModeIs (s : ByteArray) (c x M : Int) : Prop := ∀ (b : Nat) (w : World), w.cell? ⟨b, 0, none⟩ = some (.string s) → w.cell? ⟨b, 3, none⟩ = some (.int .u16 c) → w.cell? ⟨b, 18, none⟩ = some (.int .u32 x) →
    Calls Try.prog 21 #[.pointer (some ⟨b, 0, none⟩)] w fun e w' => e = .returned (.int .u32 M) ∧ Below w.heap.size w w'

theorem modeOf_core (s : ByteArray) (c x M : Int) (hM : 0 ≤ M ∧ M < 4294967296) (hm : ModeIs s c x M) (c0 : 0 ≤ c) (c1 : c ≤ 65535) (x0 : 0 ≤ x) (x1 : x ≤ 4294967295) (w : World) :
    Calls Try.prog 13 #[.string s, .int .i64 c, .int .i64 x] w fun e w' =>
      e = .returned (.agg #[.int .i64 (M % 512), .int .i64 (modeKind M), .bool (modeU M), .bool (modeG M), .bool (modeS M)]) ∧ Below w.heap.size w w' := by
  have hc : IntKind.u16.wrap c = c := by rw [IntKind.wrap_u16]; omega
  have hx : IntKind.u32.wrap x = x := by rw [IntKind.wrap_u32]; omega
  go_enter Try.func13, Try.ntmps13
  go_wp2_with fail
  refine (hm _ _ (by simp) (by simp) (by simp)).mono ?_
  rintro e w1 ⟨rfl, hb1⟩
  have hz1 := hb1.size
  obtain ⟨hc1, hf1⟩ := bcell hb1
  simp only [World.size_alloc] at hz1
  go_wp2_with fail
  refine (modeOf_any _ hM.1 hM.2 _).mono ?_
  rintro e w2 ⟨rfl, hb2⟩
  have hz2 := hb2.size
  obtain ⟨hc2, hf2⟩ := bcell hb2
  have hlt1 : w.heap.size < w1.heap.size := by omega
  have hlt2 : w.heap.size < w2.heap.size := by omega
  have e0 : w2.cell? ⟨w.heap.size, 0, none⟩ = some (.int .i64 0) := by rw [hc2 _ _ hlt1, hc1 _ _ (by simp; omega)]; simp
  have e1 : w2.cell? ⟨w.heap.size, 1, none⟩ = some (.int .i64 0) := by rw [hc2 _ _ hlt1, hc1 _ _ (by simp; omega)]; simp
  have e2 : w2.cell? ⟨w.heap.size, 2, none⟩ = some (.bool false) := by rw [hc2 _ _ hlt1, hc1 _ _ (by simp; omega)]; simp
  have e3 : w2.cell? ⟨w.heap.size, 3, none⟩ = some (.bool false) := by rw [hc2 _ _ hlt1, hc1 _ _ (by simp; omega)]; simp
  have e4 : w2.cell? ⟨w.heap.size, 4, none⟩ = some (.bool false) := by rw [hc2 _ _ hlt1, hc1 _ _ (by simp; omega)]; simp
  go_wp2
  refine bodyPost_ret (v := .agg #[.int .i64 (M % 512), .int .i64 (modeKind M), .bool (modeU M), .bool (modeG M), .bool (modeS M)]) ?_ rfl ⟨rfl, ?_⟩
  · simp [results, Try.results13, go_sem, e0, e1, e2, e3, e4]
  · repeat (refine Below.setCell ?_ (by simp) _)
    exact ((((Below.refl _ _).alloc (Nat.le_refl _) _).alloc (by simp) _).trans (hb1.mono (by simp; omega))).trans (hb2.mono (by omega))

theorem modeIs_none (c x : Int) (c0 : 0 ≤ c) (x0 : 0 ≤ x) : ModeIs ByteArray.empty c x (attrV c x) := fun b w h1 h2 h3 => mode_none b c x w h1 h2 h3 c0 x0
theorem modeIs_plain (s : ByteArray) (c x : Int) (c0 : 0 ≤ c) (x0 : 0 ≤ x) (hpos : 0 < s.size) (hm : s.size ≤ 9223372036854775807) (hl : (((s[s.size - 1]'(by omega)).toNat : Int) == 47) = false) : ModeIs s c x (attrV c x) :=
  fun b w h1 h2 h3 => mode_plain b s c x w h1 h2 h3 c0 x0 hpos hm hl
theorem modeIs_dir (s : ByteArray) (c x : Int) (c0 : 0 ≤ c) (x0 : 0 ≤ x) (hpos : 0 < s.size) (hm : s.size ≤ 9223372036854775807) (hl : (((s[s.size - 1]'(by omega)).toNat : Int) == 47) = true) : ModeIs s c x (bits .or .u32 (attrV c x) 2147483648) :=
  fun b w h1 h2 h3 => mode_dir b s c x w h1 h2 h3 c0 x0 hpos hm hl
theorem modeOf_none (c x : Int) (c0 : 0 ≤ c) (c1 : c ≤ 65535) (x0 : 0 ≤ x) (x1 : x ≤ 4294967295) (w : World) :
    Calls Try.prog 13 #[.string ByteArray.empty, .int .i64 c, .int .i64 x] w fun e w' =>
      e = .returned (.agg #[.int .i64 (attrV c x % 512), .int .i64 (modeKind (attrV c x)), .bool (modeU (attrV c x)), .bool (modeG (attrV c x)), .bool (modeS (attrV c x))]) ∧ Below w.heap.size w w' :=
  modeOf_core _ c x _ (attrV_lt c x) (modeIs_none c x c0 x0) c0 c1 x0 x1 w

theorem like_any (a b : Int) (w : World) : Calls Try.prog 26 #[.int .u32 a, .int .u32 b] w fun e w' => e = .returned (.int .u32 b) ∧ w = w' := by
  go_enter Try.func26, Try.ntmps26
  go_wp2
  go_ret
  exact ⟨rfl, rfl⟩

/-- What SetMode leaves in the attributes. -/
def extV (n : Int) : Int := orIf (bits .and .u32 n 128 == 0) (orIf (bits .and .u32 n 2147483648 != 0) (unixV n * 65536 % 4294967296) 16) 1
theorem setCell_setCell (w : World) (blk off : Nat) (v v' : Value) : (w.setCell ⟨blk, off, none⟩ v).setCell ⟨blk, off, none⟩ v' = w.setCell ⟨blk, off, none⟩ v' := by
  simp only [World.setCell]
  congr 1
  apply Array.ext_getElem?
  intro i
  simp only [Array.getElem?_modify]
  by_cases h : blk = i
  · subst h
    cases hh : w.heap[blk]? with
    | none => simp
    | some o => cases o <;> simp
  · simp [h]
theorem grown_setCell {w w' : World} {b : Nat} (h : w.grownBy w' (some b)) (i : Nat) (u : Value) : w.grownBy (w'.setCell ⟨b, i, none⟩ u) (some b) :=
  ⟨h.os, h.tape, h.output, by simpa using h.size, fun k hk hne => (Below.heap_setCell _ _ _ _ (fun e => hne (by simp [e]))).trans (h.block k hk hne)⟩
theorem u16_768 : bits .or .u16 (bits .and .u16 0 255) 768 = 768 := by decide
theorem setMode_any (b : Nat) (n : Int) (w : World) (hc : w.cell? ⟨b, 3, none⟩ = some (.int .u16 0)) (hx : w.cell? ⟨b, 18, none⟩ = some (.int .u32 0)) (f3 : w.frozen? ⟨b, 3, none⟩ = false) (f18 : w.frozen? ⟨b, 18, none⟩ = false) :
    Calls Try.prog 25 #[.pointer (some ⟨b, 0, none⟩), .int .u32 n] w fun e w' => e = .returned (.tuple #[]) ∧ w'.cell? ⟨b, 3, none⟩ = some (.int .u16 768) ∧ w'.cell? ⟨b, 18, none⟩ = some (.int .u32 (extV n)) ∧ w.grownBy w' (some b) := by
  have hss := fun W v v' => setCell_setCell W b 18 v v'
  have h768 := u16_768
  go_enter Try.func25, Try.ntmps25
  go_wp2_with (first | (go_at_call 31; refine (unix_any _ _).mono ?_; rintro e w' ⟨rfl, rfl⟩))
  all_goals
    refine bodyPost_end (results_none rfl _ _ _) rfl ⟨rfl, ?_, ?_, ?_⟩
    · simp [go_sem, *]
    · simp [go_sem, extV, orIf, *]
    · repeat (first | exact World.grownBy.refl _ _ | refine grown_setCell ?_ _ _)
end Go.Proofs.Ytdnijpehlahdnaa
