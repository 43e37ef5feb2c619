/- Contract: laws.writes. -/
import Derived.Test.YtkkdblifgekmkaaDoorWr
import Derived.Test.YtkkdblifgekmkaaDoorScan4
namespace Go.Proofs.YtkkdblifgekmkaaDoor
open Go.RowKit
def enA : En := ⟨[97], [], [], false, 0, 0, 0, 0, 0, 0, 0, 0, 0, 0, [98]⟩
theorem enA_ok : enA.OkW := ⟨by decide, by decide, by decide, by decide, by decide, fun h => absurd h (by decide)⟩
theorem hdW_nm (e : En) : (hdW e).name = e.name ∧ (hdW e).extra = [] ∧ (hdW e).comment = e.comment ∧ (hdW e).method = 0 ∧ (hdW e).external = e.external.toNat := by
  unfold hdW; split <;> exact ⟨rfl, rfl, rfl, rfl, rfl⟩
theorem itemW_ok {e : En} (h : e.OkW) : ItemOk (itemW e) := by
  have hf := itemW_fit h
  have hw := hdW_fits h
  unfold itemW at hf ⊢
  split
  · next hs =>
    rw [if_pos hs] at hf
    refine ⟨hw, hf.1, rfl, rfl, ?_⟩
    simp only [hdW, hs, if_true]
    rfl
  · next hs =>
    rw [if_neg hs] at hf
    exact ⟨hw, hf.1, rfl, rfl, rfl⟩
theorem lenA : (filesB [itemW enA]).length = 48 ∧ (dirB 0 [itemW enA]).length = 47 := by
  have hs : slashL enA.name = false := by decide
  have h := hdW_nm enA
  constructor
  · simp [filesB, Item.bytes, itemW, hs, localB_length, tailB_length, h.1, h.2.1]
    simp [enA]
  · simp [dirB, itemW, hs, centralB_length, Hd.done, h.1, h.2.1, h.2.2.1]
    simp [enA]
theorem oneA : ∀ k, (filesB [itemW enA]).length + (dirB 0 [itemW enA]).length < k → standsL (archB [itemW enA] []) [80, 75, 5, 6] k = false := by
  intro k hk
  have e : (archB [itemW enA] []).drop ((filesB [itemW enA]).length + (dirB 0 [itemW enA]).length) = endL 1 47 48 [] := by
    rw [archB, ← List.length_append, List.drop_left, lenA.1, lenA.2]; rfl
  obtain ⟨j, rfl⟩ : ∃ j, k = (filesB [itemW enA]).length + (dirB 0 [itemW enA]).length + (j + 1) := ⟨k - ((filesB [itemW enA]).length + (dirB 0 [itemW enA]).length) - 1, by omega⟩
  unfold standsL
  rw [← List.drop_drop, e]
  by_cases hj : j < 22
  · have : ∀ j < 22, ((List.drop (j + 1) (endL 1 47 48 [])).take 4 == [80, 75, 5, 6]) = false := by decide
    exact this j hj
  · rw [List.drop_of_length_le (by rw [endL_length]; simp; omega)]
    rfl
set_option maxHeartbeats 1000000 in
theorem writes_any {w : World} (hT : Lib.Utf8Tabs 10 11 w) : Calls Tryd.prog 12 #[] w fun e w' => e = .returned (.bool true) ∧ Below w.heap.size w w' := by
  have HT := Lib.hid hT
  have HL := lenA
  clear hT
  have hl1 : (archB [itemW enA] []).length = 117 := by
    rw [archB, List.length_append, List.length_append, endL_length, lenA.1, lenA.2]; rfl
  have HL1 := Lib.hid hl1
  obtain ⟨s, hs⟩ : ∃ s, s = archB [itemW enA] [] := ⟨_, rfl⟩
  have hne : s.isEmpty = false := by
    rcases s with _ | ⟨a, b⟩
    · rw [← hs] at hl1; simp at hl1
    · rfl
  have HSC := Lib.hid (fun w => Scan_any [itemW enA] [] (fun i hi => by obtain rfl := List.mem_singleton.1 hi; exact itemW_ok enA_ok) (by rw [lenA.1, lenA.2]; decide) (by decide) (by decide) oneA w)
  have HS := Lib.hid hs
  clear hl1 hs HL
  go_enter Tryd.func12, Tryd.ntmps12
  go_wp2_with fail
  have hw := fun W (k : Below w.heap.size w W) hr => Write_any (w := W) (some ⟨w.heap.size, 0, none⟩) 1 [enA] [] hr (tabs_keep HT.out k) (fun e he => by obtain rfl := List.mem_singleton.1 he; exact enA_ok) (by decide) (by decide)
  refine callsW (fun W => Below w.heap.size w W ∧ Reads W W.heap.size 15 (some ⟨w.heap.size, 0, none⟩) 1 ([enA].flatMap En.cells)) ⟨(Below.refl _ _).alloc (Nat.le_refl _) _, ?_⟩ ?_
  · refine ⟨rfl, fun _ => ⟨_, rfl, by simp, fun j u hu => ?_⟩⟩
    rw [Addr.add_lit, Nat.zero_add]
    exact ((Blk.new w 38 ([enA].flatMap En.cells).toArray).cell j).trans (by rw [List.getElem?_toArray]; exact hu)
  rintro W ⟨hbw, hrd⟩
  have HB := Lib.hid hbw
  have HW := Lib.hid (hw W hbw hrd)
  clear hw hbw hrd
  refine HW.out.mono ?_
  rintro e w2 ⟨rfl, hb2⟩
  have HB2 := Lib.hid (HB.out.trans (hb2.mono HB.out.size))
  clear hb2 HW
  rw [show [enA].map itemW = [itemW enA] from rfl, ← HS.out]
  go_wp2_with fail
  have hsc := HSC.out w2
  rw [← HS.out] at hsc
  refine hsc.mono ?_
  rintro e w3 ⟨⟨v, rfl, hv⟩, hb3⟩
  obtain ⟨A, n, c, rfl⟩ := own_slice hv
  have HB3 := Lib.hid (HB2.out.trans (hb3.mono HB2.out.size))
  clear hb3 hsc HSC hv
  go_wp2
  go_ret
  exact ⟨rfl, HB3.out⟩
end Go.Proofs.YtkkdblifgekmkaaDoor
