/- The walk of laws.FnWriteDirectory. -/
import Derived.Test.YtkkdblifgekmkaaDoorWrites
import Derived.Test.YtkkdblifgekmkaaDoorWre
namespace Go.Proofs.YtkkdblifgekmkaaDoor
open Go.RowKit
theorem slash_app (l : List UInt8) : slashL (l ++ [47]) = true := by
  unfold slashL Lib.hasSuffix
  simp
set_option maxRecDepth 100000 in
set_option maxHeartbeats 1000000 in
theorem walkDirectory (s t : ByteArray) (hs : s.size ≤ maxLen) (ht : t.size ≤ maxLen) (w : World) (hT : Lib.Utf8Tabs 10 11 w) :
    Calls Tryd.prog 5 #[.string s, .string t] w fun e w' => e = .returned (.bool true) ∧ Below w.heap.size w w' := by
  unfold maxLen at hs ht
  have HT := Lib.hid hT
  clear hT
  obtain ⟨⟨a⟩⟩ := s
  obtain ⟨⟨b⟩⟩ := t
  have hsz2 : ∀ l : List UInt8, (ByteArray.mk l.toArray).size = l.length := fun _ => rfl
  have ha : a.length ≤ 9223372036854775807 := hs
  have hb : b.length ≤ 9223372036854775807 := ht
  clear hs ht
  by_cases h1 : 2147483647 < a.length
  · go_enter Tryd.func5, Tryd.ntmps5
    go_wp2
    go_ret
    exact ⟨rfl, Below.refl _ _⟩
  by_cases h2 : 2147483647 < b.length
  · go_enter Tryd.func5, Tryd.ntmps5
    go_wp2
    go_ret
    exact ⟨rfl, Below.refl _ _⟩
  by_cases h3 : 60000 < a.length
  · go_enter Tryd.func5, Tryd.ntmps5
    go_wp2
    go_ret
    exact ⟨rfl, Below.refl _ _⟩
  by_cases h4 : b = []
  · subst h4
    go_enter Tryd.func5, Tryd.ntmps5
    go_wp2
    go_ret
    exact ⟨rfl, Below.refl _ _⟩
  have hne : b.isEmpty = false := by cases b <;> simp_all
  have hb0 : 0 < b.length := List.length_pos_iff.2 h4
  by_cases h5 : 1048576 < b.length
  · clear h4
    go_enter Tryd.func5, Tryd.ntmps5
    go_wp2
    go_ret
    exact ⟨rfl, Below.refl _ _⟩
  clear h4
  have hcat : (ByteArray.mk a.toArray) ++ ({ data := #[47] } : ByteArray) = ⟨(a ++ [47]).toArray⟩ := cat_mk a [47]
  obtain ⟨e, he⟩ : ∃ e : En, e = ⟨a ++ [47], [], [], false, 0, 0, 0, 0, 0, 0, 0, 0, 0, 0, b⟩ := ⟨_, rfl⟩
  have hw := fun W (k : Below w.heap.size w W) hr => Write_dirErr (w := W) (some ⟨w.heap.size, 0, none⟩) 1 e { data := #[] } hr (tabs_keep HT.out k) (by rw [he]; simp; omega) (by rw [he]; simp) (by rw [he]; exact Int.le_refl 0) (by rw [he]; exact (by decide : (0 : Int) < 4294967296)) (by rw [he]; exact slash_app a) (by rw [he]; exact hb0) (by rw [he]; show b.length ≤ _; omega)
  have HW0 := Lib.hid hw
  have HE := Lib.hid he
  clear hw he
  go_enter Tryd.func5, Tryd.ntmps5
  go_wp2_with fail
  refine callsW (fun W => Below w.heap.size w W ∧ Reads W W.heap.size 15 (some ⟨w.heap.size, 0, none⟩) 1 ([e].flatMap En.cells)) ⟨(Below.refl _ _).alloc (Nat.le_refl _) _, ?_⟩ ?_
  · refine ⟨rfl, fun _ => ⟨_, rfl, by simp, fun j u hu => ?_⟩⟩
    rw [Addr.add_lit, Nat.zero_add]
    rw [HE.out] at hu
    exact ((Blk.new w 38 ([(⟨a ++ [47], [], [], false, 0, 0, 0, 0, 0, 0, 0, 0, 0, 0, b⟩ : En)].flatMap En.cells).toArray).cell j).trans (by rw [List.getElem?_toArray]; exact hu)
  rintro W ⟨hbw, hrd⟩
  have HB := Lib.hid hbw
  have HW := Lib.hid (HW0.out W hbw hrd)
  clear hbw hrd HW0
  refine HW.out.mono ?_
  rintro e' w2 ⟨rfl, hb2⟩
  have HB2 := Lib.hid (HB.out.trans (hb2.mono HB.out.size))
  clear hb2 HW
  go_wp2_with fail
  refine (writes_any (tabs_keep HT.out HB2.out)).mono ?_
  rintro e' w3 ⟨rfl, hb3⟩
  have HB3 := Lib.hid (HB2.out.trans (hb3.mono HB2.out.size))
  clear hb3
  go_wp2
  go_ret
  exact ⟨rfl, HB3.out⟩
end Go.Proofs.YtkkdblifgekmkaaDoor
