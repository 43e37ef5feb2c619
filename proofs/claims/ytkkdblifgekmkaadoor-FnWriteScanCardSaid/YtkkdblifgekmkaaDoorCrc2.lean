/- Contract: slicingMakeTable. -/
import Derived.Test.YtkkdblifgekmkaaDoorCrc1
namespace Go.Proofs.YtkkdblifgekmkaaDoor
open Go.RowKit
theorem and_255 (c : Nat) (hc : c < 4294967296) : bits .and .u32 (c : Int) 255 = ((c % 256 : Nat) : Int) := by
  have := u32_and_nat c 255 hc (by decide)
  rw [show 255 = 2 ^ 8 - 1 from rfl, Nat.and_two_pow_sub_one_eq_mod] at this
  exact this
theorem tab_next (j i c : Nat) (hi : i < 256) (h : c = crcTab j i) : bits .xor .u32 ((crcTab 0 (c % 256) : Nat) : Int) ((c : Int) / 256) = ((crcTab (j + 1) i : Nat) : Int) := by
  have hl : c < 4294967296 := h ▸ crcTab_lt j (by omega)
  have := u32_xor_nat (crcTab 0 (c % 256)) (c / 256) (crcTab_lt 0 (by omega)) (by omega)
  rw [crcTab_next, ← h, Nat.shiftRight_eq_div_pow, ← this]
  simp
/-- The eight tables. -/
def TabsTo (cs : Array Value) (i : Nat) : Prop := cs.size = 2048 ∧ (∀ k, k < 256 → cs[k]? = some (.int .u32 (crcTab 0 k))) ∧ ∀ j k, j < 8 → k < i → cs[256 * j + k]? = some (.int .u32 (crcTab j k))
theorem tabs_set {es : Array Value} {i j : Nat} (h : TabsTo es i) (hj : 0 < j) (hi : i < 256) : TabsTo (es.setIfInBounds (j * 256 + i) (.int .u32 (crcTab j i))) i := by
  refine ⟨by simpa using h.1, fun k hk => ?_, fun a k ha hk => ?_⟩
  · rw [Array.getElem?_setIfInBounds, if_neg (by omega)]
    exact h.2.1 k hk
  · rw [Array.getElem?_setIfInBounds, if_neg (by omega)]
    exact h.2.2 a k ha hk
set_option maxRecDepth 100000 in
set_option maxHeartbeats 1000000 in
theorem makeTable (w : World) :
    Calls Tryd.prog 172 #[.int .u32 3988292384] w fun e w' => ∃ tb cs, e = .returned (.pointer (some ⟨tb, 0, none⟩)) ∧ w.heap.size ≤ tb ∧ Blk w' tb 294 cs ∧ TabsTo cs 256 ∧ Below w.heap.size w w' := by
  go_enter Tryd.func172, Tryd.ntmps172
  go_wp2_with fail
  refine callsW (fun W => ∃ cs : Array Value, cs.size = 2048 ∧ Blk W w.heap.size 294 cs ∧ Kept [] w W) ⟨_, ?_, Blk.new _ _ _, (Kept.refl [] w).alloc _⟩ ?_
  · kernel_rfl
  rintro w0 ⟨cs, hcs, hb, hk⟩
  refine (populate hb hcs).mono ?_
  rintro e w1 ⟨rfl, cs1, hb1, hs1, ht1, hk1⟩
  have H1 := Lib.hid (And.intro hb1 (And.intro hs1 (And.intro ht1 (hk.trans' hk1 (fun x hx => .inr (by simp at hx; omega))))))
  have htb : w.heap.size < w1.heap.size := hb1.lt
  clear hb hcs hk hb1 hs1 ht1 hk1
  obtain ⟨tb, htbe⟩ : ∃ tb, tb = w.heap.size := ⟨_, rfl⟩
  rw [← htbe] at H1 htb ⊢
  have HTB := Lib.hid htbe
  clear htbe
  go_wp2
  go_loopw [4, 5, 6] (fun s4 s5 s6 W => ∃ (i : Nat) (ds : Array Value), i ≤ 256 ∧ s4 = .int .i64 i ∧ Hid (Blk W tb 294 ds ∧ TabsTo ds i ∧ Kept [] w W)) (fun s4 _ _ W => 256 - (intOf s4).toNat)
  case atStart => exact ⟨0, cs1, by omega, rfl, Lib.hid ⟨H1.out.1, ⟨H1.out.2.1, H1.out.2.2.1, fun j k _ hk => absurd hk (by omega)⟩, H1.out.2.2.2⟩⟩
  case round =>
    obtain ⟨i, ds, hi, rfl, HD⟩ := hrel
    by_cases hlt : i < 256
    · obtain ⟨wo, rfl⟩ : ∃ wo : World, wo = wr := ⟨_, rfl⟩
      have hci : wo.cell? ⟨tb, i, none⟩ = some (.int .u32 (crcTab 0 i)) := by rw [HD.out.1.cell]; exact HD.out.2.1.2.1 i hlt
      go_wp2
      clear hci
      go_loopw [5, 6] (fun s5 s6 W => ∃ (j c : Nat) (es : Array Value), j < 8 ∧ c < 4294967296 ∧ s6 = .int .i64 (j + 1 : Nat) ∧ s5 = .int .u32 c ∧ Hid (c = crcTab j i ∧ Blk W tb 294 es ∧ TabsTo es i ∧ (∀ k, k ≤ j → es[256 * k + i]? = some (.int .u32 (crcTab k i))) ∧ Kept [] w W)) (fun _ s6 _ => 8 - (intOf s6).toNat)
      case atStart =>
        refine ⟨0, crcTab 0 i, ds, by omega, crcTab_lt 0 (by omega), rfl, rfl, Lib.hid ⟨rfl, HD.out.1, HD.out.2.1, fun k hk => ?_, HD.out.2.2⟩⟩
        obtain rfl : k = 0 := by omega
        rw [Nat.mul_zero, Nat.zero_add]
        exact HD.out.2.1.2.1 i hlt
      case round =>
        obtain ⟨j, c, es, hj, hcl, rfl, rfl, HE⟩ := hrel
        by_cases hl8 : j + 1 < 8
        · have ha := and_255 c hcl
          have hcm : c % 256 < 256 := Nat.mod_lt _ (by decide)
          obtain ⟨m, hm⟩ : ∃ m, m = c % 256 := ⟨_, rfl⟩
          rw [← hm] at ha hcm
          have hct : wr.cell? ⟨tb, m, none⟩ = some (.int .u32 (crcTab 0 m)) := by rw [HE.out.2.1.cell]; exact HE.out.2.2.1.2.1 m hcm
          have hxt := tab_next j i c hlt HE.out.1
          rw [← hm] at hxt
          have hff : ∀ o, wr.frozen? ⟨tb, o, none⟩ = false := HE.out.2.1.frozen
          obtain ⟨dv, hdv⟩ : ∃ v, wr.cell? ⟨tb, (j + 1) * 256 + i, none⟩ = some v := by
            rw [HE.out.2.1.cell]; exact ⟨_, Array.getElem?_eq_getElem (by have := HE.out.2.2.1.1; omega)⟩
          have HM := Lib.hid hm
          clear hm
          go_wp2
          go_roundw
          case rel =>
            refine ⟨j + 1, crcTab (j + 1) i, es.setIfInBounds ((j + 1) * 256 + i) (.int .u32 (crcTab (j + 1) i)), by omega, crcTab_lt _ (by omega), by go_num, rfl, Lib.hid ⟨rfl, HE.out.2.1.set_ _ _, tabs_set HE.out.2.2.1 (by omega) (by omega), fun k hk => ?_, HE.out.2.2.2.2.trans' ((Kept.refl [tb] wr).setCell (by simp) _) (fun x hx => .inr (by simp at hx; have := HTB.out; omega))⟩⟩
            by_cases e : k = j + 1
            · subst e
              rw [Array.getElem?_setIfInBounds, if_pos (by omega), if_pos (by have := HE.out.2.2.1.1; omega)]
            · rw [Array.getElem?_setIfInBounds, if_neg (by omega)]
              exact HE.out.2.2.2.1 k (by omega)
          case measure => simp [intOf]; omega
        · obtain rfl : j = 7 := by omega
          go_wp2
          go_roundw
          case rel =>
            refine ⟨i + 1, es, by omega, by go_num, Lib.hid ⟨HE.out.2.1, ⟨HE.out.2.2.1.1, HE.out.2.2.1.2.1, fun j k hj hk => ?_⟩, HE.out.2.2.2.2⟩⟩
            by_cases e : k = i
            · subst e
              exact HE.out.2.2.2.1 j (by omega)
            · exact HE.out.2.2.1.2.2 j k hj (by omega)
          case measure => simp [intOf]; omega
    · obtain rfl : i = 256 := by omega
      go_wp2
      go_ret
      exact ⟨tb, ds, rfl, by have := HTB.out; omega, HD.out.1, HD.out.2.1, HD.out.2.2.to_below (Nat.le_refl _) (by simp)⟩
end Go.Proofs.YtkkdblifgekmkaaDoor
