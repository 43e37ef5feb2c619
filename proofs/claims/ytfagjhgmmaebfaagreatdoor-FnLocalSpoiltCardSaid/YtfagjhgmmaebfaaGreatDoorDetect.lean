/- Contract: detectUTF8. -/
import Derived.Test.YtfagjhgmmaebfaaGreatDoorRows
import Derived.Test.YtfagjhgmmaebfaaGreatDoorUtfLaw
import Derived.Outline
import Derived.Test.YtfagjhgmmaebfaaGreatDoorShelf
namespace Go.Proofs.YtfagjhgmmaebfaaGreatDoor
open Go.RowKit

theorem named (b : UInt8) (t : List UInt8) : ∃ s : ByteArray, s = ⟨(b :: t).toArray⟩ ∧ s.size = t.length + 1 ∧ ∃ hp : 0 < s.size, (s[0]'hp).toNat = b.toNat := ⟨_, rfl, rfl, by exact Nat.succ_pos _, rfl⟩
theorem drop_cons (l : List UInt8) (k : Nat) (h : k < l.length) : ∃ t, l.drop k = l[k] :: t ∧ t.length + 1 = l.length - k := by
  refine ⟨l.drop (k + 1), List.drop_eq_getElem_cons h, ?_⟩
  rw [List.length_drop]; omega
theorem nameds (l : List UInt8) : ∃ s : ByteArray, s = ⟨l.toArray⟩ ∧ s.size = l.length ∧ (∀ k (h : k < l.length) (hk : k < s.size), (s[k]'(hk)).toNat = (l[k]'h).toNat) ∧ (∀ k, s.extract k l.length = ⟨(l.drop k).toArray⟩) := by
  refine ⟨_, rfl, rfl, fun _ _ _ => rfl, fun k => ?_⟩
  rw [Lib.extract_eq]
  rw [List.take_of_length_le (by simp)]
def validL (l : List UInt8) : Bool × Bool := valF l.length l false
theorem odd_or (q : Bool) (x : Nat) (n : Nat) (h : 1 < n ∨ x < 32 ∨ 125 < x ∨ x = 92) : (q || (decide (1 < n) || oddR x)) = true := by
  unfold oddR
  rcases h with h | h | h | h <;> simp [h]
theorem odd_no (q : Bool) (x : Nat) (n : Nat) (h1 : ¬ 1 < n) (h2 : ¬ x < 32) (h3 : ¬ 125 < x) (h4 : ¬ x = 92) : (q || (decide (1 < n) || oddR x)) = q := by
  unfold oddR
  simp [h1, h2, h3, h4]

theorem tabs_keep {g3 g4 : Nat} {W W' : World} (h : Lib.Utf8Tabs g3 g4 W) (hb : Below W.heap.size W W') : Lib.Utf8Tabs g3 g4 W' := by
  have lt : ∀ (g c : Nat) (v : Value), W.cell? ⟨g, c, none⟩ = some v → g < W.heap.size := fun g c v hc => by
    rcases Nat.lt_or_ge g W.heap.size with h | h
    · exact h
    · exfalso
      unfold World.cell? at hc
      simp [Array.getElem?_eq_none h] at hc
  have l3 := lt g3 0 _ (h.1 0 (by omega))
  have l4 := lt g4 (2 * 0) _ (h.2 0 (by omega)).1
  exact ⟨fun c hc => (hb.cell (p := ⟨g3, c, none⟩) l3).trans (h.1 c hc), fun i hi => ⟨(hb.cell (p := ⟨g4, 2 * i, none⟩) l4).trans (h.2 i hi).1, (hb.cell (p := ⟨g4, 2 * i + 1, none⟩) l4).trans (h.2 i hi).2⟩⟩
def detectL (l : List UInt8) : Bool × Bool := detF l.length l false
theorem odd_true {r : Nat} (h : r < 32 ∨ 125 < r ∨ r = 92) : oddR r = true := by
  unfold oddR
  rcases h with h | h | h <;> simp [h]
theorem odd_false {r : Nat} (h1 : ¬ r < 32) (h2 : ¬ 125 < r) (h3 : ¬ r = 92) : oddR r = false := by
  unfold oddR
  simp [h1, h2, h3]

set_option maxRecDepth 100000 in
set_option maxHeartbeats 2000000 in
theorem detect_any (l : List UInt8) (hmax : l.length ≤ 4294967295) (w : World) (hT0 : Lib.Utf8Tabs 9 10 w) : Calls Tryz.prog 53 #[.string ⟨l.toArray⟩] w fun e w' => e = .returned (.tuple #[.bool (detectL l).1, .bool (detectL l).2]) ∧ Below w.heap.size w w' := by
  obtain ⟨s, hs, hsz, hat, hex⟩ := nameds l
  rw [← hs]
  have HEX := Lib.hid hex
  clear hs hat hex
  have hnot : ∀ (x : Bool) (w : World), (Op.unary .not (.bool x)).run Tryz.prog w = .ok (.bool (!x)) w := fun _ _ => rfl
  go_enter Tryz.func53, Tryz.ntmps53
  go_wp2_with fail
  go_loopw [3, 4] (fun s3 s4 wr => ∃ (k f : Nat) (q : Bool), s3 = .bool q ∧ s4 = .int .i64 k ∧ k ≤ l.length ∧ l.length ≤ k + f ∧ Hid (detectL l = detF f (l.drop k) q) ∧ Lib.Utf8Tabs 9 10 wr ∧ Below w.heap.size w wr) (fun _ s4 _ => l.length - (intOf s4).toNat)
  case atStart => exact ⟨0, l.length, false, rfl, rfl, Nat.zero_le _, by omega, Lib.hid (by rw [List.drop_zero]; rfl), hT0, Below.refl _ _⟩
  case round =>
    clear hT0
    obtain ⟨k, f, q, rfl, rfl, hk, hf, HV, hT, hB⟩ := hrel
    by_cases hlt : k < l.length
    · obtain ⟨t, ht, htl⟩ := drop_cons l k hlt
      have hks : k < s.size := by omega
      have hext := HEX.out k
      rw [ht] at hext
      obtain ⟨b, hb⟩ : ∃ b, b = l[k] := ⟨_, rfl⟩
      rw [← hb] at ht hext
      obtain ⟨f, rfl⟩ : ∃ g, f = g + 1 := ⟨f - 1, by omega⟩
      have hv : detF (f + 1) (l.drop k) q = if oddR (decL (b :: t)).1 then (if !Lib.validRune ((decL (b :: t)).1 : Int) || ((decL (b :: t)).1 == 65533 && (decL (b :: t)).2 == 1) then (false, false) else detF f (l.drop (k + (decL (b :: t)).2)) true) else detF f (l.drop (k + (decL (b :: t)).2)) q := by
        rw [← List.drop_drop, ht]; rfl
      have hd := fun (w : World) (hT : Lib.Utf8Tabs 9 10 w) => Go.Proofs.Tryz.utf8_DecodeRuneInString ⟨(b :: t).toArray⟩ w hT
      obtain ⟨hn1, hn2, hr1⟩ := dec_size b t
      have hvr := fun (w : World) => (Go.Proofs.Tryz.utf8_ValidRune ((decL (b :: t)).1 : Int) w).mono (fun e w' (h : _ ∧ w' = w) => (⟨h.1, h.2.symm⟩ : e = .returned (.bool (Lib.validRune ((decL (b :: t)).1 : Int))) ∧ w = w'))
      obtain ⟨d, hdd⟩ : ∃ d, d = decL (b :: t) := ⟨_, rfl⟩
      have hdd2 : Lib.decodeGo ⟨(b :: t).toArray⟩ = d := hdd.symm
      rw [← hdd] at hv hn1 hn2 hr1 hvr
      simp only [hdd2] at hd
      obtain ⟨r, n⟩ := d
      simp only at hv hn1 hn2 hr1 hvr hd
      have Hd := Lib.hid hd
      have Hv := Lib.hid (HV.out.trans hv)
      clear hd hv hb ht HV hdd hdd2
      obtain ⟨vb, hvb⟩ : ∃ vb, vb = Lib.validRune (r : Int) := ⟨_, rfl⟩
      rw [← hvb] at hvr
      have Hval := Lib.hid hvr
      have HVB := Lib.hid hvb
      clear hvr hvb
      by_cases c1 : r < 32
      · have hodd := odd_true (r := r) (.inl c1)
        have Hv2 : Hid (detectL l = if !vb || (r == 65533 && n == 1) then (false, false) else detF f (l.drop (k + n)) true) := Lib.hid (by rw [Hv.out, if_pos hodd, HVB.out])
        clear Hv hodd HVB
        cases vb
        · have HR : Hid (detectL l = (false, false)) := Lib.hid (by rw [Hv2.out]; rfl)
          clear Hv2
          go_wp2_with fail
          refine (Hd.out _ hT).mono ?_
          rintro e w1 ⟨rfl, hb1⟩
          have hT1 := tabs_keep hT hb1
          have hB1 := hB.trans (hb1.mono hB.size)
          clear hT hb1 hB
          go_wp2_with fail
          refine (Hval.out _).mono ?_
          rintro e w' ⟨rfl, rfl⟩
          go_wp2_with fail
          go_ret2
          exact ⟨by rw [HR.out]; rfl, hB1⟩
        by_cases d1 : r = 65533
        · have d1' : ((r : Int) == 65533) = true := by rw [d1]; rfl
          by_cases d2 : n = 1
          · have d2' : ((n : Int) == 1) = true := by rw [d2]; rfl
            have HR : Hid (detectL l = (false, false)) := Lib.hid (by rw [Hv2.out, d1, d2]; rfl)
            clear Hv2 d1 d2
            go_wp2_with fail
            refine (Hd.out _ hT).mono ?_
            rintro e w1 ⟨rfl, hb1⟩
            have hT1 := tabs_keep hT hb1
            have hB1 := hB.trans (hb1.mono hB.size)
            clear hT hb1 hB
            go_wp2_with fail
            refine (Hval.out _).mono ?_
            rintro e w' ⟨rfl, rfl⟩
            go_wp2_with fail
            go_ret2
            exact ⟨by rw [HR.out]; rfl, hB1⟩
          · have d2' : ((n : Int) == 1) = false := by rw [beq_eq_false_iff_ne]; omega
            have d2n : (n == 1) = false := by rw [beq_eq_false_iff_ne]; omega
            have Hv3 : Hid (detectL l = detF f (l.drop (k + n)) true) := Lib.hid (by rw [Hv2.out, d2n]; simp)
            clear Hv2 d1 d2 d2n
            go_wp2_with fail
            refine (Hd.out _ hT).mono ?_
            rintro e w1 ⟨rfl, hb1⟩
            have hT1 := tabs_keep hT hb1
            have hB1 := hB.trans (hb1.mono hB.size)
            clear hT hb1 hB
            go_wp2_with fail
            refine (Hval.out _).mono ?_
            rintro e w' ⟨rfl, rfl⟩
            go_wp2_with fail
            go_roundw
            case rel => exact ⟨k + n, f, true, rfl, by go_num, by omega, by omega, Hv3, hT1, hB1⟩
            case measure => simp [intOf]; omega
        · have d1' : ((r : Int) == 65533) = false := by rw [beq_eq_false_iff_ne]; omega
          have d1n : (r == 65533) = false := by rw [beq_eq_false_iff_ne]; omega
          have Hv3 : Hid (detectL l = detF f (l.drop (k + n)) true) := Lib.hid (by rw [Hv2.out, d1n]; simp)
          clear Hv2 d1 d1n
          go_wp2_with fail
          refine (Hd.out _ hT).mono ?_
          rintro e w1 ⟨rfl, hb1⟩
          have hT1 := tabs_keep hT hb1
          have hB1 := hB.trans (hb1.mono hB.size)
          clear hT hb1 hB
          go_wp2_with fail
          refine (Hval.out _).mono ?_
          rintro e w' ⟨rfl, rfl⟩
          go_wp2_with fail
          go_roundw
          case rel => exact ⟨k + n, f, true, rfl, by go_num, by omega, by omega, Hv3, hT1, hB1⟩
          case measure => simp [intOf]; omega
      by_cases c2 : 125 < r
      · have hodd := odd_true (r := r) (.inr (.inl c2))
        have Hv2 : Hid (detectL l = if !vb || (r == 65533 && n == 1) then (false, false) else detF f (l.drop (k + n)) true) := Lib.hid (by rw [Hv.out, if_pos hodd, HVB.out])
        clear Hv hodd HVB
        cases vb
        · have HR : Hid (detectL l = (false, false)) := Lib.hid (by rw [Hv2.out]; rfl)
          clear Hv2
          go_wp2_with fail
          refine (Hd.out _ hT).mono ?_
          rintro e w1 ⟨rfl, hb1⟩
          have hT1 := tabs_keep hT hb1
          have hB1 := hB.trans (hb1.mono hB.size)
          clear hT hb1 hB
          go_wp2_with fail
          refine (Hval.out _).mono ?_
          rintro e w' ⟨rfl, rfl⟩
          go_wp2_with fail
          go_ret2
          exact ⟨by rw [HR.out]; rfl, hB1⟩
        by_cases d1 : r = 65533
        · have d1' : ((r : Int) == 65533) = true := by rw [d1]; rfl
          by_cases d2 : n = 1
          · have d2' : ((n : Int) == 1) = true := by rw [d2]; rfl
            have HR : Hid (detectL l = (false, false)) := Lib.hid (by rw [Hv2.out, d1, d2]; rfl)
            clear Hv2 d1 d2
            go_wp2_with fail
            refine (Hd.out _ hT).mono ?_
            rintro e w1 ⟨rfl, hb1⟩
            have hT1 := tabs_keep hT hb1
            have hB1 := hB.trans (hb1.mono hB.size)
            clear hT hb1 hB
            go_wp2_with fail
            refine (Hval.out _).mono ?_
            rintro e w' ⟨rfl, rfl⟩
            go_wp2_with fail
            go_ret2
            exact ⟨by rw [HR.out]; rfl, hB1⟩
          · have d2' : ((n : Int) == 1) = false := by rw [beq_eq_false_iff_ne]; omega
            have d2n : (n == 1) = false := by rw [beq_eq_false_iff_ne]; omega
            have Hv3 : Hid (detectL l = detF f (l.drop (k + n)) true) := Lib.hid (by rw [Hv2.out, d2n]; simp)
            clear Hv2 d1 d2 d2n
            go_wp2_with fail
            refine (Hd.out _ hT).mono ?_
            rintro e w1 ⟨rfl, hb1⟩
            have hT1 := tabs_keep hT hb1
            have hB1 := hB.trans (hb1.mono hB.size)
            clear hT hb1 hB
            go_wp2_with fail
            refine (Hval.out _).mono ?_
            rintro e w' ⟨rfl, rfl⟩
            go_wp2_with fail
            go_roundw
            case rel => exact ⟨k + n, f, true, rfl, by go_num, by omega, by omega, Hv3, hT1, hB1⟩
            case measure => simp [intOf]; omega
        · have d1' : ((r : Int) == 65533) = false := by rw [beq_eq_false_iff_ne]; omega
          have d1n : (r == 65533) = false := by rw [beq_eq_false_iff_ne]; omega
          have Hv3 : Hid (detectL l = detF f (l.drop (k + n)) true) := Lib.hid (by rw [Hv2.out, d1n]; simp)
          clear Hv2 d1 d1n
          go_wp2_with fail
          refine (Hd.out _ hT).mono ?_
          rintro e w1 ⟨rfl, hb1⟩
          have hT1 := tabs_keep hT hb1
          have hB1 := hB.trans (hb1.mono hB.size)
          clear hT hb1 hB
          go_wp2_with fail
          refine (Hval.out _).mono ?_
          rintro e w' ⟨rfl, rfl⟩
          go_wp2_with fail
          go_roundw
          case rel => exact ⟨k + n, f, true, rfl, by go_num, by omega, by omega, Hv3, hT1, hB1⟩
          case measure => simp [intOf]; omega
      by_cases c3 : r = 92
      · have hodd := odd_true (r := r) (.inr (.inr c3))
        have c3' : ((r : Int) == 92) = true := by rw [c3]; rfl
        clear c3
        have Hv2 : Hid (detectL l = if !vb || (r == 65533 && n == 1) then (false, false) else detF f (l.drop (k + n)) true) := Lib.hid (by rw [Hv.out, if_pos hodd, HVB.out])
        clear Hv hodd HVB
        cases vb
        · have HR : Hid (detectL l = (false, false)) := Lib.hid (by rw [Hv2.out]; rfl)
          clear Hv2
          go_wp2_with fail
          refine (Hd.out _ hT).mono ?_
          rintro e w1 ⟨rfl, hb1⟩
          have hT1 := tabs_keep hT hb1
          have hB1 := hB.trans (hb1.mono hB.size)
          clear hT hb1 hB
          go_wp2_with fail
          refine (Hval.out _).mono ?_
          rintro e w' ⟨rfl, rfl⟩
          go_wp2_with fail
          go_ret2
          exact ⟨by rw [HR.out]; rfl, hB1⟩
        by_cases d1 : r = 65533
        · have d1' : ((r : Int) == 65533) = true := by rw [d1]; rfl
          by_cases d2 : n = 1
          · have d2' : ((n : Int) == 1) = true := by rw [d2]; rfl
            have HR : Hid (detectL l = (false, false)) := Lib.hid (by rw [Hv2.out, d1, d2]; rfl)
            clear Hv2 d1 d2
            go_wp2_with fail
            refine (Hd.out _ hT).mono ?_
            rintro e w1 ⟨rfl, hb1⟩
            have hT1 := tabs_keep hT hb1
            have hB1 := hB.trans (hb1.mono hB.size)
            clear hT hb1 hB
            go_wp2_with fail
            refine (Hval.out _).mono ?_
            rintro e w' ⟨rfl, rfl⟩
            go_wp2_with fail
            go_ret2
            exact ⟨by rw [HR.out]; rfl, hB1⟩
          · have d2' : ((n : Int) == 1) = false := by rw [beq_eq_false_iff_ne]; omega
            have d2n : (n == 1) = false := by rw [beq_eq_false_iff_ne]; omega
            have Hv3 : Hid (detectL l = detF f (l.drop (k + n)) true) := Lib.hid (by rw [Hv2.out, d2n]; simp)
            clear Hv2 d1 d2 d2n
            go_wp2_with fail
            refine (Hd.out _ hT).mono ?_
            rintro e w1 ⟨rfl, hb1⟩
            have hT1 := tabs_keep hT hb1
            have hB1 := hB.trans (hb1.mono hB.size)
            clear hT hb1 hB
            go_wp2_with fail
            refine (Hval.out _).mono ?_
            rintro e w' ⟨rfl, rfl⟩
            go_wp2_with fail
            go_roundw
            case rel => exact ⟨k + n, f, true, rfl, by go_num, by omega, by omega, Hv3, hT1, hB1⟩
            case measure => simp [intOf]; omega
        · have d1' : ((r : Int) == 65533) = false := by rw [beq_eq_false_iff_ne]; omega
          have d1n : (r == 65533) = false := by rw [beq_eq_false_iff_ne]; omega
          have Hv3 : Hid (detectL l = detF f (l.drop (k + n)) true) := Lib.hid (by rw [Hv2.out, d1n]; simp)
          clear Hv2 d1 d1n
          go_wp2_with fail
          refine (Hd.out _ hT).mono ?_
          rintro e w1 ⟨rfl, hb1⟩
          have hT1 := tabs_keep hT hb1
          have hB1 := hB.trans (hb1.mono hB.size)
          clear hT hb1 hB
          go_wp2_with fail
          refine (Hval.out _).mono ?_
          rintro e w' ⟨rfl, rfl⟩
          go_wp2_with fail
          go_roundw
          case rel => exact ⟨k + n, f, true, rfl, by go_num, by omega, by omega, Hv3, hT1, hB1⟩
          case measure => simp [intOf]; omega
      · have c3' : ((r : Int) == 92) = false := by rw [beq_eq_false_iff_ne]; omega
        have hodd := odd_false c1 c2 c3
        have Hv3 : Hid (detectL l = detF f (l.drop (k + n)) q) := Lib.hid (by rw [Hv.out, if_neg (by rw [hodd]; decide)])
        clear Hv hodd HVB Hval c3
        go_wp2_with fail
        refine (Hd.out _ hT).mono ?_
        rintro e w1 ⟨rfl, hb1⟩
        have hT1 := tabs_keep hT hb1
        have hB1 := hB.trans (hb1.mono hB.size)
        clear hT hb1 hB
        go_wp2_with fail
        go_roundw
        case rel => exact ⟨k + n, f, q, rfl, by go_num, by omega, by omega, Hv3, hT1, hB1⟩
        case measure => simp [intOf]; omega
    · have hk' : k = l.length := by omega
      have HR : Hid (detectL l = (true, q)) := Lib.hid (by rw [HV.out, hk', List.drop_length]; cases f <;> rfl)
      clear HV hk'
      go_wp2_with fail
      go_ret2
      exact ⟨by rw [HR.out]; rfl, hB⟩
theorem detect_valid (l : List UInt8) : detectL l = validL l := det_val _ _ _
end Go.Proofs.YtfagjhgmmaebfaaGreatDoor
