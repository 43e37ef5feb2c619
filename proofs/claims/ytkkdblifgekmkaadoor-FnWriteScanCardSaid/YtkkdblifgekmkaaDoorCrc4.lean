/- Contracts: slicingUpdate, UpdateIEEE, crcHash.Write. -/
import Derived.Test.YtkkdblifgekmkaaDoorCrc3
import Derived.Test.YtkkdblifgekmkaaDoorWhBase
namespace Go.Proofs.YtkkdblifgekmkaaDoor
open Go.RowKit
theorem notU_notU (c : Nat) : notU (notU c) = c := xor_self_mask c
theorem fold8 (c : Nat) (l : List UInt8) (k : Nat) (b : Fin 8 → UInt8) (h : ∀ j : Fin 8, l[k + j.val]? = some (b j)) :
    crcFold c (l.take (k + 8)) = crcUpd (crcUpd (crcUpd (crcUpd (crcUpd (crcUpd (crcUpd (crcUpd (crcFold c (l.take k)) (b 0).toNat) (b 1).toNat) (b 2).toNat) (b 3).toNat) (b 4).toNat) (b 5).toNat) (b 6).toNat) (b 7).toNat := by
  have e : l.take (k + 8) = l.take k ++ [b 0, b 1, b 2, b 3, b 4, b 5, b 6, b 7] := by
    rw [List.take_add]
    congr 1
    apply List.ext_getElem?
    intro i
    rw [List.getElem?_take]
    by_cases hi : i < 8
    · rw [if_pos hi, List.getElem?_drop, h ⟨i, hi⟩]
      match i, hi with
      | 0, _ => rfl
      | 1, _ => rfl
      | 2, _ => rfl
      | 3, _ => rfl
      | 4, _ => rfl
      | 5, _ => rfl
      | 6, _ => rfl
      | 7, _ => rfl
    · rw [if_neg hi, List.getElem?_eq_none (by simp; omega)]
  rw [e, crcFold_append]
  rfl
theorem xors8 (a0 a1 a2 a3 a4 a5 a6 a7 : Nat) (h0 : a0 < 4294967296) (h1 : a1 < 4294967296) (h2 : a2 < 4294967296) (h3 : a3 < 4294967296) (h4 : a4 < 4294967296) (h5 : a5 < 4294967296) (h6 : a6 < 4294967296) (h7 : a7 < 4294967296) :
    bits .xor .u32 (bits .xor .u32 (bits .xor .u32 (bits .xor .u32 (bits .xor .u32 (bits .xor .u32 (bits .xor .u32 (a0 : Int) a1) a2) a3) a4) a5) a6) a7 = ((a0 ^^^ a1 ^^^ a2 ^^^ a3 ^^^ a4 ^^^ a5 ^^^ a6 ^^^ a7 : Nat) : Int) := by
  rw [u32_xor_nat a0 a1 h0 h1, u32_xor_nat _ a2 (xor_lt32 h0 h1) h2, u32_xor_nat _ a3 (xor_lt32 (xor_lt32 h0 h1) h2) h3, u32_xor_nat _ a4 (xor_lt32 (xor_lt32 (xor_lt32 h0 h1) h2) h3) h4,
    u32_xor_nat _ a5 (xor_lt32 (xor_lt32 (xor_lt32 (xor_lt32 h0 h1) h2) h3) h4) h5, u32_xor_nat _ a6 (xor_lt32 (xor_lt32 (xor_lt32 (xor_lt32 (xor_lt32 h0 h1) h2) h3) h4) h5) h6, u32_xor_nat _ a7 (xor_lt32 (xor_lt32 (xor_lt32 (xor_lt32 (xor_lt32 (xor_lt32 h0 h1) h2) h3) h4) h5) h6) h7]
theorem slicing_nil {w : World} {tb cp c : Nat} {A : Option Addr} :
    Calls Tryd.prog 171 #[.int .u32 c, .pointer (some ⟨tb, 0, none⟩), .slice A 0 cp] w fun e w' => e = .returned (.int .u32 (notU (crcFold (notU c) []) : Nat)) ∧ w = w' := by
  go_enter Tryd.func171, Tryd.ntmps171
  go_wp2
  go_ret
  refine ⟨?_, rfl⟩
  show _ = Ending.returned (.int .u32 (notU (notU c) : Nat))
  rw [notU_notU]
  rfl
theorem slicing_short {w : World} {tb g o n cp T c : Nat} {cs : Array Value} {l : List UInt8} (hb : Blk w tb T cs) (ht : TabsTo cs 256) (hl : l.length = n) (hr : ∀ j (h : j < l.length), w.cell? ⟨g, o + j, none⟩ = some (byteV l[j])) (hc : c < 4294967296) (hn0 : 0 < n) (hn : n < 16) :
    Calls Tryd.prog 171 #[.int .u32 c, .pointer (some ⟨tb, 0, none⟩), .slice (some ⟨g, o, none⟩) n cp] w fun e w' => e = .returned (.int .u32 (notU (crcFold (notU c) l) : Nat)) ∧ w = w' := by
  have HS := Lib.hid (simple_any (cp := cp) hb ht hl hr hc (by omega))
  have h0 : ((n : Int) == 0) = false := by simp; omega
  clear hb ht hl hr
  go_enter Tryd.func171, Tryd.ntmps171
  go_wp2_with fail
  refine HS.out.mono ?_
  rintro e w1 ⟨rfl, rfl⟩
  go_wp2
  go_ret
  exact ⟨rfl, rfl⟩
set_option maxRecDepth 100000 in
set_option maxHeartbeats 2000000 in
theorem slicing_long {w : World} {tb g o n cp T c : Nat} {cs : Array Value} {l : List UInt8} (hb : Blk w tb T cs) (ht : TabsTo cs 256) (hl : l.length = n) (hr : ∀ j (h : j < l.length), w.cell? ⟨g, o + j, none⟩ = some (byteV l[j])) (hc : c < 4294967296) (hn0 : 16 ≤ n) (hncp : n ≤ cp) (hn : n ≤ 140737488355328) :
    Calls Tryd.prog 171 #[.int .u32 c, .pointer (some ⟨tb, 0, none⟩), .slice (some ⟨g, o, none⟩) n cp] w fun e w' => e = .returned (.int .u32 (notU (crcFold (notU c) l) : Nat)) ∧ ∃ k, w' = w.drewN k := by
  have hnot := notU_eq c hc
  have hc0 := notU_lt hc
  obtain ⟨c0, hc0e⟩ : ∃ c0, c0 = notU c := ⟨_, rfl⟩
  rw [← hc0e] at hnot hc0 ⊢
  have H := Lib.hid (And.intro hb (And.intro ht (And.intro hl hr)))
  clear hb ht hl hr hc0e
  go_enter Tryd.func171, Tryd.ntmps171
  go_wp2
  go_loopw [0, 2] (fun s0 s2 W => ∃ (k m cp' c1 d : Nat), k + m = n ∧ 0 < m ∧ m ≤ cp' ∧ c1 < 4294967296 ∧ s0 = .int .u32 c1 ∧ s2 = .slice (some ⟨g, o + k, none⟩) m cp' ∧ Hid (c1 = crcFold c0 (l.take k) ∧ W = w.drewN d)) (fun _ s2 _ => match s2 with | .slice _ m _ => m | _ => 0)
  case atStart => exact ⟨0, n, cp, c0, 0, by omega, by omega, hncp, hc0, rfl, rfl, Lib.hid ⟨rfl, rfl⟩⟩
  case round =>
    obtain ⟨k, m, cp', c1, d, hkm, hm0, hmc, hc1, rfl, rfl, HK⟩ := hrel
    clear hnot
    by_cases hlt : 8 < m
    · have hk8 : k + 8 < l.length := by have := H.out.2.2.1; omega
      obtain ⟨b, hbd⟩ : ∃ b : Fin 8 → UInt8, ∀ j : Fin 8, l[k + j.val]? = some (b j) := ⟨fun j => l[k + j.val]'(by have := j.isLt; omega), fun j => List.getElem?_eq_getElem _⟩
      have hcl : ∀ j : Fin 8, wr.cell? ⟨g, o + k + j.val, none⟩ = some (byteV (b j)) := fun j => by
        have hj : k + j.val < l.length := by have := j.isLt; omega
        have e := hbd j
        rw [List.getElem?_eq_getElem hj] at e
        injection e with e
        rw [HK.out.2, ← e, Nat.add_assoc]
        exact H.out.2.2.2 (k + j.val) hj
      have hf8 := fold8 c0 l k b hbd
      have H4 := Lib.hid (le32_any (o := o + k) (n := m) (c := cp') (by omega) (hcl 0) (hcl 1) (hcl 2) (hcl 3))
      have q0 : wr.cell? ⟨g, o + k, none⟩ = some (.int .u8 ((b 0).toNat : Int)) := hcl 0
      have l0 := (b 0).toNat_lt
      have q1 : wr.cell? ⟨g, o + k + 1, none⟩ = some (.int .u8 ((b 1).toNat : Int)) := hcl 1
      have l1 := (b 1).toNat_lt
      have q2 : wr.cell? ⟨g, o + k + 2, none⟩ = some (.int .u8 ((b 2).toNat : Int)) := hcl 2
      have l2 := (b 2).toNat_lt
      have q3 : wr.cell? ⟨g, o + k + 3, none⟩ = some (.int .u8 ((b 3).toNat : Int)) := hcl 3
      have l3 := (b 3).toNat_lt
      have q4 : wr.cell? ⟨g, o + k + 4, none⟩ = some (.int .u8 ((b 4).toNat : Int)) := hcl 4
      have l4 := (b 4).toNat_lt
      have q5 : wr.cell? ⟨g, o + k + 5, none⟩ = some (.int .u8 ((b 5).toNat : Int)) := hcl 5
      have l5 := (b 5).toNat_lt
      have q6 : wr.cell? ⟨g, o + k + 6, none⟩ = some (.int .u8 ((b 6).toNat : Int)) := hcl 6
      have l6 := (b 6).toNat_lt
      have q7 : wr.cell? ⟨g, o + k + 7, none⟩ = some (.int .u8 ((b 7).toNat : Int)) := hcl 7
      have l7 := (b 7).toNat_lt
      generalize (b 0).toNat = B0 at *
      generalize (b 1).toNat = B1 at *
      generalize (b 2).toNat = B2 at *
      generalize (b 3).toNat = B3 at *
      generalize (b 4).toNat = B4 at *
      generalize (b 5).toNat = B5 at *
      generalize (b 6).toNat = B6 at *
      generalize (b 7).toNat = B7 at *
      have hfl : four B0 B1 B2 B3 < 4294967296 := by
        unfold four
        exact xor_lt32 (xor_lt32 (xor_lt32 (by omega) (by omega)) (by omega)) (by omega)
      have hx := u32_xor_nat c1 (four B0 B1 B2 B3) hc1 hfl
      have hxl := xor_lt32 hc1 hfl
      obtain ⟨x, hxe⟩ : ∃ x, x = c1 ^^^ four B0 B1 B2 B3 := ⟨_, rfl⟩
      rw [← hxe] at hx hxl
      have h8 := crcUpd8 c1 B0 B1 B2 B3 B4 B5 B6 B7 x hxe
      obtain ⟨F, hF⟩ : ∃ F, F = four B0 B1 B2 B3 := ⟨_, rfl⟩
      rw [← hF] at hx H4
      rw [← HK.out.1, h8] at hf8
      have hi4 : x >>> 24 = x / 16777216 := Nat.shiftRight_eq_div_pow _ _
      have hi5 : x >>> 16 = x / 65536 := Nat.shiftRight_eq_div_pow _ _
      have hi6 : x >>> 8 = x / 256 := Nat.shiftRight_eq_div_pow _ _
      rw [hi4, hi5, hi6] at hf8
      have g4 : ((x : Int) / 16777216) = ((x / 16777216 : Nat) : Int) := by simp
      have g5 := and_255 (x / 65536) (by omega)
      have g6 := and_255 (x / 256) (by omega)
      have g7 := and_255 x hxl
      rw [show ((x / 65536 : Nat) : Int) = (x : Int) / 65536 by simp] at g5
      rw [show ((x / 256 : Nat) : Int) = (x : Int) / 256 by simp] at g6
      have m4 : x / 16777216 < 256 := by omega
      have m5 : x / 65536 % 256 < 256 := Nat.mod_lt _ (by decide)
      have m6 : x / 256 % 256 < 256 := Nat.mod_lt _ (by decide)
      have m7 : x % 256 < 256 := Nat.mod_lt _ (by decide)
      clear h8 hxe hi4 hi5 hi6 hcl hF hfl
      generalize x / 16777216 = i4 at *
      generalize x / 65536 % 256 = i5 at *
      generalize x / 256 % 256 = i6 at *
      generalize x % 256 = i7 at *
      have t0 : wr.cell? ⟨tb, B7, none⟩ = some (.int .u32 (crcTab 0 B7)) := by rw [HK.out.2]; exact (H.out.1.cell _).trans (H.out.2.1.2.1 B7 (by omega))
      have t1 : wr.cell? ⟨tb, 256 + B6, none⟩ = some (.int .u32 (crcTab 1 B6)) := by rw [HK.out.2]; exact (H.out.1.cell _).trans (by have := H.out.2.1.2.2 1 B6 (by omega) (by omega); simpa using this)
      have t2 : wr.cell? ⟨tb, 512 + B5, none⟩ = some (.int .u32 (crcTab 2 B5)) := by rw [HK.out.2]; exact (H.out.1.cell _).trans (by have := H.out.2.1.2.2 2 B5 (by omega) (by omega); simpa using this)
      have t3 : wr.cell? ⟨tb, 768 + B4, none⟩ = some (.int .u32 (crcTab 3 B4)) := by rw [HK.out.2]; exact (H.out.1.cell _).trans (by have := H.out.2.1.2.2 3 B4 (by omega) (by omega); simpa using this)
      have t4 : wr.cell? ⟨tb, 1024 + i4, none⟩ = some (.int .u32 (crcTab 4 i4)) := by rw [HK.out.2]; exact (H.out.1.cell _).trans (by have := H.out.2.1.2.2 4 i4 (by omega) (by omega); simpa using this)
      have t5 : wr.cell? ⟨tb, 1280 + i5, none⟩ = some (.int .u32 (crcTab 5 i5)) := by rw [HK.out.2]; exact (H.out.1.cell _).trans (by have := H.out.2.1.2.2 5 i5 (by omega) (by omega); simpa using this)
      have t6 : wr.cell? ⟨tb, 1536 + i6, none⟩ = some (.int .u32 (crcTab 6 i6)) := by rw [HK.out.2]; exact (H.out.1.cell _).trans (by have := H.out.2.1.2.2 6 i6 (by omega) (by omega); simpa using this)
      have t7 : wr.cell? ⟨tb, 1792 + i7, none⟩ = some (.int .u32 (crcTab 7 i7)) := by rw [HK.out.2]; exact (H.out.1.cell _).trans (by have := H.out.2.1.2.2 7 i7 (by omega) (by omega); simpa using this)
      have hxs := xors8 (crcTab 0 B7) (crcTab 1 B6) (crcTab 2 B5) (crcTab 3 B4) (crcTab 4 i4) (crcTab 5 i5) (crcTab 6 i6) (crcTab 7 i7) (crcTab_lt _ (by omega)) (crcTab_lt _ (by omega)) (crcTab_lt _ (by omega)) (crcTab_lt _ (by omega)) (crcTab_lt _ (by omega)) (crcTab_lt _ (by omega)) (crcTab_lt _ (by omega)) (crcTab_lt _ (by omega))
      rw [← hf8] at hxs
      have hul : crcFold c0 (l.take (k + 8)) < 4294967296 := crcFold_lt hc0 _
      obtain ⟨u, hu⟩ : ∃ u, u = crcFold c0 (l.take (k + 8)) := ⟨_, rfl⟩
      rw [← hu] at hxs hul
      generalize crcTab 0 B7 = a0 at *
      generalize crcTab 1 B6 = a1 at *
      generalize crcTab 2 B5 = a2 at *
      generalize crcTab 3 B4 = a3 at *
      generalize crcTab 4 i4 = a4 at *
      generalize crcTab 5 i5 = a5 at *
      generalize crcTab 6 i6 = a6 at *
      generalize crcTab 7 i7 = a7 at *
      have HU := Lib.hid hu
      have hc8 : ¬ cp' = 8 := by omega
      have e7 : (7 : Int) < m := by omega
      clear hf8 hu hbd
      go_wp2_with fail
      refine H4.out.mono ?_
      rintro e w1 ⟨rfl, kk, rfl⟩
      go_wp2_with fail
      go_quiet (fail)
      go_wp2
      go_roundw
      case rel => exact ⟨k + 8, m - 8, cp' - 8, u, d + (kk + nq), by omega, by omega, by omega, hul, rfl, rfl, Lib.hid ⟨HU.out, by rw [HK.out.2]; simp⟩⟩
      case measure => simp; omega
    · have hn1 := notU_eq c1 hc1
      have hm0' : ((m : Int) == 0) = false := by simp; omega
      have HS := Lib.hid (simple_any (w := wr) (tb := tb) (g := g) (o := o + k) (n := m) (cp := cp') (c := notU c1) (l := l.drop k) (by rw [HK.out.2]; exact H.out.1.drewN _) H.out.2.1 (by rw [List.length_drop]; have := H.out.2.2.1; omega) (fun j hj => by
        rw [List.length_drop] at hj
        rw [HK.out.2, Nat.add_assoc, List.getElem_drop]
        exact H.out.2.2.2 (k + j) (by omega)) (notU_lt hc1) (by omega))
      go_wp2_with fail
      refine HS.out.mono ?_
      rintro e w1 ⟨rfl, rfl⟩
      go_wp2
      go_ret
      refine ⟨?_, d, HK.out.2⟩
      rw [notU_notU, HK.out.1, ← crcFold_append, List.take_append_drop]
      rfl
/-- A slice of bytes as a source, nil let in. -/
def Src (w : World) (A : Option Addr) (n : Nat) (l : List UInt8) : Prop := l.length = n ∧ (0 < n → ∃ g o, A = some ⟨g, o, none⟩ ∧ g < w.heap.size ∧ ∀ j (h : j < l.length), w.cell? ⟨g, o + j, none⟩ = some (byteV l[j]))
theorem Src.below {w w' : World} {A : Option Addr} {n : Nat} {l : List UInt8} (h : Src w A n l) (hb : Below w.heap.size w w') : Src w' A n l :=
  ⟨h.1, fun hn => by
    obtain ⟨g, o, e, hg, hc⟩ := h.2 hn
    exact ⟨g, o, e, Nat.lt_of_lt_of_le hg hb.size, fun j hj => (hb.cell (p := ⟨g, o + j, none⟩) hg).trans (hc j hj)⟩⟩
theorem slicing_any {w : World} {tb n cp T c : Nat} {A : Option Addr} {cs : Array Value} {l : List UInt8} (hb : Blk w tb T cs) (ht : TabsTo cs 256) (hs : Src w A n l) (hc : c < 4294967296) (hncp : n ≤ cp) (hn : n ≤ 140737488355328) :
    Calls Tryd.prog 171 #[.int .u32 c, .pointer (some ⟨tb, 0, none⟩), .slice A n cp] w fun e w' => e = .returned (.int .u32 (notU (crcFold (notU c) l) : Nat)) ∧ ∃ k, w' = w.drewN k := by
  rcases Nat.eq_zero_or_pos n with h0 | h0
  · subst h0
    obtain rfl : l = [] := List.eq_nil_of_length_eq_zero hs.1
    exact slicing_nil.mono fun e w' ⟨he, hw⟩ => ⟨he, 0, hw.symm⟩
  · obtain ⟨g, o, rfl, hg, hr⟩ := hs.2 h0
    by_cases h16 : n < 16
    · exact (slicing_short hb ht hs.1 hr hc h0 h16).mono fun e w' ⟨he, hw⟩ => ⟨he, 0, hw.symm⟩
    · exact slicing_long hb ht hs.1 hr hc (by omega) hncp hn
theorem ieee_any {w : World} {n cp c : Nat} {A : Option Addr} {l : List UInt8} (hs : Src w A n l) (hc : c < 4294967296) (hncp : n ≤ cp) (hn : n ≤ 140737488355328) :
    Calls Tryd.prog 170 #[.int .u32 c, .slice A n cp] w fun e w' => e = .returned (.int .u32 (notU (crcFold (notU c) l) : Nat)) ∧ Below w.heap.size w w' := by
  have H := Lib.hid (And.intro hs hc)
  clear hs hc
  go_enter Tryd.func170, Tryd.ntmps170
  go_wp2_with fail
  refine (makeTable _).mono ?_
  rintro e w1 ⟨tb, cs, rfl, htb, hb, ht, hbel⟩
  have H1 := Lib.hid (And.intro hb (And.intro ht hbel))
  clear hb ht hbel
  go_wp2_with fail
  refine (slicing_any H1.out.1 H1.out.2.1 (H.out.1.below H1.out.2.2) H.out.2 hncp hn).mono ?_
  rintro e w2 ⟨rfl, k, rfl⟩
  go_wp2
  go_ret
  exact ⟨rfl, below_drewN H1.out.2.2 _⟩
theorem crcW_any {w : World} {hb n cp c : Nat} {A : Option Addr} {l : List UInt8} (h : Blk w hb 133 #[.int .u32 c]) (hs : Src w A n l) (hc : c < 4294967296) (hncp : n ≤ cp) (hn : n ≤ 140737488355328) :
    Calls Tryd.prog 169 #[.pointer (some ⟨hb, 0, none⟩), .slice A n cp] w fun e w' => e = .returned (.tuple #[.int .i64 n, .nilIface]) ∧ Blk w' hb 133 #[.int .u32 (notU (crcFold (notU c) l) : Nat)] ∧ Kept [hb] w w' := by
  have c0 : w.cell? ⟨hb, 0, none⟩ = some (.int .u32 c) := h.cell 0
  have H := Lib.hid (And.intro h (And.intro hs hc))
  clear h hs hc
  go_enter Tryd.func169, Tryd.ntmps169
  go_wp2_with fail
  refine (ieee_any H.out.2.1 H.out.2.2 hncp hn).mono ?_
  rintro e w1 ⟨rfl, hbel⟩
  have hb1 := H.out.1.below hbel H.out.1.lt
  have c1 : w1.cell? ⟨hb, 0, none⟩ = some (.int .u32 c) := hb1.cell 0
  have f1 : w1.frozen? ⟨hb, 0, none⟩ = false := hb1.frozen 0
  have H1 := Lib.hid (And.intro hb1 hbel)
  clear hb1 hbel
  go_wp2
  go_ret2
  exact ⟨rfl, Blk.cast (H1.out.1.set_ 0 _) (by simp), (Kept.of_below H1.out.2 _).setCell (by simp) _⟩
end Go.Proofs.YtkkdblifgekmkaaDoor
