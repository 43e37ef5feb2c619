/- Contracts: lePutUint16, lePutUint32, writeBuf.uint16, writeBuf.uint32. -/
import Derived.Test.YtkkdblifgekmkaaDoorReads
import Derived.Test.YtkkdblifgekmkaaDoorBytes
import Derived.Deep.QuietTactic
import Derived.BigQuiet
import Derived.Deep.RegionWith
namespace Go.Proofs.YtkkdblifgekmkaaDoor
open Go.RowKit
theorem add_atW (b o j : Nat) : (⟨b, o, none⟩ : Addr).add j = ⟨b, o + j, none⟩ := by
  unfold Addr.add
  split
  · subst_vars; rfl
  · rfl
theorem put2 (cs : Array Value) (o v : Nat) (hv : v < 65536) : putAll cs o ((leB v 2).map byteV) = (cs.setIfInBounds o (.int .u8 ((v : Int) % 256))).setIfInBounds (o + 1) (.int .u8 ((v : Int) / 256)) := by
  have h2 : byteV (UInt8.ofNat (v / 256 % 256)) = .int .u8 ((v : Int) / 256) := by
    rw [byte_mod]
    congr 1
    omega
  simp only [leB, List.map_cons, List.map_nil, putAll, byte_mod v, h2]
set_option maxHeartbeats 400000 in
theorem lePut16 {w : World} {g t : Nat} {cs : Array Value} (o n c v : Nat) (h : Blk w g t cs) (hn : 2 ≤ n) (ho : o + 2 ≤ cs.size) (hv : v < 65536) :
    Calls Tryd.prog 75 #[.slice (some ⟨g, o, none⟩) n c, .int .u16 v] w fun e w' => e = .returned (.tuple #[]) ∧ Blk w' g t (putAll cs o ((leB v 2).map byteV)) ∧ Kept [g] w w' := by
  have h0 : w.cell? ⟨g, o, none⟩ = some (cs[o]'(by omega)) := by rw [h.cell]; exact Array.getElem?_eq_getElem _
  have h1 : w.cell? ⟨g, o + 1, none⟩ = some (cs[o + 1]'(by omega)) := by rw [h.cell]; exact Array.getElem?_eq_getElem _
  obtain ⟨x0, h0⟩ : ∃ x, w.cell? ⟨g, o, none⟩ = some x := ⟨_, h0⟩
  obtain ⟨x1, h1⟩ : ∃ x, w.cell? ⟨g, o + 1, none⟩ = some x := ⟨_, h1⟩
  have hf : ∀ i, w.frozen? ⟨g, i, none⟩ = false := h.frozen
  have H := Lib.hid h
  clear h
  go_enter Tryd.func75, Tryd.ntmps75
  go_wp2
  go_end0
  exact ⟨rfl, Blk.cast ((H.out.set_ o _).set_ (o + 1) _) (put2 cs o v hv).symm, ((Kept.refl _ _).setCell (by simp) _).setCell (by simp) _⟩
theorem lePut16z {w : World} {g t : Nat} {cs : Array Value} (o n c v : Nat) (z : Int) (hz : z = (v : Int)) (h : Blk w g t cs) (hn : 2 ≤ n) (ho : o + 2 ≤ cs.size) (hv : v < 65536) :
    Calls Tryd.prog 75 #[.slice (some ⟨g, o, none⟩) n c, .int .u16 z] w fun e w' => e = .returned (.tuple #[]) ∧ Blk w' g t (putAll cs o ((leB v 2).map byteV)) ∧ Kept [g] w w' := by
  subst hz; exact lePut16 o n c v h hn ho hv
theorem leB4_two (v : Nat) : leB v 4 = leB (v % 65536) 2 ++ leB (v / 65536) 2 := by
  simp only [leB, List.cons_append, List.nil_append]
  rw [show v % 65536 % 256 = v % 256 by omega, show v % 65536 / 256 % 256 = v / 256 % 256 by omega, show v / 256 / 256 = v / 65536 by omega]
set_option maxHeartbeats 400000 in
theorem lePut32 {w : World} {g t : Nat} {cs : Array Value} (o n c v : Nat) (z : Int) (hz : z = (v : Int)) (h : Blk w g t cs) (hn : 4 ≤ n) (hnc : n ≤ c) (ho : o + 4 ≤ cs.size) (hv : v < 4294967296) :
    Calls Tryd.prog 76 #[.slice (some ⟨g, o, none⟩) n c, .int .u32 z] w fun e w' => e = .returned (.tuple #[]) ∧ Blk w' g t (putAll cs o ((leB v 4).map byteV)) ∧ Kept [g] w w' := by
  subst hz
  have hc2 : ¬ c = 2 := by omega
  have H := Lib.hid h
  clear h
  go_enter Tryd.func76, Tryd.ntmps76
  go_wp2_with fail
  refine (lePut16z o n c (v % 65536) _ (by first | omega | (rw [IntKind.wrap_u16]; omega)) H.out (by omega) (by omega) (by omega)).mono ?_
  rintro e w1 ⟨rfl, hb1, hk1⟩
  have H1 := Lib.hid (And.intro hb1 hk1)
  clear hb1 hk1
  go_wp2_with fail
  refine (lePut16z (o + 2) (n - 2) (c - 2) (v / 65536) _ (by first | omega | (rw [IntKind.wrap_u16]; omega)) H1.out.1 (by omega) (by rw [putAll_size]; omega) (by omega)).mono ?_
  rintro e w2 ⟨rfl, hb2, hk2⟩
  go_wp2
  go_end0
  refine ⟨rfl, Blk.cast hb2 ?_, H1.out.2.trans hk2⟩
  rw [leB4_two, List.map_append, putAll_append, List.length_map, leB_length]
/-- The writeBuf's box r holds the slice at g from o on: n bytes are to be written. -/
theorem wb16 {w : World} {r g o n c t tr : Nat} {cs : Array Value} (hr : Blk w r tr #[.slice (some ⟨g, o, none⟩) n c]) (h : Blk w g t cs) (hrg : r ≠ g) (hn : 2 ≤ n) (hnc : n ≤ c) (ho : o + 2 ≤ cs.size) (v : Nat) (z : Int) (hz : z = (v : Int)) (hv : v < 65536) :
    Calls Tryd.prog 46 #[.pointer (some ⟨r, 0, none⟩), .int .u16 z] w fun e w' => e = .returned (.tuple #[]) ∧ Blk w' g t (putAll cs o ((leB v 2).map byteV)) ∧ (∃ o', Hid (2 < c → o' = o + 2) ∧ Blk w' r tr #[.slice (some ⟨g, o', none⟩) (n - 2) (c - 2)]) ∧ Kept [r, g] w w' := by
  have r0 : w.cell? ⟨r, 0, none⟩ = some (.slice (some ⟨g, o, none⟩) n c) := hr.cell 0
  have HP := Lib.hid (lePut16z o n c v z hz h hn ho hv)
  have HR := Lib.hid (And.intro hr h)
  clear hr h hz
  go_enter Tryd.func46, Tryd.ntmps46
  go_wp2_with fail
  refine HP.out.mono ?_
  rintro e w1 ⟨rfl, hb1, hk1⟩
  have hr1 := hk1.blk HR.out.1 (by simpa using hrg)
  have r1 : w1.cell? ⟨r, 0, none⟩ = some (.slice (some ⟨g, o, none⟩) n c) := hr1.cell 0
  have hf1 : w1.frozen? ⟨r, 0, none⟩ = false := hr1.frozen 0
  have H1 := Lib.hid (And.intro hb1 (And.intro hk1 hr1))
  clear hb1 hk1 hr1
  by_cases h2 : c = 2
  · subst h2
    obtain rfl : n = 2 := by omega
    go_wp2
    go_end0
    exact ⟨rfl, H1.out.1.far hrg.symm _, ⟨o, Lib.hid (fun h => absurd h (Nat.lt_irrefl 2)), Blk.cast (H1.out.2.2.set_ 0 _) (by simp)⟩, (H1.out.2.1.mono (by simp)).setCell (by simp) _⟩
  · go_wp2
    go_end0
    exact ⟨rfl, H1.out.1.far hrg.symm _, ⟨o + 2, Lib.hid (fun _ => rfl), Blk.cast (H1.out.2.2.set_ 0 _) (by simp)⟩, (H1.out.2.1.mono (by simp)).setCell (by simp) _⟩
theorem wb32 {w : World} {r g o n c t tr : Nat} {cs : Array Value} (hr : Blk w r tr #[.slice (some ⟨g, o, none⟩) n c]) (h : Blk w g t cs) (hrg : r ≠ g) (hn : 4 ≤ n) (hnc : n ≤ c) (ho : o + 4 ≤ cs.size) (v : Nat) (z : Int) (hz : z = (v : Int)) (hv : v < 4294967296) :
    Calls Tryd.prog 48 #[.pointer (some ⟨r, 0, none⟩), .int .u32 z] w fun e w' => e = .returned (.tuple #[]) ∧ Blk w' g t (putAll cs o ((leB v 4).map byteV)) ∧ (∃ o', Hid (4 < c → o' = o + 4) ∧ Blk w' r tr #[.slice (some ⟨g, o', none⟩) (n - 4) (c - 4)]) ∧ Kept [r, g] w w' := by
  have r0 : w.cell? ⟨r, 0, none⟩ = some (.slice (some ⟨g, o, none⟩) n c) := hr.cell 0
  have HP := Lib.hid (lePut32 o n c v z hz h hn hnc ho hv)
  have HR := Lib.hid (And.intro hr h)
  clear hr h hz
  go_enter Tryd.func48, Tryd.ntmps48
  go_wp2_with fail
  refine HP.out.mono ?_
  rintro e w1 ⟨rfl, hb1, hk1⟩
  have hr1 := hk1.blk HR.out.1 (by simpa using hrg)
  have r1 : w1.cell? ⟨r, 0, none⟩ = some (.slice (some ⟨g, o, none⟩) n c) := hr1.cell 0
  have hf1 : w1.frozen? ⟨r, 0, none⟩ = false := hr1.frozen 0
  have H1 := Lib.hid (And.intro hb1 (And.intro hk1 hr1))
  clear hb1 hk1 hr1
  by_cases h2 : c = 4
  · subst h2
    obtain rfl : n = 4 := by omega
    go_wp2
    go_end0
    exact ⟨rfl, H1.out.1.far hrg.symm _, ⟨o, Lib.hid (fun h => absurd h (Nat.lt_irrefl 4)), Blk.cast (H1.out.2.2.set_ 0 _) (by simp)⟩, (H1.out.2.1.mono (by simp)).setCell (by simp) _⟩
  · go_wp2
    go_end0
    exact ⟨rfl, H1.out.1.far hrg.symm _, ⟨o + 4, Lib.hid (fun _ => rfl), Blk.cast (H1.out.2.2.set_ 0 _) (by simp)⟩, (H1.out.2.1.mono (by simp)).setCell (by simp) _⟩
end Go.Proofs.YtkkdblifgekmkaaDoor
