/- Contract: writeHeader. -/
import Derived.Test.YtkkdblifgekmkaaDoorWhBase
import Derived.Test.YtkkdblifgekmkaaDoorHas
import Derived.Outline
namespace Go.Proofs.YtkkdblifgekmkaaDoor
open Go.RowKit
set_option linter.unusedSimpArgs false
set_option maxRecDepth 100000 in
set_option maxHeartbeats 2000000 in
theorem Wh_plain {w : World} {ob bw gb cw hb fb : Nat} {ro : Option Nat} {out : List UInt8} {h : Hd} {nu : Bool} {cs us off : Nat} {A : Option Addr} {ec : Nat} (hS : Snk w ob bw gb cw ro out) (hh : Blk w hb 128 #[.pointer (some ⟨fb, 0, none⟩), .int .u64 off, .bool false]) (hf : Blk w fb 72 (fhCells h nu cs us (.slice A h.extra.length ec))) (hF : h.Fits) (hE : Reads w w.heap.size 1 A h.extra.length (h.extra.map byteV)) (hec : h.extra.length ≤ ec) (hEb : ∀ ad, A = some ad → 0 < h.extra.length → ad.block ∉ ob :: bw :: gb :: cw :: ro.toList) (hlen : out.length + 30 + h.name.length + h.extra.length ≤ 140737488355328) :
    Calls Tryd.prog 51 #[.iface 104 (.pointer (some ⟨cw, 0, none⟩)), .pointer (some ⟨hb, 0, none⟩)] w fun e w' => e = .returned .nilIface ∧ ∃ ro', (ro' = ro ∨ ∃ n, ro' = some n ∧ w.heap.size ≤ n) ∧ Snk w' ob bw gb cw ro' (out ++ localB { h with crc := 0, packed := 0, size := 0 }) ∧ Kept (ob :: bw :: gb :: cw :: ro.toList) w w' := by
  have HF := Lib.hid hF
  have HS := Lib.hid (And.intro hS (And.intro hE (And.intro hec (And.intro hEb hlen))))
  have hnl : h.name.length ≤ 65535 := by have := hF.name; omega
  have hxl : h.extra.length ≤ 65535 := by have := hF.extra; omega
  have hsz : (ByteArray.mk h.name.toArray).size = h.name.length := rfl
  have HX := Lib.hid (And.intro (True.intro) (And.intro (True.intro) (And.intro hh (And.intro hf (Kept.refl [] w)))))
  have hbl := hh.lt
  have fbl := hf.lt
  clear hF hS hE hec hEb hlen hh hf
  have f4 : w.cell? ⟨fb, 4, none⟩ = some (.int .u16 h.reader) := HX.out.2.2.2.1.cell 4
  have f0 : w.cell? ⟨fb, 0, none⟩ = some (.string ⟨h.name.toArray⟩) := HX.out.2.2.2.1.cell 0
  have f5 : w.cell? ⟨fb, 5, none⟩ = some (.int .u16 h.flags) := HX.out.2.2.2.1.cell 5
  have f6 : w.cell? ⟨fb, 6, none⟩ = some (.int .u16 h.method) := HX.out.2.2.2.1.cell 6
  have f10 : w.cell? ⟨fb, 10, none⟩ = some (.int .u16 h.time) := HX.out.2.2.2.1.cell 10
  have f11 : w.cell? ⟨fb, 11, none⟩ = some (.int .u16 h.date) := HX.out.2.2.2.1.cell 11
  have f17 : w.cell? ⟨fb, 17, none⟩ = some (.slice A h.extra.length ec) := HX.out.2.2.2.1.cell 17
  have h0 : w.cell? ⟨hb, 0, none⟩ = some (.pointer (some ⟨fb, 0, none⟩)) := HX.out.2.2.1.cell 0
  have h2 : w.cell? ⟨hb, 2, none⟩ = some (.bool false) := HX.out.2.2.1.cell 2
  go_enter Tryd.func51, Tryd.ntmps51
  go_wp2_with fail
  refine callsW (fun W => ∃ Z : Array Value, Z.size = 30 ∧ Blk W (w.heap.size + 1) 122 #[.slice (some ⟨w.heap.size, 0, none⟩) 30 30] ∧ Blk W w.heap.size 173 Z ∧ Kept [] w W) ⟨_, ?_, ?_, (Blk.new _ _ _).alloc _, ((Kept.refl [] w).alloc _).alloc _⟩ ?_
  · rfl
  · exact Blk.new1 _ _ _ _
  clear f4
  clear f0 f5 f6 f10 f11 f17 h0 h2
  rintro w0 ⟨Z, hZ, hr, hg, hk⟩
  have HX0 := Lib.hid (And.intro hr (And.intro (show Blk w0 w.heap.size 173 (putAll Z 0 (([] : List UInt8).map byteV)) from hg) (And.intro (hk.blk HX.out.2.2.1 (by simp)) (And.intro (hk.blk HX.out.2.2.2.1 (by simp)) hk))))
  clear hr hg hk HX
  refine (wb32 (o := 0) (n := 30) (c := 30) HX0.out.1 HX0.out.2.1 (by omega) (by omega) (by omega) (by rw [putAll_size]; omega) (67324752) _ (by first | rfl | omega | (rw [IntKind.wrap_u16]; omega) | (rw [IntKind.wrap_u32]; omega)) (by decide)).mono ?_
  rintro e w1 ⟨rfl, hg, ⟨o', ho, hr⟩, hk⟩
  obtain rfl : o' = 4 := ho.out (by decide)
  have hg2 := Blk.cast hg (put_next (A := []) (by simp))
  have hne : ∀ x, x < w.heap.size → x ∉ [w.heap.size + 1, w.heap.size] := fun x hx hm => by simp at hm; omega
  have HX := Lib.hid (And.intro hr (And.intro hg2 (And.intro (hk.blk HX0.out.2.2.1 (hne _ hbl)) (And.intro (hk.blk HX0.out.2.2.2.1 (hne _ fbl)) (HX0.out.2.2.2.2.trans' hk (fun x hx => .inr (by simp at hx; omega)))))))
  clear hr hg hg2 hk ho hne
  have f0 : w1.cell? ⟨fb, 0, none⟩ = some (.string ⟨h.name.toArray⟩) := HX.out.2.2.2.1.cell 0
  have f5 : w1.cell? ⟨fb, 5, none⟩ = some (.int .u16 h.flags) := HX.out.2.2.2.1.cell 5
  have f6 : w1.cell? ⟨fb, 6, none⟩ = some (.int .u16 h.method) := HX.out.2.2.2.1.cell 6
  have f10 : w1.cell? ⟨fb, 10, none⟩ = some (.int .u16 h.time) := HX.out.2.2.2.1.cell 10
  have f11 : w1.cell? ⟨fb, 11, none⟩ = some (.int .u16 h.date) := HX.out.2.2.2.1.cell 11
  have f17 : w1.cell? ⟨fb, 17, none⟩ = some (.slice A h.extra.length ec) := HX.out.2.2.2.1.cell 17
  have h0 : w1.cell? ⟨hb, 0, none⟩ = some (.pointer (some ⟨fb, 0, none⟩)) := HX.out.2.2.1.cell 0
  have h2 : w1.cell? ⟨hb, 2, none⟩ = some (.bool false) := HX.out.2.2.1.cell 2
  have HX1 := HX
  clear HX
  go_wp2_with fail
  clear f0 f5 f6 f10 f11 f17 h0 h2
  refine (wb16 (o := 4) (n := 26) (c := 26) HX1.out.1 HX1.out.2.1 (by omega) (by omega) (by omega) (by rw [putAll_size]; omega) (h.reader) _ (by first | rfl | omega | (rw [IntKind.wrap_u16]; omega) | (rw [IntKind.wrap_u32]; omega)) (HF.out.reader)).mono ?_
  rintro e w2 ⟨rfl, hg, ⟨o', ho, hr⟩, hk⟩
  obtain rfl : o' = 6 := ho.out (by decide)
  have hg2 := Blk.cast hg (put_next (A := [] ++ leB (67324752) 4) (by simp [leB_length]))
  have hne : ∀ x, x < w.heap.size → x ∉ [w.heap.size + 1, w.heap.size] := fun x hx hm => by simp at hm; omega
  have HX := Lib.hid (And.intro hr (And.intro hg2 (And.intro (hk.blk HX1.out.2.2.1 (hne _ hbl)) (And.intro (hk.blk HX1.out.2.2.2.1 (hne _ fbl)) (HX1.out.2.2.2.2.trans' hk (fun x hx => .inr (by simp at hx; omega)))))))
  clear hr hg hg2 hk ho hne
  have f0 : w2.cell? ⟨fb, 0, none⟩ = some (.string ⟨h.name.toArray⟩) := HX.out.2.2.2.1.cell 0
  have f5 : w2.cell? ⟨fb, 5, none⟩ = some (.int .u16 h.flags) := HX.out.2.2.2.1.cell 5
  have f6 : w2.cell? ⟨fb, 6, none⟩ = some (.int .u16 h.method) := HX.out.2.2.2.1.cell 6
  have f10 : w2.cell? ⟨fb, 10, none⟩ = some (.int .u16 h.time) := HX.out.2.2.2.1.cell 10
  have f11 : w2.cell? ⟨fb, 11, none⟩ = some (.int .u16 h.date) := HX.out.2.2.2.1.cell 11
  have f17 : w2.cell? ⟨fb, 17, none⟩ = some (.slice A h.extra.length ec) := HX.out.2.2.2.1.cell 17
  have h0 : w2.cell? ⟨hb, 0, none⟩ = some (.pointer (some ⟨fb, 0, none⟩)) := HX.out.2.2.1.cell 0
  have h2 : w2.cell? ⟨hb, 2, none⟩ = some (.bool false) := HX.out.2.2.1.cell 2
  have HX2 := HX
  clear HX
  go_wp2_with fail
  clear f0 f5 f6 f10 f11 f17 h0 h2
  refine (wb16 (o := 6) (n := 24) (c := 24) HX2.out.1 HX2.out.2.1 (by omega) (by omega) (by omega) (by rw [putAll_size]; omega) (h.flags) _ (by first | rfl | omega | (rw [IntKind.wrap_u16]; omega) | (rw [IntKind.wrap_u32]; omega)) (HF.out.flags)).mono ?_
  rintro e w3 ⟨rfl, hg, ⟨o', ho, hr⟩, hk⟩
  obtain rfl : o' = 8 := ho.out (by decide)
  have hg2 := Blk.cast hg (put_next (A := [] ++ leB (67324752) 4 ++ leB (h.reader) 2) (by simp [leB_length]))
  have hne : ∀ x, x < w.heap.size → x ∉ [w.heap.size + 1, w.heap.size] := fun x hx hm => by simp at hm; omega
  have HX := Lib.hid (And.intro hr (And.intro hg2 (And.intro (hk.blk HX2.out.2.2.1 (hne _ hbl)) (And.intro (hk.blk HX2.out.2.2.2.1 (hne _ fbl)) (HX2.out.2.2.2.2.trans' hk (fun x hx => .inr (by simp at hx; omega)))))))
  clear hr hg hg2 hk ho hne
  have f0 : w3.cell? ⟨fb, 0, none⟩ = some (.string ⟨h.name.toArray⟩) := HX.out.2.2.2.1.cell 0
  have f5 : w3.cell? ⟨fb, 5, none⟩ = some (.int .u16 h.flags) := HX.out.2.2.2.1.cell 5
  have f6 : w3.cell? ⟨fb, 6, none⟩ = some (.int .u16 h.method) := HX.out.2.2.2.1.cell 6
  have f10 : w3.cell? ⟨fb, 10, none⟩ = some (.int .u16 h.time) := HX.out.2.2.2.1.cell 10
  have f11 : w3.cell? ⟨fb, 11, none⟩ = some (.int .u16 h.date) := HX.out.2.2.2.1.cell 11
  have f17 : w3.cell? ⟨fb, 17, none⟩ = some (.slice A h.extra.length ec) := HX.out.2.2.2.1.cell 17
  have h0 : w3.cell? ⟨hb, 0, none⟩ = some (.pointer (some ⟨fb, 0, none⟩)) := HX.out.2.2.1.cell 0
  have h2 : w3.cell? ⟨hb, 2, none⟩ = some (.bool false) := HX.out.2.2.1.cell 2
  have HX3 := HX
  clear HX
  go_wp2_with fail
  clear f0 f5 f6 f10 f11 f17 h0 h2
  refine (wb16 (o := 8) (n := 22) (c := 22) HX3.out.1 HX3.out.2.1 (by omega) (by omega) (by omega) (by rw [putAll_size]; omega) (h.method) _ (by first | rfl | omega | (rw [IntKind.wrap_u16]; omega) | (rw [IntKind.wrap_u32]; omega)) (HF.out.method)).mono ?_
  rintro e w4 ⟨rfl, hg, ⟨o', ho, hr⟩, hk⟩
  obtain rfl : o' = 10 := ho.out (by decide)
  have hg2 := Blk.cast hg (put_next (A := [] ++ leB (67324752) 4 ++ leB (h.reader) 2 ++ leB (h.flags) 2) (by simp [leB_length]))
  have hne : ∀ x, x < w.heap.size → x ∉ [w.heap.size + 1, w.heap.size] := fun x hx hm => by simp at hm; omega
  have HX := Lib.hid (And.intro hr (And.intro hg2 (And.intro (hk.blk HX3.out.2.2.1 (hne _ hbl)) (And.intro (hk.blk HX3.out.2.2.2.1 (hne _ fbl)) (HX3.out.2.2.2.2.trans' hk (fun x hx => .inr (by simp at hx; omega)))))))
  clear hr hg hg2 hk ho hne
  have f0 : w4.cell? ⟨fb, 0, none⟩ = some (.string ⟨h.name.toArray⟩) := HX.out.2.2.2.1.cell 0
  have f5 : w4.cell? ⟨fb, 5, none⟩ = some (.int .u16 h.flags) := HX.out.2.2.2.1.cell 5
  have f6 : w4.cell? ⟨fb, 6, none⟩ = some (.int .u16 h.method) := HX.out.2.2.2.1.cell 6
  have f10 : w4.cell? ⟨fb, 10, none⟩ = some (.int .u16 h.time) := HX.out.2.2.2.1.cell 10
  have f11 : w4.cell? ⟨fb, 11, none⟩ = some (.int .u16 h.date) := HX.out.2.2.2.1.cell 11
  have f17 : w4.cell? ⟨fb, 17, none⟩ = some (.slice A h.extra.length ec) := HX.out.2.2.2.1.cell 17
  have h0 : w4.cell? ⟨hb, 0, none⟩ = some (.pointer (some ⟨fb, 0, none⟩)) := HX.out.2.2.1.cell 0
  have h2 : w4.cell? ⟨hb, 2, none⟩ = some (.bool false) := HX.out.2.2.1.cell 2
  have HX4 := HX
  clear HX
  go_wp2_with fail
  clear f0 f5 f6 f10 f11 f17 h0 h2
  refine (wb16 (o := 10) (n := 20) (c := 20) HX4.out.1 HX4.out.2.1 (by omega) (by omega) (by omega) (by rw [putAll_size]; omega) (h.time) _ (by first | rfl | omega | (rw [IntKind.wrap_u16]; omega) | (rw [IntKind.wrap_u32]; omega)) (HF.out.time)).mono ?_
  rintro e w5 ⟨rfl, hg, ⟨o', ho, hr⟩, hk⟩
  obtain rfl : o' = 12 := ho.out (by decide)
  have hg2 := Blk.cast hg (put_next (A := [] ++ leB (67324752) 4 ++ leB (h.reader) 2 ++ leB (h.flags) 2 ++ leB (h.method) 2) (by simp [leB_length]))
  have hne : ∀ x, x < w.heap.size → x ∉ [w.heap.size + 1, w.heap.size] := fun x hx hm => by simp at hm; omega
  have HX := Lib.hid (And.intro hr (And.intro hg2 (And.intro (hk.blk HX4.out.2.2.1 (hne _ hbl)) (And.intro (hk.blk HX4.out.2.2.2.1 (hne _ fbl)) (HX4.out.2.2.2.2.trans' hk (fun x hx => .inr (by simp at hx; omega)))))))
  clear hr hg hg2 hk ho hne
  have f0 : w5.cell? ⟨fb, 0, none⟩ = some (.string ⟨h.name.toArray⟩) := HX.out.2.2.2.1.cell 0
  have f5 : w5.cell? ⟨fb, 5, none⟩ = some (.int .u16 h.flags) := HX.out.2.2.2.1.cell 5
  have f6 : w5.cell? ⟨fb, 6, none⟩ = some (.int .u16 h.method) := HX.out.2.2.2.1.cell 6
  have f10 : w5.cell? ⟨fb, 10, none⟩ = some (.int .u16 h.time) := HX.out.2.2.2.1.cell 10
  have f11 : w5.cell? ⟨fb, 11, none⟩ = some (.int .u16 h.date) := HX.out.2.2.2.1.cell 11
  have f17 : w5.cell? ⟨fb, 17, none⟩ = some (.slice A h.extra.length ec) := HX.out.2.2.2.1.cell 17
  have h0 : w5.cell? ⟨hb, 0, none⟩ = some (.pointer (some ⟨fb, 0, none⟩)) := HX.out.2.2.1.cell 0
  have h2 : w5.cell? ⟨hb, 2, none⟩ = some (.bool false) := HX.out.2.2.1.cell 2
  have HX5 := HX
  clear HX
  go_wp2_with fail
  clear f0 f5 f6 f10 f11 f17 h0 h2
  refine (wb16 (o := 12) (n := 18) (c := 18) HX5.out.1 HX5.out.2.1 (by omega) (by omega) (by omega) (by rw [putAll_size]; omega) (h.date) _ (by first | rfl | omega | (rw [IntKind.wrap_u16]; omega) | (rw [IntKind.wrap_u32]; omega)) (HF.out.date)).mono ?_
  rintro e w6 ⟨rfl, hg, ⟨o', ho, hr⟩, hk⟩
  obtain rfl : o' = 14 := ho.out (by decide)
  have hg2 := Blk.cast hg (put_next (A := [] ++ leB (67324752) 4 ++ leB (h.reader) 2 ++ leB (h.flags) 2 ++ leB (h.method) 2 ++ leB (h.time) 2) (by simp [leB_length]))
  have hne : ∀ x, x < w.heap.size → x ∉ [w.heap.size + 1, w.heap.size] := fun x hx hm => by simp at hm; omega
  have HX := Lib.hid (And.intro hr (And.intro hg2 (And.intro (hk.blk HX5.out.2.2.1 (hne _ hbl)) (And.intro (hk.blk HX5.out.2.2.2.1 (hne _ fbl)) (HX5.out.2.2.2.2.trans' hk (fun x hx => .inr (by simp at hx; omega)))))))
  clear hr hg hg2 hk ho hne
  have f0 : w6.cell? ⟨fb, 0, none⟩ = some (.string ⟨h.name.toArray⟩) := HX.out.2.2.2.1.cell 0
  have f5 : w6.cell? ⟨fb, 5, none⟩ = some (.int .u16 h.flags) := HX.out.2.2.2.1.cell 5
  have f6 : w6.cell? ⟨fb, 6, none⟩ = some (.int .u16 h.method) := HX.out.2.2.2.1.cell 6
  have f10 : w6.cell? ⟨fb, 10, none⟩ = some (.int .u16 h.time) := HX.out.2.2.2.1.cell 10
  have f11 : w6.cell? ⟨fb, 11, none⟩ = some (.int .u16 h.date) := HX.out.2.2.2.1.cell 11
  have f17 : w6.cell? ⟨fb, 17, none⟩ = some (.slice A h.extra.length ec) := HX.out.2.2.2.1.cell 17
  have h0 : w6.cell? ⟨hb, 0, none⟩ = some (.pointer (some ⟨fb, 0, none⟩)) := HX.out.2.2.1.cell 0
  have h2 : w6.cell? ⟨hb, 2, none⟩ = some (.bool false) := HX.out.2.2.1.cell 2
  have HX6 := HX
  clear HX
  go_wp2_with fail
  clear f0 f5 f6 f10 f11 f17 h0 h2
  refine (wb32 (o := 14) (n := 16) (c := 16) HX6.out.1 HX6.out.2.1 (by omega) (by omega) (by omega) (by rw [putAll_size]; omega) (0) _ (by first | rfl | omega | (rw [IntKind.wrap_u16]; omega) | (rw [IntKind.wrap_u32]; omega)) (by decide)).mono ?_
  rintro e w7 ⟨rfl, hg, ⟨o', ho, hr⟩, hk⟩
  obtain rfl : o' = 18 := ho.out (by decide)
  have hg2 := Blk.cast hg (put_next (A := [] ++ leB (67324752) 4 ++ leB (h.reader) 2 ++ leB (h.flags) 2 ++ leB (h.method) 2 ++ leB (h.time) 2 ++ leB (h.date) 2) (by simp [leB_length]))
  have hne : ∀ x, x < w.heap.size → x ∉ [w.heap.size + 1, w.heap.size] := fun x hx hm => by simp at hm; omega
  have HX := Lib.hid (And.intro hr (And.intro hg2 (And.intro (hk.blk HX6.out.2.2.1 (hne _ hbl)) (And.intro (hk.blk HX6.out.2.2.2.1 (hne _ fbl)) (HX6.out.2.2.2.2.trans' hk (fun x hx => .inr (by simp at hx; omega)))))))
  clear hr hg hg2 hk ho hne
  have f0 : w7.cell? ⟨fb, 0, none⟩ = some (.string ⟨h.name.toArray⟩) := HX.out.2.2.2.1.cell 0
  have f5 : w7.cell? ⟨fb, 5, none⟩ = some (.int .u16 h.flags) := HX.out.2.2.2.1.cell 5
  have f6 : w7.cell? ⟨fb, 6, none⟩ = some (.int .u16 h.method) := HX.out.2.2.2.1.cell 6
  have f10 : w7.cell? ⟨fb, 10, none⟩ = some (.int .u16 h.time) := HX.out.2.2.2.1.cell 10
  have f11 : w7.cell? ⟨fb, 11, none⟩ = some (.int .u16 h.date) := HX.out.2.2.2.1.cell 11
  have f17 : w7.cell? ⟨fb, 17, none⟩ = some (.slice A h.extra.length ec) := HX.out.2.2.2.1.cell 17
  have h0 : w7.cell? ⟨hb, 0, none⟩ = some (.pointer (some ⟨fb, 0, none⟩)) := HX.out.2.2.1.cell 0
  have h2 : w7.cell? ⟨hb, 2, none⟩ = some (.bool false) := HX.out.2.2.1.cell 2
  have HX7 := HX
  clear HX
  go_wp2_with fail
  clear f0 f5 f6 f10 f11 f17 h0 h2
  refine (wb32 (o := 18) (n := 12) (c := 12) HX7.out.1 HX7.out.2.1 (by omega) (by omega) (by omega) (by rw [putAll_size]; omega) (0) _ (by first | rfl | omega | (rw [IntKind.wrap_u16]; omega) | (rw [IntKind.wrap_u32]; omega)) (by decide)).mono ?_
  rintro e w8 ⟨rfl, hg, ⟨o', ho, hr⟩, hk⟩
  obtain rfl : o' = 22 := ho.out (by decide)
  have hg2 := Blk.cast hg (put_next (A := [] ++ leB (67324752) 4 ++ leB (h.reader) 2 ++ leB (h.flags) 2 ++ leB (h.method) 2 ++ leB (h.time) 2 ++ leB (h.date) 2 ++ leB (0) 4) (by simp [leB_length]))
  have hne : ∀ x, x < w.heap.size → x ∉ [w.heap.size + 1, w.heap.size] := fun x hx hm => by simp at hm; omega
  have HX := Lib.hid (And.intro hr (And.intro hg2 (And.intro (hk.blk HX7.out.2.2.1 (hne _ hbl)) (And.intro (hk.blk HX7.out.2.2.2.1 (hne _ fbl)) (HX7.out.2.2.2.2.trans' hk (fun x hx => .inr (by simp at hx; omega)))))))
  clear hr hg hg2 hk ho hne
  have f0 : w8.cell? ⟨fb, 0, none⟩ = some (.string ⟨h.name.toArray⟩) := HX.out.2.2.2.1.cell 0
  have f5 : w8.cell? ⟨fb, 5, none⟩ = some (.int .u16 h.flags) := HX.out.2.2.2.1.cell 5
  have f6 : w8.cell? ⟨fb, 6, none⟩ = some (.int .u16 h.method) := HX.out.2.2.2.1.cell 6
  have f10 : w8.cell? ⟨fb, 10, none⟩ = some (.int .u16 h.time) := HX.out.2.2.2.1.cell 10
  have f11 : w8.cell? ⟨fb, 11, none⟩ = some (.int .u16 h.date) := HX.out.2.2.2.1.cell 11
  have f17 : w8.cell? ⟨fb, 17, none⟩ = some (.slice A h.extra.length ec) := HX.out.2.2.2.1.cell 17
  have h0 : w8.cell? ⟨hb, 0, none⟩ = some (.pointer (some ⟨fb, 0, none⟩)) := HX.out.2.2.1.cell 0
  have h2 : w8.cell? ⟨hb, 2, none⟩ = some (.bool false) := HX.out.2.2.1.cell 2
  have HX8 := HX
  clear HX
  go_wp2_with fail
  clear f0 f5 f6 f10 f11 f17 h0 h2
  refine (wb32 (o := 22) (n := 8) (c := 8) HX8.out.1 HX8.out.2.1 (by omega) (by omega) (by omega) (by rw [putAll_size]; omega) (0) _ (by first | rfl | omega | (rw [IntKind.wrap_u16]; omega) | (rw [IntKind.wrap_u32]; omega)) (by decide)).mono ?_
  rintro e w9 ⟨rfl, hg, ⟨o', ho, hr⟩, hk⟩
  obtain rfl : o' = 26 := ho.out (by decide)
  have hg2 := Blk.cast hg (put_next (A := [] ++ leB (67324752) 4 ++ leB (h.reader) 2 ++ leB (h.flags) 2 ++ leB (h.method) 2 ++ leB (h.time) 2 ++ leB (h.date) 2 ++ leB (0) 4 ++ leB (0) 4) (by simp [leB_length]))
  have hne : ∀ x, x < w.heap.size → x ∉ [w.heap.size + 1, w.heap.size] := fun x hx hm => by simp at hm; omega
  have HX := Lib.hid (And.intro hr (And.intro hg2 (And.intro (hk.blk HX8.out.2.2.1 (hne _ hbl)) (And.intro (hk.blk HX8.out.2.2.2.1 (hne _ fbl)) (HX8.out.2.2.2.2.trans' hk (fun x hx => .inr (by simp at hx; omega)))))))
  clear hr hg hg2 hk ho hne
  have f0 : w9.cell? ⟨fb, 0, none⟩ = some (.string ⟨h.name.toArray⟩) := HX.out.2.2.2.1.cell 0
  have f5 : w9.cell? ⟨fb, 5, none⟩ = some (.int .u16 h.flags) := HX.out.2.2.2.1.cell 5
  have f6 : w9.cell? ⟨fb, 6, none⟩ = some (.int .u16 h.method) := HX.out.2.2.2.1.cell 6
  have f10 : w9.cell? ⟨fb, 10, none⟩ = some (.int .u16 h.time) := HX.out.2.2.2.1.cell 10
  have f11 : w9.cell? ⟨fb, 11, none⟩ = some (.int .u16 h.date) := HX.out.2.2.2.1.cell 11
  have f17 : w9.cell? ⟨fb, 17, none⟩ = some (.slice A h.extra.length ec) := HX.out.2.2.2.1.cell 17
  have h0 : w9.cell? ⟨hb, 0, none⟩ = some (.pointer (some ⟨fb, 0, none⟩)) := HX.out.2.2.1.cell 0
  have h2 : w9.cell? ⟨hb, 2, none⟩ = some (.bool false) := HX.out.2.2.1.cell 2
  have HX9 := HX
  clear HX
  go_wp2_with fail
  clear f0 f5 f6 f10 f11 f17 h0 h2
  refine (wb16 (o := 26) (n := 4) (c := 4) HX9.out.1 HX9.out.2.1 (by omega) (by omega) (by omega) (by rw [putAll_size]; omega) (h.name.length) _ (by first | rfl | omega | (rw [IntKind.wrap_u16]; omega) | (rw [IntKind.wrap_u32]; omega)) (HF.out.name)).mono ?_
  rintro e w10 ⟨rfl, hg, ⟨o', ho, hr⟩, hk⟩
  obtain rfl : o' = 28 := ho.out (by decide)
  have hg2 := Blk.cast hg (put_next (A := [] ++ leB (67324752) 4 ++ leB (h.reader) 2 ++ leB (h.flags) 2 ++ leB (h.method) 2 ++ leB (h.time) 2 ++ leB (h.date) 2 ++ leB (0) 4 ++ leB (0) 4 ++ leB (0) 4) (by simp [leB_length]))
  have hne : ∀ x, x < w.heap.size → x ∉ [w.heap.size + 1, w.heap.size] := fun x hx hm => by simp at hm; omega
  have HX := Lib.hid (And.intro hr (And.intro hg2 (And.intro (hk.blk HX9.out.2.2.1 (hne _ hbl)) (And.intro (hk.blk HX9.out.2.2.2.1 (hne _ fbl)) (HX9.out.2.2.2.2.trans' hk (fun x hx => .inr (by simp at hx; omega)))))))
  clear hr hg hg2 hk ho hne
  have f0 : w10.cell? ⟨fb, 0, none⟩ = some (.string ⟨h.name.toArray⟩) := HX.out.2.2.2.1.cell 0
  have f5 : w10.cell? ⟨fb, 5, none⟩ = some (.int .u16 h.flags) := HX.out.2.2.2.1.cell 5
  have f6 : w10.cell? ⟨fb, 6, none⟩ = some (.int .u16 h.method) := HX.out.2.2.2.1.cell 6
  have f10 : w10.cell? ⟨fb, 10, none⟩ = some (.int .u16 h.time) := HX.out.2.2.2.1.cell 10
  have f11 : w10.cell? ⟨fb, 11, none⟩ = some (.int .u16 h.date) := HX.out.2.2.2.1.cell 11
  have f17 : w10.cell? ⟨fb, 17, none⟩ = some (.slice A h.extra.length ec) := HX.out.2.2.2.1.cell 17
  have h0 : w10.cell? ⟨hb, 0, none⟩ = some (.pointer (some ⟨fb, 0, none⟩)) := HX.out.2.2.1.cell 0
  have h2 : w10.cell? ⟨hb, 2, none⟩ = some (.bool false) := HX.out.2.2.1.cell 2
  have HX10 := HX
  clear HX
  go_wp2_with fail
  clear f0 f5 f6 f10 f11 f17 h0 h2
  refine (wb16 (o := 28) (n := 2) (c := 2) HX10.out.1 HX10.out.2.1 (by omega) (by omega) (by omega) (by rw [putAll_size]; omega) (h.extra.length) _ (by first | rfl | omega | (rw [IntKind.wrap_u16]; omega) | (rw [IntKind.wrap_u32]; omega)) (HF.out.extra)).mono ?_
  rintro e w11 ⟨rfl, hg, ⟨o', ho, hr⟩, hk⟩
  have hg2 := Blk.cast hg (put_next (A := [] ++ leB (67324752) 4 ++ leB (h.reader) 2 ++ leB (h.flags) 2 ++ leB (h.method) 2 ++ leB (h.time) 2 ++ leB (h.date) 2 ++ leB (0) 4 ++ leB (0) 4 ++ leB (0) 4 ++ leB (h.name.length) 2) (by simp [leB_length]))
  have hne : ∀ x, x < w.heap.size → x ∉ [w.heap.size + 1, w.heap.size] := fun x hx hm => by simp at hm; omega
  have HX := Lib.hid (And.intro hr (And.intro hg2 (And.intro (hk.blk HX10.out.2.2.1 (hne _ hbl)) (And.intro (hk.blk HX10.out.2.2.2.1 (hne _ fbl)) (HX10.out.2.2.2.2.trans' hk (fun x hx => .inr (by simp at hx; omega)))))))
  clear hr hg hg2 hk ho hne
  have f0 : w11.cell? ⟨fb, 0, none⟩ = some (.string ⟨h.name.toArray⟩) := HX.out.2.2.2.1.cell 0
  have f5 : w11.cell? ⟨fb, 5, none⟩ = some (.int .u16 h.flags) := HX.out.2.2.2.1.cell 5
  have f6 : w11.cell? ⟨fb, 6, none⟩ = some (.int .u16 h.method) := HX.out.2.2.2.1.cell 6
  have f10 : w11.cell? ⟨fb, 10, none⟩ = some (.int .u16 h.time) := HX.out.2.2.2.1.cell 10
  have f11 : w11.cell? ⟨fb, 11, none⟩ = some (.int .u16 h.date) := HX.out.2.2.2.1.cell 11
  have f17 : w11.cell? ⟨fb, 17, none⟩ = some (.slice A h.extra.length ec) := HX.out.2.2.2.1.cell 17
  have h0 : w11.cell? ⟨hb, 0, none⟩ = some (.pointer (some ⟨fb, 0, none⟩)) := HX.out.2.2.1.cell 0
  have h2 : w11.cell? ⟨hb, 2, none⟩ = some (.bool false) := HX.out.2.2.1.cell 2
  have HX11 := HX
  clear HX
  go_wp2_with fail
  clear f0 f5 f6 f10 f11 f17 h0 h2
  have S11 : Snk w11 ob bw gb cw ro out := HS.out.1.kept HX11.out.2.2.2.2 (by simp) (by simp) (by simp) (by simp) (by simp)
  have hbuf : Reads w11 w11.heap.size 1 (some ⟨w.heap.size, 0, none⟩) 30 (([] ++ leB (67324752) 4 ++ leB (h.reader) 2 ++ leB (h.flags) 2 ++ leB (h.method) 2 ++ leB (h.time) 2 ++ leB (h.date) 2 ++ leB (0) 4 ++ leB (0) 4 ++ leB (0) 4 ++ leB (h.name.length) 2 ++ leB (h.extra.length) 2).map byteV) := by
    have e := put_whole Z ([] ++ leB (67324752) 4 ++ leB (h.reader) 2 ++ leB (h.flags) 2 ++ leB (h.method) 2 ++ leB (h.time) 2 ++ leB (h.date) 2 ++ leB (0) 4 ++ leB (0) 4 ++ leB (0) 4 ++ leB (h.name.length) 2 ++ leB (h.extra.length) 2) (by simp [leB_length, hZ])
    have := readsT (Blk.cast HX11.out.2.1 e) 0 30 (by simp [leB_length])
    rw [List.drop_zero, List.take_of_length_le (by simp [leB_length])] at this
    exact this
  have HC := Lib.hid (Cw_write S11.drew (some ⟨w.heap.size, 0, none⟩) 30 30 ([] ++ leB (67324752) 4 ++ leB (h.reader) 2 ++ leB (h.flags) 2 ++ leB (h.method) 2 ++ leB (h.time) 2 ++ leB (h.date) 2 ++ leB (0) 4 ++ leB (0) 4 ++ leB (0) 4 ++ leB (h.name.length) 2 ++ leB (h.extra.length) 2) (by decide) hbuf.drew (fun ad e _ => by injection e with e; subst e; exact fun hm => Nat.lt_irrefl _ (HS.out.1.lt _ hm)) (by have := HS.out.2.2.2.2; simp [leB_length]; omega))
  clear hbuf S11
  have hma := ahead_WriteC
  have hmw := method_WriteC
  apply passW (fun W => ∃ ro', (ro' = ro ∨ ∃ n, ro' = some n ∧ w11.heap.size ≤ n) ∧ Snk W ob bw gb cw ro' (out ++ ([] ++ leB (67324752) 4 ++ leB (h.reader) 2 ++ leB (h.flags) 2 ++ leB (h.method) 2 ++ leB (h.time) 2 ++ leB (h.date) 2 ++ leB (0) 4 ++ leB (0) 4 ++ leB (0) 4 ++ leB (h.name.length) 2 ++ leB (h.extra.length) 2)) ∧ Kept (ob :: bw :: gb :: cw :: ro.toList) w11 W)
  case k =>
    intro key
    have KEY := Lib.hid key
    clear key
    go_region_with (go_at_call 81; refine HC.out.mono ?_; rintro e w1 ⟨rfl, hx⟩; have HY := Lib.hid hx; clear hx)
    all_goals
      obtain ⟨ro', h1, h2, h3⟩ := HY.out
      exact KEY.out _ ⟨ro', h1, h2, ((Kept.refl _ _).drew).trans h3⟩
  clear HC
  rintro w12 ⟨ro1, hr1, hs1, hk1⟩
  have S11 : Snk w11 ob bw gb cw ro out := HS.out.1.kept HX11.out.2.2.2.2 (by simp) (by simp) (by simp) (by simp) (by simp)
  have HX12 := Lib.hid (And.intro (fresh_trans (.inl rfl) hr1 HX11.out.2.2.2.2.size) (And.intro hs1 (And.intro (hk1.blk HX11.out.2.2.1 (S11.not HX11.out.2.2.1 (by decide) (by decide) (by decide) (by decide))) (And.intro (hk1.blk HX11.out.2.2.2.1 (S11.not HX11.out.2.2.2.1 (by decide) (by decide) (by decide) (by decide))) ((HX11.out.2.2.2.2.mono (by simp)).trans' (S := ob :: bw :: gb :: cw :: ro.toList) hk1 (fun x hx => .inl hx))))))
  clear S11 hr1 hs1 hk1
  have f0 : w12.cell? ⟨fb, 0, none⟩ = some (.string ⟨h.name.toArray⟩) := HX12.out.2.2.2.1.cell 0
  have h0 : w12.cell? ⟨hb, 0, none⟩ = some (.pointer (some ⟨fb, 0, none⟩)) := HX12.out.2.2.1.cell 0
  have hcv := fun W => run_bytes_of_string (P := Tryd.prog) W 9 30 5 ⟨h.name.toArray⟩ Tryd.underlying9 Tryd.underlying30 Tryd.underlying5
  go_wp2_with fail
  have S12 := HX12.out.2.1
  have HC2 := Lib.hid (fun c m => Cw_write (w := ((w12.alloc (.cells (bytesRow ⟨h.name.toArray⟩ c) 5 m)).drew.drew)) ((S12.kept ((((Kept.refl [] w12).alloc _).drew).drew) (by simp) (by simp) (by simp) (by simp) (by simp))) (some ⟨w12.heap.size, 0, none⟩) h.name.length (max c h.name.length) h.name (Nat.le_max_right _ _) (reads_conv h.name c m) (fun ad e _ => by injection e with e; subst e; exact fun hm => Nat.lt_irrefl _ (S12.lt _ hm)) (by have := HS.out.2.2.2.2; simp [leB_length]; omega))
  have hgc : ∀ W : World, max (grownCap W h.name.length 0 5) h.name.length = grownCap W h.name.length 0 5 := fun W => Nat.max_eq_left (grownCap_ge _ _ _ _)
  have HGC := Lib.hid hgc
  have HNB := Lib.hid (And.intro (S12.not HX12.out.2.2.1 (by decide) (by decide) (by decide) (by decide)) (S12.not HX12.out.2.2.2.1 (by decide) (by decide) (by decide) (by decide)))
  clear S12 hgc
  apply passW (fun W => ∃ ro', (ro' = ro1 ∨ ∃ n, ro' = some n ∧ w12.heap.size ≤ n) ∧ Snk W ob bw gb cw ro' (out ++ ([] ++ leB (67324752) 4 ++ leB (h.reader) 2 ++ leB (h.flags) 2 ++ leB (h.method) 2 ++ leB (h.time) 2 ++ leB (h.date) 2 ++ leB (0) 4 ++ leB (0) 4 ++ leB (0) 4 ++ leB (h.name.length) 2 ++ leB (h.extra.length) 2) ++ h.name) ∧ Kept (ob :: bw :: gb :: cw :: ro1.toList) w12 W)
  case k =>
    intro key
    have KEY := Lib.hid key
    clear key
    refine wp_region_held_drew (S := fun w' => w'.cell? ⟨hb, 0, none⟩ = some (.pointer (some ⟨fb, 0, none⟩)) ∧ w'.cell? ⟨fb, 0, none⟩ = some (.string ⟨h.name.toArray⟩)) (by kernel_rfl) ?_ (fun hHeld => ?_)
    · (try dsimp only)
      exact ⟨h0, f0⟩
    (refine wpAnyH_take (i := 0) (v := ?_) rfl (by kernel_rfl) (by kernel_rfl) (by kernel_rfl) (fun _ _ _ h => h) (Or.inl ⟨by rfl, ?_⟩) (by assumption) ?_; rotate_left)
    · (intro w hSw; (try dsimp only at hSw); go_simp; try with_reducible rfl)
    (try simp only [Act.put, List.setIfInBounds_toArray, List.set_cons_zero, List.set_cons_succ])
    (refine wpAnyH_take (i := 1) (v := ?_) rfl (by kernel_rfl) (by kernel_rfl) (by kernel_rfl) (fun _ _ _ h => h) (Or.inl ⟨by rfl, ?_⟩) (by assumption) ?_; rotate_left)
    · (intro w hSw; (try dsimp only at hSw); go_simp; try with_reducible rfl)
    (try simp only [Act.put, List.setIfInBounds_toArray, List.set_cons_zero, List.set_cons_succ])
    (refine wpAnyH_take (i := 2) (v := ?_) rfl (by kernel_rfl) (by kernel_rfl) (by kernel_rfl) (fun _ _ _ h => h) (Or.inl ⟨by rfl, ?_⟩) (by assumption) ?_; rotate_left)
    · (intro w hSw; (try dsimp only at hSw); go_simp; try with_reducible rfl)
    (try simp only [Act.put, List.setIfInBounds_toArray, List.set_cons_zero, List.set_cons_succ])
    (refine wpAnyH_take (i := 3) (v := ?_) rfl (by kernel_rfl) (by kernel_rfl) (by kernel_rfl) (fun _ _ _ h => h) (Or.inl ⟨by rfl, ?_⟩) (by assumption) ?_; rotate_left)
    · (intro w hSw; (try dsimp only at hSw); go_simp; try with_reducible rfl)
    (try simp only [Act.put, List.setIfInBounds_toArray, List.set_cons_zero, List.set_cons_succ])
    (refine wpAnyH_take (i := 4) (v := ?_) rfl (by kernel_rfl) (by kernel_rfl) (by kernel_rfl) (fun _ _ _ h => h) (Or.inl ⟨by rfl, ?_⟩) (by assumption) ?_; rotate_left)
    · (intro w hSw; (try dsimp only at hSw); go_simp; try with_reducible rfl)
    (try simp only [Act.put, List.setIfInBounds_toArray, List.set_cons_zero, List.set_cons_succ])
    (refine wpAnyH_take (i := 5) (v := ?_) rfl (by kernel_rfl) (by kernel_rfl) (by kernel_rfl) (fun _ _ _ h => h) (Or.inl ⟨by rfl, ?_⟩) (by assumption) ?_; rotate_left)
    · (intro w hSw; (try dsimp only at hSw); go_simp; try with_reducible rfl)
    (try simp only [Act.put, List.setIfInBounds_toArray, List.set_cons_zero, List.set_cons_succ])
    (refine wpAnyH_take (i := 6) (v := ?_) rfl (by kernel_rfl) (by kernel_rfl) (by kernel_rfl) (fun _ _ _ h => h) (Or.inl ⟨by rfl, ?_⟩) (by assumption) ?_; rotate_left)
    · (intro w hSw; (try dsimp only at hSw); go_simp; try with_reducible rfl)
    (try simp only [Act.put, List.setIfInBounds_toArray, List.set_cons_zero, List.set_cons_succ])
    (refine wpAnyH_take (i := 7) (v := ?_) rfl (by kernel_rfl) (by kernel_rfl) (by kernel_rfl) (fun _ _ _ h => h) (Or.inl ⟨by rfl, ?_⟩) (by assumption) ?_; rotate_left)
    · (intro w hSw; (try dsimp only at hSw); go_simp; try with_reducible rfl)
    (try simp only [Act.put, List.setIfInBounds_toArray, List.set_cons_zero, List.set_cons_succ])
    (refine wpAnyH_take (i := 9) (v := ?_) rfl (by kernel_rfl) (by kernel_rfl) (by kernel_rfl) (fun _ _ _ h => h) (Or.inl ⟨by rfl, ?_⟩) (by assumption) ?_; rotate_left)
    · (intro w hSw; (try dsimp only at hSw); go_simp; try with_reducible rfl)
    (try simp only [Act.put, List.setIfInBounds_toArray, List.set_cons_zero, List.set_cons_succ])
    (refine wpAnyH_take (i := 10) (v := ?_) rfl (by kernel_rfl) (by kernel_rfl) (by kernel_rfl) (fun _ _ _ h => h) (Or.inl ⟨by rfl, ?_⟩) (by assumption) ?_; rotate_left)
    · (intro w hSw; (try dsimp only at hSw); go_simp; try with_reducible rfl)
    (try simp only [Act.put, List.setIfInBounds_toArray, List.set_cons_zero, List.set_cons_succ])
    (refine wpAnyH_take (i := 11) (v := ?_) rfl (by kernel_rfl) (by kernel_rfl) (by kernel_rfl) (fun _ _ _ h => h) (Or.inl ⟨by rfl, ?_⟩) (by assumption) ?_; rotate_left)
    · (intro w hSw; (try dsimp only at hSw); go_simp; try with_reducible rfl)
    (try simp only [Act.put, List.setIfInBounds_toArray, List.set_cons_zero, List.set_cons_succ])
    refine wpAnyH_ready (rs := [8]) (by kernel_rfl) (by simp) ?_
    refine AllReadyH.cons rfl (fun K hK => ?_) AllReadyH.nil
    go_simp
    refine hK.out _ _ ?_ (fun hHeld => ?_)
    · (try dsimp only)
      exact ⟨(((HX12.out.2.2.1.alloc _).drew).drew).cell 0, (((HX12.out.2.2.2.1.alloc _).drew).drew).cell 0⟩
    clear hK K
    (try simp only [Act.put, List.setIfInBounds_toArray, List.set_cons_zero, List.set_cons_succ])
    refine wpAnyH_ready (rs := [12]) (by kernel_rfl) (by simp) ?_
    refine AllReadyH.cons rfl (fun K hK => ?_) AllReadyH.nil
    go_simp
    have HC3 := HC2.out (grownCap w12.drew h.name.length 0 5) ((bytesRow { data := h.name.toArray } (grownCap w12.drew h.name.length 0 5)).size, (bytesRow { data := h.name.toArray } (grownCap w12.drew h.name.length 0 5)).size + 1)
    rw [HGC.out] at HC3
    refine HC3.mono ?_
    rintro e w1 ⟨rfl, hx⟩
    have k0 : w1.cell? ⟨hb, 0, none⟩ = some (.pointer (some ⟨fb, 0, none⟩)) := by obtain ⟨_, _, _, hk⟩ := hx; exact (hk.blk (((HX12.out.2.2.1.alloc _).drew).drew) HNB.out.1).cell 0
    have k1 : w1.cell? ⟨fb, 0, none⟩ = some (.string ⟨h.name.toArray⟩) := by obtain ⟨_, _, _, hk⟩ := hx; exact (hk.blk (((HX12.out.2.2.2.1.alloc _).drew).drew) HNB.out.2).cell 0
    have HY := Lib.hid hx
    clear hx HC3
    refine hK.out _ _ ?_ (fun hHeld => ?_)
    · (try dsimp only)
      exact ⟨k0, k1⟩
    clear hK K
    (try simp only [Act.put, List.setIfInBounds_toArray, List.set_cons_zero, List.set_cons_succ])
    (refine wpAnyH_take (i := 13) (v := ?_) rfl (by kernel_rfl) (by kernel_rfl) (by kernel_rfl) (fun _ _ _ h => h) (Or.inl ⟨by rfl, ?_⟩) (by assumption) ?_; rotate_left)
    · (intro w hSw; (try dsimp only at hSw); go_simp; try with_reducible rfl)
    (try simp only [Act.put, List.setIfInBounds_toArray, List.set_cons_zero, List.set_cons_succ])
    (refine wpAnyH_take (i := 14) (v := ?_) rfl (by kernel_rfl) (by kernel_rfl) (by kernel_rfl) (fun _ _ _ h => h) (Or.inl ⟨by rfl, ?_⟩) (by assumption) ?_; rotate_left)
    · (intro w hSw; (try dsimp only at hSw); go_simp; try with_reducible rfl)
    (try simp only [Act.put, List.setIfInBounds_toArray, List.set_cons_zero, List.set_cons_succ])
    (refine wpAnyH_take (i := 15) (v := ?_) rfl (by kernel_rfl) (by kernel_rfl) (by kernel_rfl) (fun _ _ _ h => h) (Or.inl ⟨by rfl, ?_⟩) (by assumption) ?_; rotate_left)
    · (intro w hSw; (try dsimp only at hSw); go_simp; try with_reducible rfl)
    (try simp only [Act.put, List.setIfInBounds_toArray, List.set_cons_zero, List.set_cons_succ])
    (refine wpAnyH_take (i := 16) (v := ?_) rfl (by kernel_rfl) (by kernel_rfl) (by kernel_rfl) (fun _ _ _ h => h) (Or.inl ⟨by rfl, ?_⟩) (by assumption) ?_; rotate_left)
    · (intro w hSw; (try dsimp only at hSw); go_simp; try with_reducible rfl)
    (try simp only [Act.put, List.setIfInBounds_toArray, List.set_cons_zero, List.set_cons_succ])
    (refine wpAnyH_take (i := 17) (v := ?_) rfl (by kernel_rfl) (by kernel_rfl) (by kernel_rfl) (fun _ _ _ h => h) (Or.inl ⟨by rfl, ?_⟩) (by assumption) ?_; rotate_left)
    · (intro w hSw; (try dsimp only at hSw); go_simp; try with_reducible rfl)
    (try simp only [Act.put, List.setIfInBounds_toArray, List.set_cons_zero, List.set_cons_succ])
    refine wpAnyH_done (by kernel_rfl) ?_ _
    all_goals
      obtain ⟨ro', h1, h2, h3⟩ := HY.out
      refine KEY.out _ ⟨ro', ?_, h2, (((((Kept.refl _ w12).alloc _).drew).drew).trans h3)⟩
      rcases h1 with h1 | ⟨n, h1, hn⟩
      · exact .inl h1
      · exact .inr ⟨n, h1, Nat.le_trans (by simp) hn⟩
  clear HC2 h0 f0 HGC
  rintro w13 ⟨ro2, hr2, hs2, hk2⟩
  have HX13 := Lib.hid (And.intro (fresh_trans HX12.out.1 hr2 HX12.out.2.2.2.2.size) (And.intro hs2 (And.intro (hk2.blk HX12.out.2.2.1 HNB.out.1) (And.intro (hk2.blk HX12.out.2.2.2.1 HNB.out.2) (HX12.out.2.2.2.2.trans' hk2 (fun x hx => by
    simp only [List.mem_cons] at hx ⊢
    rcases hx with h | h | h | h | h
    · exact .inl (.inl h)
    · exact .inl (.inr (.inl h))
    · exact .inl (.inr (.inr (.inl h)))
    · exact .inl (.inr (.inr (.inr (.inl h))))
    · rcases fresh_mem HX12.out.1 x h with h | h
      · exact .inl (.inr (.inr (.inr (.inr h))))
      · exact .inr h))))))
  clear hr2 hs2 hk2 HNB
  have f17 : w13.cell? ⟨fb, 17, none⟩ = some (.slice A h.extra.length ec) := HX13.out.2.2.2.1.cell 17
  have h0 : w13.cell? ⟨hb, 0, none⟩ = some (.pointer (some ⟨fb, 0, none⟩)) := HX13.out.2.2.1.cell 0
  have S13 := HX13.out.2.1
  have R13 := HS.out.2.1.kept HX13.out.2.2.2.2 (fun h0 ad e => HS.out.2.2.2.1 ad e h0)
  have HC := Lib.hid (Cw_write S13.drew A h.extra.length ec h.extra HS.out.2.2.1 R13.drew (fun ad e hp hm => by
    have h1 := HS.out.2.2.2.1 ad e hp
    have h2 : ad.block < w.heap.size := by
      obtain ⟨ad', e', hb, _⟩ := HS.out.2.1.2 hp
      rw [e] at e'
      injection e' with e'
      rw [e']; exact hb
    simp only [List.mem_cons, not_or] at h1 hm
    rcases hm with hm | hm | hm | hm
    · exact h1.1 hm
    · exact h1.2.1 hm
    · exact h1.2.2.1 hm
    · rcases fresh_mem HX13.out.1 _ hm with h3 | h3
      · exact h1.2.2.2.2 h3
      · omega) (by have := HS.out.2.2.2.2; simp [leB_length]; omega))
  have HNB := Lib.hid (And.intro (S13.not HX13.out.2.2.1 (by decide) (by decide) (by decide) (by decide)) (S13.not HX13.out.2.2.2.1 (by decide) (by decide) (by decide) (by decide)))
  clear S13 R13
  go_wp2_with fail
  apply passW (fun W => ∃ ro', (ro' = ro2 ∨ ∃ n, ro' = some n ∧ w13.heap.size ≤ n) ∧ Snk W ob bw gb cw ro' (out ++ ([] ++ leB (67324752) 4 ++ leB (h.reader) 2 ++ leB (h.flags) 2 ++ leB (h.method) 2 ++ leB (h.time) 2 ++ leB (h.date) 2 ++ leB (0) 4 ++ leB (0) 4 ++ leB (0) 4 ++ leB (h.name.length) 2 ++ leB (h.extra.length) 2) ++ h.name ++ h.extra) ∧ Kept (ob :: bw :: gb :: cw :: ro2.toList) w13 W)
  case k =>
    intro key
    have KEY := Lib.hid key
    clear key
    go_region_with (go_at_call 81; refine HC.out.mono ?_; rintro e w1 ⟨rfl, hx⟩; have HY := Lib.hid hx; clear hx)
    all_goals
      obtain ⟨ro', h1, h2, h3⟩ := HY.out
      exact KEY.out _ ⟨ro', h1, h2, ((Kept.refl _ _).drew).trans h3⟩
  clear HC h0 f17
  rintro w14 ⟨ro3, hr3, hs3, hk3⟩
  have HX14 := Lib.hid (And.intro (fresh_trans HX13.out.1 hr3 HX13.out.2.2.2.2.size) (And.intro hs3 (HX13.out.2.2.2.2.trans' hk3 (fun x hx => by
    simp only [List.mem_cons] at hx ⊢
    rcases hx with h | h | h | h | h
    · exact .inl (.inl h)
    · exact .inl (.inr (.inl h))
    · exact .inl (.inr (.inr (.inl h)))
    · exact .inl (.inr (.inr (.inr (.inl h))))
    · rcases fresh_mem HX13.out.1 x h with h | h
      · exact .inl (.inr (.inr (.inr (.inr h))))
      · exact .inr h))))
  clear hr3 hs3 hk3 HNB
  go_wp2_with fail
  refine (Cw_write HX14.out.2.1 none 0 0 [] (Nat.le_refl _) Reads.none_ (fun ad e => by cases e) (by have := HS.out.2.2.2.2; simp [leB_length]; omega)).mono ?_
  rintro e w15 ⟨rfl, ro4, hr4, hs4, hk4⟩
  have HX15 := Lib.hid (And.intro (fresh_trans HX14.out.1 hr4 HX14.out.2.2.size) (And.intro hs4 (HX14.out.2.2.trans' hk4 (fun x hx => by
    simp only [List.mem_cons] at hx ⊢
    rcases hx with h | h | h | h | h
    · exact .inl (.inl h)
    · exact .inl (.inr (.inl h))
    · exact .inl (.inr (.inr (.inl h)))
    · exact .inl (.inr (.inr (.inr (.inl h))))
    · rcases fresh_mem HX14.out.1 x h with h | h
      · exact .inl (.inr (.inr (.inr (.inr h))))
      · exact .inr h))))
  clear hr4 hs4 hk4
  go_wp2
  go_ret
  refine ⟨rfl, ro4, HX15.out.1, ?_, HX15.out.2.2⟩
  have := HX15.out.2.1
  rw [show leB 67324752 4 = [80, 75, 3, 4] from rfl] at this
  simpa only [localB, fieldsB, List.nil_append, List.append_nil, List.append_assoc] using this
end Go.Proofs.YtkkdblifgekmkaaDoor
