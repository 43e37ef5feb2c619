/- Contracts: readDirectoryHeader where no header of a file stands: the text ends, or another signature stands there. -/
import Derived.Test.YtkkdblifgekmkaaDoorFull
import Derived.Test.YtkkdblifgekmkaaDoorLe32
import Derived.WalkMore
namespace Go.Proofs.YtkkdblifgekmkaaDoor
open Go.RowKit
set_option maxRecDepth 100000 in
set_option maxHeartbeats 1000000 in
theorem Hdr_short {w : World} {bb gb sb rb : Nat} {s : List UInt8} {q : Nat} (F : Value) (h : BR w bb gb sb rb s s.length q) (hq : s.length < q + 46) (hq2 : q < s.length)
    (ea eu : Addr) (hE : ErrAt w 6 ea) (hU : ErrAt w 3 eu) (hge : ∀ x ∈ [bb, gb, sb], 6 < x) (hgu : ∀ x ∈ [bb, gb, sb], 3 < x) (hlt : ∀ x ∈ [bb, gb, sb, rb], x < w.heap.size) :
    Calls Tryd.prog 62 #[F, .iface 159 (.pointer (some ⟨bb, 0, none⟩))] w fun e w' => e = .returned (.iface 147 (.pointer (some eu))) ∧ ∀ B, B ≤ bb → B ≤ gb → B ≤ sb → B ≤ w.heap.size → Below B w w' := by
  have H := Lib.hid h
  have HE := Lib.hid (And.intro hE (And.intro hU (And.intro hge (And.intro hgu hlt))))
  clear h hE hU hge hgu hlt
  go_enter Tryd.func62, Tryd.ntmps62
  go_wp2_with fail
  go_step3
  go_wp2_with fail
  refine (ReadFull_short (H.out.kept ((Kept.refl [] w).alloc _) (by simp) (by simp) (by simp) (by simp)) w.heap.size 0 46 46 _ _ hq hq2 (by decide) (by decide) (Blk.new _ _ _) (by simp) (fun hx => Nat.lt_irrefl _ (HE.out.2.2.2.2 _ hx)) ea eu (HE.out.1.alloc _) (HE.out.2.1.alloc _)
    (fun x hx => ?_) (fun x hx => ?_)).mono ?_
  · simp only [List.mem_cons, List.not_mem_nil, or_false] at hx
    rcases hx with rfl | rfl | rfl | rfl
    · exact HE.out.2.2.1 _ (by simp)
    · exact HE.out.2.2.1 _ (by simp)
    · exact HE.out.2.2.1 _ (by simp)
    · exact HE.out.1.lt.1
  · simp only [List.mem_cons, List.not_mem_nil, or_false] at hx
    rcases hx with rfl | rfl | rfl | rfl
    · exact HE.out.2.2.2.1 _ (by simp)
    · exact HE.out.2.2.2.1 _ (by simp)
    · exact HE.out.2.2.2.1 _ (by simp)
    · exact HE.out.2.1.lt.1
  rintro e w1 ⟨rfl, hb⟩
  have HB := Lib.hid hb
  clear hb
  go_wp2
  try rw [Exit.noGoto_ret]
  go_ret
  exact ⟨rfl, fun B h1 h2 h3 h4 => ((Below.refl B w).alloc h4 _).trans (HB.out B h1 h2 h3 h4 (by simp; omega))⟩
theorem head_bytes {s : List UInt8} {q : Nat} (h : (s.drop q).take 4 = [80, 75, 5, 6]) (cs : Array Value) (hc : cs.size = 46) (hq : q + 46 ≤ s.length) :
    (putAll cs 0 (((s.drop q).take 46).map byteV))[0]? = some (.int .u8 ((80 : Nat) : Int)) ∧ (putAll cs 0 (((s.drop q).take 46).map byteV))[1]? = some (.int .u8 ((75 : Nat) : Int)) ∧
    (putAll cs 0 (((s.drop q).take 46).map byteV))[2]? = some (.int .u8 ((5 : Nat) : Int)) ∧ (putAll cs 0 (((s.drop q).take 46).map byteV))[3]? = some (.int .u8 ((6 : Nat) : Int)) := by
  have hl : (((s.drop q).take 46).map byteV).length = 46 := by rw [List.length_map, List.length_take, List.length_drop]; omega
  have hg : ∀ j, j < 4 → (putAll cs 0 (((s.drop q).take 46).map byteV))[j]? = ([80, 75, 5, 6].map byteV)[j]? := fun j hj => by
    rw [putAll_get _ _ _ _ (by rw [hl, hc]; omega), if_pos (by rw [hl]; omega), ← h, List.getElem?_map, List.getElem?_map, List.getElem?_take_of_lt (by omega), List.getElem?_take_of_lt hj]
    rfl
  exact ⟨(hg 0 (by decide)).trans rfl, (hg 1 (by decide)).trans rfl, (hg 2 (by decide)).trans rfl, (hg 3 (by decide)).trans rfl⟩
set_option maxRecDepth 100000 in
set_option maxHeartbeats 1000000 in
theorem Hdr_sig {w : World} {bb gb sb rb : Nat} {s : List UInt8} {L q : Nat} (F : Value) (h : BR w bb gb sb rb s L q) (hq : q + 46 ≤ L) (hsig : (s.drop q).take 4 = [80, 75, 5, 6])
    (ef : Addr) (hF : ErrAt w 2 ef) (hgf : ∀ x ∈ [bb, gb, sb], 2 < x) (hlt : ∀ x ∈ [bb, gb, sb, rb], x < w.heap.size) :
    Calls Tryd.prog 62 #[F, .iface 159 (.pointer (some ⟨bb, 0, none⟩))] w fun e w' => e = .returned (.iface 147 (.pointer (some ef))) ∧ ∀ B, B ≤ bb → B ≤ gb → B ≤ sb → B ≤ w.heap.size → Below B w w' := by
  have hLs := Lib.hid h.hL
  have H := Lib.hid h
  have HE := Lib.hid (And.intro hF (And.intro hgf hlt))
  have HS := Lib.hid hsig
  clear h hF hgf hlt hsig
  go_enter Tryd.func62, Tryd.ntmps62
  go_wp2_with fail
  go_step3
  go_wp2_with fail
  refine (ReadFull_full (H.out.kept ((Kept.refl [] w).alloc _) (by simp) (by simp) (by simp) (by simp)) w.heap.size 0 46 46 _ _ hq (by decide) (by decide) (by decide) (Blk.new _ _ _) (by simp) (fun hx => Nat.lt_irrefl _ (HE.out.2.2 _ hx))).mono ?_
  rintro e w1 ⟨rfl, hB, hD, hK⟩
  have K1 : Kept [bb, gb, sb] w w1 := ((Kept.refl [bb, gb, sb] w).alloc _).trans' hK (fun x hx => by simp at hx ⊢; omega)
  have hb := fun (cs : Array Value) (hc : cs.size = 46) => head_bytes HS.out cs hc (show q + 46 ≤ s.length by have := hLs.out; omega)
  have e0 := (hD.cell 0).trans (hb _ (by rfl)).1
  have e1 := (hD.cell 1).trans (hb _ (by rfl)).2.1
  have e2 := (hD.cell 2).trans (hb _ (by rfl)).2.2.1
  have e3 := (hD.cell 3).trans (hb _ (by rfl)).2.2.2
  have hG := hD.lt
  have hF1 : w1.cell? ⟨2, 0, none⟩ = some (.iface 147 (.pointer (some ef))) :=
    (K1.cell (p := ⟨2, 0, none⟩) HE.out.1.lt.1 (fun hx => Nat.lt_irrefl _ (HE.out.2.1 _ hx))).trans HE.out.1.1
  have hlF : 2 < w1.heap.size := Nat.lt_of_lt_of_le HE.out.1.lt.1 K1.size
  have HK1 := Lib.hid K1
  have HC := Lib.hid (And.intro e0 (And.intro e1 (And.intro e2 e3)))
  clear hB hD hK K1 hb e0 e1 e2 e3
  go_wp2_with (go_at_call 85; refine (rb32_v w1.heap.size w.heap.size 0 46 46 80 75 5 6 101010256 rfl (by decide) (by decide) (by decide) (by decide) (by decide) (by decide) _ ?_ ?_ ?_ ?_ ?_ ?_).mono ?_)
  · exact (Blk.new w1 _ _).cell 0
  · exact (Blk.new w1 _ _).frozen 0
  · exact (World.cell?_alloc_lt w1 _ _ hG).trans HC.out.1
  · exact (World.cell?_alloc_lt w1 _ _ hG).trans HC.out.2.1
  · exact (World.cell?_alloc_lt w1 _ _ hG).trans HC.out.2.2.1
  · exact (World.cell?_alloc_lt w1 _ _ hG).trans HC.out.2.2.2
  rintro e w2 ⟨rfl, k, o', rfl, -⟩
  go_wp2
  try rw [Exit.noGoto_ret]
  go_ret
  refine ⟨rfl, fun B h1 h2 h3 h4 => ?_⟩
  have hz := HK1.out.size
  exact (HK1.out.to_below h4 (fun x hx => by simp at hx; omega)).trans (((below_drewN ((Below.refl B w1).alloc (by omega) _) _).setCell (by simp; omega) _))
end Go.Proofs.YtkkdblifgekmkaaDoor
