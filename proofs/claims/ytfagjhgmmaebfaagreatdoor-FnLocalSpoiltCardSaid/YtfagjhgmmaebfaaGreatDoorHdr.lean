/- Contracts: bufio.NewReaderSize, bufio.NewReader: the blocks known whole. -/
import Derived.Test.YtfagjhgmmaebfaaGreatDoorFull
import Derived.Laws.MakeOwn
import Derived.Test.YtfagjhgmmaebfaaGreatDoorRba
import Derived.WalkMore
namespace Go.Proofs.YtfagjhgmmaebfaaGreatDoor
open Go.RowKit
theorem row_bytes0 {w : World} {base g n : Nat} {z : Value} (hz : z = .int .u8 0) (h : w.ownsRow base 5 1 (.slice (some ⟨g, 0, none⟩) n n) n (madeCells z.cells (n * 1)).toList) : Blk w g 5 ((List.replicate n (0 : UInt8)).map byteV).toArray := by
  subst hz
  rcases h.2 with ⟨h0, _⟩ | ⟨g', cap', cur, hv, hb, hh, _, _, hs, ht⟩
  · cases h0
  · injection hv with h1 h2 h3
    injection h1 with h1
    injection h1 with h1
    subst h1
    subst h3
    have e : cur.toList = (madeCells (Value.int .u8 0).cells (n * 1)).toList := by
      rw [← ht, List.take_of_length_le (by simp; omega)]
    have e2 : cur = madeCells (Value.int .u8 0).cells (n * 1) := Array.toList_inj.1 e
    refine Blk.cast (show Blk w g 5 cur from hh) ?_
    rw [e2]
    apply Array.ext_getElem?
    intro i
    simp [madeCells, byteV, Value.cells]
    by_cases hin : i < n
    · rw [Array.getElem?_eq_getElem (by simpa using hin), Array.getElem?_eq_getElem (by simpa using hin)]
      simp [Nat.mod_one]
    · rw [Array.getElem?_eq_none (by simp; omega), Array.getElem?_eq_none (by simp; omega)]
      rfl
/-- bufio.NewReaderSize over a section that stands at q: a reader that stands there. -/
theorem Buf_newB {w : World} {sb rb : Nat} {s : List UInt8} {L q : Nat} {b0 n0 i0 p0 : Value} (hs : Blk w sb 117 #[.iface 54 (.pointer (some ⟨rb, 0, none⟩)), b0, .int .i64 q, .int .i64 L, n0])
    (hr : Blk w rb 89 #[.string ⟨s.toArray⟩, i0, p0]) (hL : L ≤ s.length) (hq : q ≤ L) (h32 : s.length ≤ 4294967295) :
    Calls Tryz.prog 51 #[.iface 94 (.pointer (some ⟨sb, 0, none⟩)), .int .i64 4096] w fun e w' => ∃ bb gb, w.heap.size ≤ bb ∧ w.heap.size ≤ gb ∧ bb < w'.heap.size ∧ gb < w'.heap.size ∧ e = .returned (.pointer (some ⟨bb, 0, none⟩)) ∧ Below w.heap.size w w' ∧ BR w' bb gb sb rb s L q := by
  obtain ⟨i0', hi, hz0, hz1, hz2⟩ := info_parts infoU8
  have hta := assert_sect
  have HS := Lib.hid (And.intro hs hr)
  clear hs hr
  go_enter Tryz.func51, Tryz.ntmps51
  go_wp2_with (at_make; refine wpList_make_full _ rfl _ _ 46 rfl w.heap.size 5 i0' (.int .u8 0) 1 Tryz.underlying46 hi hz0 hz1 .i64 .i64 _ _ 4096 rfl rfl ?m1 ?m2 ?m3 ?m4 ?m5 ?_)
  case m1 => rfl
  case m2 => rfl
  case m3 => rw [hz2]; decide
  case m4 => decide
  case m5 => simp
  intro w0 hown hgr
  have hg := row_bytes0 rfl hown
  have hb := (Blk.new w 145 _).grown hgr (by simp)
  have hb0 : Below w.heap.size w w0 := (((Below.refl _ _).alloc (Nat.le_refl _) _).trans ((Below.refl _ _).grown hgr (by simp) (fun q hq => by cases hq)))
  have hz0 : w.heap.size + 1 ≤ w0.heap.size := hb.lt
  have hgl : w.heap.size + 1 < w0.heap.size := by have := hg.lt; simpa using this
  have HX := Lib.hid (And.intro hg (And.intro hb hb0))
  clear hg hb hb0 hown hgr
  go_wp2_with (go_at_call 69; refine (Buf_reset _ _ _ _ _ _ _ _ _ _ _ (HX.out.2.1.cell 0) (HX.out.2.1.cell 1) (HX.out.2.1.cell 2) (HX.out.2.1.cell 3) (HX.out.2.1.cell 4) (HX.out.2.1.cell 5) (HX.out.2.1.cell 6) HX.out.2.1.frozen).mono ?_; rintro e w1 ⟨rfl, rfl⟩)
  go_ret
  have hg1 := HX.out.1
  have hne : w.heap.size + 1 ≠ w.heap.size := by omega
  have hsl : sb < w.heap.size := HS.out.1.lt
  have hrl : rb < w.heap.size := HS.out.2.lt
  have hs0 := HS.out.1.below HX.out.2.2 hsl
  have hr0 := HS.out.2.below HX.out.2.2 hrl
  have hse : sb ≠ w.heap.size := by omega
  have hre : rb ≠ w.heap.size := by omega
  refine ⟨w.heap.size, w.heap.size + 1, Nat.le_refl _, Nat.le_succ _, ?_, ?_, rfl, ?_, 0, 0, List.replicate 4096 0, .int .i64 (-1), .int .i64 (-1), b0, n0, i0, p0, ⟨?_, ?_, List.length_replicate, Nat.le_refl _, Nat.zero_le _, rfl, by simpa using hq, hL, h32, ?_, ?_⟩⟩
  · simp; omega
  · simp; omega
  · exact ((((((HX.out.2.2.setCell (Nat.le_refl _) _).setCell (Nat.le_refl _) _).setCell (Nat.le_refl _) _).setCell (Nat.le_refl _) _).setCell (Nat.le_refl _) _).setCell (Nat.le_refl _) _).setCell (Nat.le_refl _) _
  · exact Blk.cast (((((((HX.out.2.1.set_ 0 _).set_ 1 _).set_ 2 _).set_ 3 _).set_ 4 _).set_ 5 _).set_ 6 _) (by simp)
  · exact ((((((hg1.far hne _).far hne _).far hne _).far hne _).far hne _).far hne _).far hne _
  · exact Blk.cast (((((((hs0.far hse _).far hse _).far hse _).far hse _).far hse _).far hse _).far hse _) (by simp)
  · exact ((((((hr0.far hre _).far hre _).far hre _).far hre _).far hre _).far hre _).far hre _
theorem Buf_newRB {w : World} {sb rb : Nat} {s : List UInt8} {L q : Nat} {b0 n0 i0 p0 : Value} (hs : Blk w sb 117 #[.iface 54 (.pointer (some ⟨rb, 0, none⟩)), b0, .int .i64 q, .int .i64 L, n0])
    (hr : Blk w rb 89 #[.string ⟨s.toArray⟩, i0, p0]) (hL : L ≤ s.length) (hq : q ≤ L) (h32 : s.length ≤ 4294967295) :
    Calls Tryz.prog 43 #[.iface 94 (.pointer (some ⟨sb, 0, none⟩))] w fun e w' => ∃ bb gb, w.heap.size ≤ bb ∧ w.heap.size ≤ gb ∧ bb < w'.heap.size ∧ gb < w'.heap.size ∧ e = .returned (.pointer (some ⟨bb, 0, none⟩)) ∧ Below w.heap.size w w' ∧ BR w' bb gb sb rb s L q := by
  have H := Lib.hid (Buf_newB hs hr hL hq h32)
  clear hs hr
  go_enter Tryz.func43, Tryz.ntmps43
  go_wp2_with fail
  refine H.out.mono ?_
  rintro e w1 ⟨bb, gb, h1, h2, h3, h4, rfl, hb, hB⟩
  have HB := Lib.hid (And.intro hb hB)
  clear hb hB
  go_wp2
  go_ret
  exact ⟨bb, gb, h1, h2, h3, h4, rfl, HB.out.1, HB.out.2⟩
end Go.Proofs.YtfagjhgmmaebfaaGreatDoor
/- Contracts: readDirectoryHeader where no header of a file stands: the text ends, or another signature stands there. -/
namespace Go.Proofs.YtfagjhgmmaebfaaGreatDoor
open Go.RowKit
set_option maxRecDepth 100000 in
set_option maxHeartbeats 1000000 in
theorem Hdr_short {w : World} {bb gb sb rb : Nat} {s : List UInt8} {q : Nat} (F : Value) (h : BR w bb gb sb rb s s.length q) (hq : s.length < q + 46) (hq2 : q < s.length)
    (ea eu : Addr) (hE : ErrAt w 5 ea) (hU : ErrAt w 4 eu) (hge : ∀ x ∈ [bb, gb, sb], 5 < x) (hgu : ∀ x ∈ [bb, gb, sb], 4 < x) (hlt : ∀ x ∈ [bb, gb, sb, rb], x < w.heap.size) :
    Calls Tryz.prog 44 #[F, .iface 108 (.pointer (some ⟨bb, 0, none⟩))] w fun e w' => e = .returned (.iface 99 (.pointer (some eu))) ∧ Kept [bb, gb, sb] w w' := by
  have H := Lib.hid h
  have HE := Lib.hid (And.intro hE (And.intro hU (And.intro hge (And.intro hgu hlt))))
  clear h hE hU hge hgu hlt
  go_enter Tryz.func44, Tryz.ntmps44
  go_wp2_with fail
  go_step3
  go_wp2_with fail
  refine (ReadFull_short (H.out.kept ((Kept.refl [] w).alloc _) (by simp) (by simp) (by simp) (by simp)) w.heap.size 0 46 46 _ _ hq hq2 (by decide) (by decide) (Blk.new _ _ _) (by simp) (fun hx => Nat.lt_irrefl _ (HE.out.2.2.2.2 _ hx)) ea eu (HE.out.1.alloc _) (HE.out.2.1.alloc _)
    (fun x hx => ?_) (fun x hx => ?_)).mono ?_
  · simp only [List.mem_cons, List.not_mem_nil, or_false] at hx
    rcases hx with rfl | rfl | rfl | rfl
    · exact HE.out.2.2.1 _ (by simp)
    · exact HE.out.2.2.1 _ (by simp)
    · exact HE.out.2.2.1 _ (by simp)
    · exact HE.out.1.lt.1
  · simp only [List.mem_cons, List.not_mem_nil, or_false] at hx
    rcases hx with rfl | rfl | rfl | rfl
    · exact HE.out.2.2.2.1 _ (by simp)
    · exact HE.out.2.2.2.1 _ (by simp)
    · exact HE.out.2.2.2.1 _ (by simp)
    · exact HE.out.2.1.lt.1
  rintro e w1 ⟨rfl, hb⟩
  have HB := Lib.hid hb
  clear hb
  go_wp2
  try rw [Exit.noGoto_ret]
  go_ret
  exact ⟨rfl, ((Kept.refl [bb, gb, sb] w).alloc _).trans' HB.out (fun x hx => by simp at hx ⊢; omega)⟩
theorem head_bytes {s : List UInt8} {q : Nat} (h : (s.drop q).take 4 = [80, 75, 5, 6]) (cs : Array Value) (hc : cs.size = 46) (hq : q + 46 ≤ s.length) :
    (putAll cs 0 (((s.drop q).take 46).map byteV))[0]? = some (.int .u8 ((80 : Nat) : Int)) ∧ (putAll cs 0 (((s.drop q).take 46).map byteV))[1]? = some (.int .u8 ((75 : Nat) : Int)) ∧
    (putAll cs 0 (((s.drop q).take 46).map byteV))[2]? = some (.int .u8 ((5 : Nat) : Int)) ∧ (putAll cs 0 (((s.drop q).take 46).map byteV))[3]? = some (.int .u8 ((6 : Nat) : Int)) := by
  have hl : (((s.drop q).take 46).map byteV).length = 46 := by rw [List.length_map, List.length_take, List.length_drop]; omega
  have hg : ∀ j, j < 4 → (putAll cs 0 (((s.drop q).take 46).map byteV))[j]? = ([80, 75, 5, 6].map byteV)[j]? := fun j hj => by
    rw [putAll_get _ _ _ _ (by rw [hl, hc]; omega), if_pos (by rw [hl]; omega), ← h, List.getElem?_map, List.getElem?_map, List.getElem?_take_of_lt (by omega), List.getElem?_take_of_lt hj]
    rfl
  exact ⟨(hg 0 (by decide)).trans rfl, (hg 1 (by decide)).trans rfl, (hg 2 (by decide)).trans rfl, (hg 3 (by decide)).trans rfl⟩
set_option maxRecDepth 100000 in
set_option maxHeartbeats 1000000 in
theorem Hdr_sig {w : World} {bb gb sb rb : Nat} {s : List UInt8} {L q : Nat} (F : Value) (h : BR w bb gb sb rb s L q) (hq : q + 46 ≤ L) (hsig : (s.drop q).take 4 = [80, 75, 5, 6])
    (ef : Addr) (hF : ErrAt w 1 ef) (hgf : ∀ x ∈ [bb, gb, sb], 1 < x) (hlt : ∀ x ∈ [bb, gb, sb, rb], x < w.heap.size) :
    Calls Tryz.prog 44 #[F, .iface 108 (.pointer (some ⟨bb, 0, none⟩))] w fun e w' => e = .returned (.iface 99 (.pointer (some ef))) ∧ Kept [bb, gb, sb] w w' := by
  have hLs := Lib.hid h.hL
  have H := Lib.hid h
  have HE := Lib.hid (And.intro hF (And.intro hgf hlt))
  have HS := Lib.hid hsig
  clear h hF hgf hlt hsig
  go_enter Tryz.func44, Tryz.ntmps44
  go_wp2_with fail
  go_step3
  go_wp2_with fail
  refine (ReadFull_full (H.out.kept ((Kept.refl [] w).alloc _) (by simp) (by simp) (by simp) (by simp)) w.heap.size 0 46 46 _ _ hq (by decide) (by decide) (by decide) (Blk.new _ _ _) (by simp) (fun hx => Nat.lt_irrefl _ (HE.out.2.2 _ hx))).mono ?_
  rintro e w1 ⟨rfl, hB, hD, hK⟩
  have K1 : Kept [bb, gb, sb] w w1 := ((Kept.refl [bb, gb, sb] w).alloc _).trans' hK (fun x hx => by simp at hx ⊢; omega)
  have hb := fun (cs : Array Value) (hc : cs.size = 46) => head_bytes HS.out cs hc (show q + 46 ≤ s.length by have := hLs.out; omega)
  have e0 := (hD.cell 0).trans (hb _ (by rfl)).1
  have e1 := (hD.cell 1).trans (hb _ (by rfl)).2.1
  have e2 := (hD.cell 2).trans (hb _ (by rfl)).2.2.1
  have e3 := (hD.cell 3).trans (hb _ (by rfl)).2.2.2
  have hG := hD.lt
  have hF1 : w1.cell? ⟨1, 0, none⟩ = some (.iface 99 (.pointer (some ef))) :=
    (K1.cell (p := ⟨1, 0, none⟩) HE.out.1.lt.1 (fun hx => Nat.lt_irrefl _ (HE.out.2.1 _ hx))).trans HE.out.1.1
  have hlF : 1 < w1.heap.size := Nat.lt_of_lt_of_le HE.out.1.lt.1 K1.size
  have HK1 := Lib.hid K1
  have HC := Lib.hid (And.intro e0 (And.intro e1 (And.intro e2 e3)))
  clear hB hD hK K1 hb e0 e1 e2 e3
  go_wp2_with (go_at_call 46; refine (rb32_v w1.heap.size w.heap.size 0 46 46 80 75 5 6 101010256 rfl (by decide) (by decide) (by decide) (by decide) (by decide) (by decide) _ ?_ ?_ ?_ ?_ ?_ ?_).mono ?_)
  · exact (Blk.new w1 _ _).cell 0
  · exact (Blk.new w1 _ _).frozen 0
  · exact (World.cell?_alloc_lt w1 _ _ hG).trans HC.out.1
  · exact (World.cell?_alloc_lt w1 _ _ hG).trans HC.out.2.1
  · exact (World.cell?_alloc_lt w1 _ _ hG).trans HC.out.2.2.1
  · exact (World.cell?_alloc_lt w1 _ _ hG).trans HC.out.2.2.2
  rintro e w2 ⟨rfl, k, o', rfl, -⟩
  go_wp2
  try rw [Exit.noGoto_ret]
  go_ret
  have hz := HK1.out.size
  exact ⟨rfl, ((HK1.out.alloc _).drewN _).setCell (.inr (by simp; omega)) _⟩
end Go.Proofs.YtfagjhgmmaebfaaGreatDoor
