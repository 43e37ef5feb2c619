/- Contracts: spec.Good, spec.Same. -/
import Derived.Test.YtfagjhgmmaebfaaGreatDoorSpf
import Derived.Test.YtfagjhgmmaebfaaGreatDoorSpi
import Derived.Test.YtfagjhgmmaebfaaGreatDoorHkr
import Derived.Laws.StructEq
namespace Go.Proofs.YtfagjhgmmaebfaaGreatDoor
open Go.RowKit
/-- What Good asks of an entry. -/
def goodE (e : En) : Bool := hdOk e && decide (e.data.length ≤ 1048576)
theorem goodE_okA {e : En} (h : goodE e = true) (hp : e.packed = (e.data.length : Int)) (hs : e.size = (e.data.length : Int)) : e.OkA := by
  unfold goodE at h
  rw [Bool.and_eq_true, decide_eq_true_eq] at h
  obtain ⟨⟨a1, a2, a3, a4, a5, a6⟩, ⟨b1, b2, b3, b4⟩, c1, c2, c3⟩ := hdOk_parts h.1
  exact ⟨c1, c2, c3, h.2, a1, a2, a3, a4, a5, a6, b1, hp, hs, b4⟩
set_option maxRecDepth 100000 in
set_option maxHeartbeats 4000000 in
theorem Good_any {w : World} (A : Option Addr) (c : Nat) (L : List En) (cl : List UInt8) (hln : L.length ≤ 2147483647) (hcm : cl.length ≤ 2147483647) (hr : Reads w w.heap.size 15 A L.length (L.flatMap En.cells)) (hL : ∀ e ∈ L, e.Lens ∧ e.packed = (e.data.length : Int) ∧ e.size = (e.data.length : Int)) :
    Calls Tryz.prog 6 #[.slice A L.length c, .string ⟨cl.toArray⟩] w fun e' w' => (∃ b, e' = .returned (.bool b) ∧ (b = true → (∀ e ∈ L, e.OkA) ∧ L.length ≤ 1000 ∧ cl.length ≤ 65535 ∧ endsL (archB (L.map itemR) cl) = 1)) ∧ Below w.heap.size w w' := by
  have hsz : ∀ l : List UInt8, (ByteArray.mk l.toArray).size = l.length := fun _ => rfl
  have H := Lib.hid (And.intro hr hL)
  clear hr hL
  go_enter Tryz.func6, Tryz.ntmps6
  go_wp2_with fail
  go_loopw [9] (fun s wr => ∃ k : Nat, s = .int .i64 k ∧ k ≤ L.length ∧ Hid ((∀ e ∈ L.take k, e.OkA) ∧ Below w.heap.size w wr)) (fun s _ => L.length - (intOf s).toNat)
  case atStart => exact ⟨0, rfl, Nat.zero_le _, Lib.hid ⟨by simp, Below.refl _ _⟩⟩
  case round =>
    obtain ⟨k, rfl, hk, HI⟩ := hrel
    by_cases hlt : k < L.length
    · obtain ⟨ad, hA, hab, hcell⟩ := H.out.1.2 (by omega)
      subst hA
      obtain ⟨e, he⟩ : ∃ e, e = L[k] := ⟨_, rfl⟩
      have hcs : ∀ (j : Nat) (v : Value), e.cells[j]? = some v → wr.cell? (ad.add (k * 15 + j)) = some v := fun j v hj => by
        have hj15 : j < 15 := by
          have := (List.getElem?_eq_some_iff.1 hj).1; rwa [En.cells_length] at this
        have := hcell (k * 15 + j) v (by rw [flat_cells L k j hlt hj15, ← he]; exact hj)
        rw [← this]
        exact HI.out.2.cell (by rw [block_of_add]; exact hab)
      have hq := H.out.2 _ (List.getElem_mem hlt)
      rw [← he] at hq
      have hld := hq.1.data
      obtain ⟨b1, hb1⟩ : ∃ b, hdOk e = b := ⟨_, rfl⟩
      have HH := Lib.hid (HeaderOk_is e hq.1 b1 hb1)
      have HE := Lib.hid (And.intro he (And.intro hq hb1))
      have c0 : wr.cell? (ad.add (k * 15)) = some (.string ⟨e.name.toArray⟩) := hcs 0 _ rfl
      have c1 : wr.cell? ⟨(ad.add (k * 15)).block, (ad.add (k * 15)).off + 1, none⟩ = some (.string ⟨e.comment.toArray⟩) := by rw [add_off _ _ _ (by decide)]; exact hcs 1 _ rfl
      have c2 : wr.cell? ⟨(ad.add (k * 15)).block, (ad.add (k * 15)).off + 2, none⟩ = some (.string ⟨e.extra.toArray⟩) := by rw [add_off _ _ _ (by decide)]; exact hcs 2 _ rfl
      have c3 : wr.cell? ⟨(ad.add (k * 15)).block, (ad.add (k * 15)).off + 3, none⟩ = some (.bool e.nu) := by rw [add_off _ _ _ (by decide)]; exact hcs 3 _ rfl
      have c4 : wr.cell? ⟨(ad.add (k * 15)).block, (ad.add (k * 15)).off + 4, none⟩ = some (.int .i64 e.creator) := by rw [add_off _ _ _ (by decide)]; exact hcs 4 _ rfl
      have c5 : wr.cell? ⟨(ad.add (k * 15)).block, (ad.add (k * 15)).off + 5, none⟩ = some (.int .i64 e.reader) := by rw [add_off _ _ _ (by decide)]; exact hcs 5 _ rfl
      have c6 : wr.cell? ⟨(ad.add (k * 15)).block, (ad.add (k * 15)).off + 6, none⟩ = some (.int .i64 e.flags) := by rw [add_off _ _ _ (by decide)]; exact hcs 6 _ rfl
      have c7 : wr.cell? ⟨(ad.add (k * 15)).block, (ad.add (k * 15)).off + 7, none⟩ = some (.int .i64 e.method) := by rw [add_off _ _ _ (by decide)]; exact hcs 7 _ rfl
      have c8 : wr.cell? ⟨(ad.add (k * 15)).block, (ad.add (k * 15)).off + 8, none⟩ = some (.int .i64 e.time) := by rw [add_off _ _ _ (by decide)]; exact hcs 8 _ rfl
      have c9 : wr.cell? ⟨(ad.add (k * 15)).block, (ad.add (k * 15)).off + 9, none⟩ = some (.int .i64 e.date) := by rw [add_off _ _ _ (by decide)]; exact hcs 9 _ rfl
      have c10 : wr.cell? ⟨(ad.add (k * 15)).block, (ad.add (k * 15)).off + 10, none⟩ = some (.int .i64 e.crc) := by rw [add_off _ _ _ (by decide)]; exact hcs 10 _ rfl
      have c11 : wr.cell? ⟨(ad.add (k * 15)).block, (ad.add (k * 15)).off + 11, none⟩ = some (.int .i64 e.packed) := by rw [add_off _ _ _ (by decide)]; exact hcs 11 _ rfl
      have c12 : wr.cell? ⟨(ad.add (k * 15)).block, (ad.add (k * 15)).off + 12, none⟩ = some (.int .i64 e.size) := by rw [add_off _ _ _ (by decide)]; exact hcs 12 _ rfl
      have c13 : wr.cell? ⟨(ad.add (k * 15)).block, (ad.add (k * 15)).off + 13, none⟩ = some (.int .i64 e.external) := by rw [add_off _ _ _ (by decide)]; exact hcs 13 _ rfl
      have c14 : wr.cell? ⟨(ad.add (k * 15)).block, (ad.add (k * 15)).off + 14, none⟩ = some (.string ⟨e.data.toArray⟩) := by rw [add_off _ _ _ (by decide)]; exact hcs 14 _ rfl
      clear hcs hcell he hab hq hb1
      go_upto_region 4 with (fail)
      refine atW (fun W => Blk W wr.heap.size 41 #[.string ⟨e.name.toArray⟩, .string ⟨e.comment.toArray⟩, .string ⟨e.extra.toArray⟩, .bool e.nu, .int .i64 e.creator, .int .i64 e.reader, .int .i64 e.flags, .int .i64 e.method, .int .i64 e.time, .int .i64 e.date, .int .i64 e.crc, .int .i64 e.packed, .int .i64 e.size, .int .i64 e.external, .string ⟨e.data.toArray⟩] ∧ Below w.heap.size w W) ⟨Blk.new _ _ _, HI.out.2.alloc HI.out.2.size _⟩ ?_
      rintro W ⟨hW, hbW⟩
      obtain ⟨g, hg⟩ : ∃ g, g = wr.heap.size := ⟨_, rfl⟩
      rw [← hg] at hW ⊢
      have k0 : W.cell? ⟨g, 0, none⟩ = some (.string ⟨e.name.toArray⟩) := hW.cell 0
      have k1 : W.cell? ⟨g, 1, none⟩ = some (.string ⟨e.comment.toArray⟩) := hW.cell 1
      have k2 : W.cell? ⟨g, 2, none⟩ = some (.string ⟨e.extra.toArray⟩) := hW.cell 2
      have k3 : W.cell? ⟨g, 3, none⟩ = some (.bool e.nu) := hW.cell 3
      have k4 : W.cell? ⟨g, 4, none⟩ = some (.int .i64 e.creator) := hW.cell 4
      have k5 : W.cell? ⟨g, 5, none⟩ = some (.int .i64 e.reader) := hW.cell 5
      have k6 : W.cell? ⟨g, 6, none⟩ = some (.int .i64 e.flags) := hW.cell 6
      have k7 : W.cell? ⟨g, 7, none⟩ = some (.int .i64 e.method) := hW.cell 7
      have k8 : W.cell? ⟨g, 8, none⟩ = some (.int .i64 e.time) := hW.cell 8
      have k9 : W.cell? ⟨g, 9, none⟩ = some (.int .i64 e.date) := hW.cell 9
      have k10 : W.cell? ⟨g, 10, none⟩ = some (.int .i64 e.crc) := hW.cell 10
      have k11 : W.cell? ⟨g, 11, none⟩ = some (.int .i64 e.packed) := hW.cell 11
      have k12 : W.cell? ⟨g, 12, none⟩ = some (.int .i64 e.size) := hW.cell 12
      have k13 : W.cell? ⟨g, 13, none⟩ = some (.int .i64 e.external) := hW.cell 13
      have k14 : W.cell? ⟨g, 14, none⟩ = some (.string ⟨e.data.toArray⟩) := hW.cell 14
      have HC := Lib.hid (And.intro hbW hW)
      clear hW hbW hg c0 c1 c2 c3 c4 c5 c6 c7 c8 c9 c10 c11 c12 c13 c14
      go_wp2_with fail
      refine (HH.out _).mono ?_
      rintro e' w1 ⟨rfl, hx⟩
      have z14 : w1.cell? ⟨g, 14, none⟩ = some (.string ⟨e.data.toArray⟩) := (HC.out.2.below hx HC.out.2.lt).cell 14
      have HB := Lib.hid (HC.out.1.trans (hx.mono HC.out.1.size))
      clear hx k0 k1 k2 k3 k4 k5 k6 k7 k8 k9 k10 k11 k12 k13 k14
      cases b1
      · go_wp2
        go_ret
        exact ⟨⟨false, rfl, fun h => Bool.noConfusion h⟩, HB.out⟩
      by_cases hdl : 1048576 < e.data.length
      · go_wp2
        go_ret
        exact ⟨⟨false, rfl, fun h => Bool.noConfusion h⟩, HB.out⟩
      · go_wp2
        go_roundw
        case rel =>
          refine ⟨k + 1, by go_num, by omega, Lib.hid ⟨fun x hx => ?_, HB.out⟩⟩
          rw [List.take_succ_eq_append_getElem hlt] at hx
          rcases List.mem_append.1 hx with hx | hx
          · exact HI.out.1 x hx
          · obtain rfl := List.mem_singleton.1 hx
            rw [← HE.out.1]
            exact goodE_okA (by unfold goodE; rw [HE.out.2.2]; simp; omega) HE.out.2.1.2.1 HE.out.2.1.2.2
        case measure => simp [intOf]; omega
    · obtain rfl : k = L.length := by omega
      have hall := HI.out.1
      rw [List.take_length] at hall
      by_cases h1 : L.length ≤ 1000
      · by_cases h2 : cl.length ≤ 65535
        · have HA := Lib.hid (Archive_any A c L cl (H.out.1.kept (Kept.of_below HI.out.2 []) (by simp)) hall h1 h2)
          have hsh := items_short L hall h1 L.length
          rw [List.take_of_length_le (by simp)] at hsh
          have hal : (archB (L.map itemR) cl).length ≤ 4294967295 := by
            have := endL_length (L.map itemR).length (dirB 0 (L.map itemR)).length (filesB (L.map itemR)).length cl
            simp only [archB, List.length_append]
            omega
          have HEn := Lib.hid (fun w => Ends_any (archB (L.map itemR) cl) (by omega) w)
          have HX := Lib.hid (And.intro hall (And.intro h1 h2))
          obtain ⟨n, hn⟩ : ∃ n, n = endsL (archB (L.map itemR) cl) := ⟨_, rfl⟩
          rw [← hn] at HEn
          have HN := Lib.hid hn
          have h1' : (L.length : Int) ≤ 1000 := by omega
          have h2' : (cl.length : Int) ≤ 65535 := by omega
          clear hall hsh hal hn
          go_wp2_with fail
          refine HA.out.mono ?_
          rintro e' w1 ⟨rfl, hx⟩
          have HB := Lib.hid (HI.out.2.trans (hx.mono HI.out.2.size))
          clear hx
          go_wp2_with fail
          refine (HEn.out _).mono ?_
          rintro e' w2 ⟨rfl, rfl⟩
          go_wp2
          go_ret
          refine ⟨⟨_, rfl, fun h => ?_⟩, HB.out⟩
          refine ⟨HX.out.1, HX.out.2.1, HX.out.2.2, ?_⟩
          rw [← HN.out]
          simp at h
          omega
        · have h2' : ¬ (cl.length : Int) ≤ 65535 := by omega
          go_wp2
          go_ret
          exact ⟨rfl, HI.out.2⟩
      · have h1' : ¬ (L.length : Int) ≤ 1000 := by omega
        go_wp2
        go_ret
        exact ⟨rfl, HI.out.2⟩
@[go_sem] theorem eqHd (a0 a1 a2 : ByteArray) (a3 : Bool) (a4 a5 a6 a7 a8 a9 a10 a11 a12 a13 : Int) (w : World) : (Op.equalIn 10000 39 (.agg #[.string a0, .string a1, .string a2, .bool a3, .int .i64 a4, .int .i64 a5, .int .i64 a6, .int .i64 a7, .int .i64 a8, .int .i64 a9, .int .i64 a10, .int .i64 a11, .int .i64 a12, .int .i64 a13]) (.agg #[.string a0, .string a1, .string a2, .bool a3, .int .i64 a4, .int .i64 a5, .int .i64 a6, .int .i64 a7, .int .i64 a8, .int .i64 a9, .int .i64 a10, .int .i64 a11, .int .i64 a12, .int .i64 a13])).run Tryz.prog w = .ok true w := by
  have u3 := Tryz.underlying3
  have u9 := Tryz.underlying9
  have u4 := Tryz.underlying4
  have hS : Tryz.prog.underlying 39 = some (.struct (Tryz.prog.fieldsOf 39)) := by kernel_rfl
  have hp : Tryz.prog.stoodInHeld 39 = false := by kernel_rfl
  rw [show (10000 : Nat) = 9999 + 1 from rfl, run_equalIn_agg w 9999 39 _ _ hS hp]
  simp only [Program.fieldsOf, Tryz.underlying39]
  go_simp
theorem hc_length (e : En) : (hcells (hdR e) (nonU (hdR e))).length = 14 := rfl
theorem hc_flat (L : List En) (k j : Nat) (h : k < L.length) (hj : j < 14) : (L.flatMap (fun e => hcells (hdR e) (nonU (hdR e))))[k * 14 + j]? = (hcells (hdR L[k]) (nonU (hdR L[k])))[j]? := by
  induction L generalizing k with
  | nil => simp at h
  | cons e r ih =>
    rw [List.flatMap_cons]
    rcases k with _ | k
    · rw [List.getElem?_append_left (by rw [hc_length]; omega)]
      simp
    · rw [List.getElem?_append_right (by rw [hc_length]; omega), hc_length]
      have := ih k (by simpa using h)
      rw [show (k + 1) * 14 + j - 14 = k * 14 + j by omega, this]
      rfl
set_option maxRecDepth 100000 in
set_option maxHeartbeats 4000000 in
theorem Same_any {w : World} (A B : Option Addr) (ca cb : Nat) (L : List En) (cl : List UInt8) (hn : L.length ≤ 1000) (hA : Reads w w.heap.size 14 A L.length (L.flatMap (fun e => hcells (hdR e) (nonU (hdR e))))) (hB : Reads w w.heap.size 14 B L.length (L.flatMap (fun e => hcells (hdR e) (nonU (hdR e))))) :
    Calls Tryz.prog 12 #[.agg #[.bool true, .string ⟨cl.toArray⟩, .slice A L.length ca], .slice B L.length cb, .string ⟨cl.toArray⟩] w fun e' w' => e' = .returned (.bool true) ∧ Below w.heap.size w w' := by
  have H := Lib.hid (And.intro hA hB)
  clear hA hB
  go_enter Tryz.func12, Tryz.ntmps12
  go_upto_region 1 with (fail)
  refine atW (fun W => Blk W w.heap.size 33 #[.bool true, .string ⟨cl.toArray⟩, .slice A L.length ca] ∧ Below w.heap.size w W) ⟨Blk.new _ _ _, (Below.refl _ _).alloc (Nat.le_refl _) _⟩ ?_
  rintro W ⟨hW, hbW⟩
  have k0 : W.cell? ⟨w.heap.size, 0, none⟩ = some (.bool true) := hW.cell 0
  have k1 : W.cell? ⟨w.heap.size, 1, none⟩ = some (.string ⟨cl.toArray⟩) := hW.cell 1
  have k2 : W.cell? ⟨w.heap.size, 2, none⟩ = some (.slice A L.length ca) := hW.cell 2
  have HW := Lib.hid (And.intro hW hbW)
  clear hW hbW
  go_wp2_with fail
  go_loopw [7] (fun s wr => ∃ k : Nat, s = .int .i64 k ∧ k ≤ L.length ∧ Hid (∃ n, wr = W.drewN n)) (fun s _ => L.length - (intOf s).toNat)
  case atStart => exact ⟨0, rfl, Nat.zero_le _, Lib.hid ⟨0, rfl⟩⟩
  case round =>
    obtain ⟨k, rfl, hk, HI⟩ := hrel
    have q2 : wr.cell? ⟨w.heap.size, 2, none⟩ = some (.slice A L.length ca) := by obtain ⟨n, hn⟩ := HI.out; rw [hn]; exact k2
    by_cases hlt : k < L.length
    · obtain ⟨ad, hA, hab, hca⟩ := H.out.1.2 (by omega)
      obtain ⟨bd, hB, hbb, hcb⟩ := H.out.2.2 (by omega)
      subst hA
      subst hB
      obtain ⟨h, hh⟩ : ∃ h, h = hdR L[k] := ⟨_, rfl⟩
      obtain ⟨nu, hnu⟩ : ∃ nu, nu = nonU (hdR L[k]) := ⟨_, rfl⟩
      have hwc : ∀ p : Addr, p.block < w.heap.size → wr.cell? p = w.cell? p := fun p hp => by
        obtain ⟨n, hn⟩ := HI.out
        rw [hn, World.cell?_drewN]
        exact HW.out.2.cell hp
      have hcs : ∀ (j : Nat) (v : Value), (hcells h nu)[j]? = some v → wr.cell? (ad.add (k * 14 + j)) = some v ∧ wr.cell? (bd.add (k * 14 + j)) = some v := fun j v hj => by
        have hj14 : j < 14 := (List.getElem?_eq_some_iff.1 hj).1
        rw [hh, hnu] at hj
        exact ⟨(hwc _ (by rw [block_of_add]; exact hab)).trans (hca (k * 14 + j) v (by rw [hc_flat L k j hlt hj14]; exact hj)), (hwc _ (by rw [block_of_add]; exact hbb)).trans (hcb (k * 14 + j) v (by rw [hc_flat L k j hlt hj14]; exact hj))⟩
      have a0 : wr.cell? (ad.add (k * 14)) = some (.string ⟨h.name.toArray⟩) := (hcs 0 _ rfl).1
      have b0 : wr.cell? (bd.add (k * 14)) = some (.string ⟨h.name.toArray⟩) := (hcs 0 _ rfl).2
      have a1 : wr.cell? ⟨(ad.add (k * 14)).block, (ad.add (k * 14)).off + 1, none⟩ = some (.string ⟨h.comment.toArray⟩) := by rw [add_off _ _ _ (by decide)]; exact (hcs 1 _ rfl).1
      have b1 : wr.cell? ⟨(bd.add (k * 14)).block, (bd.add (k * 14)).off + 1, none⟩ = some (.string ⟨h.comment.toArray⟩) := by rw [add_off _ _ _ (by decide)]; exact (hcs 1 _ rfl).2
      have a2 : wr.cell? ⟨(ad.add (k * 14)).block, (ad.add (k * 14)).off + 2, none⟩ = some (.string ⟨h.extra.toArray⟩) := by rw [add_off _ _ _ (by decide)]; exact (hcs 2 _ rfl).1
      have b2 : wr.cell? ⟨(bd.add (k * 14)).block, (bd.add (k * 14)).off + 2, none⟩ = some (.string ⟨h.extra.toArray⟩) := by rw [add_off _ _ _ (by decide)]; exact (hcs 2 _ rfl).2
      have a3 : wr.cell? ⟨(ad.add (k * 14)).block, (ad.add (k * 14)).off + 3, none⟩ = some (.bool nu) := by rw [add_off _ _ _ (by decide)]; exact (hcs 3 _ rfl).1
      have b3 : wr.cell? ⟨(bd.add (k * 14)).block, (bd.add (k * 14)).off + 3, none⟩ = some (.bool nu) := by rw [add_off _ _ _ (by decide)]; exact (hcs 3 _ rfl).2
      have a4 : wr.cell? ⟨(ad.add (k * 14)).block, (ad.add (k * 14)).off + 4, none⟩ = some (.int .i64 h.creator) := by rw [add_off _ _ _ (by decide)]; exact (hcs 4 _ rfl).1
      have b4 : wr.cell? ⟨(bd.add (k * 14)).block, (bd.add (k * 14)).off + 4, none⟩ = some (.int .i64 h.creator) := by rw [add_off _ _ _ (by decide)]; exact (hcs 4 _ rfl).2
      have a5 : wr.cell? ⟨(ad.add (k * 14)).block, (ad.add (k * 14)).off + 5, none⟩ = some (.int .i64 h.reader) := by rw [add_off _ _ _ (by decide)]; exact (hcs 5 _ rfl).1
      have b5 : wr.cell? ⟨(bd.add (k * 14)).block, (bd.add (k * 14)).off + 5, none⟩ = some (.int .i64 h.reader) := by rw [add_off _ _ _ (by decide)]; exact (hcs 5 _ rfl).2
      have a6 : wr.cell? ⟨(ad.add (k * 14)).block, (ad.add (k * 14)).off + 6, none⟩ = some (.int .i64 h.flags) := by rw [add_off _ _ _ (by decide)]; exact (hcs 6 _ rfl).1
      have b6 : wr.cell? ⟨(bd.add (k * 14)).block, (bd.add (k * 14)).off + 6, none⟩ = some (.int .i64 h.flags) := by rw [add_off _ _ _ (by decide)]; exact (hcs 6 _ rfl).2
      have a7 : wr.cell? ⟨(ad.add (k * 14)).block, (ad.add (k * 14)).off + 7, none⟩ = some (.int .i64 h.method) := by rw [add_off _ _ _ (by decide)]; exact (hcs 7 _ rfl).1
      have b7 : wr.cell? ⟨(bd.add (k * 14)).block, (bd.add (k * 14)).off + 7, none⟩ = some (.int .i64 h.method) := by rw [add_off _ _ _ (by decide)]; exact (hcs 7 _ rfl).2
      have a8 : wr.cell? ⟨(ad.add (k * 14)).block, (ad.add (k * 14)).off + 8, none⟩ = some (.int .i64 h.time) := by rw [add_off _ _ _ (by decide)]; exact (hcs 8 _ rfl).1
      have b8 : wr.cell? ⟨(bd.add (k * 14)).block, (bd.add (k * 14)).off + 8, none⟩ = some (.int .i64 h.time) := by rw [add_off _ _ _ (by decide)]; exact (hcs 8 _ rfl).2
      have a9 : wr.cell? ⟨(ad.add (k * 14)).block, (ad.add (k * 14)).off + 9, none⟩ = some (.int .i64 h.date) := by rw [add_off _ _ _ (by decide)]; exact (hcs 9 _ rfl).1
      have b9 : wr.cell? ⟨(bd.add (k * 14)).block, (bd.add (k * 14)).off + 9, none⟩ = some (.int .i64 h.date) := by rw [add_off _ _ _ (by decide)]; exact (hcs 9 _ rfl).2
      have a10 : wr.cell? ⟨(ad.add (k * 14)).block, (ad.add (k * 14)).off + 10, none⟩ = some (.int .i64 h.crc) := by rw [add_off _ _ _ (by decide)]; exact (hcs 10 _ rfl).1
      have b10 : wr.cell? ⟨(bd.add (k * 14)).block, (bd.add (k * 14)).off + 10, none⟩ = some (.int .i64 h.crc) := by rw [add_off _ _ _ (by decide)]; exact (hcs 10 _ rfl).2
      have a11 : wr.cell? ⟨(ad.add (k * 14)).block, (ad.add (k * 14)).off + 11, none⟩ = some (.int .i64 h.packed) := by rw [add_off _ _ _ (by decide)]; exact (hcs 11 _ rfl).1
      have b11 : wr.cell? ⟨(bd.add (k * 14)).block, (bd.add (k * 14)).off + 11, none⟩ = some (.int .i64 h.packed) := by rw [add_off _ _ _ (by decide)]; exact (hcs 11 _ rfl).2
      have a12 : wr.cell? ⟨(ad.add (k * 14)).block, (ad.add (k * 14)).off + 12, none⟩ = some (.int .i64 h.size) := by rw [add_off _ _ _ (by decide)]; exact (hcs 12 _ rfl).1
      have b12 : wr.cell? ⟨(bd.add (k * 14)).block, (bd.add (k * 14)).off + 12, none⟩ = some (.int .i64 h.size) := by rw [add_off _ _ _ (by decide)]; exact (hcs 12 _ rfl).2
      have a13 : wr.cell? ⟨(ad.add (k * 14)).block, (ad.add (k * 14)).off + 13, none⟩ = some (.int .i64 h.external) := by rw [add_off _ _ _ (by decide)]; exact (hcs 13 _ rfl).1
      have b13 : wr.cell? ⟨(bd.add (k * 14)).block, (bd.add (k * 14)).off + 13, none⟩ = some (.int .i64 h.external) := by rw [add_off _ _ _ (by decide)]; exact (hcs 13 _ rfl).2
      clear hcs hwc hca hcb hab hbb hh hnu
      go_wp2
      go_quiet (fail)
      go_wp2
      go_roundw
      case rel => exact ⟨k + 1, by go_num, by omega, Lib.hid (by obtain ⟨n, hn⟩ := HI.out; exact ⟨_, by rw [hn, World.drewN_drewN]⟩)⟩
      case measure => simp [intOf]; omega
    · obtain rfl : k = L.length := by omega
      go_wp2
      go_ret
      refine ⟨rfl, ?_⟩
      obtain ⟨n, hn⟩ := HI.out
      rw [hn]
      exact below_drewN HW.out.2 _
end Go.Proofs.YtfagjhgmmaebfaaGreatDoor
