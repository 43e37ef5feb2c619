/- The walk of laws.FnWriteScan. -/
import Derived.Test.YtkkdblifgekmkaaDoorWrites
import Derived.Test.YtkkdblifgekmkaaDoorFits
import Derived.Test.YtkkdblifgekmkaaDoorOpenE
import Derived.Test.YtkkdblifgekmkaaDoorCrcS
import Derived.Test.YtkkdblifgekmkaaDoorWsR
namespace Go.Proofs.YtkkdblifgekmkaaDoor
open Go.RowKit
theorem En.Wf.lens {e : En} (h : e.Wf) : e.Lens := ⟨h.name, h.comment, h.extra, h.data⟩
structure En.OkE (e : En) : Prop where
  name : e.name.length ≤ 60000
  comment : e.comment.length ≤ 60000
  data : e.data.length ≤ 1048576
  lo : 0 ≤ e.external
  hi : e.external ≤ 4294967295
theorem En.OkE.w {e : En} (h : e.OkE) (hd : dirOk e = true) : e.OkW :=
  ⟨Nat.le_succ_of_le h.name, h.comment, h.data, h.lo, by have := h.hi; omega, fun hs => by
    rw [dirOk_slash hs] at hd
    exact List.isEmpty_iff.1 hd⟩
theorem own_sliceNN {w : World} {base n size : Nat} {e : TypeId} {v : Value} {xs : List Value} (h : w.ownsRow base e size v n xs) : ∃ A c, v = .slice A n c := by
  rcases h.2 with ⟨rfl, h0⟩ | ⟨g, cap, cur, rfl, _⟩
  · exact ⟨none, 0, by rw [h0]⟩
  · exact ⟨_, _, rfl⟩
set_option maxRecDepth 100000 in
set_option maxHeartbeats 8000000 in
theorem walkWriteScan {w : World} (A : Option Addr) (c : Nat) (L : List En) (s : ByteArray) (hcap : L.length ≤ c) (hc : c ≤ 9223372036854775807) (hr : Reads w w.heap.size 15 A L.length (L.flatMap En.cells)) (hL : ∀ e ∈ L, e.Wf) (hs : s.size ≤ maxLen) (hT : Lib.Utf8Tabs 10 11 w) :
    Calls Tryd.prog 6 #[.slice A L.length c, .string s] w fun e w' => e = .returned (.bool true) ∧ Below w.heap.size w w' := by
  unfold maxLen at hs
  obtain ⟨⟨cl⟩⟩ := s
  have hszc : (ByteArray.mk cl.toArray).size = cl.length := rfl
  have hcl : cl.length ≤ 9223372036854775807 := hs
  have hln : L.length ≤ 9223372036854775807 := by omega
  have HF := Lib.hid (fitsE1_any A c L hln hr (fun e he => (hL e he).lens))
  have H := Lib.hid (And.intro hr (And.intro hL hT))
  clear hr hL hT hs hcap hc
  go_enter Tryd.func6, Tryd.ntmps6
  go_wp2_with fail
  refine HF.out.mono ?_
  rintro e' w1 ⟨rfl, hb1⟩
  have HB1 := Lib.hid hb1
  clear hb1 HF
  obtain ⟨b, hb⟩ : ∃ b, b = fitsE1 L := ⟨_, rfl⟩
  rw [← hb]
  have HFB := Lib.hid hb
  clear hb
  cases b
  · go_wp2
    go_ret
    exact ⟨rfl, HB1.out⟩
  by_cases hc1 : 2147483647 < cl.length
  · go_wp2
    go_ret
    exact ⟨rfl, HB1.out⟩
  have hnl : L.length ≤ 2147483647 := by
    have := HFB.out
    unfold fitsE1 at this
    simp only [Bool.true_eq, Bool.and_eq_true, decide_eq_true_eq] at this
    exact this.1
  go_wp2_with fail
  go_loopw [25] (fun s wr => ∃ k : Nat, s = .int .i64 k ∧ k ≤ L.length ∧ Hid ((∀ e ∈ L.take k, e.OkE) ∧ Below w.heap.size w wr)) (fun s _ => L.length - (intOf s).toNat)
  case atStart => exact ⟨0, rfl, Nat.zero_le _, Lib.hid ⟨by simp, HB1.out⟩⟩
  case round =>
    obtain ⟨k, rfl, hk, HI⟩ := hrel
    clear HB1
    by_cases hlt : k < L.length
    · obtain ⟨ad, hA, hab, hcell⟩ := H.out.1.2 (by omega)
      subst hA
      obtain ⟨e, he⟩ : ∃ e, e = L[k] := ⟨_, rfl⟩
      have hcs : ∀ (j : Nat) (v : Value), e.cells[j]? = some v → wr.cell? (ad.add (k * 15 + j)) = some v := fun j v hj => by
        have hj15 : j < 15 := by
          have := (List.getElem?_eq_some_iff.1 hj).1; rwa [En.cells_length] at this
        have := hcell (k * 15 + j) v (by rw [flat_cells L k j hlt hj15, ← he]; exact hj)
        rw [← this]
        exact HI.out.2.cell (by rw [block_of_add]; exact hab)
      have HCS := Lib.hid hcs
      have hwf : e.Wf := by rw [he]; exact H.out.2.1 _ (List.getElem_mem _)
      have hszn : (ByteArray.mk e.name.toArray).size = e.name.length := rfl
      have hszm : (ByteArray.mk e.comment.toArray).size = e.comment.length := rfl
      have hszd : (ByteArray.mk e.data.toArray).size = e.data.length := rfl
      have l1 := hwf.name
      have l2 := hwf.comment
      have l3 := hwf.data
      have HE := Lib.hid he
      have HB := Lib.hid (HI.out.2.alloc HI.out.2.size (.cells e.cells.toArray 38))
      clear hcs hcell he hab hwf
      have c0 : wr.cell? (ad.add (k * 15)) = some (.string ⟨e.name.toArray⟩) := HCS.out 0 _ rfl
      have c1 : wr.cell? ⟨(ad.add (k * 15)).block, (ad.add (k * 15)).off + 1, none⟩ = some (.string ⟨e.comment.toArray⟩) := by rw [add_off _ _ _ (by decide)]; exact HCS.out 1 _ rfl
      have c2 : wr.cell? ⟨(ad.add (k * 15)).block, (ad.add (k * 15)).off + 2, none⟩ = some (.string ⟨e.extra.toArray⟩) := by rw [add_off _ _ _ (by decide)]; exact HCS.out 2 _ rfl
      have c3 : wr.cell? ⟨(ad.add (k * 15)).block, (ad.add (k * 15)).off + 3, none⟩ = some (.bool e.nu) := by rw [add_off _ _ _ (by decide)]; exact HCS.out 3 _ rfl
      have c4 : wr.cell? ⟨(ad.add (k * 15)).block, (ad.add (k * 15)).off + 4, none⟩ = some (.int .i64 e.creator) := by rw [add_off _ _ _ (by decide)]; exact HCS.out 4 _ rfl
      have c5 : wr.cell? ⟨(ad.add (k * 15)).block, (ad.add (k * 15)).off + 5, none⟩ = some (.int .i64 e.reader) := by rw [add_off _ _ _ (by decide)]; exact HCS.out 5 _ rfl
      have c6 : wr.cell? ⟨(ad.add (k * 15)).block, (ad.add (k * 15)).off + 6, none⟩ = some (.int .i64 e.flags) := by rw [add_off _ _ _ (by decide)]; exact HCS.out 6 _ rfl
      have c7 : wr.cell? ⟨(ad.add (k * 15)).block, (ad.add (k * 15)).off + 7, none⟩ = some (.int .i64 e.method) := by rw [add_off _ _ _ (by decide)]; exact HCS.out 7 _ rfl
      have c8 : wr.cell? ⟨(ad.add (k * 15)).block, (ad.add (k * 15)).off + 8, none⟩ = some (.int .i64 e.time) := by rw [add_off _ _ _ (by decide)]; exact HCS.out 8 _ rfl
      have c9 : wr.cell? ⟨(ad.add (k * 15)).block, (ad.add (k * 15)).off + 9, none⟩ = some (.int .i64 e.date) := by rw [add_off _ _ _ (by decide)]; exact HCS.out 9 _ rfl
      have c10 : wr.cell? ⟨(ad.add (k * 15)).block, (ad.add (k * 15)).off + 10, none⟩ = some (.int .i64 e.crc) := by rw [add_off _ _ _ (by decide)]; exact HCS.out 10 _ rfl
      have c11 : wr.cell? ⟨(ad.add (k * 15)).block, (ad.add (k * 15)).off + 11, none⟩ = some (.int .i64 e.packed) := by rw [add_off _ _ _ (by decide)]; exact HCS.out 11 _ rfl
      have c12 : wr.cell? ⟨(ad.add (k * 15)).block, (ad.add (k * 15)).off + 12, none⟩ = some (.int .i64 e.size) := by rw [add_off _ _ _ (by decide)]; exact HCS.out 12 _ rfl
      have c13 : wr.cell? ⟨(ad.add (k * 15)).block, (ad.add (k * 15)).off + 13, none⟩ = some (.int .i64 e.external) := by rw [add_off _ _ _ (by decide)]; exact HCS.out 13 _ rfl
      have c14 : wr.cell? ⟨(ad.add (k * 15)).block, (ad.add (k * 15)).off + 14, none⟩ = some (.string ⟨e.data.toArray⟩) := by rw [add_off _ _ _ (by decide)]; exact HCS.out 14 _ rfl
      by_cases h1 : 60000 < e.name.length
      · go_wp2
        go_ret
        exact ⟨rfl, HB.out⟩
      by_cases h2 : 60000 < e.comment.length
      · go_wp2
        go_ret
        exact ⟨rfl, HB.out⟩
      by_cases h3 : 1048576 < e.data.length
      · go_wp2
        go_ret
        exact ⟨rfl, HB.out⟩
      by_cases h4 : e.external < 0
      · go_wp2
        go_ret
        exact ⟨rfl, HB.out⟩
      by_cases h5 : 4294967295 < e.external
      · go_wp2
        go_ret
        exact ⟨rfl, HB.out⟩
      go_wp2
      go_roundw
      case rel =>
        refine ⟨k + 1, by go_num, by omega, Lib.hid ⟨fun x hx => ?_, HB.out⟩⟩
        rw [List.take_succ_eq_append_getElem hlt] at hx
        rcases List.mem_append.1 hx with hx | hx
        · exact HI.out.1 x hx
        · obtain rfl := List.mem_singleton.1 hx
          rw [← HE.out]
          exact ⟨by omega, by omega, by omega, by omega, by omega⟩
      case measure => simp [intOf]; omega
    · obtain rfl : k = L.length := by omega
      have hokE : ∀ e ∈ L, e.OkE := by have := HI.out.1; rwa [List.take_length] at this
      by_cases g1 : 1000 < L.length
      · go_wp2
        go_ret
        exact ⟨rfl, HI.out.2⟩
      by_cases g2 : 65535 < cl.length
      · go_wp2
        go_ret
        exact ⟨rfl, HI.out.2⟩
      have hbw := HI.out.2
      have HD := Lib.hid (dirs_any A c L hln (H.out.1.kept (Kept.of_below hbw []) (by simp)) (fun e he => (H.out.2.1 e he).lens))
      have HOE := Lib.hid hokE
      clear hokE hbw
      go_wp2_with fail
      refine HD.out.mono ?_
      rintro e' w2 ⟨rfl, hb2⟩
      have HB2 := Lib.hid (HI.out.2.trans (hb2.mono HI.out.2.size))
      clear hb2 HD HI
      obtain ⟨b, hb⟩ : ∃ b, b = L.all dirOk := ⟨_, rfl⟩
      rw [← hb]
      have HDB := Lib.hid hb
      clear hb
      cases b
      · go_wp2
        go_ret
        exact ⟨rfl, HB2.out⟩
      have hok : ∀ e ∈ L, e.OkW := fun e he => (HOE.out e he).w (by
        have := HDB.out.symm
        rw [List.all_eq_true] at this
        exact this e he)
      have HW := Lib.hid (Write_any A c L cl (H.out.1.kept (Kept.of_below HB2.out []) (by simp)) (tabs_keep H.out.2.2 HB2.out) hok (by omega) (by omega))
      have hlens := items_len (L.map itemW) (fun i hi => by
        obtain ⟨x, hx, rfl⟩ := List.mem_map.1 hi
        exact itemW_len (hok x hx))
      have hal : (archB (L.map itemW) cl).length ≤ 4294967294 ∧ (filesB (L.map itemW)).length + (dirB 0 (L.map itemW)).length ≤ 4294967294 := by
        have h1 := hlens.1
        have h2 := hlens.2 0
        simp only [List.length_map] at h1 h2
        constructor
        · rw [archB, List.length_append, List.length_append, endL_length]; omega
        · omega
      obtain ⟨t, ht⟩ : ∃ t, t = archB (L.map itemW) cl := ⟨_, rfl⟩
      rw [← ht] at HW hal
      have HEN := Lib.hid (Ends_any t (by omega))
      have HOK := Lib.hid hok
      have HT := Lib.hid (And.intro ht hal)
      clear ht hal hok hlens HOE HDB
      go_wp2_with fail
      refine HW.out.mono ?_
      rintro e' w3 ⟨rfl, hb3⟩
      have HB3 := Lib.hid (HB2.out.trans (hb3.mono HB2.out.size))
      clear hb3 HW HB2
      go_wp2_with fail
      refine (HEN.out _).mono ?_
      rintro e' w3' ⟨rfl, rfl⟩
      clear HEN
      obtain ⟨q, hq⟩ : ∃ q, q = endsL t := ⟨_, rfl⟩
      rw [← hq]
      by_cases hq1 : q = 1
      case neg =>
        have hqb : ((q : Int) != 1) = true := by simp; omega
        clear hq1 hq
        go_wp2
        go_ret
        exact ⟨rfl, HB3.out⟩
      subst hq1
      have hone : ∀ k, (filesB (L.map itemW)).length + (dirB 0 (L.map itemW)).length < k → standsL (archB (L.map itemW) cl) [80, 75, 5, 6] k = false := by
        have hp := arch_parts (l := archB (L.map itemW) cl) (L.map itemW) cl rfl rfl rfl (by have := HT.out.2.2; omega) (by simp; omega) (by omega)
        exact one_end (by rw [← HT.out.1, ← hq]) hp.sig
      have hsc := Scan_any (L.map itemW) cl (fun i hi => by
        obtain ⟨x, hx, rfl⟩ := List.mem_map.1 hi
        exact itemW_ok (HOK.out x hx)) HT.out.2.2 (by simp; omega) (by omega) hone w3
      rw [← HT.out.1] at hsc
      have HSC := Lib.hid hsc
      clear hsc hone hq
      go_wp2_with fail
      refine HSC.out.mono ?_
      rintro e' w4 ⟨⟨v, rfl, hv⟩, hb4⟩
      obtain ⟨RA, rc, hvv⟩ := own_sliceNN hv
      subst hvv
      rw [List.length_map] at hv ⊢
      have HB4 := Lib.hid (HB3.out.trans (hb4.mono HB3.out.size))
      have HV := Lib.hid (Reads.of_own hv)
      clear hv hb4 HSC
      go_wp2_with fail
      go_loopw [109] (fun s wr => ∃ k : Nat, s = .int .i64 k ∧ k ≤ L.length ∧ Hid (Below w4.heap.size w4 wr)) (fun s _ => L.length - (intOf s).toNat)
      case atStart => exact ⟨0, rfl, Nat.zero_le _, Lib.hid (Below.refl _ _)⟩
      case round =>
        obtain ⟨k, rfl, hk, HI⟩ := hrel
        have HBW := Lib.hid (HB4.out.trans (HI.out.mono HB4.out.size))
        by_cases hlt : k < L.length
        · obtain ⟨ad, hA, hab, hcell⟩ := H.out.1.2 (by omega)
          subst hA
          obtain ⟨rd, hRA, hrb, hrcell⟩ := HV.out.2 (by omega)
          subst hRA
          obtain ⟨e, he⟩ : ∃ e, e = L[k] := ⟨_, rfl⟩
          have hcs : ∀ (j : Nat) (v : Value), e.cells[j]? = some v → wr.cell? (ad.add (k * 15 + j)) = some v := fun j v hj => by
            have hj15 : j < 15 := by
              have := (List.getElem?_eq_some_iff.1 hj).1; rwa [En.cells_length] at this
            have := hcell (k * 15 + j) v (by rw [flat_cells L k j hlt hj15, ← he]; exact hj)
            rw [← this]
            exact HBW.out.cell (by rw [block_of_add]; exact hab)
          obtain ⟨R, hR⟩ : ∃ R, R = itemW e := ⟨_, rfl⟩
          have hro : RecOf e R := by rw [hR]; exact itemW_rec (by rw [he]; exact HOK.out _ (List.getElem_mem _))
          have hkm : k < (L.map itemW).length := by simpa using hlt
          have hrs : ∀ (j : Nat) (v : Value), (recCells R.cen (offs (L.map itemW) k) R.data)[j]? = some v → wr.cell? (rd.add (k * 16 + j)) = some v := fun j v hj => by
            have hj16 : j < 16 := (List.getElem?_eq_some_iff.1 hj).1
            have := hrcell (k * 16 + j) v (by rw [recs_get (L.map itemW) k j hkm hj16, List.getElem_map, ← he, ← hR]; exact hj)
            rw [← this]
            exact HI.out.cell (by rw [block_of_add]; exact hrb)
          have HCS := Lib.hid hcs
          have HRS := Lib.hid hrs
          have hrv : recCells R.cen (offs (L.map itemW) k) R.data = [.string ⟨e.name.toArray⟩, .string ⟨e.comment.toArray⟩, .string ⟨R.cen.extra.toArray⟩, .bool false, .int .i64 R.cen.creator, .int .i64 R.cen.reader, .int .i64 R.cen.flags, .int .i64 0, .int .i64 R.cen.time, .int .i64 R.cen.date, .int .i64 (crcOf e.data), .int .i64 e.data.length, .int .i64 e.data.length, .int .i64 e.external, .int .i64 (offs (L.map itemW) k), .string ⟨e.data.toArray⟩] := by
            unfold recCells
            rw [hro.name, hro.comment, hro.method, hro.external, hro.data, hro.crc, hro.size, hro.packed]
            rfl
          have HRV := Lib.hid hrv
          have hlw := (H.out.2.1 _ (List.getElem_mem hlt))
          have l1 : e.name.length ≤ 60001 := by rw [he]; exact (HOK.out _ (List.getElem_mem _)).name
          have l2 : e.comment.length ≤ 60000 := by rw [he]; exact (HOK.out _ (List.getElem_mem _)).comment
          have l3 : e.data.length ≤ 1048576 := by rw [he]; exact (HOK.out _ (List.getElem_mem _)).data
          have hab2 : (ad.add (k * 15)).block < wr.heap.size := by rw [block_of_add]; have := HBW.out.size; omega
          have hrb2 : (rd.add (k * 16)).block < wr.heap.size := by rw [block_of_add]; have := HI.out.size; omega
          have hszd : (ByteArray.mk e.data.toArray).size = e.data.length := rfl
          have HE := Lib.hid (And.intro he (And.intro hR hro))
          clear hcs hrs hcell hrcell he hR hro hab hrb hrv hkm hlw
          have c0 : wr.cell? (ad.add (k * 15)) = some (.string ⟨e.name.toArray⟩) := HCS.out 0 _ rfl
          have c1 : wr.cell? ⟨(ad.add (k * 15)).block, (ad.add (k * 15)).off + 1, none⟩ = some (.string ⟨e.comment.toArray⟩) := by rw [add_off _ _ _ (by decide)]; exact HCS.out 1 _ rfl
          have c2 : wr.cell? ⟨(ad.add (k * 15)).block, (ad.add (k * 15)).off + 2, none⟩ = some (.string ⟨e.extra.toArray⟩) := by rw [add_off _ _ _ (by decide)]; exact HCS.out 2 _ rfl
          have c3 : wr.cell? ⟨(ad.add (k * 15)).block, (ad.add (k * 15)).off + 3, none⟩ = some (.bool e.nu) := by rw [add_off _ _ _ (by decide)]; exact HCS.out 3 _ rfl
          have c4 : wr.cell? ⟨(ad.add (k * 15)).block, (ad.add (k * 15)).off + 4, none⟩ = some (.int .i64 e.creator) := by rw [add_off _ _ _ (by decide)]; exact HCS.out 4 _ rfl
          have c5 : wr.cell? ⟨(ad.add (k * 15)).block, (ad.add (k * 15)).off + 5, none⟩ = some (.int .i64 e.reader) := by rw [add_off _ _ _ (by decide)]; exact HCS.out 5 _ rfl
          have c6 : wr.cell? ⟨(ad.add (k * 15)).block, (ad.add (k * 15)).off + 6, none⟩ = some (.int .i64 e.flags) := by rw [add_off _ _ _ (by decide)]; exact HCS.out 6 _ rfl
          have c7 : wr.cell? ⟨(ad.add (k * 15)).block, (ad.add (k * 15)).off + 7, none⟩ = some (.int .i64 e.method) := by rw [add_off _ _ _ (by decide)]; exact HCS.out 7 _ rfl
          have c8 : wr.cell? ⟨(ad.add (k * 15)).block, (ad.add (k * 15)).off + 8, none⟩ = some (.int .i64 e.time) := by rw [add_off _ _ _ (by decide)]; exact HCS.out 8 _ rfl
          have c9 : wr.cell? ⟨(ad.add (k * 15)).block, (ad.add (k * 15)).off + 9, none⟩ = some (.int .i64 e.date) := by rw [add_off _ _ _ (by decide)]; exact HCS.out 9 _ rfl
          have c10 : wr.cell? ⟨(ad.add (k * 15)).block, (ad.add (k * 15)).off + 10, none⟩ = some (.int .i64 e.crc) := by rw [add_off _ _ _ (by decide)]; exact HCS.out 10 _ rfl
          have c11 : wr.cell? ⟨(ad.add (k * 15)).block, (ad.add (k * 15)).off + 11, none⟩ = some (.int .i64 e.packed) := by rw [add_off _ _ _ (by decide)]; exact HCS.out 11 _ rfl
          have c12 : wr.cell? ⟨(ad.add (k * 15)).block, (ad.add (k * 15)).off + 12, none⟩ = some (.int .i64 e.size) := by rw [add_off _ _ _ (by decide)]; exact HCS.out 12 _ rfl
          have c13 : wr.cell? ⟨(ad.add (k * 15)).block, (ad.add (k * 15)).off + 13, none⟩ = some (.int .i64 e.external) := by rw [add_off _ _ _ (by decide)]; exact HCS.out 13 _ rfl
          have c14 : wr.cell? ⟨(ad.add (k * 15)).block, (ad.add (k * 15)).off + 14, none⟩ = some (.string ⟨e.data.toArray⟩) := by rw [add_off _ _ _ (by decide)]; exact HCS.out 14 _ rfl
          have r0 : wr.cell? (rd.add (k * 16)) = some (.string ⟨e.name.toArray⟩) := HRS.out 0 _ (by rw [HRV.out]; rfl)
          have r1 : wr.cell? ⟨(rd.add (k * 16)).block, (rd.add (k * 16)).off + 1, none⟩ = some (.string ⟨e.comment.toArray⟩) := by rw [add_off _ _ _ (by decide)]; exact HRS.out 1 _ (by rw [HRV.out]; rfl)
          have r2 : wr.cell? ⟨(rd.add (k * 16)).block, (rd.add (k * 16)).off + 2, none⟩ = some (.string ⟨R.cen.extra.toArray⟩) := by rw [add_off _ _ _ (by decide)]; exact HRS.out 2 _ (by rw [HRV.out]; rfl)
          have r3 : wr.cell? ⟨(rd.add (k * 16)).block, (rd.add (k * 16)).off + 3, none⟩ = some (.bool false) := by rw [add_off _ _ _ (by decide)]; exact HRS.out 3 _ (by rw [HRV.out]; rfl)
          have r4 : wr.cell? ⟨(rd.add (k * 16)).block, (rd.add (k * 16)).off + 4, none⟩ = some (.int .i64 R.cen.creator) := by rw [add_off _ _ _ (by decide)]; exact HRS.out 4 _ (by rw [HRV.out]; rfl)
          have r5 : wr.cell? ⟨(rd.add (k * 16)).block, (rd.add (k * 16)).off + 5, none⟩ = some (.int .i64 R.cen.reader) := by rw [add_off _ _ _ (by decide)]; exact HRS.out 5 _ (by rw [HRV.out]; rfl)
          have r6 : wr.cell? ⟨(rd.add (k * 16)).block, (rd.add (k * 16)).off + 6, none⟩ = some (.int .i64 R.cen.flags) := by rw [add_off _ _ _ (by decide)]; exact HRS.out 6 _ (by rw [HRV.out]; rfl)
          have r7 : wr.cell? ⟨(rd.add (k * 16)).block, (rd.add (k * 16)).off + 7, none⟩ = some (.int .i64 0) := by rw [add_off _ _ _ (by decide)]; exact HRS.out 7 _ (by rw [HRV.out]; rfl)
          have r8 : wr.cell? ⟨(rd.add (k * 16)).block, (rd.add (k * 16)).off + 8, none⟩ = some (.int .i64 R.cen.time) := by rw [add_off _ _ _ (by decide)]; exact HRS.out 8 _ (by rw [HRV.out]; rfl)
          have r9 : wr.cell? ⟨(rd.add (k * 16)).block, (rd.add (k * 16)).off + 9, none⟩ = some (.int .i64 R.cen.date) := by rw [add_off _ _ _ (by decide)]; exact HRS.out 9 _ (by rw [HRV.out]; rfl)
          have r10 : wr.cell? ⟨(rd.add (k * 16)).block, (rd.add (k * 16)).off + 10, none⟩ = some (.int .i64 (crcOf e.data)) := by rw [add_off _ _ _ (by decide)]; exact HRS.out 10 _ (by rw [HRV.out]; rfl)
          have r11 : wr.cell? ⟨(rd.add (k * 16)).block, (rd.add (k * 16)).off + 11, none⟩ = some (.int .i64 e.data.length) := by rw [add_off _ _ _ (by decide)]; exact HRS.out 11 _ (by rw [HRV.out]; rfl)
          have r12 : wr.cell? ⟨(rd.add (k * 16)).block, (rd.add (k * 16)).off + 12, none⟩ = some (.int .i64 e.data.length) := by rw [add_off _ _ _ (by decide)]; exact HRS.out 12 _ (by rw [HRV.out]; rfl)
          have r13 : wr.cell? ⟨(rd.add (k * 16)).block, (rd.add (k * 16)).off + 13, none⟩ = some (.int .i64 e.external) := by rw [add_off _ _ _ (by decide)]; exact HRS.out 13 _ (by rw [HRV.out]; rfl)
          have r14 : wr.cell? ⟨(rd.add (k * 16)).block, (rd.add (k * 16)).off + 14, none⟩ = some (.int .i64 (offs (L.map itemW) k)) := by rw [add_off _ _ _ (by decide)]; exact HRS.out 14 _ (by rw [HRV.out]; rfl)
          have r15 : wr.cell? ⟨(rd.add (k * 16)).block, (rd.add (k * 16)).off + 15, none⟩ = some (.string ⟨e.data.toArray⟩) := by rw [add_off _ _ _ (by decide)]; exact HRS.out 15 _ (by rw [HRV.out]; rfl)
          have HCRC := Lib.hid (show ∀ W, Calls Tryd.prog 17 #[.string ⟨e.data.toArray⟩] W (fun e' w' => e' = .returned (.int .i64 (crcOf e.data)) ∧ w' = W) from fun W => (CRC_any e.data (by omega) W).mono fun _ _ q => ⟨q.1, q.2.symm⟩)
          have n1 : ((0 : Int) != 0) = false := by decide
          go_upto_region 21 with (fail)
          refine atW (fun W => Below w4.heap.size w4 W ∧ Below wr.heap.size wr W ∧ Blk W wr.heap.size 47 #[.string ⟨e.name.toArray⟩, .string ⟨e.comment.toArray⟩, .string ⟨R.cen.extra.toArray⟩, .bool false, .int .i64 R.cen.creator, .int .i64 R.cen.reader, .int .i64 R.cen.flags, .int .i64 0, .int .i64 R.cen.time, .int .i64 R.cen.date, .int .i64 (crcOf e.data), .int .i64 e.data.length, .int .i64 e.data.length, .int .i64 e.external, .int .i64 (offs (L.map itemW) k), .string ⟨e.data.toArray⟩] ∧ Blk W (wr.heap.size + 1) 36 #[.string ⟨e.name.toArray⟩, .string ⟨e.comment.toArray⟩, .string ⟨R.cen.extra.toArray⟩, .bool false, .int .i64 R.cen.creator, .int .i64 R.cen.reader, .int .i64 R.cen.flags, .int .i64 0, .int .i64 R.cen.time, .int .i64 R.cen.date, .int .i64 (crcOf e.data), .int .i64 e.data.length, .int .i64 e.data.length, .int .i64 e.external]) ⟨(HI.out.alloc HI.out.size _).alloc (by have := HI.out.size; simp; omega) _, ((Below.refl _ _).alloc (Nat.le_refl _) _).alloc (by simp) _, (Blk.new wr _ _).alloc _, Blk.newAt _ _ _ _ (by first | simp | rfl)⟩ ?_
          rintro W ⟨hbW4, hbW, hR, hH⟩
          have HBD := Lib.hid hbW4
          have HCS2 := Lib.hid (fun (j : Nat) (v : Value) (hj : e.cells[j]? = some v) => (hbW.cell (p := ad.add (k * 15 + j)) (by rw [block_of_add]; rw [block_of_add] at hab2; exact hab2)).trans (HCS.out j v hj))
          clear c0 c1 c2 c3 c4 c5 c6 c7 c8 c9 c10 c11 c12 c13 c14 r0 r1 r2 r3 r4 r5 r6 r7 r8 r9 r10 r11 r12 r13 r14 r15
          have q15 : W.cell? ⟨wr.heap.size, 15, none⟩ = some (.string ⟨e.data.toArray⟩) := (hR.cell 15).trans rfl
          have p0 : W.cell? ⟨wr.heap.size + 1, 0, none⟩ = some (.string ⟨e.name.toArray⟩) := (hH.cell 0).trans rfl
          have p1 : W.cell? ⟨wr.heap.size + 1, 1, none⟩ = some (.string ⟨e.comment.toArray⟩) := (hH.cell 1).trans rfl
          have p7 : W.cell? ⟨wr.heap.size + 1, 7, none⟩ = some (.int .i64 0) := (hH.cell 7).trans rfl
          have p10 : W.cell? ⟨wr.heap.size + 1, 10, none⟩ = some (.int .i64 (crcOf e.data)) := (hH.cell 10).trans rfl
          have p11 : W.cell? ⟨wr.heap.size + 1, 11, none⟩ = some (.int .i64 e.data.length) := (hH.cell 11).trans rfl
          have p12 : W.cell? ⟨wr.heap.size + 1, 12, none⟩ = some (.int .i64 e.data.length) := (hH.cell 12).trans rfl
          have p13 : W.cell? ⟨wr.heap.size + 1, 13, none⟩ = some (.int .i64 e.external) := (hH.cell 13).trans rfl
          have d0 : W.cell? (ad.add (k * 15)) = some (.string ⟨e.name.toArray⟩) := HCS2.out 0 _ rfl
          have d1 : W.cell? ⟨(ad.add (k * 15)).block, (ad.add (k * 15)).off + 1, none⟩ = some (.string ⟨e.comment.toArray⟩) := by rw [add_off _ _ _ (by decide)]; exact HCS2.out 1 _ rfl
          have d13 : W.cell? ⟨(ad.add (k * 15)).block, (ad.add (k * 15)).off + 13, none⟩ = some (.int .i64 e.external) := by rw [add_off _ _ _ (by decide)]; exact HCS2.out 13 _ rfl
          have d14 : W.cell? ⟨(ad.add (k * 15)).block, (ad.add (k * 15)).off + 14, none⟩ = some (.string ⟨e.data.toArray⟩) := by rw [add_off _ _ _ (by decide)]; exact HCS2.out 14 _ rfl
          clear hR hH hbW4 hbW HCS hab2 hrb2 HRS HRV HCS2 HE HBW
          refine reg21_wp ad L.length c k wr.heap.size e hlt l3 p0 p1 p7 p10 p11 p12 p13 q15 d0 d1 d13 d14 _ _ _ _ _ _ _ _ _ _ _ _ _ _ _ _ _ _ _ _ _ _ _ _ _ _ _ _ _ _ _ _ _ _ _ _ _ _ _ _ _ _ _ _ _ _ _ _ _ _ _ _ _ _ _ _ _ _ _ _ _ _ _ _ _ _ _ _ _ _ _ _ _ _ _ _ _ _ _ _ _ _ _ _ _ _ _ _ _ _ _ _ _ _ _ _ _ _ _ _ _ _ _ _ _ _ _ _ _ _ _ _ _ _ _ _ _ _ _ _ _ _ _ _ _ _ _ _ _ _ _ _ _ _ _ _ _ _ _ _ _ _ _ _ _ _ _ _ _ _ _ _ _ _ _ _ _ _ _ _ _ _ _ _ _ _ _ _ _ _ _ _ _ _ _ _ _ _ _ _ _ _ _ _ ?_
          intro m v116 v117 v118 v119 v120 v121 v122 v123 v124 v125 v126 v127 v128 v129 v130 v131 v132 v133 v134 v135 v136 v137 v138 v139 v140 v141 v142 v143 v144 v145 v146 v147 v148 v149 v150 v151 v152 v153 v154 v155 v156 v157 v158 v159 v160 v161 v162 v163 v164 v165 v166 v167 v168 v169 v170 v171 v172 v173 v174 v175 v176 v177 v178 v179 v180 v181 v182 v183 v184
          go_wp2
          go_roundw
          case rel => exact ⟨k + 1, by go_num, by omega, Lib.hid (below_drewN HBD.out _)⟩
          case measure => simp [intOf]; omega
        · obtain rfl : k = L.length := by omega
          have HWR := Lib.hid (writes_any (tabs_keep H.out.2.2 HBW.out))
          go_wp2_with fail
          refine HWR.out.mono ?_
          rintro e' w5 ⟨rfl, hb5⟩
          have HB5 := Lib.hid (HBW.out.trans (hb5.mono HBW.out.size))
          clear hb5 HWR
          go_wp2
          go_ret
          exact ⟨rfl, HB5.out⟩
end Go.Proofs.YtkkdblifgekmkaaDoor
