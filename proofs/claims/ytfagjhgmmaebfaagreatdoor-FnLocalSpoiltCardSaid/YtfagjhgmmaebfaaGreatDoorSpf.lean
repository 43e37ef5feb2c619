/- Contracts: spec.Files, spec.Directory, spec.Archive of good entries. -/
import Derived.Test.YtfagjhgmmaebfaaGreatDoorSpa
import Derived.BigQuiet
namespace Go.Proofs.YtfagjhgmmaebfaaGreatDoor
open Go.RowKit
theorem map_take_files (L : List En) (k : Nat) (hk : k < L.length) : filesB ((L.map itemR).take (k + 1)) = filesB ((L.map itemR).take k) ++ (localB (hdR L[k]) ++ L[k].data) := by
  rw [take_one _ k (by simpa using hk), filesB_append, List.getElem_map]
  simp [filesB, Item.bytes, itemR]
theorem map_take_dir (L : List En) (k : Nat) (hk : k < L.length) : dirB 0 ((L.map itemR).take (k + 1)) = dirB 0 ((L.map itemR).take k) ++ centralB (hdR L[k]) (offs (L.map itemR) k) := by
  rw [take_one _ k (by simpa using hk), dirB_append, List.getElem_map]
  simp [dirB, itemR, offs]
theorem items_short (L : List En) (hL : ∀ e ∈ L, e.OkA) (hn : L.length ≤ 1000) (k : Nat) : (filesB ((L.map itemR).take k)).length ≤ 1200000000 ∧ (dirB 0 ((L.map itemR).take k)).length ≤ 181000000 := by
  have h := items_lenR ((L.map itemR).take k) (fun i hi => by
    obtain ⟨e, he, rfl⟩ := List.mem_map.1 (List.mem_of_mem_take hi)
    exact itemR_len (hL e he))
  have hl : ((L.map itemR).take k).length ≤ 1000 := by rw [List.length_take, List.length_map]; omega
  have h1 := h.1
  have h2 := h.2 0
  exact ⟨by omega, by omega⟩
set_option maxRecDepth 100000 in
set_option maxHeartbeats 4000000 in
theorem Files_any {w : World} (A : Option Addr) (c : Nat) (L : List En) (hr : Reads w w.heap.size 15 A L.length (L.flatMap En.cells)) (hL : ∀ e ∈ L, e.OkA) (hn : L.length ≤ 1000) :
    Calls Tryz.prog 10 #[.slice A L.length c] w fun e' w' => e' = .returned (.string ⟨(filesB (L.map itemR)).toArray⟩) ∧ Below w.heap.size w w' := by
  have hcat := cat_mk
  have hsz : ∀ l : List UInt8, (ByteArray.mk l.toArray).size = l.length := fun _ => rfl
  have hS := Lib.hid (items_short L hL hn)
  have H := Lib.hid (And.intro hr hL)
  clear hr hL
  go_enter Tryz.func10, Tryz.ntmps10
  go_wp2_with fail
  go_loopw [3, 8] (fun s3 s8 wr => ∃ k : Nat, s8 = .int .i64 k ∧ k ≤ L.length ∧ s3 = .string ⟨(filesB ((L.map itemR).take k)).toArray⟩ ∧ Hid (Below w.heap.size w wr)) (fun _ s8 _ => L.length - (intOf s8).toNat)
  case atStart => exact ⟨0, rfl, Nat.zero_le _, rfl, Lib.hid (Below.refl _ _)⟩
  case round =>
    obtain ⟨k, rfl, hk, rfl, HI⟩ := hrel
    by_cases hlt : k < L.length
    · obtain ⟨X, hX⟩ : ∃ X, X = filesB ((L.map itemR).take k) := ⟨_, rfl⟩
      have hXl := (hS.out k).1
      have hnx := map_take_files L k hlt
      rw [← hX] at hXl hnx ⊢
      have HNX := Lib.hid hnx
      clear hnx hX
      obtain ⟨ad, hA, hab, hcell⟩ := H.out.1.2 (by omega)
      subst hA
      have hok := H.out.2 _ (List.getElem_mem hlt)
      obtain ⟨h, hh⟩ : ∃ h, h = hdR L[k] := ⟨_, rfl⟩
      obtain ⟨nu, hnu⟩ : ∃ nu, nu = L[k].nu := ⟨_, rfl⟩
      obtain ⟨d, hd⟩ : ∃ d, d = L[k].data := ⟨_, rfl⟩
      have hF := hdR_fits hok
      have hdl := hok.data
      have hce := cells_R hok
      rw [← hh] at hF
      rw [← hd] at hdl
      rw [← hh, ← hnu, ← hd] at hce
      have hcs : ∀ (j : Nat) (v : Value), (cellsH h nu d)[j]? = some v → wr.cell? (ad.add (k * 15 + j)) = some v := fun j v hj => by
        have hj15 : j < 15 := by
          have := (List.getElem?_eq_some_iff.1 hj).1; exact this
        have := hcell (k * 15 + j) v (by rw [flat_cells L k j hlt hj15, hce]; exact hj)
        rw [← this]
        exact HI.out.cell (by rw [block_of_add]; exact hab)
      have c0 : wr.cell? (ad.add (k * 15)) = some (.string ⟨h.name.toArray⟩) := hcs 0 _ rfl
      have c1 : wr.cell? ⟨(ad.add (k * 15)).block, (ad.add (k * 15)).off + 1, none⟩ = some (.string ⟨h.comment.toArray⟩) := by rw [add_off _ _ _ (by decide)]; exact hcs 1 _ rfl
      have c2 : wr.cell? ⟨(ad.add (k * 15)).block, (ad.add (k * 15)).off + 2, none⟩ = some (.string ⟨h.extra.toArray⟩) := by rw [add_off _ _ _ (by decide)]; exact hcs 2 _ rfl
      have c3 : wr.cell? ⟨(ad.add (k * 15)).block, (ad.add (k * 15)).off + 3, none⟩ = some (.bool nu) := by rw [add_off _ _ _ (by decide)]; exact hcs 3 _ rfl
      have c4 : wr.cell? ⟨(ad.add (k * 15)).block, (ad.add (k * 15)).off + 4, none⟩ = some (.int .i64 h.creator) := by rw [add_off _ _ _ (by decide)]; exact hcs 4 _ rfl
      have c5 : wr.cell? ⟨(ad.add (k * 15)).block, (ad.add (k * 15)).off + 5, none⟩ = some (.int .i64 h.reader) := by rw [add_off _ _ _ (by decide)]; exact hcs 5 _ rfl
      have c6 : wr.cell? ⟨(ad.add (k * 15)).block, (ad.add (k * 15)).off + 6, none⟩ = some (.int .i64 h.flags) := by rw [add_off _ _ _ (by decide)]; exact hcs 6 _ rfl
      have c7 : wr.cell? ⟨(ad.add (k * 15)).block, (ad.add (k * 15)).off + 7, none⟩ = some (.int .i64 h.method) := by rw [add_off _ _ _ (by decide)]; exact hcs 7 _ rfl
      have c8 : wr.cell? ⟨(ad.add (k * 15)).block, (ad.add (k * 15)).off + 8, none⟩ = some (.int .i64 h.time) := by rw [add_off _ _ _ (by decide)]; exact hcs 8 _ rfl
      have c9 : wr.cell? ⟨(ad.add (k * 15)).block, (ad.add (k * 15)).off + 9, none⟩ = some (.int .i64 h.date) := by rw [add_off _ _ _ (by decide)]; exact hcs 9 _ rfl
      have c10 : wr.cell? ⟨(ad.add (k * 15)).block, (ad.add (k * 15)).off + 10, none⟩ = some (.int .i64 h.crc) := by rw [add_off _ _ _ (by decide)]; exact hcs 10 _ rfl
      have c11 : wr.cell? ⟨(ad.add (k * 15)).block, (ad.add (k * 15)).off + 11, none⟩ = some (.int .i64 h.packed) := by rw [add_off _ _ _ (by decide)]; exact hcs 11 _ rfl
      have c12 : wr.cell? ⟨(ad.add (k * 15)).block, (ad.add (k * 15)).off + 12, none⟩ = some (.int .i64 h.size) := by rw [add_off _ _ _ (by decide)]; exact hcs 12 _ rfl
      have c13 : wr.cell? ⟨(ad.add (k * 15)).block, (ad.add (k * 15)).off + 13, none⟩ = some (.int .i64 h.external) := by rw [add_off _ _ _ (by decide)]; exact hcs 13 _ rfl
      have c14 : wr.cell? ⟨(ad.add (k * 15)).block, (ad.add (k * 15)).off + 14, none⟩ = some (.string ⟨d.toArray⟩) := by rw [add_off _ _ _ (by decide)]; exact hcs 14 _ rfl
      have HE := Lib.hid (And.intro hh (And.intro hnu (And.intro hd hF)))
      clear hcs hce hcell hab hh hnu hd hok
      obtain ⟨Y, hY⟩ : ∃ Y, Y = localB h := ⟨_, rfl⟩
      have hYl : Y.length ≤ 200000 := by rw [hY, localB_length]; have := hF.name; have := hF.extra; omega
      have HLo := Lib.hid (show ∀ w, Calls Tryz.prog 21 #[.agg #[.string ⟨h.name.toArray⟩, .string ⟨h.comment.toArray⟩, .string ⟨h.extra.toArray⟩, .bool nu, .int .i64 h.creator, .int .i64 h.reader, .int .i64 h.flags, .int .i64 h.method, .int .i64 h.time, .int .i64 h.date, .int .i64 h.crc, .int .i64 h.packed, .int .i64 h.size, .int .i64 h.external]] w fun e w' => e = .returned (.string ⟨Y.toArray⟩) ∧ Below w.heap.size w w' from fun w => by rw [hY]; exact Local_any h nu hF w)
      have HY0 := Lib.hid hY
      clear hY hF
      go_upto_region 5 with (fail)
      refine atW (fun W => Blk W wr.heap.size 41 #[.string ⟨h.name.toArray⟩, .string ⟨h.comment.toArray⟩, .string ⟨h.extra.toArray⟩, .bool nu, .int .i64 h.creator, .int .i64 h.reader, .int .i64 h.flags, .int .i64 h.method, .int .i64 h.time, .int .i64 h.date, .int .i64 h.crc, .int .i64 h.packed, .int .i64 h.size, .int .i64 h.external, .string ⟨d.toArray⟩] ∧ Below w.heap.size w W) ⟨Blk.new _ _ _, HI.out.alloc HI.out.size _⟩ ?_
      rintro W ⟨hW, hbW⟩
      obtain ⟨g, hg⟩ : ∃ g, g = wr.heap.size := ⟨_, rfl⟩
      rw [← hg] at hW ⊢
      have k0 : W.cell? ⟨g, 0, none⟩ = some (.string ⟨h.name.toArray⟩) := hW.cell 0
      have k1 : W.cell? ⟨g, 1, none⟩ = some (.string ⟨h.comment.toArray⟩) := hW.cell 1
      have k2 : W.cell? ⟨g, 2, none⟩ = some (.string ⟨h.extra.toArray⟩) := hW.cell 2
      have k3 : W.cell? ⟨g, 3, none⟩ = some (.bool nu) := hW.cell 3
      have k4 : W.cell? ⟨g, 4, none⟩ = some (.int .i64 h.creator) := hW.cell 4
      have k5 : W.cell? ⟨g, 5, none⟩ = some (.int .i64 h.reader) := hW.cell 5
      have k6 : W.cell? ⟨g, 6, none⟩ = some (.int .i64 h.flags) := hW.cell 6
      have k7 : W.cell? ⟨g, 7, none⟩ = some (.int .i64 h.method) := hW.cell 7
      have k8 : W.cell? ⟨g, 8, none⟩ = some (.int .i64 h.time) := hW.cell 8
      have k9 : W.cell? ⟨g, 9, none⟩ = some (.int .i64 h.date) := hW.cell 9
      have k10 : W.cell? ⟨g, 10, none⟩ = some (.int .i64 h.crc) := hW.cell 10
      have k11 : W.cell? ⟨g, 11, none⟩ = some (.int .i64 h.packed) := hW.cell 11
      have k12 : W.cell? ⟨g, 12, none⟩ = some (.int .i64 h.size) := hW.cell 12
      have k13 : W.cell? ⟨g, 13, none⟩ = some (.int .i64 h.external) := hW.cell 13
      have k14 : W.cell? ⟨g, 14, none⟩ = some (.string ⟨d.toArray⟩) := hW.cell 14
      have HC := Lib.hid hW
      have HB0 := Lib.hid hbW
      have HY := Lib.hid ((Below.refl W.heap.size W).drew)
      clear hW hbW hg c0 c1 c2 c3 c4 c5 c6 c7 c8 c9 c10 c11 c12 c13 c14
      have hs1 : ¬ 9223372036854775807 < Y.length + d.length := by omega
      have hs2 : ¬ 9223372036854775807 < X.length + (Y.length + d.length) := by omega
      go_region_held3 (fun w' => w'.cell? ⟨g, 0, none⟩ = some (.string ⟨h.name.toArray⟩) ∧ w'.cell? ⟨g, 1, none⟩ = some (.string ⟨h.comment.toArray⟩) ∧ w'.cell? ⟨g, 2, none⟩ = some (.string ⟨h.extra.toArray⟩) ∧ w'.cell? ⟨g, 3, none⟩ = some (.bool nu) ∧ w'.cell? ⟨g, 4, none⟩ = some (.int .i64 h.creator) ∧ w'.cell? ⟨g, 5, none⟩ = some (.int .i64 h.reader) ∧ w'.cell? ⟨g, 6, none⟩ = some (.int .i64 h.flags) ∧ w'.cell? ⟨g, 7, none⟩ = some (.int .i64 h.method) ∧ w'.cell? ⟨g, 8, none⟩ = some (.int .i64 h.time) ∧ w'.cell? ⟨g, 9, none⟩ = some (.int .i64 h.date) ∧ w'.cell? ⟨g, 10, none⟩ = some (.int .i64 h.crc) ∧ w'.cell? ⟨g, 11, none⟩ = some (.int .i64 h.packed) ∧ w'.cell? ⟨g, 12, none⟩ = some (.int .i64 h.size) ∧ w'.cell? ⟨g, 13, none⟩ = some (.int .i64 h.external) ∧ w'.cell? ⟨g, 14, none⟩ = some (.string ⟨d.toArray⟩))
        (first
          | exact ⟨k0, k1, k2, k3, k4, k5, k6, k7, k8, k9, k10, k11, k12, k13, k14⟩
          | exact ⟨q0, q1, q2, q3, q4, q5, q6, q7, q8, q9, q10, q11, q12, q13, q14⟩)
        ((
          (go_at_call 21; with_reducible refine (HLo.out _).mono ?_)
          rintro e' w2 ⟨rfl, hx⟩
          have hy := Lib.hid (HY.out.trans (hx.mono HY.out.size))
          clear HY hx
          have HY := hy
          clear hy
          have q0 : w2.cell? ⟨g, 0, none⟩ = some (.string ⟨h.name.toArray⟩) := (HC.out.below HY.out HC.out.lt).cell 0
          have q1 : w2.cell? ⟨g, 1, none⟩ = some (.string ⟨h.comment.toArray⟩) := (HC.out.below HY.out HC.out.lt).cell 1
          have q2 : w2.cell? ⟨g, 2, none⟩ = some (.string ⟨h.extra.toArray⟩) := (HC.out.below HY.out HC.out.lt).cell 2
          have q3 : w2.cell? ⟨g, 3, none⟩ = some (.bool nu) := (HC.out.below HY.out HC.out.lt).cell 3
          have q4 : w2.cell? ⟨g, 4, none⟩ = some (.int .i64 h.creator) := (HC.out.below HY.out HC.out.lt).cell 4
          have q5 : w2.cell? ⟨g, 5, none⟩ = some (.int .i64 h.reader) := (HC.out.below HY.out HC.out.lt).cell 5
          have q6 : w2.cell? ⟨g, 6, none⟩ = some (.int .i64 h.flags) := (HC.out.below HY.out HC.out.lt).cell 6
          have q7 : w2.cell? ⟨g, 7, none⟩ = some (.int .i64 h.method) := (HC.out.below HY.out HC.out.lt).cell 7
          have q8 : w2.cell? ⟨g, 8, none⟩ = some (.int .i64 h.time) := (HC.out.below HY.out HC.out.lt).cell 8
          have q9 : w2.cell? ⟨g, 9, none⟩ = some (.int .i64 h.date) := (HC.out.below HY.out HC.out.lt).cell 9
          have q10 : w2.cell? ⟨g, 10, none⟩ = some (.int .i64 h.crc) := (HC.out.below HY.out HC.out.lt).cell 10
          have q11 : w2.cell? ⟨g, 11, none⟩ = some (.int .i64 h.packed) := (HC.out.below HY.out HC.out.lt).cell 11
          have q12 : w2.cell? ⟨g, 12, none⟩ = some (.int .i64 h.size) := (HC.out.below HY.out HC.out.lt).cell 12
          have q13 : w2.cell? ⟨g, 13, none⟩ = some (.int .i64 h.external) := (HC.out.below HY.out HC.out.lt).cell 13
          have q14 : w2.cell? ⟨g, 14, none⟩ = some (.string ⟨d.toArray⟩) := (HC.out.below HY.out HC.out.lt).cell 14))
      all_goals
        go_wp2
        go_roundw
        case rel =>
          refine ⟨k + 1, by go_num, by omega, ?_, Lib.hid (HB0.out.trans (HY.out.mono HB0.out.size))⟩
          rw [HNX.out, ← HE.out.1, ← HE.out.2.2.1, ← HY0.out]
        case measure => simp [intOf]; omega
    · obtain rfl : k = L.length := by omega
      go_wp2
      go_ret
      refine ⟨?_, HI.out⟩
      rw [List.take_of_length_le (by simp)]
      rfl
set_option maxRecDepth 100000 in
set_option maxHeartbeats 4000000 in
theorem Directory_any {w : World} (A : Option Addr) (c : Nat) (L : List En) (hr : Reads w w.heap.size 15 A L.length (L.flatMap En.cells)) (hL : ∀ e ∈ L, e.OkA) (hn : L.length ≤ 1000) :
    Calls Tryz.prog 19 #[.slice A L.length c] w fun e' w' => e' = .returned (.string ⟨(dirB 0 (L.map itemR)).toArray⟩) ∧ Below w.heap.size w w' := by
  have hcat := cat_mk
  have hsz : ∀ l : List UInt8, (ByteArray.mk l.toArray).size = l.length := fun _ => rfl
  have hS := Lib.hid (items_short L hL hn)
  have H := Lib.hid (And.intro hr hL)
  clear hr hL
  go_enter Tryz.func19, Tryz.ntmps19
  go_wp2_with fail
  go_loopw [3, 4, 9] (fun s3 s4 s9 wr => ∃ k : Nat, s9 = .int .i64 k ∧ k ≤ L.length ∧ s3 = .string ⟨(dirB 0 ((L.map itemR).take k)).toArray⟩ ∧ s4 = .int .i64 (filesB ((L.map itemR).take k)).length ∧ Hid (Below w.heap.size w wr)) (fun _ _ s9 _ => L.length - (intOf s9).toNat)
  case atStart => exact ⟨0, rfl, Nat.zero_le _, rfl, rfl, Lib.hid (Below.refl _ _)⟩
  case round =>
    obtain ⟨k, rfl, hk, rfl, rfl, HI⟩ := hrel
    by_cases hlt : k < L.length
    · obtain ⟨X, hX⟩ : ∃ X, X = dirB 0 ((L.map itemR).take k) := ⟨_, rfl⟩
      obtain ⟨o, ho⟩ : ∃ o, o = (filesB ((L.map itemR).take k)).length := ⟨_, rfl⟩
      have hXl := (hS.out k).2
      have hol := (hS.out k).1
      have hnx := map_take_dir L k hlt
      have hnf := map_take_files L k hlt
      unfold offs at hnx
      rw [← ho] at hol hnx ⊢
      rw [← hX] at hXl hnx ⊢
      have HNX := Lib.hid (And.intro hnx (And.intro hnf ho))
      clear hnx hnf hX ho
      obtain ⟨ad, hA, hab, hcell⟩ := H.out.1.2 (by omega)
      subst hA
      have hok := H.out.2 _ (List.getElem_mem hlt)
      obtain ⟨h, hh⟩ : ∃ h, h = hdR L[k] := ⟨_, rfl⟩
      obtain ⟨nu, hnu⟩ : ∃ nu, nu = L[k].nu := ⟨_, rfl⟩
      obtain ⟨d, hd⟩ : ∃ d, d = L[k].data := ⟨_, rfl⟩
      have hF := hdR_fits hok
      have hdl := hok.data
      have hce := cells_R hok
      rw [← hh] at hF
      rw [← hd] at hdl
      rw [← hh, ← hnu, ← hd] at hce
      have hcs : ∀ (j : Nat) (v : Value), (cellsH h nu d)[j]? = some v → wr.cell? (ad.add (k * 15 + j)) = some v := fun j v hj => by
        have hj15 : j < 15 := by
          have := (List.getElem?_eq_some_iff.1 hj).1; exact this
        have := hcell (k * 15 + j) v (by rw [flat_cells L k j hlt hj15, hce]; exact hj)
        rw [← this]
        exact HI.out.cell (by rw [block_of_add]; exact hab)
      have c0 : wr.cell? (ad.add (k * 15)) = some (.string ⟨h.name.toArray⟩) := hcs 0 _ rfl
      have c1 : wr.cell? ⟨(ad.add (k * 15)).block, (ad.add (k * 15)).off + 1, none⟩ = some (.string ⟨h.comment.toArray⟩) := by rw [add_off _ _ _ (by decide)]; exact hcs 1 _ rfl
      have c2 : wr.cell? ⟨(ad.add (k * 15)).block, (ad.add (k * 15)).off + 2, none⟩ = some (.string ⟨h.extra.toArray⟩) := by rw [add_off _ _ _ (by decide)]; exact hcs 2 _ rfl
      have c3 : wr.cell? ⟨(ad.add (k * 15)).block, (ad.add (k * 15)).off + 3, none⟩ = some (.bool nu) := by rw [add_off _ _ _ (by decide)]; exact hcs 3 _ rfl
      have c4 : wr.cell? ⟨(ad.add (k * 15)).block, (ad.add (k * 15)).off + 4, none⟩ = some (.int .i64 h.creator) := by rw [add_off _ _ _ (by decide)]; exact hcs 4 _ rfl
      have c5 : wr.cell? ⟨(ad.add (k * 15)).block, (ad.add (k * 15)).off + 5, none⟩ = some (.int .i64 h.reader) := by rw [add_off _ _ _ (by decide)]; exact hcs 5 _ rfl
      have c6 : wr.cell? ⟨(ad.add (k * 15)).block, (ad.add (k * 15)).off + 6, none⟩ = some (.int .i64 h.flags) := by rw [add_off _ _ _ (by decide)]; exact hcs 6 _ rfl
      have c7 : wr.cell? ⟨(ad.add (k * 15)).block, (ad.add (k * 15)).off + 7, none⟩ = some (.int .i64 h.method) := by rw [add_off _ _ _ (by decide)]; exact hcs 7 _ rfl
      have c8 : wr.cell? ⟨(ad.add (k * 15)).block, (ad.add (k * 15)).off + 8, none⟩ = some (.int .i64 h.time) := by rw [add_off _ _ _ (by decide)]; exact hcs 8 _ rfl
      have c9 : wr.cell? ⟨(ad.add (k * 15)).block, (ad.add (k * 15)).off + 9, none⟩ = some (.int .i64 h.date) := by rw [add_off _ _ _ (by decide)]; exact hcs 9 _ rfl
      have c10 : wr.cell? ⟨(ad.add (k * 15)).block, (ad.add (k * 15)).off + 10, none⟩ = some (.int .i64 h.crc) := by rw [add_off _ _ _ (by decide)]; exact hcs 10 _ rfl
      have c11 : wr.cell? ⟨(ad.add (k * 15)).block, (ad.add (k * 15)).off + 11, none⟩ = some (.int .i64 h.packed) := by rw [add_off _ _ _ (by decide)]; exact hcs 11 _ rfl
      have c12 : wr.cell? ⟨(ad.add (k * 15)).block, (ad.add (k * 15)).off + 12, none⟩ = some (.int .i64 h.size) := by rw [add_off _ _ _ (by decide)]; exact hcs 12 _ rfl
      have c13 : wr.cell? ⟨(ad.add (k * 15)).block, (ad.add (k * 15)).off + 13, none⟩ = some (.int .i64 h.external) := by rw [add_off _ _ _ (by decide)]; exact hcs 13 _ rfl
      have c14 : wr.cell? ⟨(ad.add (k * 15)).block, (ad.add (k * 15)).off + 14, none⟩ = some (.string ⟨d.toArray⟩) := by rw [add_off _ _ _ (by decide)]; exact hcs 14 _ rfl
      have HE := Lib.hid (And.intro hh (And.intro hnu (And.intro hd hF)))
      clear hcs hce hcell hab hh hnu hd hok
      obtain ⟨Y, hY⟩ : ∃ Y, Y = localB h := ⟨_, rfl⟩
      have hYl : Y.length ≤ 200000 := by rw [hY, localB_length]; have := hF.name; have := hF.extra; omega
      have HLo := Lib.hid (show ∀ w, Calls Tryz.prog 21 #[.agg #[.string ⟨h.name.toArray⟩, .string ⟨h.comment.toArray⟩, .string ⟨h.extra.toArray⟩, .bool nu, .int .i64 h.creator, .int .i64 h.reader, .int .i64 h.flags, .int .i64 h.method, .int .i64 h.time, .int .i64 h.date, .int .i64 h.crc, .int .i64 h.packed, .int .i64 h.size, .int .i64 h.external]] w fun e w' => e = .returned (.string ⟨Y.toArray⟩) ∧ Below w.heap.size w w' from fun w => by rw [hY]; exact Local_any h nu hF w)
      obtain ⟨Z, hZ⟩ : ∃ Z, Z = centralB h o := ⟨_, rfl⟩
      have hZl : Z.length ≤ 300000 := by rw [hZ, centralB_length]; have := hF.name; have := hF.extra; have := hF.comment; omega
      have HCe := Lib.hid (show ∀ w, Calls Tryz.prog 33 #[.agg #[.string ⟨h.name.toArray⟩, .string ⟨h.comment.toArray⟩, .string ⟨h.extra.toArray⟩, .bool nu, .int .i64 h.creator, .int .i64 h.reader, .int .i64 h.flags, .int .i64 h.method, .int .i64 h.time, .int .i64 h.date, .int .i64 h.crc, .int .i64 h.packed, .int .i64 h.size, .int .i64 h.external], .int .i64 o] w fun e w' => e = .returned (.string ⟨Z.toArray⟩) ∧ Below w.heap.size w w' from fun w => by rw [hZ]; exact Central_any h nu hF o (by omega) w)
      have HY0 := Lib.hid (And.intro hY hZ)
      clear hY hZ hF
      go_upto_region 6 with (fail)
      refine atW (fun W => Blk W wr.heap.size 41 #[.string ⟨h.name.toArray⟩, .string ⟨h.comment.toArray⟩, .string ⟨h.extra.toArray⟩, .bool nu, .int .i64 h.creator, .int .i64 h.reader, .int .i64 h.flags, .int .i64 h.method, .int .i64 h.time, .int .i64 h.date, .int .i64 h.crc, .int .i64 h.packed, .int .i64 h.size, .int .i64 h.external, .string ⟨d.toArray⟩] ∧ Below w.heap.size w W) ⟨Blk.new _ _ _, HI.out.alloc HI.out.size _⟩ ?_
      rintro W ⟨hW, hbW⟩
      obtain ⟨g, hg⟩ : ∃ g, g = wr.heap.size := ⟨_, rfl⟩
      rw [← hg] at hW ⊢
      have k0 : W.cell? ⟨g, 0, none⟩ = some (.string ⟨h.name.toArray⟩) := hW.cell 0
      have k1 : W.cell? ⟨g, 1, none⟩ = some (.string ⟨h.comment.toArray⟩) := hW.cell 1
      have k2 : W.cell? ⟨g, 2, none⟩ = some (.string ⟨h.extra.toArray⟩) := hW.cell 2
      have k3 : W.cell? ⟨g, 3, none⟩ = some (.bool nu) := hW.cell 3
      have k4 : W.cell? ⟨g, 4, none⟩ = some (.int .i64 h.creator) := hW.cell 4
      have k5 : W.cell? ⟨g, 5, none⟩ = some (.int .i64 h.reader) := hW.cell 5
      have k6 : W.cell? ⟨g, 6, none⟩ = some (.int .i64 h.flags) := hW.cell 6
      have k7 : W.cell? ⟨g, 7, none⟩ = some (.int .i64 h.method) := hW.cell 7
      have k8 : W.cell? ⟨g, 8, none⟩ = some (.int .i64 h.time) := hW.cell 8
      have k9 : W.cell? ⟨g, 9, none⟩ = some (.int .i64 h.date) := hW.cell 9
      have k10 : W.cell? ⟨g, 10, none⟩ = some (.int .i64 h.crc) := hW.cell 10
      have k11 : W.cell? ⟨g, 11, none⟩ = some (.int .i64 h.packed) := hW.cell 11
      have k12 : W.cell? ⟨g, 12, none⟩ = some (.int .i64 h.size) := hW.cell 12
      have k13 : W.cell? ⟨g, 13, none⟩ = some (.int .i64 h.external) := hW.cell 13
      have k14 : W.cell? ⟨g, 14, none⟩ = some (.string ⟨d.toArray⟩) := hW.cell 14
      have HC := Lib.hid hW
      have HB0 := Lib.hid hbW
      have HY := Lib.hid ((Below.refl W.heap.size W).drew)
      clear hW hbW hg c0 c1 c2 c3 c4 c5 c6 c7 c8 c9 c10 c11 c12 c13 c14
      clear HY
      go_wp2_with fail
      refine (HCe.out _).mono ?_
      rintro e' w1 ⟨rfl, hx⟩
      have hb1 := HB0.out.trans (hx.mono HB0.out.size)
      have hC1 := HC.out.below hx HC.out.lt
      clear HB0 HC hx k0 k1 k2 k3 k4 k5 k6 k7 k8 k9 k10 k11 k12 k13 k14
      go_upto_region 7 with (fail)
      refine atW (fun W' => W' = w1) rfl ?_
      rintro W1 rfl
      have k0 : W1.cell? ⟨g, 0, none⟩ = some (.string ⟨h.name.toArray⟩) := hC1.cell 0
      have k1 : W1.cell? ⟨g, 1, none⟩ = some (.string ⟨h.comment.toArray⟩) := hC1.cell 1
      have k2 : W1.cell? ⟨g, 2, none⟩ = some (.string ⟨h.extra.toArray⟩) := hC1.cell 2
      have k3 : W1.cell? ⟨g, 3, none⟩ = some (.bool nu) := hC1.cell 3
      have k4 : W1.cell? ⟨g, 4, none⟩ = some (.int .i64 h.creator) := hC1.cell 4
      have k5 : W1.cell? ⟨g, 5, none⟩ = some (.int .i64 h.reader) := hC1.cell 5
      have k6 : W1.cell? ⟨g, 6, none⟩ = some (.int .i64 h.flags) := hC1.cell 6
      have k7 : W1.cell? ⟨g, 7, none⟩ = some (.int .i64 h.method) := hC1.cell 7
      have k8 : W1.cell? ⟨g, 8, none⟩ = some (.int .i64 h.time) := hC1.cell 8
      have k9 : W1.cell? ⟨g, 9, none⟩ = some (.int .i64 h.date) := hC1.cell 9
      have k10 : W1.cell? ⟨g, 10, none⟩ = some (.int .i64 h.crc) := hC1.cell 10
      have k11 : W1.cell? ⟨g, 11, none⟩ = some (.int .i64 h.packed) := hC1.cell 11
      have k12 : W1.cell? ⟨g, 12, none⟩ = some (.int .i64 h.size) := hC1.cell 12
      have k13 : W1.cell? ⟨g, 13, none⟩ = some (.int .i64 h.external) := hC1.cell 13
      have k14 : W1.cell? ⟨g, 14, none⟩ = some (.string ⟨d.toArray⟩) := hC1.cell 14
      have HC := Lib.hid hC1
      have HB0 := Lib.hid hb1
      have HY := Lib.hid ((Below.refl W1.heap.size W1).drew)
      clear hC1 hb1
      have hs1 : ¬ 9223372036854775807 < Y.length + d.length := by omega
      go_region_held3 (fun w' => w'.cell? ⟨g, 0, none⟩ = some (.string ⟨h.name.toArray⟩) ∧ w'.cell? ⟨g, 1, none⟩ = some (.string ⟨h.comment.toArray⟩) ∧ w'.cell? ⟨g, 2, none⟩ = some (.string ⟨h.extra.toArray⟩) ∧ w'.cell? ⟨g, 3, none⟩ = some (.bool nu) ∧ w'.cell? ⟨g, 4, none⟩ = some (.int .i64 h.creator) ∧ w'.cell? ⟨g, 5, none⟩ = some (.int .i64 h.reader) ∧ w'.cell? ⟨g, 6, none⟩ = some (.int .i64 h.flags) ∧ w'.cell? ⟨g, 7, none⟩ = some (.int .i64 h.method) ∧ w'.cell? ⟨g, 8, none⟩ = some (.int .i64 h.time) ∧ w'.cell? ⟨g, 9, none⟩ = some (.int .i64 h.date) ∧ w'.cell? ⟨g, 10, none⟩ = some (.int .i64 h.crc) ∧ w'.cell? ⟨g, 11, none⟩ = some (.int .i64 h.packed) ∧ w'.cell? ⟨g, 12, none⟩ = some (.int .i64 h.size) ∧ w'.cell? ⟨g, 13, none⟩ = some (.int .i64 h.external) ∧ w'.cell? ⟨g, 14, none⟩ = some (.string ⟨d.toArray⟩))
        (first
          | exact ⟨k0, k1, k2, k3, k4, k5, k6, k7, k8, k9, k10, k11, k12, k13, k14⟩
          | exact ⟨q0, q1, q2, q3, q4, q5, q6, q7, q8, q9, q10, q11, q12, q13, q14⟩)
        ((
          (go_at_call 21; with_reducible refine (HLo.out _).mono ?_)
          rintro e' w2 ⟨rfl, hx⟩
          have hy := Lib.hid (HY.out.trans (hx.mono HY.out.size))
          clear HY hx
          have HY := hy
          clear hy
          have q0 : w2.cell? ⟨g, 0, none⟩ = some (.string ⟨h.name.toArray⟩) := (HC.out.below HY.out HC.out.lt).cell 0
          have q1 : w2.cell? ⟨g, 1, none⟩ = some (.string ⟨h.comment.toArray⟩) := (HC.out.below HY.out HC.out.lt).cell 1
          have q2 : w2.cell? ⟨g, 2, none⟩ = some (.string ⟨h.extra.toArray⟩) := (HC.out.below HY.out HC.out.lt).cell 2
          have q3 : w2.cell? ⟨g, 3, none⟩ = some (.bool nu) := (HC.out.below HY.out HC.out.lt).cell 3
          have q4 : w2.cell? ⟨g, 4, none⟩ = some (.int .i64 h.creator) := (HC.out.below HY.out HC.out.lt).cell 4
          have q5 : w2.cell? ⟨g, 5, none⟩ = some (.int .i64 h.reader) := (HC.out.below HY.out HC.out.lt).cell 5
          have q6 : w2.cell? ⟨g, 6, none⟩ = some (.int .i64 h.flags) := (HC.out.below HY.out HC.out.lt).cell 6
          have q7 : w2.cell? ⟨g, 7, none⟩ = some (.int .i64 h.method) := (HC.out.below HY.out HC.out.lt).cell 7
          have q8 : w2.cell? ⟨g, 8, none⟩ = some (.int .i64 h.time) := (HC.out.below HY.out HC.out.lt).cell 8
          have q9 : w2.cell? ⟨g, 9, none⟩ = some (.int .i64 h.date) := (HC.out.below HY.out HC.out.lt).cell 9
          have q10 : w2.cell? ⟨g, 10, none⟩ = some (.int .i64 h.crc) := (HC.out.below HY.out HC.out.lt).cell 10
          have q11 : w2.cell? ⟨g, 11, none⟩ = some (.int .i64 h.packed) := (HC.out.below HY.out HC.out.lt).cell 11
          have q12 : w2.cell? ⟨g, 12, none⟩ = some (.int .i64 h.size) := (HC.out.below HY.out HC.out.lt).cell 12
          have q13 : w2.cell? ⟨g, 13, none⟩ = some (.int .i64 h.external) := (HC.out.below HY.out HC.out.lt).cell 13
          have q14 : w2.cell? ⟨g, 14, none⟩ = some (.string ⟨d.toArray⟩) := (HC.out.below HY.out HC.out.lt).cell 14))
      all_goals
        go_wp2
        go_roundw
        case rel =>
          refine ⟨k + 1, by go_num, by omega, ?_, ?_, Lib.hid (HB0.out.trans (HY.out.mono HB0.out.size))⟩
          · rw [HNX.out.1, ← HE.out.1, ← HY0.out.2]
          · rw [HNX.out.2.1, ← HE.out.1, ← HE.out.2.2.1, ← HY0.out.1, List.length_append, List.length_append, ← HNX.out.2.2]
            rw [IntWalk.i64_in _ (by omega)]
            congr 1
        case measure => simp [intOf]; omega
    · obtain rfl : k = L.length := by omega
      go_wp2
      go_ret
      refine ⟨?_, HI.out⟩
      rw [List.take_of_length_le (by simp)]
      rfl
set_option maxHeartbeats 1000000 in
theorem Archive_any {w : World} (A : Option Addr) (c : Nat) (L : List En) (cl : List UInt8) (hr : Reads w w.heap.size 15 A L.length (L.flatMap En.cells)) (hL : ∀ e ∈ L, e.OkA) (hn : L.length ≤ 1000) (hcl : cl.length ≤ 65535) :
    Calls Tryz.prog 9 #[.slice A L.length c, .string ⟨cl.toArray⟩] w fun e' w' => e' = .returned (.string ⟨(archB (L.map itemR) cl).toArray⟩) ∧ Below w.heap.size w w' := by
  have hcat := cat_mk
  have hsz : ∀ l : List UInt8, (ByteArray.mk l.toArray).size = l.length := fun _ => rfl
  have hS := items_short L hL hn L.length
  rw [List.take_of_length_le (by simp)] at hS
  have HF := Lib.hid (Files_any A c L hr hL hn)
  have HD := Lib.hid (fun (w' : World) (hb : Below w.heap.size w w') => Directory_any A c L (hr.kept (Kept.of_below hb []) (by simp)) hL hn)
  have HAr := Lib.hid (show archB (L.map itemR) cl = filesB (L.map itemR) ++ dirB 0 (L.map itemR) ++ endL L.length (dirB 0 (L.map itemR)).length (filesB (L.map itemR)).length cl from by unfold archB; rw [List.length_map])
  obtain ⟨X, hX⟩ : ∃ X, X = filesB (L.map itemR) := ⟨_, rfl⟩
  obtain ⟨Y, hY⟩ : ∃ Y, Y = dirB 0 (L.map itemR) := ⟨_, rfl⟩
  have h1 := hS.1
  have h2 := hS.2
  rw [← hX] at h1
  rw [← hX] at HF
  rw [← hX] at HAr
  rw [← hY] at h2
  rw [← hY] at HD
  rw [← hY] at HAr
  obtain ⟨Z, hZ⟩ : ∃ Z, Z = endL L.length Y.length X.length cl := ⟨_, rfl⟩
  have hZl : Z.length = 22 + cl.length := by rw [hZ, endL_length]
  have HE := Lib.hid (show ∀ w, Calls Tryz.prog 20 #[.int .i64 L.length, .int .i64 Y.length, .int .i64 X.length, .string ⟨cl.toArray⟩] w fun e w' => e = .returned (.string ⟨Z.toArray⟩) ∧ Below w.heap.size w w' from fun w => by rw [hZ]; exact End_any L.length Y.length X.length cl (by omega) (by omega) (by omega) (by omega) w)
  rw [← hZ] at HAr
  clear hS hX hY hr hL hZ
  go_enter Tryz.func9, Tryz.ntmps9
  go_wp2_with fail
  refine HF.out.mono ?_
  rintro e' w1 ⟨rfl, hb1⟩
  go_wp2_with fail
  refine (HD.out w1 hb1).mono ?_
  rintro e' w2 ⟨rfl, hb2⟩
  have HB := Lib.hid (hb1.trans (hb2.mono hb1.size))
  clear hb1 hb2
  go_wp2_with fail
  refine (HE.out _).mono ?_
  rintro e' w3 ⟨rfl, hb3⟩
  have HB3 := Lib.hid (HB.out.trans (hb3.mono HB.out.size))
  clear hb3
  go_wp2
  go_ret
  exact ⟨by rw [HAr.out, List.append_assoc]; rfl, HB3.out⟩
end Go.Proofs.YtfagjhgmmaebfaaGreatDoor
