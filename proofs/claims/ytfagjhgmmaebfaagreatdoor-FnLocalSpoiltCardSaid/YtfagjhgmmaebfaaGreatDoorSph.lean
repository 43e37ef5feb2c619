/- Contract: spec.AllStored. -/
import Derived.Test.YtfagjhgmmaebfaaGreatDoorSpg
import Derived.Deep.Slices
namespace Go.Proofs.YtfagjhgmmaebfaaGreatDoor
open Go.RowKit
def entZ : Array Value := #[.string ⟨#[]⟩, .string ⟨#[]⟩, .string ⟨#[]⟩, .bool false, .int .i64 0, .int .i64 0, .int .i64 0, .int .i64 0, .int .i64 0, .int .i64 0, .int .i64 0, .int .i64 0, .int .i64 0, .int .i64 0, .string ⟨#[]⟩]
theorem infoEnt : (Tryz.prog.info? 41).map (fun i => (i.zero, i.size, i.bytes)) = some (some (.agg entZ), 15, 152) := by kernel_rfl
theorem cells_one (e : En) : ∀ u ∈ e.cells, u.oneCell' = true := fun u he => by
  simp only [En.cells, List.mem_cons, List.not_mem_nil, or_false] at he
  rcases he with rfl | rfl | rfl | rfl | rfl | rfl | rfl | rfl | rfl | rfl | rfl | rfl | rfl | rfl | rfl <;> rfl
theorem own_sliceA {w : World} {base n size : Nat} {e : TypeId} {v : Value} {xs : List Value} (h : w.ownsRow base e size v n xs) : ∃ A c, v = .slice A n c := by
  rcases h.2 with ⟨rfl, h0⟩ | ⟨g, cap, cur, rfl, _⟩
  · exact ⟨none, 0, by rw [h0]⟩
  · exact ⟨_, _, rfl⟩
theorem own_kept {w w' : World} {base n size : Nat} {e : TypeId} {v : Value} {xs : List Value} {S : List Nat} (h : w.ownsRow base e size v n xs) (k : Kept S w w') (hS : ∀ g, v.ownBlock = some g → g ∉ S) : w'.ownsRow base e size v n xs := by
  refine ⟨h.1, ?_⟩
  have hl := h.lt
  rcases h.2 with h0 | ⟨g, cap, cur, hv, hb, hh, r⟩
  · exact .inl h0
  · refine .inr ⟨g, cap, cur, hv, hb, ?_, r⟩
    have hg : v.ownBlock = some g := by rw [hv]; rfl
    exact (k.block g (hl g hg).2 (hS g hg)).trans hh
theorem own_below {w w' : World} {base n size : Nat} {e : TypeId} {v : Value} {xs : List Value} (h : w.ownsRow base e size v n xs) (hb : Below w.heap.size w w') : w'.ownsRow base e size v n xs := own_kept h (Kept.of_below hb []) (by simp)
theorem st_take (L : List En) (k : Nat) (hk : k < L.length) : ((L.map En.st).take (k + 1)).flatMap En.cells = ((L.map En.st).take k).flatMap En.cells ++ L[k].st.cells := by
  rw [List.take_succ_eq_append_getElem (by simpa using hk), List.flatMap_append, List.getElem_map]
  simp
set_option maxRecDepth 100000 in
set_option maxHeartbeats 4000000 in
theorem AllStored_any {w : World} (A : Option Addr) (c : Nat) (L : List En) (hn : L.length ≤ 2147483647) (hr : Reads w w.heap.size 15 A L.length (L.flatMap En.cells)) (hL : ∀ e ∈ L, e.data.length ≤ 4294967295) :
    Calls Tryz.prog 5 #[.slice A L.length c] w fun e' w' => (∃ v, e' = .returned v ∧ w'.ownsRow w.heap.size 41 15 v L.length ((L.map En.st).flatMap En.cells)) ∧ Below w.heap.size w w' := by
  obtain ⟨i0, hi, hz0, hz1, hz2⟩ := info_parts infoEnt
  have H := Lib.hid (And.intro hr hL)
  clear hr hL
  go_enter Tryz.func5, Tryz.ntmps5
  go_wp2_with fail
  refine atW (fun W => W.ownsRow w.heap.size 41 15 (.slice (some ⟨w.heap.size, 0, none⟩) 0 0) 0 [] ∧ Below w.heap.size w W) ⟨World.ownsRow_made w #[] 0 (Nat.le_refl _) (by decide) rfl, (Below.refl _ _).alloc (Nat.le_refl _) _⟩ ?_
  rintro W0 hW0
  have HW := Lib.hid hW0
  clear hW0
  go_loopw [3, 9] (fun s3 s9 wr => ∃ k : Nat, s9 = .int .i64 k ∧ k ≤ L.length ∧ Hid (Below w.heap.size w wr ∧ wr.ownsRow w.heap.size 41 15 s3 k (((L.map En.st).take k).flatMap En.cells))) (fun _ s9 _ => L.length - (intOf s9).toNat)
  case atStart => exact ⟨0, rfl, Nat.zero_le _, Lib.hid ⟨HW.out.2, HW.out.1⟩⟩
  case round =>
    obtain ⟨k, rfl, hk, HI⟩ := hrel
    clear HW
    obtain ⟨A3, cq, hv3⟩ := own_sliceA HI.out.2
    subst hv3
    by_cases hlt : k < L.length
    ·
      obtain ⟨ad, hA, hab, hcell⟩ := H.out.1.2 (by omega)
      subst hA
      obtain ⟨e, he⟩ : ∃ e, e = L[k] := ⟨_, rfl⟩
      have hok := H.out.2 _ (List.getElem_mem hlt)
      rw [← he] at hok
      have hcs : ∀ (j : Nat) (v : Value), e.cells[j]? = some v → wr.cell? (ad.add (k * 15 + j)) = some v := fun j v hj => by
        have hj15 : j < 15 := by
          have := (List.getElem?_eq_some_iff.1 hj).1; rwa [En.cells_length] at this
        have := hcell (k * 15 + j) v (by rw [flat_cells L k j hlt hj15, ← he]; exact hj)
        rw [← this]
        exact HI.out.1.cell (by rw [block_of_add]; exact hab)
      have c0 : wr.cell? (ad.add (k * 15)) = some (.string ⟨e.name.toArray⟩) := hcs 0 _ rfl
      have c1 : wr.cell? ⟨(ad.add (k * 15)).block, (ad.add (k * 15)).off + 1, none⟩ = some (.string ⟨e.comment.toArray⟩) := by rw [add_off _ _ _ (by decide)]; exact hcs 1 _ rfl
      have c2 : wr.cell? ⟨(ad.add (k * 15)).block, (ad.add (k * 15)).off + 2, none⟩ = some (.string ⟨e.extra.toArray⟩) := by rw [add_off _ _ _ (by decide)]; exact hcs 2 _ rfl
      have c3 : wr.cell? ⟨(ad.add (k * 15)).block, (ad.add (k * 15)).off + 3, none⟩ = some (.bool e.nu) := by rw [add_off _ _ _ (by decide)]; exact hcs 3 _ rfl
      have c4 : wr.cell? ⟨(ad.add (k * 15)).block, (ad.add (k * 15)).off + 4, none⟩ = some (.int .i64 e.creator) := by rw [add_off _ _ _ (by decide)]; exact hcs 4 _ rfl
      have c5 : wr.cell? ⟨(ad.add (k * 15)).block, (ad.add (k * 15)).off + 5, none⟩ = some (.int .i64 e.reader) := by rw [add_off _ _ _ (by decide)]; exact hcs 5 _ rfl
      have c6 : wr.cell? ⟨(ad.add (k * 15)).block, (ad.add (k * 15)).off + 6, none⟩ = some (.int .i64 e.flags) := by rw [add_off _ _ _ (by decide)]; exact hcs 6 _ rfl
      have c7 : wr.cell? ⟨(ad.add (k * 15)).block, (ad.add (k * 15)).off + 7, none⟩ = some (.int .i64 e.method) := by rw [add_off _ _ _ (by decide)]; exact hcs 7 _ rfl
      have c8 : wr.cell? ⟨(ad.add (k * 15)).block, (ad.add (k * 15)).off + 8, none⟩ = some (.int .i64 e.time) := by rw [add_off _ _ _ (by decide)]; exact hcs 8 _ rfl
      have c9 : wr.cell? ⟨(ad.add (k * 15)).block, (ad.add (k * 15)).off + 9, none⟩ = some (.int .i64 e.date) := by rw [add_off _ _ _ (by decide)]; exact hcs 9 _ rfl
      have c10 : wr.cell? ⟨(ad.add (k * 15)).block, (ad.add (k * 15)).off + 10, none⟩ = some (.int .i64 e.crc) := by rw [add_off _ _ _ (by decide)]; exact hcs 10 _ rfl
      have c11 : wr.cell? ⟨(ad.add (k * 15)).block, (ad.add (k * 15)).off + 11, none⟩ = some (.int .i64 e.packed) := by rw [add_off _ _ _ (by decide)]; exact hcs 11 _ rfl
      have c12 : wr.cell? ⟨(ad.add (k * 15)).block, (ad.add (k * 15)).off + 12, none⟩ = some (.int .i64 e.size) := by rw [add_off _ _ _ (by decide)]; exact hcs 12 _ rfl
      have c13 : wr.cell? ⟨(ad.add (k * 15)).block, (ad.add (k * 15)).off + 13, none⟩ = some (.int .i64 e.external) := by rw [add_off _ _ _ (by decide)]; exact hcs 13 _ rfl
      have c14 : wr.cell? ⟨(ad.add (k * 15)).block, (ad.add (k * 15)).off + 14, none⟩ = some (.string ⟨e.data.toArray⟩) := by rw [add_off _ _ _ (by decide)]; exact hcs 14 _ rfl
      have HE := Lib.hid he
      clear hcs hcell hab he
      have HSt := Lib.hid (Stored_any e hok)
      go_upto_region 5 with (fail)
      refine atW (fun W => Blk W wr.heap.size 41 #[.string ⟨e.name.toArray⟩, .string ⟨e.comment.toArray⟩, .string ⟨e.extra.toArray⟩, .bool e.nu, .int .i64 e.creator, .int .i64 e.reader, .int .i64 e.flags, .int .i64 e.method, .int .i64 e.time, .int .i64 e.date, .int .i64 e.crc, .int .i64 e.packed, .int .i64 e.size, .int .i64 e.external, .string ⟨e.data.toArray⟩] ∧ Below w.heap.size w W ∧ W.ownsRow w.heap.size 41 15 (.slice A3 k cq) k (((L.map En.st).take k).flatMap En.cells)) ⟨Blk.new _ _ _, HI.out.1.alloc HI.out.1.size _, HI.out.2.alloc _⟩ ?_
      rintro W ⟨hW, hbW, hoW⟩
      obtain ⟨g, hg⟩ : ∃ g, g = wr.heap.size := ⟨_, rfl⟩
      rw [← hg] at hW ⊢
      have k0 : W.cell? ⟨g, 0, none⟩ = some (.string ⟨e.name.toArray⟩) := hW.cell 0
      have k1 : W.cell? ⟨g, 1, none⟩ = some (.string ⟨e.comment.toArray⟩) := hW.cell 1
      have k2 : W.cell? ⟨g, 2, none⟩ = some (.string ⟨e.extra.toArray⟩) := hW.cell 2
      have k3 : W.cell? ⟨g, 3, none⟩ = some (.bool e.nu) := hW.cell 3
      have k4 : W.cell? ⟨g, 4, none⟩ = some (.int .i64 e.creator) := hW.cell 4
      have k5 : W.cell? ⟨g, 5, none⟩ = some (.int .i64 e.reader) := hW.cell 5
      have k6 : W.cell? ⟨g, 6, none⟩ = some (.int .i64 e.flags) := hW.cell 6
      have k7 : W.cell? ⟨g, 7, none⟩ = some (.int .i64 e.method) := hW.cell 7
      have k8 : W.cell? ⟨g, 8, none⟩ = some (.int .i64 e.time) := hW.cell 8
      have k9 : W.cell? ⟨g, 9, none⟩ = some (.int .i64 e.date) := hW.cell 9
      have k10 : W.cell? ⟨g, 10, none⟩ = some (.int .i64 e.crc) := hW.cell 10
      have k11 : W.cell? ⟨g, 11, none⟩ = some (.int .i64 e.packed) := hW.cell 11
      have k12 : W.cell? ⟨g, 12, none⟩ = some (.int .i64 e.size) := hW.cell 12
      have k13 : W.cell? ⟨g, 13, none⟩ = some (.int .i64 e.external) := hW.cell 13
      have k14 : W.cell? ⟨g, 14, none⟩ = some (.string ⟨e.data.toArray⟩) := hW.cell 14
      have HC := Lib.hid (And.intro hbW hoW)
      clear hW hbW hoW hg c0 c1 c2 c3 c4 c5 c6 c7 c8 c9 c10 c11 c12 c13 c14
      go_wp2_with (first | (go_at_call 17; refine (HSt.out _).mono ?_; rintro e' w1 ⟨rfl, hb1⟩; have HO := Lib.hid (And.intro (HC.out.1.trans (hb1.mono HC.out.1.size)) (own_below HC.out.2 hb1)); clear hb1) | (at_builtin; refine wpList_append_own _ rfl _ _ 22 rfl w.heap.size 41 i0 (.agg entZ) 15 152 Tryz.underlying22 hi hz0 hz1 hz2 rfl (by decide) _ _ _ rfl (HO.out.2.alloc _) ⟨w1.heap.size, 0, none⟩ 1 1 e.st.cells rfl rfl ?c1 ?c2 ?c3 ?c4 ?c5 ?_))
      case c1 =>
        intro q u hu
        rw [Addr.add_lit, Nat.zero_add]
        exact ((Blk.new w1 41 e.st.cells.toArray).cell q).trans (by rw [List.getElem?_toArray]; exact hu)
      case c2 => exact cells_one _
      case c3 => unfold maxLen; omega
      case c4 => omega
      case c5 => have := HO.out.1.size; simp; omega
      intro v' w6 hown6 hgrow _
      have hb6 : Below w.heap.size w w6 := (HO.out.1.alloc HO.out.1.size _).grown hgrow (by have := HO.out.1.size; simp; omega) (fun q hq => (HO.out.2.lt q hq).1)
      have HB6 := Lib.hid (And.intro hown6 hb6)
      clear hown6 hgrow hb6
      go_wp2
      go_roundw
      case rel => exact ⟨k + 1, by go_num, by omega, Lib.hid ⟨HB6.out.2, by rw [st_take L k hlt, ← HE.out]; exact HB6.out.1⟩⟩
      case measure => simp [intOf]; omega
    · obtain rfl : k = L.length := by omega
      go_wp2
      go_ret
      refine ⟨⟨_, rfl, ?_⟩, HI.out.1⟩
      have := HI.out.2
      rwa [List.take_of_length_le (by simp)] at this
end Go.Proofs.YtfagjhgmmaebfaaGreatDoor
