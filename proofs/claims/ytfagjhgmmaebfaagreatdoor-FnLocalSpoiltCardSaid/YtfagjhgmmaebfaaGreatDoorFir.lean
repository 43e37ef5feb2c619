/- Contracts: laws.zzFits3, zzFits2, zzFits1; spec.Directories. -/
import Derived.Test.YtfagjhgmmaebfaaGreatDoorEnt
import Derived.Test.YtfagjhgmmaebfaaGreatDoorRows
import Derived.LoopTactic
namespace Go.Proofs.YtfagjhgmmaebfaaGreatDoor
open Go.RowKit
def fitsE3 (e : En) : Bool := decide (e.name.length ≤ 2147483647) && decide (e.comment.length ≤ 2147483647) && decide (e.extra.length ≤ 2147483647)
def fitsE2 (e : En) : Bool := fitsE3 e && decide (e.data.length ≤ 2147483647)
def fitsE1 (L : List En) : Bool := decide (L.length ≤ 2147483647) && L.all fitsE2
structure En.Lens (e : En) : Prop where
  name : e.name.length ≤ 9223372036854775807
  comment : e.comment.length ≤ 9223372036854775807
  extra : e.extra.length ≤ 9223372036854775807
  data : e.data.length ≤ 9223372036854775807
theorem fitsE3_any (e : En) (h : e.Lens) (w : World) : Calls Tryz.prog 30 #[.agg #[.string ⟨e.name.toArray⟩, .string ⟨e.comment.toArray⟩, .string ⟨e.extra.toArray⟩, .bool e.nu, .int .i64 e.creator, .int .i64 e.reader, .int .i64 e.flags, .int .i64 e.method, .int .i64 e.time, .int .i64 e.date, .int .i64 e.crc, .int .i64 e.packed, .int .i64 e.size, .int .i64 e.external]] w fun e' w' => e' = .returned (.bool (fitsE3 e)) ∧ Below w.heap.size w w' := by
  have hsz : ∀ l : List UInt8, (ByteArray.mk l.toArray).size = l.length := fun _ => rfl
  have h1 := h.name
  have h2 := h.comment
  have h3 := h.extra
  have hf := Lib.hid (show fitsE3 e = (decide (e.name.length ≤ 2147483647) && decide (e.comment.length ≤ 2147483647) && decide (e.extra.length ≤ 2147483647)) from rfl)
  clear h
  by_cases a1 : 2147483647 < e.name.length
  · go_enter Tryz.func30, Tryz.ntmps30
    go_wp2
    go_ret
    have hv : fitsE3 e = false := by rw [hf.out]; simp; omega
    exact ⟨by rw [hv]; rfl, (Below.refl _ _).alloc (Nat.le_refl _) _⟩
  by_cases a2 : 2147483647 < e.comment.length
  · go_enter Tryz.func30, Tryz.ntmps30
    go_wp2
    go_ret
    have hv : fitsE3 e = false := by rw [hf.out]; simp; omega
    exact ⟨by rw [hv]; rfl, (Below.refl _ _).alloc (Nat.le_refl _) _⟩
  by_cases a3 : 2147483647 < e.extra.length
  · go_enter Tryz.func30, Tryz.ntmps30
    go_wp2
    go_ret
    have hv : fitsE3 e = false := by rw [hf.out]; simp; omega
    exact ⟨by rw [hv]; rfl, (Below.refl _ _).alloc (Nat.le_refl _) _⟩
  · go_enter Tryz.func30, Tryz.ntmps30
    go_wp2
    go_ret
    have hv : fitsE3 e = true := by rw [hf.out]; simp; omega
    exact ⟨by rw [hv]; rfl, (Below.refl _ _).alloc (Nat.le_refl _) _⟩
theorem fitsE3_is (e : En) (h : e.Lens) (b : Bool) (hb : fitsE3 e = b) (w : World) : Calls Tryz.prog 30 #[.agg #[.string ⟨e.name.toArray⟩, .string ⟨e.comment.toArray⟩, .string ⟨e.extra.toArray⟩, .bool e.nu, .int .i64 e.creator, .int .i64 e.reader, .int .i64 e.flags, .int .i64 e.method, .int .i64 e.time, .int .i64 e.date, .int .i64 e.crc, .int .i64 e.packed, .int .i64 e.size, .int .i64 e.external]] w fun e' w' => e' = .returned (.bool b) ∧ Below w.heap.size w w' := hb ▸ fitsE3_any e h w
set_option maxHeartbeats 400000 in
theorem fitsE2_any (e : En) (h : e.Lens) (w : World) : Calls Tryz.prog 16 #[.agg #[.string ⟨e.name.toArray⟩, .string ⟨e.comment.toArray⟩, .string ⟨e.extra.toArray⟩, .bool e.nu, .int .i64 e.creator, .int .i64 e.reader, .int .i64 e.flags, .int .i64 e.method, .int .i64 e.time, .int .i64 e.date, .int .i64 e.crc, .int .i64 e.packed, .int .i64 e.size, .int .i64 e.external, .string ⟨e.data.toArray⟩]] w fun e' w' => e' = .returned (.bool (fitsE2 e)) ∧ Below w.heap.size w w' := by
  have hsz : ∀ l : List UInt8, (ByteArray.mk l.toArray).size = l.length := fun _ => rfl
  have h4 := h.data
  have hf := Lib.hid (show fitsE2 e = (fitsE3 e && decide (e.data.length ≤ 2147483647)) from rfl)
  obtain ⟨b, hb⟩ : ∃ b, fitsE3 e = b := ⟨_, rfl⟩
  have H3 := Lib.hid (fitsE3_is e h b hb)
  rw [hb] at hf
  clear h hb
  cases b
  · go_enter Tryz.func16, Tryz.ntmps16
    go_wp2_with fail
    refine (H3.out _).mono ?_
    rintro e' w1 ⟨rfl, hb1⟩
    have HB := Lib.hid (below_new hb1)
    clear hb1
    go_wp2
    go_ret
    have hv : fitsE2 e = false := by rw [hf.out]; rfl
    exact ⟨by rw [hv]; rfl, HB.out⟩
  · by_cases a4 : 2147483647 < e.data.length
    all_goals
      go_enter Tryz.func16, Tryz.ntmps16
      go_wp2_with fail
      refine (H3.out _).mono ?_
      rintro e' w1 ⟨rfl, hb1⟩
      have c14 : w1.cell? ⟨w.heap.size, 14, none⟩ = some (.string ⟨e.data.toArray⟩) := (((Blk.new w 41 e.cells.toArray)).below hb1 (by simp)).cell 14
      have HB := Lib.hid (below_new hb1)
      clear hb1
      go_wp2
      go_ret
    · have hv : fitsE2 e = false := by rw [hf.out]; simp; omega
      exact ⟨by rw [hv]; rfl, HB.out⟩
    · have hv : fitsE2 e = true := by rw [hf.out]; simp; omega
      exact ⟨by rw [hv]; rfl, HB.out⟩
theorem fitsE2_is (e : En) (h : e.Lens) (b : Bool) (hb : fitsE2 e = b) (w : World) : Calls Tryz.prog 16 #[.agg #[.string ⟨e.name.toArray⟩, .string ⟨e.comment.toArray⟩, .string ⟨e.extra.toArray⟩, .bool e.nu, .int .i64 e.creator, .int .i64 e.reader, .int .i64 e.flags, .int .i64 e.method, .int .i64 e.time, .int .i64 e.date, .int .i64 e.crc, .int .i64 e.packed, .int .i64 e.size, .int .i64 e.external, .string ⟨e.data.toArray⟩]] w fun e' w' => e' = .returned (.bool b) ∧ Below w.heap.size w w' := hb ▸ fitsE2_any e h w
theorem all_take {α : Type} (p : α → Bool) (L : List α) (k : Nat) (h : k < L.length) (h1 : (L.take k).all p = true) : (L.take (k + 1)).all p = p L[k] := by
  rw [List.take_succ_eq_append_getElem h, List.all_append, h1]; simp
theorem all_no {α : Type} (p : α → Bool) (L : List α) (k : Nat) (h : k < L.length) (h1 : p L[k] = false) : L.all p = false := by
  rw [List.all_eq_false]
  exact ⟨L[k], List.getElem_mem _, by simp [h1]⟩
set_option maxHeartbeats 1000000 in
theorem fitsE1_any {w : World} (A : Option Addr) (c : Nat) (L : List En) (hc : L.length ≤ 9223372036854775807) (hr : Reads w w.heap.size 15 A L.length (L.flatMap En.cells)) (hL : ∀ e ∈ L, e.Lens) :
    Calls Tryz.prog 4 #[.slice A L.length c] w fun e' w' => e' = .returned (.bool (fitsE1 L)) ∧ Below w.heap.size w w' := by
  have hf := Lib.hid (show fitsE1 L = (decide (L.length ≤ 2147483647) && L.all fitsE2) from rfl)
  by_cases a1 : 2147483647 < L.length
  · clear hr hL
    go_enter Tryz.func4, Tryz.ntmps4
    go_wp2
    go_ret
    have hv : fitsE1 L = false := by rw [hf.out, decide_eq_false (show ¬ L.length ≤ 2147483647 by omega)]; rfl
    exact ⟨by rw [hv]; rfl, Below.refl _ _⟩
  have H := Lib.hid (And.intro hr hL)
  clear hr hL
  go_enter Tryz.func4, Tryz.ntmps4
  go_wp2_with fail
  go_loopw [10] (fun s wr => ∃ k : Nat, s = .int .i64 k ∧ k ≤ L.length ∧ Hid ((L.take k).all fitsE2 = true ∧ Below w.heap.size w wr)) (fun s _ => L.length - (intOf s).toNat)
  case atStart => exact ⟨0, rfl, Nat.zero_le _, Lib.hid ⟨rfl, Below.refl _ _⟩⟩
  case round =>
    obtain ⟨k, rfl, hk, HI⟩ := hrel
    by_cases hlt : k < L.length
    · obtain ⟨ad, hA, hab, hcell⟩ := H.out.1.2 (by omega)
      subst hA
      obtain ⟨e, he⟩ : ∃ e, e = L[k] := ⟨_, rfl⟩
      have hcs : ∀ (j : Nat) (v : Value), e.cells[j]? = some v → wr.cell? (ad.add (k * 15 + j)) = some v := fun j v hj => by
        have hj15 : j < 15 := by
          have := (List.getElem?_eq_some_iff.1 hj).1; rwa [En.cells_length] at this
        have := hcell (k * 15 + j) v (by rw [flat_cells L k j hlt hj15, ← he]; exact hj)
        rw [← this]
        exact HI.out.2.cell (by rw [block_of_add]; exact hab)
      have HCS := Lib.hid hcs
      obtain ⟨b, hb⟩ : ∃ b, fitsE2 e = b := ⟨_, rfl⟩
      have H2 := Lib.hid (fitsE2_is e (by rw [he]; exact H.out.2 _ (List.getElem_mem _)) b hb)
      have HE := Lib.hid (And.intro he hb)
      clear hcs hcell he hab hb
      have c0 : wr.cell? (ad.add (k * 15)) = some (.string ⟨e.name.toArray⟩) := HCS.out 0 _ rfl
      have c1 : wr.cell? ⟨(ad.add (k * 15)).block, (ad.add (k * 15)).off + 1, none⟩ = some (.string ⟨e.comment.toArray⟩) := by rw [add_off _ _ _ (by decide)]; exact HCS.out 1 _ rfl
      have c2 : wr.cell? ⟨(ad.add (k * 15)).block, (ad.add (k * 15)).off + 2, none⟩ = some (.string ⟨e.extra.toArray⟩) := by rw [add_off _ _ _ (by decide)]; exact HCS.out 2 _ rfl
      have c3 : wr.cell? ⟨(ad.add (k * 15)).block, (ad.add (k * 15)).off + 3, none⟩ = some (.bool e.nu) := by rw [add_off _ _ _ (by decide)]; exact HCS.out 3 _ rfl
      have c4 : wr.cell? ⟨(ad.add (k * 15)).block, (ad.add (k * 15)).off + 4, none⟩ = some (.int .i64 e.creator) := by rw [add_off _ _ _ (by decide)]; exact HCS.out 4 _ rfl
      have c5 : wr.cell? ⟨(ad.add (k * 15)).block, (ad.add (k * 15)).off + 5, none⟩ = some (.int .i64 e.reader) := by rw [add_off _ _ _ (by decide)]; exact HCS.out 5 _ rfl
      have c6 : wr.cell? ⟨(ad.add (k * 15)).block, (ad.add (k * 15)).off + 6, none⟩ = some (.int .i64 e.flags) := by rw [add_off _ _ _ (by decide)]; exact HCS.out 6 _ rfl
      have c7 : wr.cell? ⟨(ad.add (k * 15)).block, (ad.add (k * 15)).off + 7, none⟩ = some (.int .i64 e.method) := by rw [add_off _ _ _ (by decide)]; exact HCS.out 7 _ rfl
      have c8 : wr.cell? ⟨(ad.add (k * 15)).block, (ad.add (k * 15)).off + 8, none⟩ = some (.int .i64 e.time) := by rw [add_off _ _ _ (by decide)]; exact HCS.out 8 _ rfl
      have c9 : wr.cell? ⟨(ad.add (k * 15)).block, (ad.add (k * 15)).off + 9, none⟩ = some (.int .i64 e.date) := by rw [add_off _ _ _ (by decide)]; exact HCS.out 9 _ rfl
      have c10 : wr.cell? ⟨(ad.add (k * 15)).block, (ad.add (k * 15)).off + 10, none⟩ = some (.int .i64 e.crc) := by rw [add_off _ _ _ (by decide)]; exact HCS.out 10 _ rfl
      have c11 : wr.cell? ⟨(ad.add (k * 15)).block, (ad.add (k * 15)).off + 11, none⟩ = some (.int .i64 e.packed) := by rw [add_off _ _ _ (by decide)]; exact HCS.out 11 _ rfl
      have c12 : wr.cell? ⟨(ad.add (k * 15)).block, (ad.add (k * 15)).off + 12, none⟩ = some (.int .i64 e.size) := by rw [add_off _ _ _ (by decide)]; exact HCS.out 12 _ rfl
      have c13 : wr.cell? ⟨(ad.add (k * 15)).block, (ad.add (k * 15)).off + 13, none⟩ = some (.int .i64 e.external) := by rw [add_off _ _ _ (by decide)]; exact HCS.out 13 _ rfl
      have c14 : wr.cell? ⟨(ad.add (k * 15)).block, (ad.add (k * 15)).off + 14, none⟩ = some (.string ⟨e.data.toArray⟩) := by rw [add_off _ _ _ (by decide)]; exact HCS.out 14 _ rfl
      cases b
      · go_wp2_with fail
        refine (H2.out _).mono ?_
        rintro e' w1 ⟨rfl, hb1⟩
        have HB := Lib.hid (HI.out.2.trans (below_new hb1 |>.mono HI.out.2.size))
        clear hb1 c0 c1 c2 c3 c4 c5 c6 c7 c8 c9 c10 c11 c12 c13 c14
        go_wp2
        go_ret
        have hv : fitsE1 L = false := by rw [hf.out, all_no fitsE2 L k hlt (by rw [← HE.out.1]; exact HE.out.2)]; simp
        exact ⟨by rw [hv]; rfl, HB.out⟩
      · go_wp2_with fail
        refine (H2.out _).mono ?_
        rintro e' w1 ⟨rfl, hb1⟩
        have HB := Lib.hid (HI.out.2.trans (below_new hb1 |>.mono HI.out.2.size))
        clear hb1 c0 c1 c2 c3 c4 c5 c6 c7 c8 c9 c10 c11 c12 c13 c14
        go_wp2
        go_roundw
        case rel => exact ⟨k + 1, by go_num, by omega, Lib.hid ⟨by rw [all_take fitsE2 L k hlt HI.out.1, ← HE.out.1]; exact HE.out.2, HB.out⟩⟩
        case measure => simp [intOf]; omega
    · obtain rfl : k = L.length := by omega
      go_wp2
      go_ret
      refine ⟨?_, HI.out.2⟩
      have := HI.out.1
      rw [List.take_length] at this
      have hv : fitsE1 L = true := by rw [hf.out, this, decide_eq_true (show L.length ≤ 2147483647 by omega)]; rfl
      rw [hv]; rfl
def dirOk (e : En) : Bool := !(slashL e.name && !e.data.isEmpty)
theorem slash_last (l : List UInt8) (h : 0 < l.length) : slashL l = (l[l.length - 1] == 47) := by
  obtain ⟨a, b, rfl⟩ : ∃ a b, l = a ++ [b] := ⟨l.dropLast, l.getLast (List.length_pos_iff.1 h), (List.dropLast_concat_getLast _).symm⟩
  unfold slashL Lib.hasSuffix
  simp only [List.length_append, List.length_cons, List.length_nil, Nat.zero_add, Nat.add_sub_cancel, List.getElem_concat_length]
  rw [Bool.eq_iff_iff]
  simp only [List.isSuffixOf_iff_suffix, beq_iff_eq]
  constructor
  · rintro ⟨t, ht⟩
    have := congrArg List.getLast? ht
    simpa using this.symm
  · rintro rfl
    exact ⟨a, rfl⟩
end Go.Proofs.YtfagjhgmmaebfaaGreatDoor
/- Contract: spec.Directories. -/
namespace Go.Proofs.YtfagjhgmmaebfaaGreatDoor
open Go.RowKit
theorem dirOk_slash {e : En} (h : slashL e.name = true) : dirOk e = e.data.isEmpty := by
  unfold dirOk; rw [h]; simp
theorem dirOk_no {e : En} (h : slashL e.name = false) : dirOk e = true := by
  unfold dirOk; rw [h]; rfl
theorem slash_nil (l : List UInt8) (h : l.length = 0) : slashL l = false := by
  obtain rfl := List.eq_nil_of_length_eq_zero h
  decide
set_option maxHeartbeats 2000000 in
theorem dirs_any {w : World} (A : Option Addr) (c : Nat) (L : List En) (hc : L.length ≤ 9223372036854775807) (hr : Reads w w.heap.size 15 A L.length (L.flatMap En.cells)) (hL : ∀ e ∈ L, e.Lens) :
    Calls Tryz.prog 7 #[.slice A L.length c] w fun e' w' => e' = .returned (.bool (L.all dirOk)) ∧ Below w.heap.size w w' := by
  have H := Lib.hid (And.intro hr hL)
  clear hr hL
  go_enter Tryz.func7, Tryz.ntmps7
  go_wp2_with fail
  go_loopw [8] (fun s wr => ∃ k : Nat, s = .int .i64 k ∧ k ≤ L.length ∧ Hid ((L.take k).all dirOk = true ∧ Below w.heap.size w wr)) (fun s _ => L.length - (intOf s).toNat)
  case atStart => exact ⟨0, rfl, Nat.zero_le _, Lib.hid ⟨rfl, Below.refl _ _⟩⟩
  case round =>
    obtain ⟨k, rfl, hk, HI⟩ := hrel
    by_cases hlt : k < L.length
    · obtain ⟨ad, hA, hab, hcell⟩ := H.out.1.2 (by omega)
      subst hA
      obtain ⟨e, he⟩ : ∃ e, e = L[k] := ⟨_, rfl⟩
      have hcs : ∀ (j : Nat) (v : Value), e.cells[j]? = some v → wr.cell? (ad.add (k * 15 + j)) = some v := fun j v hj => by
        have hj15 : j < 15 := by
          have := (List.getElem?_eq_some_iff.1 hj).1; rwa [En.cells_length] at this
        have := hcell (k * 15 + j) v (by rw [flat_cells L k j hlt hj15, ← he]; exact hj)
        rw [← this]
        exact HI.out.2.cell (by rw [block_of_add]; exact hab)
      have HCS := Lib.hid hcs
      have hln : e.name.length ≤ 9223372036854775807 := by rw [he]; exact (H.out.2 _ (List.getElem_mem _)).name
      have HE := Lib.hid he
      have HB := Lib.hid (HI.out.2.alloc HI.out.2.size (.cells e.cells.toArray 41))
      clear hcs hcell he hab
      have c0 : wr.cell? (ad.add (k * 15)) = some (.string ⟨e.name.toArray⟩) := HCS.out 0 _ rfl
      have c1 : wr.cell? ⟨(ad.add (k * 15)).block, (ad.add (k * 15)).off + 1, none⟩ = some (.string ⟨e.comment.toArray⟩) := by rw [add_off _ _ _ (by decide)]; exact HCS.out 1 _ rfl
      have c2 : wr.cell? ⟨(ad.add (k * 15)).block, (ad.add (k * 15)).off + 2, none⟩ = some (.string ⟨e.extra.toArray⟩) := by rw [add_off _ _ _ (by decide)]; exact HCS.out 2 _ rfl
      have c3 : wr.cell? ⟨(ad.add (k * 15)).block, (ad.add (k * 15)).off + 3, none⟩ = some (.bool e.nu) := by rw [add_off _ _ _ (by decide)]; exact HCS.out 3 _ rfl
      have c4 : wr.cell? ⟨(ad.add (k * 15)).block, (ad.add (k * 15)).off + 4, none⟩ = some (.int .i64 e.creator) := by rw [add_off _ _ _ (by decide)]; exact HCS.out 4 _ rfl
      have c5 : wr.cell? ⟨(ad.add (k * 15)).block, (ad.add (k * 15)).off + 5, none⟩ = some (.int .i64 e.reader) := by rw [add_off _ _ _ (by decide)]; exact HCS.out 5 _ rfl
      have c6 : wr.cell? ⟨(ad.add (k * 15)).block, (ad.add (k * 15)).off + 6, none⟩ = some (.int .i64 e.flags) := by rw [add_off _ _ _ (by decide)]; exact HCS.out 6 _ rfl
      have c7 : wr.cell? ⟨(ad.add (k * 15)).block, (ad.add (k * 15)).off + 7, none⟩ = some (.int .i64 e.method) := by rw [add_off _ _ _ (by decide)]; exact HCS.out 7 _ rfl
      have c8 : wr.cell? ⟨(ad.add (k * 15)).block, (ad.add (k * 15)).off + 8, none⟩ = some (.int .i64 e.time) := by rw [add_off _ _ _ (by decide)]; exact HCS.out 8 _ rfl
      have c9 : wr.cell? ⟨(ad.add (k * 15)).block, (ad.add (k * 15)).off + 9, none⟩ = some (.int .i64 e.date) := by rw [add_off _ _ _ (by decide)]; exact HCS.out 9 _ rfl
      have c10 : wr.cell? ⟨(ad.add (k * 15)).block, (ad.add (k * 15)).off + 10, none⟩ = some (.int .i64 e.crc) := by rw [add_off _ _ _ (by decide)]; exact HCS.out 10 _ rfl
      have c11 : wr.cell? ⟨(ad.add (k * 15)).block, (ad.add (k * 15)).off + 11, none⟩ = some (.int .i64 e.packed) := by rw [add_off _ _ _ (by decide)]; exact HCS.out 11 _ rfl
      have c12 : wr.cell? ⟨(ad.add (k * 15)).block, (ad.add (k * 15)).off + 12, none⟩ = some (.int .i64 e.size) := by rw [add_off _ _ _ (by decide)]; exact HCS.out 12 _ rfl
      have c13 : wr.cell? ⟨(ad.add (k * 15)).block, (ad.add (k * 15)).off + 13, none⟩ = some (.int .i64 e.external) := by rw [add_off _ _ _ (by decide)]; exact HCS.out 13 _ rfl
      have c14 : wr.cell? ⟨(ad.add (k * 15)).block, (ad.add (k * 15)).off + 14, none⟩ = some (.string ⟨e.data.toArray⟩) := by rw [add_off _ _ _ (by decide)]; exact HCS.out 14 _ rfl
      by_cases h0 : e.name.length = 0
      · have hszn : (ByteArray.mk e.name.toArray).size = 0 := h0
        have HD := Lib.hid (dirOk_no (slash_nil _ h0))
        clear h0 hln
        go_wp2
        go_roundw
        case rel => exact ⟨k + 1, by go_num, by omega, Lib.hid ⟨by rw [all_take dirOk L k hlt HI.out.1, ← HE.out]; exact HD.out, HB.out⟩⟩
        case measure => simp [intOf]; omega
      · obtain ⟨m, hm⟩ : ∃ m, e.name.length = m + 1 := ⟨e.name.length - 1, by omega⟩
        have hszn : (ByteArray.mk e.name.toArray).size = m + 1 := hm
        have hml : m < e.name.length := by omega
        have hg : (ByteArray.mk e.name.toArray)[m]'(by rw [hszn]; omega) = e.name[m] := rfl
        have hbt := e.name[m].toNat_lt
        have hsl := slash_last e.name (by omega)
        have hml2 : e.name[e.name.length - 1]'(by omega) = e.name[m] := by congr 1; omega
        rw [hml2] at hsl
        have HSL := Lib.hid hsl
        have hm0 : m + 1 ≤ 9223372036854775807 := by omega
        clear hm h0 hln hsl hml2
        by_cases hs : e.name[m] = 47
        · have hb : ((e.name[m].toNat : Int) == 47) = true := by rw [hs]; rfl
          have HD := Lib.hid (dirOk_slash (e := e) (by rw [HSL.out, hs]; rfl))
          clear hs
          obtain ⟨b, hbe⟩ : ∃ b, e.data.isEmpty = b := ⟨_, rfl⟩
          cases b
          · go_wp2
            go_ret
            have hv : L.all dirOk = false := all_no dirOk L k hlt (by rw [← HE.out, HD.out]; exact hbe)
            exact ⟨by rw [hv]; rfl, HB.out⟩
          · go_wp2
            go_roundw
            case rel => exact ⟨k + 1, by go_num, by omega, Lib.hid ⟨by rw [all_take dirOk L k hlt HI.out.1, ← HE.out, HD.out]; exact hbe, HB.out⟩⟩
            case measure => simp [intOf]; omega
        · have hb : ((e.name[m].toNat : Int) == 47) = false := by
            rw [beq_eq_false_iff_ne]
            intro h
            exact hs (UInt8.toNat_inj.1 (by rw [show (47 : UInt8).toNat = 47 from rfl]; omega))
          have HD := Lib.hid (dirOk_no (e := e) (by rw [HSL.out]; exact beq_eq_false_iff_ne.2 hs))
          clear hs
          go_wp2
          go_roundw
          case rel => exact ⟨k + 1, by go_num, by omega, Lib.hid ⟨by rw [all_take dirOk L k hlt HI.out.1, ← HE.out]; exact HD.out, HB.out⟩⟩
          case measure => simp [intOf]; omega
    · obtain rfl : k = L.length := by omega
      go_wp2
      go_ret
      refine ⟨?_, HI.out.2⟩
      have := HI.out.1
      rw [List.take_length] at this
      rw [this]; rfl
end Go.Proofs.YtfagjhgmmaebfaaGreatDoor
