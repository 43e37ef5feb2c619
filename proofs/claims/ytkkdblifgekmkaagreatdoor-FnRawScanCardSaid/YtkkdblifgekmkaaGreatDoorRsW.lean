/- Contracts: spec.Within, spec.HeaderOk, spec.Simple. -/
import Derived.Test.YtkkdblifgekmkaaGreatDoorFits
import Derived.Test.YtkkdblifgekmkaaGreatDoorReads
import Derived.Test.YtkkdblifgekmkaaGreatDoorWrr
import Derived.Test.YtkkdblifgekmkaaGreatDoorOpenE
import Derived.Laws.StructEq
import Derived.Test.YtkkdblifgekmkaaGreatDoorWrites
import Derived.BigQuiet
namespace Go.Proofs.YtkkdblifgekmkaaGreatDoor
open Go.RowKit
def within (n lo hi : Int) : Bool := decide (lo ≤ n) && decide (n ≤ hi)
theorem Within_any (n lo hi : Int) (w : World) : Calls Tryz.prog 35 #[.int .i64 n, .int .i64 lo, .int .i64 hi] w fun e' w' => e' = .returned (.bool (within n lo hi)) ∧ w' = w := by
  have hf := Lib.hid (show within n lo hi = (decide (lo ≤ n) && decide (n ≤ hi)) from rfl)
  by_cases a1 : n < lo
  · go_enter Tryz.func35, Tryz.ntmps35
    go_wp2
    go_ret
    have hv : within n lo hi = false := by rw [hf.out]; simp; omega
    exact ⟨by rw [hv]; rfl, rfl⟩
  by_cases a2 : hi < n
  · have hd : decide (n ≤ hi) = false := decide_eq_false (by omega)
    go_enter Tryz.func35, Tryz.ntmps35
    go_wp2
    go_ret
    have hv : within n lo hi = false := by rw [hf.out, hd]; simp
    exact ⟨by rw [hv]; first | rfl | (show Ending.returned (.bool (decide (n ≤ hi))) = _; rw [hd]), rfl⟩
  · have hd : decide (n ≤ hi) = true := decide_eq_true (by omega)
    go_enter Tryz.func35, Tryz.ntmps35
    go_wp2
    go_ret
    have hv : within n lo hi = true := by rw [hf.out, hd]; simp; omega
    exact ⟨by rw [hv]; first | rfl | (show Ending.returned (.bool (decide (n ≤ hi))) = _; rw [hd]), rfl⟩
theorem Within_is (n lo hi : Int) (b : Bool) (hb : within n lo hi = b) (w : World) : Calls Tryz.prog 35 #[.int .i64 n, .int .i64 lo, .int .i64 hi] w fun e' w' => e' = .returned (.bool b) ∧ w' = w := hb ▸ Within_any n lo hi w
theorem within_iff {n lo hi : Int} : within n lo hi = true ↔ lo ≤ n ∧ n ≤ hi := by simp [within]
def hdOk (e : En) : Bool := (within e.creator 0 65535 && within e.reader 0 65535 && within e.flags 0 65535 && within e.method 0 65535 && within e.time 0 65535 && within e.date 0 65535) && (within e.crc 0 4294967295 && within e.packed 0 4294967294 && within e.size 0 4294967294 && within e.external 0 4294967295) && decide (e.name.length ≤ 60000) && decide (e.comment.length ≤ 60000) && decide (e.extra.length ≤ 60000)
theorem dec_ret {p : Prop} [Decidable p] {b : Bool} (h : decide p = b) : Ending.returned (.bool (decide p)) = Ending.returned (.bool b) := by rw [h]
set_option maxRecDepth 100000 in
set_option maxHeartbeats 4000000 in
theorem HeaderOk_any (e : En) (h : e.Lens) (w : World) : Calls Tryz.prog 13 #[.agg #[.string ⟨e.name.toArray⟩, .string ⟨e.comment.toArray⟩, .string ⟨e.extra.toArray⟩, .bool e.nu, .int .i64 e.creator, .int .i64 e.reader, .int .i64 e.flags, .int .i64 e.method, .int .i64 e.time, .int .i64 e.date, .int .i64 e.crc, .int .i64 e.packed, .int .i64 e.size, .int .i64 e.external]] w fun e' w' => e' = .returned (.bool (hdOk e)) ∧ Below w.heap.size w w' := by
  have hsz : ∀ l : List UInt8, (ByteArray.mk l.toArray).size = l.length := fun _ => rfl
  have l1 := h.name
  have l2 := h.comment
  have l3 := h.extra
  clear h
  obtain ⟨b0, hb0⟩ : ∃ b, within e.creator 0 65535 = b := ⟨_, rfl⟩
  obtain ⟨b1, hb1⟩ : ∃ b, within e.reader 0 65535 = b := ⟨_, rfl⟩
  obtain ⟨b2, hb2⟩ : ∃ b, within e.flags 0 65535 = b := ⟨_, rfl⟩
  obtain ⟨b3, hb3⟩ : ∃ b, within e.method 0 65535 = b := ⟨_, rfl⟩
  obtain ⟨b4, hb4⟩ : ∃ b, within e.time 0 65535 = b := ⟨_, rfl⟩
  obtain ⟨b5, hb5⟩ : ∃ b, within e.date 0 65535 = b := ⟨_, rfl⟩
  obtain ⟨b6, hb6⟩ : ∃ b, within e.crc 0 4294967295 = b := ⟨_, rfl⟩
  obtain ⟨b7, hb7⟩ : ∃ b, within e.packed 0 4294967294 = b := ⟨_, rfl⟩
  obtain ⟨b8, hb8⟩ : ∃ b, within e.size 0 4294967294 = b := ⟨_, rfl⟩
  obtain ⟨b9, hb9⟩ : ∃ b, within e.external 0 4294967295 = b := ⟨_, rfl⟩
  obtain ⟨p2, hp2⟩ : ∃ p, p = (b0 && b1 && b2 && b3 && b4 && b5) := ⟨_, rfl⟩
  obtain ⟨p4, hp4⟩ : ∃ p, p = (b6 && b7 && b8 && b9) := ⟨_, rfl⟩
  have hf := Lib.hid (show hdOk e = (p2 && p4 && decide (e.name.length ≤ 60000) && decide (e.comment.length ≤ 60000) && decide (e.extra.length ≤ 60000)) by unfold hdOk; rw [hb0, hb1, hb2, hb3, hb4, hb5, hb6, hb7, hb8, hb9, hp2, hp4])
  have HW0 := Lib.hid (Within_is e.creator 0 65535 b0 hb0)
  have HW1 := Lib.hid (Within_is e.reader 0 65535 b1 hb1)
  have HW2 := Lib.hid (Within_is e.flags 0 65535 b2 hb2)
  have HW3 := Lib.hid (Within_is e.method 0 65535 b3 hb3)
  have HW4 := Lib.hid (Within_is e.time 0 65535 b4 hb4)
  have HW5 := Lib.hid (Within_is e.date 0 65535 b5 hb5)
  have HW6 := Lib.hid (Within_is e.crc 0 4294967295 b6 hb6)
  have HW7 := Lib.hid (Within_is e.packed 0 4294967294 b7 hb7)
  have HW8 := Lib.hid (Within_is e.size 0 4294967294 b8 hb8)
  have HW9 := Lib.hid (Within_is e.external 0 4294967295 b9 hb9)
  have HP2 := Lib.hid hp2
  have HP4 := Lib.hid hp4
  clear hp2 hp4 hb0 hb1 hb2 hb3 hb4 hb5 hb6 hb7 hb8 hb9
  go_enter Tryz.func13, Tryz.ntmps13
  go_upto_region 1 with (fail)
  refine atW (fun W => Blk W w.heap.size 25 #[.string ⟨e.name.toArray⟩, .string ⟨e.comment.toArray⟩, .string ⟨e.extra.toArray⟩, .bool e.nu, .int .i64 e.creator, .int .i64 e.reader, .int .i64 e.flags, .int .i64 e.method, .int .i64 e.time, .int .i64 e.date, .int .i64 e.crc, .int .i64 e.packed, .int .i64 e.size, .int .i64 e.external] ∧ Below w.heap.size w W) ⟨Blk.new _ _ _, (Below.refl _ _).alloc (Nat.le_refl _) _⟩ ?_
  rintro W ⟨hW, hbW⟩
  obtain ⟨g, hg⟩ : ∃ g, g = w.heap.size := ⟨_, rfl⟩
  rw [← hg] at hW ⊢
  have HB := Lib.hid (And.intro hbW hg)
  have c0 : W.cell? ⟨g, 0, none⟩ = some (.string ⟨e.name.toArray⟩) := (hW.cell 0).trans rfl
  have c1 : W.cell? ⟨g, 1, none⟩ = some (.string ⟨e.comment.toArray⟩) := (hW.cell 1).trans rfl
  have c2 : W.cell? ⟨g, 2, none⟩ = some (.string ⟨e.extra.toArray⟩) := (hW.cell 2).trans rfl
  have c3 : W.cell? ⟨g, 3, none⟩ = some (.bool e.nu) := (hW.cell 3).trans rfl
  have c4 : W.cell? ⟨g, 4, none⟩ = some (.int .i64 e.creator) := (hW.cell 4).trans rfl
  have c5 : W.cell? ⟨g, 5, none⟩ = some (.int .i64 e.reader) := (hW.cell 5).trans rfl
  have c6 : W.cell? ⟨g, 6, none⟩ = some (.int .i64 e.flags) := (hW.cell 6).trans rfl
  have c7 : W.cell? ⟨g, 7, none⟩ = some (.int .i64 e.method) := (hW.cell 7).trans rfl
  have c8 : W.cell? ⟨g, 8, none⟩ = some (.int .i64 e.time) := (hW.cell 8).trans rfl
  have c9 : W.cell? ⟨g, 9, none⟩ = some (.int .i64 e.date) := (hW.cell 9).trans rfl
  have c10 : W.cell? ⟨g, 10, none⟩ = some (.int .i64 e.crc) := (hW.cell 10).trans rfl
  have c11 : W.cell? ⟨g, 11, none⟩ = some (.int .i64 e.packed) := (hW.cell 11).trans rfl
  have c12 : W.cell? ⟨g, 12, none⟩ = some (.int .i64 e.size) := (hW.cell 12).trans rfl
  have c13 : W.cell? ⟨g, 13, none⟩ = some (.int .i64 e.external) := (hW.cell 13).trans rfl
  clear hW hbW hg
  go_cut [3] from 5 (fun s3 W' => s3 = .bool p2 ∧ W = W')
  case first =>
    go_wp2_with fail
    refine (HW0.out _).mono ?_
    rintro e' w' ⟨rfl, hw'⟩
    subst w'
    cases b0
    · go_wp2
      go_meet
      exact ⟨by rw [HP2.out]; rfl, rfl⟩
    go_wp2_with fail
    refine (HW1.out _).mono ?_
    rintro e' w' ⟨rfl, hw'⟩
    subst w'
    cases b1
    · go_wp2
      go_meet
      exact ⟨by rw [HP2.out]; rfl, rfl⟩
    go_wp2_with fail
    refine (HW2.out _).mono ?_
    rintro e' w' ⟨rfl, hw'⟩
    subst w'
    cases b2
    · go_wp2
      go_meet
      exact ⟨by rw [HP2.out]; rfl, rfl⟩
    go_wp2_with fail
    refine (HW3.out _).mono ?_
    rintro e' w' ⟨rfl, hw'⟩
    subst w'
    cases b3
    · go_wp2
      go_meet
      exact ⟨by rw [HP2.out]; rfl, rfl⟩
    go_wp2_with fail
    refine (HW4.out _).mono ?_
    rintro e' w' ⟨rfl, hw'⟩
    subst w'
    cases b4
    · go_wp2
      go_meet
      exact ⟨by rw [HP2.out]; rfl, rfl⟩
    go_wp2_with fail
    refine (HW5.out _).mono ?_
    rintro e' w' ⟨rfl, hw'⟩
    subst w'
    cases b5
    · go_wp2
      go_meet
      exact ⟨by rw [HP2.out]; rfl, rfl⟩
    go_wp2
    go_meet
    exact ⟨by rw [HP2.out]; rfl, rfl⟩
  case rest =>
  obtain ⟨rfl, rfl⟩ := hcut
  go_upto_region 2 with (fail)
  go_cut [4] from 5 (fun s4 W' => s4 = .bool p4 ∧ W = W')
  case first =>
    go_wp2_with fail
    refine (HW6.out _).mono ?_
    rintro e' w' ⟨rfl, hw'⟩
    subst w'
    cases b6
    · go_wp2
      go_meet
      exact ⟨by rw [HP4.out]; rfl, rfl⟩
    go_wp2_with fail
    refine (HW7.out _).mono ?_
    rintro e' w' ⟨rfl, hw'⟩
    subst w'
    cases b7
    · go_wp2
      go_meet
      exact ⟨by rw [HP4.out]; rfl, rfl⟩
    go_wp2_with fail
    refine (HW8.out _).mono ?_
    rintro e' w' ⟨rfl, hw'⟩
    subst w'
    cases b8
    · go_wp2
      go_meet
      exact ⟨by rw [HP4.out]; rfl, rfl⟩
    go_wp2_with fail
    refine (HW9.out _).mono ?_
    rintro e' w' ⟨rfl, hw'⟩
    subst w'
    cases b9
    · go_wp2
      go_meet
      exact ⟨by rw [HP4.out]; rfl, rfl⟩
    go_wp2
    go_meet
    exact ⟨by rw [HP4.out]; rfl, rfl⟩
  case rest =>
  obtain ⟨rfl, rfl⟩ := hcut
  cases p2
  · go_wp2
    go_ret
    have hv : hdOk e = false := by rw [hf.out]; simp; try omega
    exact ⟨by rw [hv]; first | rfl | exact dec_ret (by simp; omega), HB.out.1⟩
  cases p4
  · go_wp2
    go_ret
    have hv : hdOk e = false := by rw [hf.out]; simp; try omega
    exact ⟨by rw [hv]; first | rfl | exact dec_ret (by simp; omega), HB.out.1⟩
  by_cases d0 : 60000 < e.name.length
  · go_wp2
    go_ret
    have hv : hdOk e = false := by rw [hf.out]; simp; try omega
    exact ⟨by rw [hv]; first | rfl | exact dec_ret (by simp; omega), HB.out.1⟩
  by_cases d1 : 60000 < e.comment.length
  · go_wp2
    go_ret
    have hv : hdOk e = false := by rw [hf.out]; simp; try omega
    exact ⟨by rw [hv]; first | rfl | exact dec_ret (by simp; omega), HB.out.1⟩
  by_cases d2 : 60000 < e.extra.length
  · go_wp2
    go_ret
    have hv : hdOk e = false := by rw [hf.out]; simp; try omega
    exact ⟨by rw [hv]; first | rfl | exact dec_ret (by simp; omega), HB.out.1⟩
  · go_wp2
    go_ret
    have hv : hdOk e = true := by rw [hf.out]; simp; try omega
    exact ⟨by rw [hv]; first | rfl | exact dec_ret (by simp; omega), HB.out.1⟩
theorem HeaderOk_is (e : En) (h : e.Lens) (b : Bool) (hb : hdOk e = b) (w : World) : Calls Tryz.prog 13 #[.agg #[.string ⟨e.name.toArray⟩, .string ⟨e.comment.toArray⟩, .string ⟨e.extra.toArray⟩, .bool e.nu, .int .i64 e.creator, .int .i64 e.reader, .int .i64 e.flags, .int .i64 e.method, .int .i64 e.time, .int .i64 e.date, .int .i64 e.crc, .int .i64 e.packed, .int .i64 e.size, .int .i64 e.external]] w fun e' w' => e' = .returned (.bool b) ∧ Below w.heap.size w w' := hb ▸ HeaderOk_any e h w
theorem Simple_any (e : En) (hf : 0 ≤ e.flags ∧ e.flags ≤ 65535) (w : World) : Calls Tryz.prog 14 #[.agg #[.string ⟨e.name.toArray⟩, .string ⟨e.comment.toArray⟩, .string ⟨e.extra.toArray⟩, .bool e.nu, .int .i64 e.creator, .int .i64 e.reader, .int .i64 e.flags, .int .i64 e.method, .int .i64 e.time, .int .i64 e.date, .int .i64 e.crc, .int .i64 e.packed, .int .i64 e.size, .int .i64 e.external]] w fun e' w' => e' = .returned (.bool (decide (e.flags.toNat / 8 % 2 = 0))) ∧ Below w.heap.size w w' := by
  obtain ⟨f, hf1⟩ : ∃ f : Nat, e.flags = (f : Int) := ⟨e.flags.toNat, by omega⟩
  rw [hf1]
  have hle : f ≤ 65535 := by omega
  clear hf
  obtain ⟨q, hq⟩ : ∃ q : Nat, q = f / 8 := ⟨_, rfl⟩
  obtain ⟨r, hr⟩ : ∃ r : Nat, r = q % 2 := ⟨_, rfl⟩
  have hd : (f : Int).tdiv 8 = (q : Int) := by rw [hq]; rfl
  have hm : (q : Int).tmod 2 = (r : Int) := by rw [hr]; rfl
  have hw1 : IntKind.i64.wrap (q : Int) = (q : Int) := IntWalk.i64_in _ (by omega)
  have hw2 : IntKind.i64.wrap (r : Int) = (r : Int) := IntWalk.i64_in _ (by omega)
  have hv : decide (f / 8 % 2 = 0) = ((r : Int) == 0) := by rw [Bool.eq_iff_iff]; simp; omega
  have HV := Lib.hid hv
  clear hv hq hr hf1
  go_enter Tryz.func14, Tryz.ntmps14
  go_wp2
  go_ret
  refine ⟨?_, (Below.refl _ _).alloc (Nat.le_refl _) _⟩
  rw [show ((f : Int).toNat) = f from rfl, HV.out]
  rfl
theorem Simple_is (e : En) (hf : 0 ≤ e.flags ∧ e.flags ≤ 65535) (b : Bool) (hb : decide (e.flags.toNat / 8 % 2 = 0) = b) (w : World) : Calls Tryz.prog 14 #[.agg #[.string ⟨e.name.toArray⟩, .string ⟨e.comment.toArray⟩, .string ⟨e.extra.toArray⟩, .bool e.nu, .int .i64 e.creator, .int .i64 e.reader, .int .i64 e.flags, .int .i64 e.method, .int .i64 e.time, .int .i64 e.date, .int .i64 e.crc, .int .i64 e.packed, .int .i64 e.size, .int .i64 e.external]] w fun e' w' => e' = .returned (.bool b) ∧ Below w.heap.size w w' := hb ▸ Simple_any e hf w
end Go.Proofs.YtkkdblifgekmkaaGreatDoor
/- Words for laws.FnRawScan: a copy of the entries; equality of two headers. -/
namespace Go.Proofs.YtkkdblifgekmkaaGreatDoor
open Go.RowKit
theorem En.Wf.lensR {e : En} (h : e.Wf) : e.Lens := ⟨h.name, h.comment, h.extra, h.data⟩
def En.pk (e : En) : En := { e with packed := e.data.length }
theorem En.pk_cells (e : En) : e.pk.cells = e.cells.set 11 (.int .i64 e.data.length) := rfl
theorem En.pk_lens {e : En} (h : e.Lens) : e.pk.Lens := ⟨h.name, h.comment, h.extra, h.data⟩
/-- A row of the walk's own that holds the entries. -/
def OwnE (W : World) (base : Nat) (A : Option Addr) (L : List En) : Prop :=
  0 < L.length → ∃ (g : Nat) (cur : Array Value), A = some ⟨g, 0, none⟩ ∧ base ≤ g ∧ Blk W g 27 cur ∧ ∀ (j : Nat) (u : Value), (L.flatMap En.cells)[j]? = some u → cur[j]? = some u
theorem row_cur {w : World} {base g n cap size : Nat} {e : TypeId} {xs : List Value} (h : w.ownsRow base e size (.slice (some ⟨g, 0, none⟩) n cap) n xs) : ∃ cur, Blk w g e cur ∧ base ≤ g := by
  rcases h.2 with ⟨h0, _⟩ | ⟨g', cap', cur, hv, hb, hh, _⟩
  · cases h0
  · injection hv with h1 h2 h3
    injection h1 with h1
    injection h1 with h1
    subst h1
    exact ⟨cur, hh, hb⟩
theorem add_zero_off (g n : Nat) : (⟨g, 0, none⟩ : Addr).add n = ⟨g, n, none⟩ := by rw [add_atW, Nat.zero_add]
theorem OwnE.of_own {w : World} {base n c : Nat} {A : Option Addr} {L : List En} (h : w.ownsRow base 27 15 (.slice A n c) n (L.flatMap En.cells)) (hn : n = L.length) : OwnE w base A L := fun h0 => by
  obtain ⟨g, cap, hv, _, _⟩ := h.form (by omega)
  have hA : A = some ⟨g, 0, none⟩ := by injection hv
  subst hA
  obtain ⟨cur, hcur, hb⟩ := row_cur h
  refine ⟨g, cur, rfl, hb, hcur, fun j u hu => ?_⟩
  have := h.cells (g := g) rfl j u hu
  rw [add_zero_off, hcur.cell] at this
  exact this
theorem OwnE.reads {W : World} {base : Nat} {A : Option Addr} {L : List En} (h : OwnE W base A L) : Reads W W.heap.size 15 A L.length (L.flatMap En.cells) := by
  refine ⟨flat_length L, fun h0 => ?_⟩
  obtain ⟨g, cur, hA, _, hB, hc⟩ := h h0
  exact ⟨_, hA, hB.lt, fun j u hu => by rw [add_zero_off, hB.cell]; exact hc j u hu⟩
theorem OwnE.below {W W' : World} {base : Nat} {A : Option Addr} {L : List En} (h : OwnE W base A L) (hb : Below W.heap.size W W') : OwnE W' base A L := fun h0 => by
  obtain ⟨g, cur, hA, h1, hB, hc⟩ := h h0
  exact ⟨g, cur, hA, h1, hB.below hb hB.lt, hc⟩
theorem OwnE.free {W : World} {base : Nat} {ad : Addr} {L : List En} (h : OwnE W base (some ad) L) (h0 : 0 < L.length) : (∀ n i, W.frozen? ⟨(ad.add n).block, i, none⟩ = false) ∧ base ≤ ad.block := by
  obtain ⟨g, cur, hA, h1, hB, hc⟩ := h h0
  injection hA with hA
  subst hA
  exact ⟨fun n i => by rw [block_of_add]; exact hB.frozen i, h1⟩
theorem flat_set (L : List En) (k j : Nat) (hk : k < L.length) (u : Value) (h : ((L.set k L[k].pk).flatMap En.cells)[j]? = some u) : (j = k * 15 + 11 ∧ u = .int .i64 L[k].data.length) ∨ (j ≠ k * 15 + 11 ∧ (L.flatMap En.cells)[j]? = some u) := by
  have hj : j < L.length * 15 := by
    have := (List.getElem?_eq_some_iff.1 h).1
    rwa [flat_length, List.length_set] at this
  obtain ⟨q, i, hi, rfl⟩ : ∃ q i, i < 15 ∧ j = q * 15 + i := ⟨j / 15, j % 15, Nat.mod_lt _ (by decide), by omega⟩
  have hq : q < L.length := by omega
  rw [flat_cells _ q i (by rw [List.length_set]; exact hq) hi] at h
  rw [flat_cells _ q i hq hi]
  by_cases e : k = q
  · subst e
    rw [List.getElem_set_self, En.pk_cells, List.getElem?_set] at h
    by_cases e2 : 11 = i
    · subst e2
      left
      rw [if_pos rfl, if_pos (by rw [En.cells_length]; decide)] at h
      exact ⟨rfl, by injection h with h; exact h.symm⟩
    · rw [if_neg e2] at h
      exact .inr ⟨by omega, h⟩
  · rw [List.getElem_set_ne e] at h
    exact .inr ⟨by omega, h⟩
theorem OwnE.pack {W : World} {base : Nat} {ad : Addr} {L : List En} (h : OwnE W base (some ad) L) (k : Nat) (hk : k < L.length) (n : Nat) (hn : n = L[k].data.length) : OwnE (W.setCell ⟨(ad.add (k * 15)).block, (ad.add (k * 15)).off + 11, none⟩ (.int .i64 n)) base (some ad) (L.set k L[k].pk) := fun _ => by
  obtain ⟨g, cur, hA, h1, hB, hc⟩ := h (by omega)
  injection hA with hA
  subst hA
  rw [add_zero_off]
  refine ⟨g, _, rfl, h1, hB.set_ _ _, fun j u hu => ?_⟩
  rcases flat_set L k j hk u hu with ⟨rfl, rfl⟩ | ⟨hne, hu⟩
  · have hin : k * 15 + 11 < cur.size := by
      have := hc (k * 15 + 11) _ (by rw [flat_cells L k 11 hk (by decide)]; rfl)
      exact (Array.getElem?_eq_some_iff.1 this).1
    rw [Array.getElem?_setIfInBounds, if_pos rfl, if_pos hin, hn]
  · rw [Array.getElem?_setIfInBounds, if_neg (fun e => hne e.symm)]
    exact hc j u hu
structure Mid (L : List En) (k : Nat) (M : List En) : Prop where
  len : M.length = L.length
  done : ∀ i, i < k → M[i]? = (L[i]?).map En.pk
  rest : ∀ i, k ≤ i → M[i]? = L[i]?
theorem Mid.zero (L : List En) : Mid L 0 L := ⟨rfl, fun _ h => absurd h (by omega), fun _ _ => rfl⟩
theorem Mid.here {L M : List En} {k : Nat} (h : Mid L k M) (hk : k < L.length) : M[k]'(by rw [h.len]; exact hk) = L[k] := by
  have := h.rest k (Nat.le_refl _)
  rw [List.getElem?_eq_getElem (by rw [h.len]; exact hk), List.getElem?_eq_getElem hk] at this
  injection this
theorem Mid.next {L M : List En} {k : Nat} (h : Mid L k M) (hk : k < L.length) : Mid L (k + 1) (M.set k L[k].pk) := by
  refine ⟨by rw [List.length_set, h.len], fun i hi => ?_, fun i hi => ?_⟩
  · rw [List.getElem?_set]
    by_cases e : k = i
    · subst e
      rw [if_pos rfl, if_pos (by rw [h.len]; exact hk), List.getElem?_eq_getElem hk]; rfl
    · rw [if_neg e]; exact h.done i (by omega)
  · rw [List.getElem?_set, if_neg (by omega)]; exact h.rest i (by omega)
theorem Mid.all {L M : List En} (h : Mid L L.length M) : M = L.map En.pk := by
  apply List.ext_getElem?
  intro i
  rw [List.getElem?_map]
  by_cases hi : i < L.length
  · exact h.done i hi
  · rw [h.rest i (by omega), List.getElem?_eq_none (by omega)]; rfl
/-- What the law has asked of an entry. -/
structure En.OkQ (e : En) : Prop where
  ok : hdOk e.pk = true
  simple : e.flags.toNat / 8 % 2 = 0
  data : e.data.length ≤ 1048576
theorem hdOk_parts {e : En} (h : hdOk e = true) : ((0 ≤ e.creator ∧ e.creator ≤ 65535) ∧ (0 ≤ e.reader ∧ e.reader ≤ 65535) ∧ (0 ≤ e.flags ∧ e.flags ≤ 65535) ∧ (0 ≤ e.method ∧ e.method ≤ 65535) ∧ (0 ≤ e.time ∧ e.time ≤ 65535) ∧ (0 ≤ e.date ∧ e.date ≤ 65535)) ∧ ((0 ≤ e.crc ∧ e.crc ≤ 4294967295) ∧ (0 ≤ e.packed ∧ e.packed ≤ 4294967294) ∧ (0 ≤ e.size ∧ e.size ≤ 4294967294) ∧ (0 ≤ e.external ∧ e.external ≤ 4294967295)) ∧ e.name.length ≤ 60000 ∧ e.comment.length ≤ 60000 ∧ e.extra.length ≤ 60000 := by
  unfold hdOk at h
  simp only [Bool.and_eq_true, within_iff, decide_eq_true_eq] at h
  obtain ⟨⟨⟨⟨⟨⟨⟨⟨⟨a1, a2⟩, a3⟩, a4⟩, a5⟩, a6⟩, ⟨⟨b1, b2⟩, b3⟩, b4⟩, c1⟩, c2⟩, c3⟩ := h
  exact ⟨⟨a1, a2, a3, a4, a5, a6⟩, ⟨b1, b2, b3, b4⟩, c1, c2, c3⟩
theorem En.OkQ.okR {e : En} (h : e.OkQ) (hd : dirOk e.pk = true) : e.pk.OkR := by
  obtain ⟨⟨a1, a2, a3, a4, a5, a6⟩, ⟨b1, b2, b3, b4⟩, c1, c2, c3⟩ := hdOk_parts h.ok
  exact ⟨c1, c2, c3, h.data, a1, a2, a3, a4, a5, a6, b1, rfl, b3, b4, h.simple, fun hs => by
    rw [dirOk_slash hs] at hd
    exact List.isEmpty_iff.1 hd⟩
@[go_sem] theorem eqHd (a0 a1 a2 : ByteArray) (a3 : Bool) (a4 a5 a6 a7 a8 a9 a10 a11 a12 a13 : Int) (w : World) : (Op.equalIn 10000 25 (.agg #[.string a0, .string a1, .string a2, .bool a3, .int .i64 a4, .int .i64 a5, .int .i64 a6, .int .i64 a7, .int .i64 a8, .int .i64 a9, .int .i64 a10, .int .i64 a11, .int .i64 a12, .int .i64 a13]) (.agg #[.string a0, .string a1, .string a2, .bool a3, .int .i64 a4, .int .i64 a5, .int .i64 a6, .int .i64 a7, .int .i64 a8, .int .i64 a9, .int .i64 a10, .int .i64 a11, .int .i64 a12, .int .i64 a13])).run Tryz.prog w = .ok true w := by
  have u3 := Tryz.underlying3
  have u9 := Tryz.underlying9
  have u4 := Tryz.underlying4
  have hS : Tryz.prog.underlying 25 = some (.struct (Tryz.prog.fieldsOf 25)) := by kernel_rfl
  have hp : Tryz.prog.stoodInHeld 25 = false := by kernel_rfl
  rw [show (10000 : Nat) = 9999 + 1 from rfl, run_equalIn_agg w 9999 25 _ _ hS hp]
  simp only [Program.fieldsOf, Tryz.underlying25]
  go_simp
end Go.Proofs.YtkkdblifgekmkaaGreatDoor
/- The walk of laws.FnRawScan. -/
namespace Go.Proofs.YtkkdblifgekmkaaGreatDoor
open Go.RowKit
theorem own_sliceNR {w : World} {base n size : Nat} {e : TypeId} {v : Value} {xs : List Value} (h : w.ownsRow base e size v n xs) : ∃ A c, v = .slice A n c := by
  rcases h.2 with ⟨rfl, h0⟩ | ⟨g, cap, cur, rfl, _⟩
  · exact ⟨none, 0, by rw [h0]⟩
  · exact ⟨_, _, rfl⟩
def entZ : Array Value := #[.string ⟨#[]⟩, .string ⟨#[]⟩, .string ⟨#[]⟩, .bool false, .int .i64 0, .int .i64 0, .int .i64 0, .int .i64 0, .int .i64 0, .int .i64 0, .int .i64 0, .int .i64 0, .int .i64 0, .int .i64 0, .string ⟨#[]⟩]
theorem infoEnt : (Tryz.prog.info? 27).map (fun i => (i.zero, i.size, i.bytes)) = some (some (.agg entZ), 15, 152) := by kernel_rfl
theorem flat_one (L : List En) : ∀ u ∈ L.flatMap En.cells, u.oneCell' = true := fun u hu => by
  obtain ⟨e, _, he⟩ := List.mem_flatMap.1 hu
  simp only [En.cells, List.mem_cons, List.not_mem_nil, or_false] at he
  rcases he with rfl | rfl | rfl | rfl | rfl | rfl | rfl | rfl | rfl | rfl | rfl | rfl | rfl | rfl | rfl <;> rfl
set_option maxRecDepth 100000 in
set_option maxHeartbeats 8000000 in
theorem walkRawScan {w : World} (A : Option Addr) (c : Nat) (L : List En) (s : ByteArray) (hcap : L.length ≤ c) (hc : c ≤ 9223372036854775807) (hr : Reads w w.heap.size 15 A L.length (L.flatMap En.cells)) (hL : ∀ e ∈ L, e.Wf) (hs : s.size ≤ maxLen) (hT : Lib.Utf8Tabs 11 12 w) :
    Calls Tryz.prog 4 #[.slice A L.length c, .string s] w fun e w' => e = .returned (.bool true) ∧ Below w.heap.size w w' := by
  unfold maxLen at hs
  obtain ⟨⟨cl⟩⟩ := s
  have hszc : (ByteArray.mk cl.toArray).size = cl.length := rfl
  have hcl : cl.length ≤ 9223372036854775807 := hs
  have hln : L.length ≤ 9223372036854775807 := by omega
  obtain ⟨i0, hi, hz0, hz1, hz2⟩ := info_parts infoEnt
  have HF := Lib.hid (fitsE1_any A c L hln hr (fun e he => (hL e he).lensR))
  have H := Lib.hid (And.intro hr (And.intro hL hT))
  clear hr hL hT hs hcap hc
  go_enter Tryz.func4, Tryz.ntmps4
  go_wp2_with fail
  refine HF.out.mono ?_
  rintro e' w1 ⟨rfl, hb1⟩
  have HB1 := Lib.hid hb1
  clear hb1 HF
  obtain ⟨b, hb⟩ : ∃ b, b = fitsE1 L := ⟨_, rfl⟩
  rw [← hb]
  have HFB := Lib.hid hb
  clear hb
  cases b
  · go_wp2
    go_ret
    exact ⟨rfl, HB1.out⟩
  by_cases hc1 : 2147483647 < cl.length
  · go_wp2
    go_ret
    exact ⟨rfl, HB1.out⟩
  have hnl : L.length ≤ 2147483647 := by
    have := HFB.out
    unfold fitsE1 at this
    simp only [Bool.true_eq, Bool.and_eq_true, decide_eq_true_eq] at this
    exact this.1
  have HM := Lib.hid (World.ownsRow_made (base := w.heap.size) (size := 15) (e := 27) w1 #[] 0 HB1.out.size (by decide) rfl)
  have hr1 : Reads (w1.alloc (.cells #[] 27)) (w1.alloc (.cells #[] 27)).heap.size 15 A L.length (L.flatMap En.cells) := H.out.1.kept (Kept.of_below (HB1.out.alloc HB1.out.size _) []) (by simp)
  have HR1 := Lib.hid hr1
  clear hr1
  go_wp2_with (at_builtin; refine wpList_append_any _ rfl _ _ 22 rfl w.heap.size 27 i0 (.agg entZ) 15 152 Tryz.underlying22 hi hz0 hz1 hz2 rfl (by decide) _ 0 [] rfl HM.out _ A L.length c (L.flatMap En.cells) rfl HR1.out (flat_one L) ?c1 ?c2 ?c3 ?_)
  case c1 => unfold maxLen; omega
  case c2 => omega
  case c3 => have := HB1.out.size; simp; omega
  intro v' w2 hown2 hgrow _
  have hown3 : w2.ownsRow w.heap.size 27 15 v' L.length (L.flatMap En.cells) := by simpa using hown2
  obtain ⟨A2, c2, hv2⟩ := own_sliceNR hown3
  subst hv2
  have hb2 : Below w.heap.size w w2 := (HB1.out.alloc HB1.out.size _).grown hgrow (by have := HB1.out.size; simp; omega) (fun q hq => (HM.out.lt q hq).1)
  have HO2 := Lib.hid (And.intro (OwnE.of_own hown3 rfl) hb2)
  clear hown2 hown3 hgrow hb2 HR1 HM HB1
  go_wp2_with fail
  go_loopw [27] (fun s wr => ∃ k : Nat, s = .int .i64 k ∧ k ≤ L.length ∧ Hid (∃ M, Mid L k M ∧ OwnE wr w.heap.size A2 M ∧ (∀ e ∈ L.take k, e.OkQ) ∧ Below w.heap.size w wr)) (fun s _ => L.length - (intOf s).toNat)
  case atStart => exact ⟨0, rfl, Nat.zero_le _, Lib.hid ⟨L, Mid.zero L, HO2.out.1, by simp, HO2.out.2⟩⟩
  case round =>
    obtain ⟨k, rfl, hk, HI⟩ := hrel
    clear HO2
    by_cases hlt : k < L.length
    · obtain ⟨M, hM, hOw, hQ, hBw⟩ := HI.out
      have hlM : k < M.length := by rw [hM.len]; exact hlt
      obtain ⟨ad, hA, hab, hcell⟩ := hOw.reads.2 (by omega)
      subst hA
      obtain ⟨e, he⟩ : ∃ e, e = L[k] := ⟨_, rfl⟩
      have heM : M[k] = e := by rw [he]; exact hM.here hlt
      obtain ⟨hfr, hbase⟩ := hOw.free (by omega)
      have z11 : wr.frozen? ⟨(ad.add (k * 15)).block, (ad.add (k * 15)).off + 11, none⟩ = false := hfr _ _
      have c14 : wr.cell? ⟨(ad.add (k * 15)).block, (ad.add (k * 15)).off + 14, none⟩ = some (.string ⟨e.data.toArray⟩) := by
        rw [add_off _ _ _ (by decide)]
        exact hcell (k * 15 + 14) _ (by rw [flat_cells M k 14 hlM (by decide), heM]; rfl)
      have c11 : wr.cell? ⟨(ad.add (k * 15)).block, (ad.add (k * 15)).off + 11, none⟩ = some (.int .i64 e.packed) := by
        rw [add_off _ _ _ (by decide)]
        exact hcell (k * 15 + 11) _ (by rw [flat_cells M k 11 hlM (by decide), heM]; rfl)
      have hszd : (ByteArray.mk e.data.toArray).size = e.data.length := rfl
      have hwf : e.Wf := by rw [he]; exact H.out.2.1 _ (List.getElem_mem _)
      have l3 := hwf.data
      have HE := Lib.hid (And.intro he (And.intro hM (And.intro hOw (And.intro hQ (And.intro hBw (And.intro heM (And.intro hlM (And.intro hbase hwf))))))))
      clear hM hOw hQ hBw he heM hfr hcell hab hwf HI hbase
      go_upto_region 8 with (fail)
      refine atW (fun W => OwnE W w.heap.size (some ad) (M.set k e.pk) ∧ Below w.heap.size w W) ⟨by
        have h1 := HE.out.2.2.1.pack k HE.out.2.2.2.2.2.2.1 e.data.length (by rw [HE.out.2.2.2.2.2.1])
        rw [HE.out.2.2.2.2.2.1] at h1
        exact h1, HE.out.2.2.2.2.1.setCell (by rw [block_of_add]; exact HE.out.2.2.2.2.2.2.2.1) _⟩ ?_
      rintro W ⟨hoW, hbW⟩
      clear z11 c14 c11 l3 hszd
      obtain ⟨p, hp⟩ : ∃ p, p = e.pk := ⟨_, rfl⟩
      rw [← hp] at hoW
      have hcs : ∀ W', Below W.heap.size W W' → ∀ (j : Nat) (v : Value), p.cells[j]? = some v → W'.cell? (ad.add (k * 15 + j)) = some v := fun W' hb j v hj => by
        have hj15 : j < 15 := by
          have := (List.getElem?_eq_some_iff.1 hj).1; rwa [En.cells_length] at this
        obtain ⟨ad', hA', _, hc'⟩ := (hoW.below hb).reads.2 (by rw [List.length_set]; omega)
        injection hA' with hA'
        subst hA'
        exact hc' _ v (by rw [flat_cells _ k j (by rw [List.length_set]; exact HE.out.2.2.2.2.2.2.1) hj15, List.getElem_set_self]; exact hj)
      have hlp : p.Lens := by rw [hp]; exact En.pk_lens HE.out.2.2.2.2.2.2.2.2.lensR
      have hszn : (ByteArray.mk p.name.toArray).size = p.name.length := rfl
      have hszm : (ByteArray.mk p.comment.toArray).size = p.comment.length := rfl
      have hszx : (ByteArray.mk p.extra.toArray).size = p.extra.length := rfl
      have hszd : (ByteArray.mk p.data.toArray).size = p.data.length := rfl
      have l1 := hlp.name
      have l2 := hlp.comment
      have l4 := hlp.extra
      have l3 := hlp.data
      obtain ⟨b1, hb1⟩ : ∃ b, hdOk p = b := ⟨_, rfl⟩
      have HH := Lib.hid (HeaderOk_is p hlp b1 hb1)
      have HCS := Lib.hid (hcs W (Below.refl _ _))
      have HP := Lib.hid (And.intro hp (And.intro hoW (And.intro hbW (And.intro hcs hb1))))
      clear hp hoW hbW hcs hb1 hlp
      have c0 : W.cell? (ad.add (k * 15)) = some (.string ⟨p.name.toArray⟩) := HCS.out 0 _ rfl
      have c1 : W.cell? ⟨(ad.add (k * 15)).block, (ad.add (k * 15)).off + 1, none⟩ = some (.string ⟨p.comment.toArray⟩) := by rw [add_off _ _ _ (by decide)]; exact HCS.out 1 _ rfl
      have c2 : W.cell? ⟨(ad.add (k * 15)).block, (ad.add (k * 15)).off + 2, none⟩ = some (.string ⟨p.extra.toArray⟩) := by rw [add_off _ _ _ (by decide)]; exact HCS.out 2 _ rfl
      have c3 : W.cell? ⟨(ad.add (k * 15)).block, (ad.add (k * 15)).off + 3, none⟩ = some (.bool p.nu) := by rw [add_off _ _ _ (by decide)]; exact HCS.out 3 _ rfl
      have c4 : W.cell? ⟨(ad.add (k * 15)).block, (ad.add (k * 15)).off + 4, none⟩ = some (.int .i64 p.creator) := by rw [add_off _ _ _ (by decide)]; exact HCS.out 4 _ rfl
      have c5 : W.cell? ⟨(ad.add (k * 15)).block, (ad.add (k * 15)).off + 5, none⟩ = some (.int .i64 p.reader) := by rw [add_off _ _ _ (by decide)]; exact HCS.out 5 _ rfl
      have c6 : W.cell? ⟨(ad.add (k * 15)).block, (ad.add (k * 15)).off + 6, none⟩ = some (.int .i64 p.flags) := by rw [add_off _ _ _ (by decide)]; exact HCS.out 6 _ rfl
      have c7 : W.cell? ⟨(ad.add (k * 15)).block, (ad.add (k * 15)).off + 7, none⟩ = some (.int .i64 p.method) := by rw [add_off _ _ _ (by decide)]; exact HCS.out 7 _ rfl
      have c8 : W.cell? ⟨(ad.add (k * 15)).block, (ad.add (k * 15)).off + 8, none⟩ = some (.int .i64 p.time) := by rw [add_off _ _ _ (by decide)]; exact HCS.out 8 _ rfl
      have c9 : W.cell? ⟨(ad.add (k * 15)).block, (ad.add (k * 15)).off + 9, none⟩ = some (.int .i64 p.date) := by rw [add_off _ _ _ (by decide)]; exact HCS.out 9 _ rfl
      have c10 : W.cell? ⟨(ad.add (k * 15)).block, (ad.add (k * 15)).off + 10, none⟩ = some (.int .i64 p.crc) := by rw [add_off _ _ _ (by decide)]; exact HCS.out 10 _ rfl
      have c11 : W.cell? ⟨(ad.add (k * 15)).block, (ad.add (k * 15)).off + 11, none⟩ = some (.int .i64 p.packed) := by rw [add_off _ _ _ (by decide)]; exact HCS.out 11 _ rfl
      have c12 : W.cell? ⟨(ad.add (k * 15)).block, (ad.add (k * 15)).off + 12, none⟩ = some (.int .i64 p.size) := by rw [add_off _ _ _ (by decide)]; exact HCS.out 12 _ rfl
      have c13 : W.cell? ⟨(ad.add (k * 15)).block, (ad.add (k * 15)).off + 13, none⟩ = some (.int .i64 p.external) := by rw [add_off _ _ _ (by decide)]; exact HCS.out 13 _ rfl
      have c14 : W.cell? ⟨(ad.add (k * 15)).block, (ad.add (k * 15)).off + 14, none⟩ = some (.string ⟨p.data.toArray⟩) := by rw [add_off _ _ _ (by decide)]; exact HCS.out 14 _ rfl
      go_wp2_with fail
      refine (HH.out _).mono ?_
      rintro e' w3 ⟨rfl, hb3⟩
      have HB3 := Lib.hid (And.intro hb3 (HP.out.2.2.1.trans (hb3.mono HP.out.2.2.1.size)))
      clear hb3 HH HCS c0 c1 c2 c3 c4 c5 c6 c7 c8 c9 c10 c11 c12 c13 c14
      cases b1
      · go_wp2
        go_ret
        exact ⟨rfl, HB3.out.2⟩
      have HCS := Lib.hid (HP.out.2.2.2.1 w3 HB3.out.1)
      obtain ⟨b2, hb2⟩ : ∃ b, decide (p.flags.toNat / 8 % 2 = 0) = b := ⟨_, rfl⟩
      have HS := Lib.hid (Simple_is p (hdOk_parts HP.out.2.2.2.2).1.2.2.1 b2 hb2)
      have HB2 := Lib.hid hb2
      clear hb2
      have c0 : w3.cell? (ad.add (k * 15)) = some (.string ⟨p.name.toArray⟩) := HCS.out 0 _ rfl
      have c1 : w3.cell? ⟨(ad.add (k * 15)).block, (ad.add (k * 15)).off + 1, none⟩ = some (.string ⟨p.comment.toArray⟩) := by rw [add_off _ _ _ (by decide)]; exact HCS.out 1 _ rfl
      have c2 : w3.cell? ⟨(ad.add (k * 15)).block, (ad.add (k * 15)).off + 2, none⟩ = some (.string ⟨p.extra.toArray⟩) := by rw [add_off _ _ _ (by decide)]; exact HCS.out 2 _ rfl
      have c3 : w3.cell? ⟨(ad.add (k * 15)).block, (ad.add (k * 15)).off + 3, none⟩ = some (.bool p.nu) := by rw [add_off _ _ _ (by decide)]; exact HCS.out 3 _ rfl
      have c4 : w3.cell? ⟨(ad.add (k * 15)).block, (ad.add (k * 15)).off + 4, none⟩ = some (.int .i64 p.creator) := by rw [add_off _ _ _ (by decide)]; exact HCS.out 4 _ rfl
      have c5 : w3.cell? ⟨(ad.add (k * 15)).block, (ad.add (k * 15)).off + 5, none⟩ = some (.int .i64 p.reader) := by rw [add_off _ _ _ (by decide)]; exact HCS.out 5 _ rfl
      have c6 : w3.cell? ⟨(ad.add (k * 15)).block, (ad.add (k * 15)).off + 6, none⟩ = some (.int .i64 p.flags) := by rw [add_off _ _ _ (by decide)]; exact HCS.out 6 _ rfl
      have c7 : w3.cell? ⟨(ad.add (k * 15)).block, (ad.add (k * 15)).off + 7, none⟩ = some (.int .i64 p.method) := by rw [add_off _ _ _ (by decide)]; exact HCS.out 7 _ rfl
      have c8 : w3.cell? ⟨(ad.add (k * 15)).block, (ad.add (k * 15)).off + 8, none⟩ = some (.int .i64 p.time) := by rw [add_off _ _ _ (by decide)]; exact HCS.out 8 _ rfl
      have c9 : w3.cell? ⟨(ad.add (k * 15)).block, (ad.add (k * 15)).off + 9, none⟩ = some (.int .i64 p.date) := by rw [add_off _ _ _ (by decide)]; exact HCS.out 9 _ rfl
      have c10 : w3.cell? ⟨(ad.add (k * 15)).block, (ad.add (k * 15)).off + 10, none⟩ = some (.int .i64 p.crc) := by rw [add_off _ _ _ (by decide)]; exact HCS.out 10 _ rfl
      have c11 : w3.cell? ⟨(ad.add (k * 15)).block, (ad.add (k * 15)).off + 11, none⟩ = some (.int .i64 p.packed) := by rw [add_off _ _ _ (by decide)]; exact HCS.out 11 _ rfl
      have c12 : w3.cell? ⟨(ad.add (k * 15)).block, (ad.add (k * 15)).off + 12, none⟩ = some (.int .i64 p.size) := by rw [add_off _ _ _ (by decide)]; exact HCS.out 12 _ rfl
      have c13 : w3.cell? ⟨(ad.add (k * 15)).block, (ad.add (k * 15)).off + 13, none⟩ = some (.int .i64 p.external) := by rw [add_off _ _ _ (by decide)]; exact HCS.out 13 _ rfl
      have c14 : w3.cell? ⟨(ad.add (k * 15)).block, (ad.add (k * 15)).off + 14, none⟩ = some (.string ⟨p.data.toArray⟩) := by rw [add_off _ _ _ (by decide)]; exact HCS.out 14 _ rfl
      go_wp2_with fail
      refine (HS.out _).mono ?_
      rintro e' w4 ⟨rfl, hb4⟩
      have HB4 := Lib.hid (And.intro (HB3.out.1.trans (hb4.mono HB3.out.1.size)) (HB3.out.2.trans (hb4.mono HB3.out.2.size)))
      clear hb4 HS HCS c0 c1 c2 c3 c4 c5 c6 c7 c8 c9 c10 c11 c12 c13 c14
      cases b2
      · go_wp2
        go_ret
        exact ⟨rfl, HB4.out.2⟩
      have c14 : w4.cell? ⟨(ad.add (k * 15)).block, (ad.add (k * 15)).off + 14, none⟩ = some (.string ⟨p.data.toArray⟩) := by rw [add_off _ _ _ (by decide)]; exact HP.out.2.2.2.1 w4 HB4.out.1 14 _ rfl
      by_cases h3 : 1048576 < p.data.length
      · go_wp2
        go_ret
        exact ⟨rfl, HB4.out.2⟩
      go_wp2
      go_roundw
      case rel =>
        refine ⟨k + 1, by go_num, by omega, Lib.hid ⟨M.set k p, by rw [HP.out.1, HE.out.1]; exact HE.out.2.1.next hlt, HP.out.2.1.below HB4.out.1, fun x hx => ?_, HB4.out.2⟩⟩
        rw [List.take_succ_eq_append_getElem hlt] at hx
        rcases List.mem_append.1 hx with hx | hx
        · exact HE.out.2.2.2.1 x hx
        · obtain rfl := List.mem_singleton.1 hx
          have q1 := HP.out.2.2.2.2
          have q2 := of_decide_eq_true HB2.out
          have q3 : p.data.length ≤ 1048576 := by omega
          rw [HP.out.1, HE.out.1] at q1 q2 q3
          exact ⟨q1, q2, q3⟩
      case measure => simp [intOf]; omega
    · obtain rfl : k = L.length := by omega
      obtain ⟨M, hM, hOw, hQ, hBw⟩ := HI.out
      rw [List.take_length] at hQ
      obtain rfl := hM.all
      obtain ⟨P, hP⟩ : ∃ P, P = L.map En.pk := ⟨_, rfl⟩
      have hPl : P.length = L.length := by rw [hP, List.length_map]
      rw [← hP] at hOw
      have hlens : ∀ e ∈ P, e.Lens := fun e he => by
        rw [hP] at he
        obtain ⟨x, hx, rfl⟩ := List.mem_map.1 he
        exact En.pk_lens (H.out.2.1 x hx).lensR
      have HQ := Lib.hid (And.intro hP (And.intro hQ (And.intro hOw hBw)))
      have hd := dirs_any A2 c2 P (by omega) hOw.reads hlens
      rw [hPl] at hd
      have HD := Lib.hid hd
      have HPL := Lib.hid hPl
      clear hd hM hOw hQ hBw hlens hP HI hPl
      by_cases g1 : 1000 < L.length
      · go_wp2
        go_ret
        exact ⟨rfl, HQ.out.2.2.2⟩
      by_cases g2 : 65535 < cl.length
      · go_wp2
        go_ret
        exact ⟨rfl, HQ.out.2.2.2⟩
      go_wp2_with fail
      refine HD.out.mono ?_
      rintro e' w2 ⟨rfl, hb2⟩
      have HB2 := Lib.hid hb2
      have HF := Lib.hid (fun W (h : Below wr.heap.size wr W) => HQ.out.2.2.2.trans (h.mono HQ.out.2.2.2.size))
      clear hb2 HD
      obtain ⟨b, hb⟩ : ∃ b, b = P.all dirOk := ⟨_, rfl⟩
      rw [← hb]
      have HDB := Lib.hid hb
      clear hb
      cases b
      · go_wp2
        go_ret
        exact ⟨rfl, HF.out _ HB2.out⟩
      have hok : ∀ x ∈ P, x.OkR := fun x hx => by
        have hda := HDB.out.symm
        rw [List.all_eq_true] at hda
        have hdx := hda x hx
        rw [HQ.out.1] at hx
        obtain ⟨y, hy, rfl⟩ := List.mem_map.1 hx
        exact (HQ.out.2.1 y hy).okR hdx
      have hw := WriteRaw_any A2 c2 P cl (HQ.out.2.2.1.below HB2.out).reads hok (by rw [HPL.out]; omega) (by omega)
      rw [HPL.out] at hw
      have hlens := items_lenR (P.map itemR) (fun i hi => by
        obtain ⟨x, hx, rfl⟩ := List.mem_map.1 hi
        exact itemR_len (hok x hx))
      have hal : (archB (P.map itemR) cl).length ≤ 4294967294 ∧ (filesB (P.map itemR)).length + (dirB 0 (P.map itemR)).length ≤ 4294967294 := by
        have h1 := hlens.1
        have h2 := hlens.2 0
        simp only [List.length_map, HPL.out] at h1 h2
        constructor
        · rw [archB, List.length_append, List.length_append, endL_length]; omega
        · omega
      obtain ⟨t, ht⟩ : ∃ t, t = archB (P.map itemR) cl := ⟨_, rfl⟩
      rw [← ht] at hw hal
      have HW := Lib.hid hw
      have HEN := Lib.hid (Ends_any t (by omega))
      have HOK := Lib.hid hok
      have HT := Lib.hid (And.intro ht hal)
      clear ht hal hok hlens hw HDB
      go_wp2_with fail
      refine HW.out.mono ?_
      rintro e' w3 ⟨rfl, hb3⟩
      have HB3 := Lib.hid (HB2.out.trans (hb3.mono HB2.out.size))
      clear hb3 HW HB2
      go_wp2_with fail
      refine (HEN.out _).mono ?_
      rintro e' w3' ⟨rfl, rfl⟩
      clear HEN
      obtain ⟨q, hq⟩ : ∃ q, q = endsL t := ⟨_, rfl⟩
      rw [← hq]
      by_cases hq1 : q = 1
      case neg =>
        have hqb : ((q : Int) != 1) = true := by simp; omega
        clear hq1 hq
        go_wp2
        go_ret
        exact ⟨rfl, HF.out _ HB3.out⟩
      subst hq1
      have hone : ∀ k, (filesB (P.map itemR)).length + (dirB 0 (P.map itemR)).length < k → standsL (archB (P.map itemR) cl) [80, 75, 5, 6] k = false := by
        have hp := arch_parts (l := archB (P.map itemR) cl) (P.map itemR) cl rfl rfl rfl (by have := HT.out.2.2; omega) (by simp [HPL.out]; omega) (by omega)
        exact one_end (by rw [← HT.out.1, ← hq]) hp.sig
      have hsc := Scan_any (P.map itemR) cl (fun i hi => by
        obtain ⟨x, hx, rfl⟩ := List.mem_map.1 hi
        exact itemR_ok (HOK.out x hx)) HT.out.2.2 (by simp [HPL.out]; omega) (by omega) hone w3
      rw [← HT.out.1] at hsc
      have HSC := Lib.hid hsc
      clear hsc hone hq
      go_wp2_with fail
      refine HSC.out.mono ?_
      rintro e' w4 ⟨⟨v, rfl, hv⟩, hb4⟩
      rw [List.length_map, HPL.out] at hv
      obtain ⟨RA, rc, hvv⟩ := own_sliceNR hv
      subst hvv
      have HB4 := Lib.hid (HB3.out.trans (hb4.mono HB3.out.size))
      have HV := Lib.hid (Reads.of_own hv)
      clear hv hb4 HSC
      go_wp2_with fail
      go_loopw [116] (fun s wr => ∃ k : Nat, s = .int .i64 k ∧ k ≤ L.length ∧ Hid (Below w4.heap.size w4 wr)) (fun s _ => L.length - (intOf s).toNat)
      case atStart => exact ⟨0, rfl, Nat.zero_le _, Lib.hid (Below.refl _ _)⟩
      case round =>
        obtain ⟨k, rfl, hk, HI⟩ := hrel
        have HBW := Lib.hid (HB4.out.trans (HI.out.mono HB4.out.size))
        by_cases hlt : k < L.length
        · have hkP : k < P.length := by rw [HPL.out]; exact hlt
          have hOw := HQ.out.2.2.1.below HBW.out
          obtain ⟨ad, hA, hab, _⟩ := hOw.reads.2 (by omega)
          subst hA
          obtain ⟨rd, hRA, hrb, hrcell⟩ := HV.out.2 (by omega)
          subst hRA
          obtain ⟨e, he⟩ : ∃ e, e = P[k] := ⟨_, rfl⟩
          have hok : e.OkR := by rw [he]; exact HOK.out _ (List.getElem_mem _)
          obtain ⟨h, hh⟩ : ∃ h, h = hdR e := ⟨_, rfl⟩
          obtain ⟨d, hdd⟩ : ∃ d, d = e.data := ⟨_, rfl⟩
          obtain ⟨nu, hnu⟩ : ∃ nu, nu = e.nu := ⟨_, rfl⟩
          have hec : e.cells = cellsH h nu d := by rw [cells_R hok, hh, hdd, hnu]
          have hcs : ∀ W', Below wr.heap.size wr W' → ∀ (j : Nat) (v : Value), (cellsH h nu d)[j]? = some v → W'.cell? (ad.add (k * 15 + j)) = some v := fun W' hb j v hj => by
            have hj15 : j < 15 := (List.getElem?_eq_some_iff.1 hj).1
            obtain ⟨ad', hA', _, hc'⟩ := (hOw.below hb).reads.2 (by omega)
            injection hA' with hA'
            subst hA'
            exact hc' _ v (by rw [flat_cells P k j hkP hj15, ← he, hec]; exact hj)
          have hkm : k < (P.map itemR).length := by simpa using hkP
          have hrs : ∀ (j : Nat) (v : Value), (recCells (itemR e).cen (offs (P.map itemR) k) (itemR e).data)[j]? = some v → wr.cell? (rd.add (k * 16 + j)) = some v := fun j v hj => by
            have hj16 : j < 16 := (List.getElem?_eq_some_iff.1 hj).1
            have := hrcell (k * 16 + j) v (by rw [recs_get (P.map itemR) k j hkm hj16, List.getElem_map, ← he]; exact hj)
            rw [← this]
            exact HI.out.cell (by rw [block_of_add]; exact hrb)
          have hrv : recCells (itemR e).cen (offs (P.map itemR) k) (itemR e).data = [.string ⟨h.name.toArray⟩, .string ⟨h.comment.toArray⟩, .string ⟨h.extra.toArray⟩, .bool false, .int .i64 h.creator, .int .i64 h.reader, .int .i64 h.flags, .int .i64 h.method, .int .i64 h.time, .int .i64 h.date, .int .i64 h.crc, .int .i64 h.packed, .int .i64 h.size, .int .i64 h.external, .int .i64 (offs (P.map itemR) k), .string ⟨d.toArray⟩] := by
            rw [show (itemR e).cen = h from hh.symm, show (itemR e).data = d from hdd.symm]
            rfl
          have HRS := Lib.hid hrs
          have HRV := Lib.hid hrv
          have HCW := Lib.hid hcs
          have HCS := Lib.hid (hcs wr (Below.refl _ _))
          have hab2 : (ad.add (k * 15)).block < wr.heap.size := by rw [block_of_add]; exact hab
          have hrb2 : (rd.add (k * 16)).block < wr.heap.size := by rw [block_of_add]; have := HI.out.size; omega
          clear hcs hrs hrv hrcell he hh hdd hnu hec hok hOw hkm hrb hab hkP
          have c0 : wr.cell? (ad.add (k * 15)) = some (.string ⟨h.name.toArray⟩) := HCS.out 0 _ rfl
          have c1 : wr.cell? ⟨(ad.add (k * 15)).block, (ad.add (k * 15)).off + 1, none⟩ = some (.string ⟨h.comment.toArray⟩) := by rw [add_off _ _ _ (by decide)]; exact HCS.out 1 _ rfl
          have c2 : wr.cell? ⟨(ad.add (k * 15)).block, (ad.add (k * 15)).off + 2, none⟩ = some (.string ⟨h.extra.toArray⟩) := by rw [add_off _ _ _ (by decide)]; exact HCS.out 2 _ rfl
          have c3 : wr.cell? ⟨(ad.add (k * 15)).block, (ad.add (k * 15)).off + 3, none⟩ = some (.bool nu) := by rw [add_off _ _ _ (by decide)]; exact HCS.out 3 _ rfl
          have c4 : wr.cell? ⟨(ad.add (k * 15)).block, (ad.add (k * 15)).off + 4, none⟩ = some (.int .i64 h.creator) := by rw [add_off _ _ _ (by decide)]; exact HCS.out 4 _ rfl
          have c5 : wr.cell? ⟨(ad.add (k * 15)).block, (ad.add (k * 15)).off + 5, none⟩ = some (.int .i64 h.reader) := by rw [add_off _ _ _ (by decide)]; exact HCS.out 5 _ rfl
          have c6 : wr.cell? ⟨(ad.add (k * 15)).block, (ad.add (k * 15)).off + 6, none⟩ = some (.int .i64 h.flags) := by rw [add_off _ _ _ (by decide)]; exact HCS.out 6 _ rfl
          have c7 : wr.cell? ⟨(ad.add (k * 15)).block, (ad.add (k * 15)).off + 7, none⟩ = some (.int .i64 h.method) := by rw [add_off _ _ _ (by decide)]; exact HCS.out 7 _ rfl
          have c8 : wr.cell? ⟨(ad.add (k * 15)).block, (ad.add (k * 15)).off + 8, none⟩ = some (.int .i64 h.time) := by rw [add_off _ _ _ (by decide)]; exact HCS.out 8 _ rfl
          have c9 : wr.cell? ⟨(ad.add (k * 15)).block, (ad.add (k * 15)).off + 9, none⟩ = some (.int .i64 h.date) := by rw [add_off _ _ _ (by decide)]; exact HCS.out 9 _ rfl
          have c10 : wr.cell? ⟨(ad.add (k * 15)).block, (ad.add (k * 15)).off + 10, none⟩ = some (.int .i64 h.crc) := by rw [add_off _ _ _ (by decide)]; exact HCS.out 10 _ rfl
          have c11 : wr.cell? ⟨(ad.add (k * 15)).block, (ad.add (k * 15)).off + 11, none⟩ = some (.int .i64 h.packed) := by rw [add_off _ _ _ (by decide)]; exact HCS.out 11 _ rfl
          have c12 : wr.cell? ⟨(ad.add (k * 15)).block, (ad.add (k * 15)).off + 12, none⟩ = some (.int .i64 h.size) := by rw [add_off _ _ _ (by decide)]; exact HCS.out 12 _ rfl
          have c13 : wr.cell? ⟨(ad.add (k * 15)).block, (ad.add (k * 15)).off + 13, none⟩ = some (.int .i64 h.external) := by rw [add_off _ _ _ (by decide)]; exact HCS.out 13 _ rfl
          have c14 : wr.cell? ⟨(ad.add (k * 15)).block, (ad.add (k * 15)).off + 14, none⟩ = some (.string ⟨d.toArray⟩) := by rw [add_off _ _ _ (by decide)]; exact HCS.out 14 _ rfl
          have r0 : wr.cell? (rd.add (k * 16)) = some (.string ⟨h.name.toArray⟩) := HRS.out 0 _ (by rw [HRV.out]; rfl)
          have r1 : wr.cell? ⟨(rd.add (k * 16)).block, (rd.add (k * 16)).off + 1, none⟩ = some (.string ⟨h.comment.toArray⟩) := by rw [add_off _ _ _ (by decide)]; exact HRS.out 1 _ (by rw [HRV.out]; rfl)
          have r2 : wr.cell? ⟨(rd.add (k * 16)).block, (rd.add (k * 16)).off + 2, none⟩ = some (.string ⟨h.extra.toArray⟩) := by rw [add_off _ _ _ (by decide)]; exact HRS.out 2 _ (by rw [HRV.out]; rfl)
          have r3 : wr.cell? ⟨(rd.add (k * 16)).block, (rd.add (k * 16)).off + 3, none⟩ = some (.bool false) := by rw [add_off _ _ _ (by decide)]; exact HRS.out 3 _ (by rw [HRV.out]; rfl)
          have r4 : wr.cell? ⟨(rd.add (k * 16)).block, (rd.add (k * 16)).off + 4, none⟩ = some (.int .i64 h.creator) := by rw [add_off _ _ _ (by decide)]; exact HRS.out 4 _ (by rw [HRV.out]; rfl)
          have r5 : wr.cell? ⟨(rd.add (k * 16)).block, (rd.add (k * 16)).off + 5, none⟩ = some (.int .i64 h.reader) := by rw [add_off _ _ _ (by decide)]; exact HRS.out 5 _ (by rw [HRV.out]; rfl)
          have r6 : wr.cell? ⟨(rd.add (k * 16)).block, (rd.add (k * 16)).off + 6, none⟩ = some (.int .i64 h.flags) := by rw [add_off _ _ _ (by decide)]; exact HRS.out 6 _ (by rw [HRV.out]; rfl)
          have r7 : wr.cell? ⟨(rd.add (k * 16)).block, (rd.add (k * 16)).off + 7, none⟩ = some (.int .i64 h.method) := by rw [add_off _ _ _ (by decide)]; exact HRS.out 7 _ (by rw [HRV.out]; rfl)
          have r8 : wr.cell? ⟨(rd.add (k * 16)).block, (rd.add (k * 16)).off + 8, none⟩ = some (.int .i64 h.time) := by rw [add_off _ _ _ (by decide)]; exact HRS.out 8 _ (by rw [HRV.out]; rfl)
          have r9 : wr.cell? ⟨(rd.add (k * 16)).block, (rd.add (k * 16)).off + 9, none⟩ = some (.int .i64 h.date) := by rw [add_off _ _ _ (by decide)]; exact HRS.out 9 _ (by rw [HRV.out]; rfl)
          have r10 : wr.cell? ⟨(rd.add (k * 16)).block, (rd.add (k * 16)).off + 10, none⟩ = some (.int .i64 h.crc) := by rw [add_off _ _ _ (by decide)]; exact HRS.out 10 _ (by rw [HRV.out]; rfl)
          have r11 : wr.cell? ⟨(rd.add (k * 16)).block, (rd.add (k * 16)).off + 11, none⟩ = some (.int .i64 h.packed) := by rw [add_off _ _ _ (by decide)]; exact HRS.out 11 _ (by rw [HRV.out]; rfl)
          have r12 : wr.cell? ⟨(rd.add (k * 16)).block, (rd.add (k * 16)).off + 12, none⟩ = some (.int .i64 h.size) := by rw [add_off _ _ _ (by decide)]; exact HRS.out 12 _ (by rw [HRV.out]; rfl)
          have r13 : wr.cell? ⟨(rd.add (k * 16)).block, (rd.add (k * 16)).off + 13, none⟩ = some (.int .i64 h.external) := by rw [add_off _ _ _ (by decide)]; exact HRS.out 13 _ (by rw [HRV.out]; rfl)
          have r14 : wr.cell? ⟨(rd.add (k * 16)).block, (rd.add (k * 16)).off + 14, none⟩ = some (.int .i64 (offs (P.map itemR) k)) := by rw [add_off _ _ _ (by decide)]; exact HRS.out 14 _ (by rw [HRV.out]; rfl)
          have r15 : wr.cell? ⟨(rd.add (k * 16)).block, (rd.add (k * 16)).off + 15, none⟩ = some (.string ⟨d.toArray⟩) := by rw [add_off _ _ _ (by decide)]; exact HRS.out 15 _ (by rw [HRV.out]; rfl)
          go_upto_region 24 with (fail)
          refine atW (fun W => Blk W wr.heap.size 35 #[.string ⟨h.name.toArray⟩, .string ⟨h.comment.toArray⟩, .string ⟨h.extra.toArray⟩, .bool false, .int .i64 h.creator, .int .i64 h.reader, .int .i64 h.flags, .int .i64 h.method, .int .i64 h.time, .int .i64 h.date, .int .i64 h.crc, .int .i64 h.packed, .int .i64 h.size, .int .i64 h.external, .int .i64 (offs (P.map itemR) k), .string ⟨d.toArray⟩] ∧ Blk W (wr.heap.size + 1) 25 #[.string ⟨h.name.toArray⟩, .string ⟨h.comment.toArray⟩, .string ⟨h.extra.toArray⟩, .bool false, .int .i64 h.creator, .int .i64 h.reader, .int .i64 h.flags, .int .i64 h.method, .int .i64 h.time, .int .i64 h.date, .int .i64 h.crc, .int .i64 h.packed, .int .i64 h.size, .int .i64 h.external] ∧ Below w4.heap.size w4 W ∧ Below wr.heap.size wr W) ⟨(Blk.new wr _ _).alloc _, Blk.newAt _ _ _ _ (by first | simp | rfl), (HI.out.alloc HI.out.size _).alloc (by have := HI.out.size; simp; omega) _, ((Below.refl _ _).alloc (Nat.le_refl _) _).alloc (by simp) _⟩ ?_
          rintro W ⟨hR, hH, hbW4, hbW⟩
          have HBD := Lib.hid hbW4
          clear c0 c1 c2 c3 c4 c5 c6 c7 c8 c9 c10 c11 c12 c13 c14 r0 r1 r2 r3 r4 r5 r6 r7 r8 r9 r10 r11 r12 r13 r14 r15
          have q0 : W.cell? ⟨wr.heap.size, 0, none⟩ = some (.string ⟨h.name.toArray⟩) := (hR.cell 0).trans rfl
          have q1 : W.cell? ⟨wr.heap.size, 1, none⟩ = some (.string ⟨h.comment.toArray⟩) := (hR.cell 1).trans rfl
          have q2 : W.cell? ⟨wr.heap.size, 2, none⟩ = some (.string ⟨h.extra.toArray⟩) := (hR.cell 2).trans rfl
          have q3 : W.cell? ⟨wr.heap.size, 3, none⟩ = some (.bool false) := (hR.cell 3).trans rfl
          have q4 : W.cell? ⟨wr.heap.size, 4, none⟩ = some (.int .i64 h.creator) := (hR.cell 4).trans rfl
          have q5 : W.cell? ⟨wr.heap.size, 5, none⟩ = some (.int .i64 h.reader) := (hR.cell 5).trans rfl
          have q6 : W.cell? ⟨wr.heap.size, 6, none⟩ = some (.int .i64 h.flags) := (hR.cell 6).trans rfl
          have q7 : W.cell? ⟨wr.heap.size, 7, none⟩ = some (.int .i64 h.method) := (hR.cell 7).trans rfl
          have q8 : W.cell? ⟨wr.heap.size, 8, none⟩ = some (.int .i64 h.time) := (hR.cell 8).trans rfl
          have q9 : W.cell? ⟨wr.heap.size, 9, none⟩ = some (.int .i64 h.date) := (hR.cell 9).trans rfl
          have q10 : W.cell? ⟨wr.heap.size, 10, none⟩ = some (.int .i64 h.crc) := (hR.cell 10).trans rfl
          have q11 : W.cell? ⟨wr.heap.size, 11, none⟩ = some (.int .i64 h.packed) := (hR.cell 11).trans rfl
          have q12 : W.cell? ⟨wr.heap.size, 12, none⟩ = some (.int .i64 h.size) := (hR.cell 12).trans rfl
          have q13 : W.cell? ⟨wr.heap.size, 13, none⟩ = some (.int .i64 h.external) := (hR.cell 13).trans rfl
          have q14 : W.cell? ⟨wr.heap.size, 14, none⟩ = some (.int .i64 (offs (P.map itemR) k)) := (hR.cell 14).trans rfl
          have q15 : W.cell? ⟨wr.heap.size, 15, none⟩ = some (.string ⟨d.toArray⟩) := (hR.cell 15).trans rfl
          have p0 : W.cell? ⟨wr.heap.size + 1, 0, none⟩ = some (.string ⟨h.name.toArray⟩) := (hH.cell 0).trans rfl
          have p1 : W.cell? ⟨wr.heap.size + 1, 1, none⟩ = some (.string ⟨h.comment.toArray⟩) := (hH.cell 1).trans rfl
          have p2 : W.cell? ⟨wr.heap.size + 1, 2, none⟩ = some (.string ⟨h.extra.toArray⟩) := (hH.cell 2).trans rfl
          have p3 : W.cell? ⟨wr.heap.size + 1, 3, none⟩ = some (.bool false) := (hH.cell 3).trans rfl
          have p4 : W.cell? ⟨wr.heap.size + 1, 4, none⟩ = some (.int .i64 h.creator) := (hH.cell 4).trans rfl
          have p5 : W.cell? ⟨wr.heap.size + 1, 5, none⟩ = some (.int .i64 h.reader) := (hH.cell 5).trans rfl
          have p6 : W.cell? ⟨wr.heap.size + 1, 6, none⟩ = some (.int .i64 h.flags) := (hH.cell 6).trans rfl
          have p7 : W.cell? ⟨wr.heap.size + 1, 7, none⟩ = some (.int .i64 h.method) := (hH.cell 7).trans rfl
          have p8 : W.cell? ⟨wr.heap.size + 1, 8, none⟩ = some (.int .i64 h.time) := (hH.cell 8).trans rfl
          have p9 : W.cell? ⟨wr.heap.size + 1, 9, none⟩ = some (.int .i64 h.date) := (hH.cell 9).trans rfl
          have p10 : W.cell? ⟨wr.heap.size + 1, 10, none⟩ = some (.int .i64 h.crc) := (hH.cell 10).trans rfl
          have p11 : W.cell? ⟨wr.heap.size + 1, 11, none⟩ = some (.int .i64 h.packed) := (hH.cell 11).trans rfl
          have p12 : W.cell? ⟨wr.heap.size + 1, 12, none⟩ = some (.int .i64 h.size) := (hH.cell 12).trans rfl
          have p13 : W.cell? ⟨wr.heap.size + 1, 13, none⟩ = some (.int .i64 h.external) := (hH.cell 13).trans rfl
          have c14 : W.cell? ⟨(ad.add (k * 15)).block, (ad.add (k * 15)).off + 14, none⟩ = some (.string ⟨d.toArray⟩) := by rw [add_off _ _ _ (by decide)]; exact HCW.out W hbW 14 _ rfl
          clear hR hH hbW4 hbW HCS hab2 hrb2
          go_quiet (fail)
          go_wp2
          go_roundw
          case rel => exact ⟨k + 1, by go_num, by omega, Lib.hid (below_drewN HBD.out _)⟩
          case measure => simp [intOf]; omega
        · obtain rfl : k = L.length := by omega
          have HWR := Lib.hid (writes_any (tabs_keep H.out.2.2 (HF.out _ HBW.out)))
          go_wp2_with fail
          refine HWR.out.mono ?_
          rintro e' w5 ⟨rfl, hb5⟩
          have HB5 := Lib.hid ((HF.out _ HBW.out).trans (hb5.mono (HF.out _ HBW.out).size))
          clear hb5 HWR
          go_wp2
          go_ret
          exact ⟨rfl, HB5.out⟩
end Go.Proofs.YtkkdblifgekmkaaGreatDoor
