/- Contract: spec.Scan of an archive. -/
import Derived.Test.YtkkdblifgekmkaaDoorScan1
import Derived.Test.YtkkdblifgekmkaaDoorScan2
import Derived.Test.YtkkdblifgekmkaaDoorReads
import Derived.Test.YtkkdblifgekmkaaDoorEnd
import Derived.Test.YtkkdblifgekmkaaDoorAr
namespace Go.Proofs.YtkkdblifgekmkaaDoor
open Go.RowKit
theorem infoRec : (Tryd.prog.info? 47).map (fun i => (i.zero, i.size, i.bytes)) = some (some (.agg recZ), 16, 160) := by kernel_rfl
set_option maxRecDepth 100000 in
set_option maxHeartbeats 4000000 in
theorem Scan_any (is : List Item) (cl : List UInt8) (hok : ∀ i ∈ is, ItemOk i) (hlen : (filesB is).length + (dirB 0 is).length ≤ 4294967294) (hm : is.length ≤ 65534) (hcl : cl.length ≤ 65535) (hone : ∀ k, (filesB is).length + (dirB 0 is).length < k → standsL (archB is cl) [80, 75, 5, 6] k = false) (w : World) :
    Calls Tryd.prog 16 #[.string ⟨(archB is cl).toArray⟩] w fun e w' => (∃ v, e = .returned (.tuple #[v, .string ⟨cl.toArray⟩, .bool true]) ∧ w'.ownsRow w.heap.size 47 16 v is.length (recsB 0 is)) ∧ Below w.heap.size w w' := by
  obtain ⟨i0, hi, hz0, hz1, hz2⟩ := info_parts infoRec
  obtain ⟨l, hl⟩ : ∃ l, l = archB is cl := ⟨_, rfl⟩
  rw [← hl] at hone ⊢
  obtain ⟨F, hF⟩ : ∃ F, F = (filesB is).length := ⟨_, rfl⟩
  obtain ⟨D, hD⟩ : ∃ D, D = (dirB 0 is).length := ⟨_, rfl⟩
  rw [← hF, ← hD] at hlen hone
  have HP := Lib.hid (arch_parts is cl hl hF hD (by omega) (by omega) (by omega))
  have hll : l.length = F + D + 22 + cl.length := HP.out.len
  have hsz : (ByteArray.mk l.toArray).size = l.length := rfl
  obtain ⟨N, hN⟩ : ∃ N, N = l.length := ⟨_, rfl⟩
  rw [← hN] at hsz hll
  have hNb : N ≤ 4294967294 + 22 + 65535 := by omega
  obtain ⟨E, hE⟩ : ∃ E, E = F + D := ⟨_, rfl⟩
  have hEN : E + 22 + cl.length ≤ N := by omega
  have hNE : N ≤ E + 22 + cl.length := by omega
  have HAT : ∀ k, E < k → k + 22 ≤ N → ∀ w, Calls Tryd.prog 29 #[.string ⟨l.toArray⟩, .int .i64 k, .string { data := #[80, 75, 5, 6] }] w fun e w' => e = .returned (.bool false) ∧ w = w' := fun k h1 h2 w => At_is l [80, 75, 5, 6] k (by omega) (by decide) (by omega) (.inl (by omega)) (hone k (by omega))
  have HAE : ∀ w, Calls Tryd.prog 29 #[.string ⟨l.toArray⟩, .int .i64 E, .string { data := #[80, 75, 5, 6] }] w fun e w' => e = .returned (.bool true) ∧ w = w' := fun w => At_is l [80, 75, 5, 6] E (by omega) (by decide) (by omega) (.inl (by omega)) (by rw [hE]; exact HP.out.sig)
  have HNum : ∀ (a n v : Nat), n ≤ 6 → numL (sub l a n) = v → ∀ w, Calls Tryd.prog 30 #[.string ⟨(sub l a n).toArray⟩] w fun e w' => e = .returned (.int .i64 v) ∧ w' = w := fun a n v h hv w => (Number_any _ (Nat.le_trans (sub_le _ _ _) h) w).mono (fun e w' q => ⟨by rw [q.1, hv], q.2.symm⟩)
  have H := Lib.hid (And.intro HAT HAE)
  have N8 := Lib.hid (HNum (E + 8) 2 is.length (by decide) (by rw [hE]; exact HP.out.many0))
  have N10 := Lib.hid (HNum (E + 10) 2 is.length (by decide) (by rw [hE]; exact HP.out.many))
  have N12 := Lib.hid (HNum (E + 12) 4 D (by decide) (by rw [hE]; exact HP.out.size))
  have N16 := Lib.hid (HNum (E + 16) 4 F (by decide) (by rw [hE]; exact HP.out.at_))
  have N20 := Lib.hid (HNum (E + 20) 2 cl.length (by decide) (by rw [hE]; exact HP.out.clen))
  have x8 : (ByteArray.mk l.toArray).extract (E + 8) (E + 10) = ⟨(sub l (E + 8) 2).toArray⟩ := ext_sub l (E + 8) 2
  have x10 : (ByteArray.mk l.toArray).extract (E + 10) (E + 12) = ⟨(sub l (E + 10) 2).toArray⟩ := ext_sub l (E + 10) 2
  have x12 : (ByteArray.mk l.toArray).extract (E + 12) (E + 16) = ⟨(sub l (E + 12) 4).toArray⟩ := ext_sub l (E + 12) 4
  have x16 : (ByteArray.mk l.toArray).extract (E + 16) (E + 20) = ⟨(sub l (E + 16) 4).toArray⟩ := ext_sub l (E + 16) 4
  have x20 : (ByteArray.mk l.toArray).extract (E + 20) (E + 22) = ⟨(sub l (E + 20) 2).toArray⟩ := ext_sub l (E + 20) 2
  have HOK := Lib.hid hok
  have HFD := Lib.hid (And.intro hF (And.intro hD (And.intro hl (And.intro hE hlen))))
  have HNE := Lib.hid (And.intro hN hll)
  have hEb : E ≤ 4294967294 := by omega
  have hcm : ((E : Int) + 22 + cl.length == (N : Int)) = true := by simp; omega
  have hfd : ((F : Int) + D != (E : Int)) = false := by simp; omega
  have hFb : F ≤ 4294967294 := by omega
  have hDb : D ≤ 4294967294 := by omega
  clear HAT HAE HNum hone hok hl hF hD hN hll hE hlen
  go_enter Tryd.func16, Tryd.ntmps16
  go_wp2_with fail
  refine atW (fun W => W.ownsRow w.heap.size 47 16 (.slice (some ⟨w.heap.size, 0, none⟩) 0 0) 0 [] ∧ Below w.heap.size w W) ⟨World.ownsRow_made w #[] 0 (Nat.le_refl _) (by decide) rfl, (Below.refl _ _).alloc (Nat.le_refl _) _⟩ ?_
  rintro W0 hW0
  have HW := Lib.hid hW0
  clear hW0
  go_loop [6] (fun s6 => ∃ (z : Int) (e : Nat), s6 = .int .i64 z ∧ z = (e : Int) ∧ E ≤ e ∧ e ≤ E + cl.length) (fun s6 => (intOf s6).toNat)
  case atStart => exact ⟨_, E + cl.length, rfl, by omega, by omega, by omega⟩
  case round =>
    obtain ⟨z, e, rfl, rfl, he1, he2⟩ := hrel
    by_cases he : e = E
    · subst he
      clear x8 x10 x12 x16
      go_wp2_with fail
      refine (H.out.2 _).mono ?_
      rintro e' w1 ⟨rfl, rfl⟩
      go_wp2_with fail
      refine (N20.out _).mono ?_
      rintro e' w1 ⟨rfl, hw1⟩
      subst hw1
      clear x20 N20
      have x8 : (ByteArray.mk l.toArray).extract (e + 8) (e + 10) = ⟨(sub l (e + 8) 2).toArray⟩ := ext_sub l (e + 8) 2
      have x10 : (ByteArray.mk l.toArray).extract (e + 10) (e + 12) = ⟨(sub l (e + 10) 2).toArray⟩ := ext_sub l (e + 10) 2
      have x12 : (ByteArray.mk l.toArray).extract (e + 12) (e + 16) = ⟨(sub l (e + 12) 4).toArray⟩ := ext_sub l (e + 12) 4
      have x16 : (ByteArray.mk l.toArray).extract (e + 16) (e + 20) = ⟨(sub l (e + 16) 4).toArray⟩ := ext_sub l (e + 16) 4
      have t10 : IntKind.i64.wrap ((e : Int) + 10) = (e : Int) + 10 := IntWalk.i64_in _ (by omega)
      have b10 : ((e : Int) + 10).toNat = e + 10 := by omega
      have p10 : (0 : Int) ≤ (e : Int) + 10 := by omega
      have q10 : (e : Int) + 10 ≤ (N : Int) := by omega
      have t12 : IntKind.i64.wrap ((e : Int) + 12) = (e : Int) + 12 := IntWalk.i64_in _ (by omega)
      have b12 : ((e : Int) + 12).toNat = e + 12 := by omega
      have p12 : (0 : Int) ≤ (e : Int) + 12 := by omega
      have q12 : (e : Int) + 12 ≤ (N : Int) := by omega
      have t16 : IntKind.i64.wrap ((e : Int) + 16) = (e : Int) + 16 := IntWalk.i64_in _ (by omega)
      have b16 : ((e : Int) + 16).toNat = e + 16 := by omega
      have p16 : (0 : Int) ≤ (e : Int) + 16 := by omega
      have q16 : (e : Int) + 16 ≤ (N : Int) := by omega
      have t20 : IntKind.i64.wrap ((e : Int) + 20) = (e : Int) + 20 := IntWalk.i64_in _ (by omega)
      have b20 : ((e : Int) + 20).toNat = e + 20 := by omega
      have p20 : (0 : Int) ≤ (e : Int) + 20 := by omega
      have q20 : (e : Int) + 20 ≤ (N : Int) := by omega
      have i1 : (e : Int) + 10 ≤ (e : Int) + 12 := by omega
      have i2 : (e : Int) + 12 ≤ (e : Int) + 16 := by omega
      have i3 : (e : Int) + 16 ≤ (e : Int) + 20 := by omega
      go_wp2_with fail
      go_quiet ((first | (go_at_call 30; with_reducible exact Calls.quiet_of_same (N10.out _)) | (go_at_call 30; with_reducible exact Calls.quiet_of_same (N12.out _)) | (go_at_call 30; with_reducible exact Calls.quiet_of_same (N16.out _))))
      clear x10 x12 x16 t10 t12 t16 t20 b10 b12 b16 b20 p10 p12 p16 p20 q10 q12 q16 q20 i1 i2 i3 hcm N10 N12 N16
      go_wp2_with fail
      refine (N8.out _).mono ?_
      rintro e' w1 ⟨rfl, hw1⟩
      subst hw1
      clear x8 N8 H
      have hnn : ((is.length : Int) != (is.length : Int)) = false := by simp
      go_wp2_with fail
      clear hnn hfd
      refine atW (fun W => W.ownsRow w.heap.size 47 16 (.slice (some ⟨w.heap.size, 0, none⟩) 0 0) 0 [] ∧ Below w.heap.size w W) ⟨HW.out.1, below_drewN HW.out.2 _⟩ ?_
      clear HW
      rintro W1 hW1
      have HW := Lib.hid hW1
      clear hW1
      obtain ⟨P, hPd⟩ : ∃ P, P = filesB is ++ dirB 0 is := ⟨_, rfl⟩
      have hxE : (ByteArray.mk l.toArray).extract 0 e = ⟨P.toArray⟩ := by
        rw [Lib.extract_eq, Nat.sub_zero, List.drop_zero]
        show (⟨(l.take e).toArray⟩ : ByteArray) = _
        obtain ⟨h1, h2, h3, h4, _⟩ := HFD.out
        rw [h4, arch_take is cl h3 h1 h2, hPd]
      have HPD := Lib.hid hPd
      clear hPd
      go_loopw [5, 7, 9] (fun s5 s7 s9 wr => ∃ (j k A : Nat), s7 = .int .i64 j ∧ j + k = is.length ∧ s9 = .int .i64 A ∧ Hid (A = F + dats is k) ∧ Hid (wr.ownsRow w.heap.size 47 16 s5 k (recsB 0 (is.take k)) ∧ Below w.heap.size w wr)) (fun _ s7 _ _ => (intOf s7).toNat)
      case atStart => exact ⟨is.length, 0, F, rfl, rfl, rfl, Lib.hid (by simp [dats, dirB]), Lib.hid HW.out⟩
      case round =>
        obtain ⟨j, k, A, rfl, hjk, rfl, HA, HI⟩ := hrel
        clear HW
        by_cases hj : j = 0
        · subst hj
          obtain rfl : k = is.length := by omega
          have hae : ((A : Int) == (e : Int)) = true := by
            obtain ⟨h1, h2, _, h4, _⟩ := HFD.out
            have := HA.out
            rw [dats_all, ← h2] at this
            simp; omega
          have hx22 : (ByteArray.mk l.toArray).extract (e + 22) N = ⟨cl.toArray⟩ := by
            obtain ⟨h1, h2, _, h4, _⟩ := HFD.out
            have h5 := HP.out.rest
            rw [← h4] at h5
            rw [Lib.extract_eq]
            show (⟨((l.drop (e + 22)).take (N - (e + 22))).toArray⟩ : ByteArray) = _
            rw [h5, List.take_of_length_le (by omega)]
          have t22 : IntKind.i64.wrap ((e : Int) + 22) = (e : Int) + 22 := IntWalk.i64_in _ (by omega)
          have b22 : ((e : Int) + 22).toNat = e + 22 := by omega
          have p22 : (0 : Int) ≤ (e : Int) + 22 := by omega
          have q22 : (e : Int) + 22 ≤ (N : Int) := by omega
          have HII := Lib.hid HI.out
          clear HPD hxE
          go_wp2_with fail
          go_quiet (fail)
          go_wp2
          go_ret3
          have h1 := HII.out.1
          rw [List.take_length] at h1
          exact ⟨⟨_, rfl, owns_kept h1 ((Kept.refl [] wr).drewN _) (by simp)⟩, below_drewN HII.out.2 _⟩
        · obtain ⟨i, hi2⟩ : ∃ i, i = is[k]'(by omega) := ⟨_, rfl⟩
          obtain ⟨o, ho⟩ : ∃ o, o = offs is k := ⟨_, rfl⟩
          have hkl : k < is.length := by omega
          have hio : ItemOk i := by rw [hi2]; exact HOK.out _ (List.getElem_mem _)
          obtain ⟨hF0, hD0, hl0, hE0, hlen0⟩ := HFD.out
          have hm1 := offs_mono is k hkl
          have hm2 := dats_mono is k hkl
          have hcA : CentralAt P A i.cen o := by
            rw [HPD.out, HA.out, hi2, ho, hF0]
            exact central_at (dir_at is k hkl)
          have hlA : LocalAt l o i.loc := by
            have := files_at is k hkl (dirB 0 is ++ endL is.length (dirB 0 is).length (filesB is).length cl)
            rw [← List.append_assoc] at this
            rw [hl0, hi2, ho]
            exact local_at this
          have hPl : P.length = e := by rw [HPD.out, List.length_append, hE0, hF0, hD0]
          have hob : o + 30 + i.loc.name.length + i.loc.extra.length + i.data.length ≤ l.length := by
            rw [← hi2, ← ho, localB_length] at hm1
            have := HNE.out.1
            omega
          have hAe : A + (46 + i.cen.name.length + i.cen.extra.length + i.cen.comment.length) = F + dats is (k + 1) := by
            rw [dats_next is k hkl, centralB_length, HA.out, ← hi2]; omega
          have hsub : sub l (o + 30 + i.loc.name.length + i.loc.extra.length) i.data.length = i.data := by
            have := files_at is k hkl (dirB 0 is ++ endL is.length (dirB 0 is).length (filesB is).length cl)
            rw [← List.append_assoc] at this
            have h2 := drop_mid (l := l) (at_ := o) (a := localB i.loc) (c := i.data ++ (i.tail ++ filesB (is.drop (k + 1)) ++ (dirB 0 is ++ endL is.length (dirB 0 is).length (filesB is).length cl))) (by rw [hl0, ho, hi2]; exact this) (localB_length _)
            unfold sub
            rw [show o + 30 + i.loc.name.length + i.loc.extra.length = o + (30 + i.loc.name.length + i.loc.extra.length) by omega, h2, List.take_left]
          have hAb : A ≤ 4294967294 := by have := hcA.rest; omega
          have ho32 : o < 4294967296 := by omega
          have hll2 : l.length ≤ 4611686018427387904 := by have := HNE.out.1; omega
          have n1 := hio.cen.name
          have n2 := hio.cen.extra
          have n3 := hio.cen.comment
          have HCE := Lib.hid (fun w => central_any hcA hio.cen ho32 (by rw [hPl]; omega) w)
          have hlo := (fun w c1 c2 c3 c4 c5 c6 c8 c9 c10 c12 c13 c15 => local_any (c1 := c1) (c2 := c2) (c3 := c3) (c4 := c4) (c5 := c5) (c6 := c6) (c8 := c8) (c9 := c9) (c10 := c10) (c12 := c12) (c13 := c13) (c15 := c15) hlA hio.loc hll2 hob w)
          have hco := (fun w c0 c1 c2 c3 c4 c5 c6 c7 c8 c9 c10 c12 c13 c15 => content_any (c0 := c0) (c1 := c1) (c2 := c2) (c3 := c3) (c4 := c4) (c5 := c5) (c6 := c6) (c7 := c7) (c8 := c8) (c9 := c9) (c10 := c10) (c12 := c12) (c13 := c13) (c15 := c15) hlA hio.loc hll2 hob w)
          simp only [hio.name, hio.method, ← hio.packed] at hlo
          simp only [hsub] at hco
          simp only [← hio.packed] at hco
          have HLO := Lib.hid hlo
          have HCO := Lib.hid hco
          clear hlo hco
          have HIO := Lib.hid (And.intro hio (And.intro hi2 (And.intro ho hAe)))
          have hjp : (0 : Int) < (j : Int) := by omega
          clear hio hi2 ho hF0 hD0 hl0 hE0 hlen0 hm1 hm2 hcA hlA hPl hob hsub ho32 hll2 hAe
          go_wp2_with fail
          refine (HCE.out _).mono ?_
          rintro e' w2 ⟨rfl, hb2⟩
          have HB2 := Lib.hid (And.intro (HI.out.2.trans (hb2.mono HI.out.2.size)) hb2)
          clear hb2 HCE
          simp only [recCells]
          go_wp2_with fail
          refine (HLO.out _ _ _ _ _ _ _ _ _ _ _ _ _).mono ?_
          rintro e' w3 ⟨rfl, hb3⟩
          have hbk3 : Blk w3 w2.heap.size 47 (recCells i.cen o []).toArray := (Blk.new w2 47 (recCells i.cen o []).toArray).below hb3 (by simp)
          have hb3' := HB2.out.1.trans (below_new hb3 |>.mono HB2.out.1.size)
          have HB3 := Lib.hid (And.intro hb3' (And.intro hbk3 (below_new hb3)))
          have k0 : w3.cell? ⟨w2.heap.size, 0, none⟩ = some (.string ⟨(i.cen).name.toArray⟩) := hbk3.cell 0
          have k1 : w3.cell? ⟨w2.heap.size, 1, none⟩ = some (.string ⟨(i.cen).comment.toArray⟩) := hbk3.cell 1
          have k2 : w3.cell? ⟨w2.heap.size, 2, none⟩ = some (.string ⟨(i.cen).extra.toArray⟩) := hbk3.cell 2
          have k3 : w3.cell? ⟨w2.heap.size, 3, none⟩ = some (.bool false) := hbk3.cell 3
          have k4 : w3.cell? ⟨w2.heap.size, 4, none⟩ = some (.int .i64 (i.cen).creator) := hbk3.cell 4
          have k5 : w3.cell? ⟨w2.heap.size, 5, none⟩ = some (.int .i64 (i.cen).reader) := hbk3.cell 5
          have k6 : w3.cell? ⟨w2.heap.size, 6, none⟩ = some (.int .i64 (i.cen).flags) := hbk3.cell 6
          have k7 : w3.cell? ⟨w2.heap.size, 7, none⟩ = some (.int .i64 (i.cen).method) := hbk3.cell 7
          have k8 : w3.cell? ⟨w2.heap.size, 8, none⟩ = some (.int .i64 (i.cen).time) := hbk3.cell 8
          have k9 : w3.cell? ⟨w2.heap.size, 9, none⟩ = some (.int .i64 (i.cen).date) := hbk3.cell 9
          have k10 : w3.cell? ⟨w2.heap.size, 10, none⟩ = some (.int .i64 (i.cen).crc) := hbk3.cell 10
          have k11 : w3.cell? ⟨w2.heap.size, 11, none⟩ = some (.int .i64 (i.cen).packed) := hbk3.cell 11
          have k12 : w3.cell? ⟨w2.heap.size, 12, none⟩ = some (.int .i64 (i.cen).size) := hbk3.cell 12
          have k13 : w3.cell? ⟨w2.heap.size, 13, none⟩ = some (.int .i64 (i.cen).external) := hbk3.cell 13
          have k14 : w3.cell? ⟨w2.heap.size, 14, none⟩ = some (.int .i64 o) := hbk3.cell 14
          have k15 : w3.cell? ⟨w2.heap.size, 15, none⟩ = some (.string ⟨([] : List UInt8).toArray⟩) := hbk3.cell 15
          clear hb3 hbk3 hb3' HLO
          go_wp2_with fail
          refine (HCO.out _ _ _ _ _ _ _ _ _ _ _ _ _ _ _).mono ?_
          rintro e' w4 ⟨rfl, hb4⟩
          clear k0 k1 k2 k3 k4 k5 k6 k7 k8 k9 k10 k11 k12 k13 k14 k15
          have hbk4 : Blk w4 w2.heap.size 47 (recCells i.cen o []).toArray := HB3.out.2.1.below hb4 HB3.out.2.1.lt
          have k15 : w4.cell? ⟨w2.heap.size, 15, none⟩ = some (.string ⟨([] : List UInt8).toArray⟩) := hbk4.cell 15
          have kf : w4.frozen? ⟨w2.heap.size, 15, none⟩ = false := hbk4.frozen 15
          have HB4 := Lib.hid (And.intro (HB3.out.1.trans (hb4.mono HB3.out.1.size)) (And.intro hbk4 (HB3.out.2.2.trans (hb4.mono HB3.out.2.2.size))))
          clear hb4 hbk4 HCO
          go_upto_region 16 with (fail)
          refine atW (fun W => Blk W w2.heap.size 47 (recCells i.cen o i.data).toArray ∧ Below w.heap.size w W ∧ W.ownsRow w.heap.size 47 16 u5 k (recsB 0 (is.take k))) ?_ ?_
          · have hz := HB2.out.2.size
            have h4 : Below wr.heap.size wr w4 := HB2.out.2.trans (HB4.out.2.2.mono hz)
            refine ⟨Blk.cast (HB4.out.2.1.set_ 15 _) (by simp [recCells]), HB4.out.1.setCell (by show w.heap.size ≤ w2.heap.size; exact HB2.out.1.size) _, ?_⟩
            exact owns_kept HI.out.1 (Kept.of_below (h4.setCell (p := ⟨w2.heap.size, 15, none⟩) hz _) []) (by simp)
          clear k15 kf
          rintro W5 ⟨hb5, hbw5, how5⟩
          have HB5 := Lib.hid (And.intro hb5 (And.intro hbw5 how5))
          have k0 : W5.cell? ⟨w2.heap.size, 0, none⟩ = some (.string ⟨(i.cen).name.toArray⟩) := hb5.cell 0
          have k1 : W5.cell? ⟨w2.heap.size, 1, none⟩ = some (.string ⟨(i.cen).comment.toArray⟩) := hb5.cell 1
          have k2 : W5.cell? ⟨w2.heap.size, 2, none⟩ = some (.string ⟨(i.cen).extra.toArray⟩) := hb5.cell 2
          have k3 : W5.cell? ⟨w2.heap.size, 3, none⟩ = some (.bool false) := hb5.cell 3
          have k4 : W5.cell? ⟨w2.heap.size, 4, none⟩ = some (.int .i64 (i.cen).creator) := hb5.cell 4
          have k5 : W5.cell? ⟨w2.heap.size, 5, none⟩ = some (.int .i64 (i.cen).reader) := hb5.cell 5
          have k6 : W5.cell? ⟨w2.heap.size, 6, none⟩ = some (.int .i64 (i.cen).flags) := hb5.cell 6
          have k7 : W5.cell? ⟨w2.heap.size, 7, none⟩ = some (.int .i64 (i.cen).method) := hb5.cell 7
          have k8 : W5.cell? ⟨w2.heap.size, 8, none⟩ = some (.int .i64 (i.cen).time) := hb5.cell 8
          have k9 : W5.cell? ⟨w2.heap.size, 9, none⟩ = some (.int .i64 (i.cen).date) := hb5.cell 9
          have k10 : W5.cell? ⟨w2.heap.size, 10, none⟩ = some (.int .i64 (i.cen).crc) := hb5.cell 10
          have k11 : W5.cell? ⟨w2.heap.size, 11, none⟩ = some (.int .i64 (i.cen).packed) := hb5.cell 11
          have k12 : W5.cell? ⟨w2.heap.size, 12, none⟩ = some (.int .i64 (i.cen).size) := hb5.cell 12
          have k13 : W5.cell? ⟨w2.heap.size, 13, none⟩ = some (.int .i64 (i.cen).external) := hb5.cell 13
          have k14 : W5.cell? ⟨w2.heap.size, 14, none⟩ = some (.int .i64 o) := hb5.cell 14
          have k15 : W5.cell? ⟨w2.heap.size, 15, none⟩ = some (.string ⟨i.data.toArray⟩) := hb5.cell 15
          clear hb5 hbw5 how5
          go_wp2_with (at_builtin; refine wpList_append_own _ rfl _ _ 43 rfl w.heap.size 47 i0 (.agg recZ) 16 160 Tryd.underlying43 hi hz0 hz1 hz2 rfl (by decide) _ _ _ rfl (HB5.out.2.2.alloc _) ⟨W5.heap.size, 0, none⟩ 1 1 (recCells i.cen o i.data) rfl rfl ?c1 ?c2 ?c3 ?c4 ?c5 ?_)
          case c1 =>
            intro q u hu
            rw [Addr.add_lit, Nat.zero_add]
            exact ((Blk.new W5 47 (recCells i.cen o i.data).toArray).cell q).trans (by rw [List.getElem?_toArray]; exact hu)
          case c2 =>
            intro u hu
            simp only [recCells, List.mem_cons, List.not_mem_nil, or_false] at hu
            rcases hu with rfl | rfl | rfl | rfl | rfl | rfl | rfl | rfl | rfl | rfl | rfl | rfl | rfl | rfl | rfl | rfl <;> rfl
          case c3 => unfold maxLen; omega
          case c4 => omega
          case c5 => have := HB5.out.2.1.size; simp; omega
          intro v' w6 hown6 hgrow _
          have hb6 : Below w.heap.size w w6 := (HB5.out.2.1.alloc HB5.out.2.1.size _).grown hgrow (by have := HB5.out.2.1.size; simp; omega) (fun q hq => (HB5.out.2.2.lt q hq).1)
          have HB6 := Lib.hid (And.intro hown6 hb6)
          clear k0 k1 k2 k3 k4 k5 k6 k7 k8 k9 k10 k11 k12 k13 k14 k15 hown6 hgrow hb6
          go_wp2
          go_roundw
          case rel =>
            obtain ⟨q1, q2, q3, q4⟩ := HIO.out
            refine ⟨j - 1, k + 1, A + (46 + i.cen.name.length + i.cen.extra.length + i.cen.comment.length), ?_, by omega, ?_, Lib.hid q4, Lib.hid ⟨?_, HB6.out.2⟩⟩
            · congr 1; omega
            · congr 1; omega
            · rw [recsB_step is k hkl, ← q2, ← q3]
              exact HB6.out.1
          case measure => simp [intOf]; omega
    · clear x8 x10 x12 x16 x20 hcm
      go_wp2_with fail
      refine (H.out.1 e (by omega) (by omega) _).mono ?_
      rintro e' w1 ⟨rfl, rfl⟩
      go_wp2
      go_round
      case rel => exact ⟨_, e - 1, rfl, by omega, by omega, by omega⟩
      case measure => simp [intOf]; omega
end Go.Proofs.YtkkdblifgekmkaaDoor
