/- The loop of laws.FnLocalSpoilt. -/
import Derived.Test.YtfagjhgmmaebfaaGreatDoorRda
import Derived.Test.YtfagjhgmmaebfaaGreatDoorSpj
namespace Go.Proofs.YtfagjhgmmaebfaaGreatDoor
open Go.RowKit
noncomputable def lsLoop : Code := ((Tryz.f3.body.bind (findBlock 0)).map unblock).getD .skip
set_option maxRecDepth 1000000 in
theorem frame120 (a : Act) (hs : a.tmps.size = 120) (hd : a.defers = []) : ∃ g : Nat → Value, (∀ i, g i = a.tmps.getD i undef) ∧ a = ⟨#[g 0, g 1, g 2, g 3, g 4, g 5, g 6, g 7, g 8, g 9, g 10, g 11, g 12, g 13, g 14, g 15, g 16, g 17, g 18, g 19, g 20, g 21, g 22, g 23, g 24, g 25, g 26, g 27, g 28, g 29, g 30, g 31, g 32, g 33, g 34, g 35, g 36, g 37, g 38, g 39, g 40, g 41, g 42, g 43, g 44, g 45, g 46, g 47, g 48, g 49, g 50, g 51, g 52, g 53, g 54, g 55, g 56, g 57, g 58, g 59, g 60, g 61, g 62, g 63, g 64, g 65, g 66, g 67, g 68, g 69, g 70, g 71, g 72, g 73, g 74, g 75, g 76, g 77, g 78, g 79, g 80, g 81, g 82, g 83, g 84, g 85, g 86, g 87, g 88, g 89, g 90, g 91, g 92, g 93, g 94, g 95, g 96, g 97, g 98, g 99, g 100, g 101, g 102, g 103, g 104, g 105, g 106, g 107, g 108, g 109, g 110, g 111, g 112, g 113, g 114, g 115, g 116, g 117, g 118, g 119], []⟩ := by
  refine ⟨fun i => a.tmps.getD i undef, fun _ => rfl, ?_⟩
  have h1 : a.tmps = ((List.range 120).map fun i => a.tmps.getD i undef).toArray := by
    apply Array.ext_getElem?
    intro i
    by_cases hi : i < 120
    · rw [Array.getElem?_eq_getElem (by omega), List.getElem?_toArray, List.getElem?_map, List.getElem?_range hi]
      simp [Array.getD, hs, hi]
    · rw [Array.getElem?_eq_none (by omega), List.getElem?_toArray, List.getElem?_eq_none (by simp; omega)]
  obtain ⟨tm, df⟩ := a
  obtain rfl : df = [] := hd
  exact congrArg (fun x => (⟨x, []⟩ : Act)) h1
/-- The slots of the law's frame that last. -/
structure FLs (b n c k : Nat) (s : List UInt8) (a : Act) : Prop where
  size : a.tmps.size = 120
  defs : a.defers = []
  s0 : a.tmps.getD 0 undef = .slice (some ⟨b, 0, none⟩) n c
  s2 : a.tmps.getD 2 undef = .int .i64 k
  s11 : a.tmps.getD 11 undef = .string ⟨s.toArray⟩
  s84 : a.tmps.getD 84 undef = .int .i64 n
set_option maxRecDepth 1000000 in
set_option maxHeartbeats 4000000 in
theorem lsLoop_wp {Q : Exit → Act → World → Prop} {a : Act} {w W : World} {b n c k : Nat} {s : List UInt8} {D : List (List UInt8)} (hA : FLs b n c k s a) (hj0 : a.tmps.getD 85 undef = .int .i64 (0 : Nat)) (hn : n ≤ 1000) (hkn : k < n)
    (hraw : ∀ (j : Nat), j < n → ∀ (W' : World), Kept [] w W' → Calls Tryz.prog 15 #[.string ⟨s.toArray⟩, .int .i64 j] W' fun e w' => (e = if j = k then .returned (.tuple #[.string ⟨#[]⟩, .int .i64 1]) else .returned (.tuple #[.string ⟨(D.getD j []).toArray⟩, .int .i64 0])) ∧ Kept [] W' w')
    (hcell : ∀ (j : Nat), j < n → w.cell? ⟨b, j * 15 + 14, none⟩ = some (.string ⟨(D.getD j []).toArray⟩)) (hbl : b < w.heap.size) (hW : Kept [] w W)
    (hQ : ∀ a' W', a'.tmps.size = 120 → a'.defers = [] → Kept [] w W' → Q (.exit 0) a' W') : Code.wp Tryz.prog lsLoop Q a W := by
  have HQ := Lib.hid hQ
  have HR := Lib.hid (And.intro hraw hcell)
  clear hQ hraw hcell
  conv => arg 2; whnf
  refine wp_loop_ghost (fun i a' W' => FLs b n c k s a' ∧ ∃ j : Nat, j + i = n ∧ a'.tmps.getD 85 undef = .int .i64 j ∧ Hid (Kept [] w W')) n ⟨hA, 0, by omega, hj0, Lib.hid hW⟩ ?_
  clear hA hj0 hW
  intro i a' wr hI
  obtain ⟨hf, j, hji, h85, HK⟩ := hI
  obtain ⟨g, hg, rfl⟩ := frame120 a' hf.size hf.defs
  have g0 := hf.s0
  have g2 := hf.s2
  have g11 := hf.s11
  have g84 := hf.s84
  rw [← hg] at g0 g2 g11 g84 h85
  rw [g0, g2, g11, g84, h85]
  clear g0 g2 g11 g84 h85 hf hg
  by_cases hj : j < n
  · have hji2 : (j : Int) < n := by omega
    have H := Lib.hid (HR.out.1 j hj wr HK.out)
    have hc : ∀ W', Kept [] wr W' → W'.cell? ⟨b, j * 15 + 14, none⟩ = some (.string ⟨(D.getD j []).toArray⟩) := fun W' kk => (((HK.out.trans kk).cell (p := ⟨b, j * 15 + 14, none⟩) hbl (by simp))).trans (HR.out.2 j hj)
    have HC := Lib.hid hc
    clear hc
    go_wp2_with fail
    refine H.out.mono ?_
    rintro e w1 ⟨he, hk1⟩
    have c14 := HC.out w1 hk1
    have HK1 := Lib.hid (HK.out.trans hk1)
    clear hk1
    obtain ⟨dj, hdj⟩ : ∃ dj, dj = D.getD j [] := ⟨_, rfl⟩
    rw [← hdj] at he c14
    clear hdj H HC
    by_cases hjk : j = k
    · subst hjk
      rw [if_pos rfl] at he
      subst he
      go_wp2_with fail
      exact ⟨i - 1, by omega, ⟨rfl, rfl, rfl, rfl, rfl, rfl⟩, j + 1, by omega, by first | rfl | (simp; try omega), HK1⟩
    · rw [if_neg hjk] at he
      subst he
      have hne : ((j : Int) == (k : Int)) = false := by simp; omega
      go_wp2_with fail
      exact ⟨i - 1, by omega, ⟨rfl, rfl, rfl, rfl, rfl, rfl⟩, j + 1, by omega, by first | rfl | (simp; try omega), HK1⟩
  · have hji2 : ¬ ((j : Int) < n) := by omega
    go_wp2_with fail
    exact HQ.out _ _ rfl rfl HK.out
end Go.Proofs.YtfagjhgmmaebfaaGreatDoor
/- The walk of laws.FnLocalSpoilt. -/
namespace Go.Proofs.YtfagjhgmmaebfaaGreatDoor
open Go.RowKit
theorem files_30 (is : List Item) : is.length * 30 ≤ (filesB is).length := by
  induction is with
  | nil => simp [filesB]
  | cons i r ih =>
    rw [filesB, List.length_append, List.length_cons]
    have : 30 ≤ i.bytes.length := by simp only [Item.bytes, List.length_append, localB_length]; omega
    omega
theorem arch_short {L : List En} (hL : ∀ e ∈ L, e.OkA) (hn : L.length ≤ 1000) (cl : List UInt8) (hc : cl.length ≤ 65535) : (archB (L.map itemR) cl).length ≤ 4294967294 ∧ (filesB (L.map itemR)).length ≤ 1200000000 := by
  have h := items_short L hL hn L.length
  rw [List.take_of_length_le (by simp)] at h
  refine ⟨?_, h.1⟩
  unfold archB
  rw [List.length_append, List.length_append, endL_length]
  omega
theorem st_lens (L : List En) (hW : ∀ e ∈ L, e.Wf) : ∀ e ∈ L.map En.st, e.Lens ∧ e.packed = (e.data.length : Int) ∧ e.size = (e.data.length : Int) := fun e he => by
  obtain ⟨x, hx, rfl⟩ := List.mem_map.1 he
  have h := hW x hx
  exact ⟨⟨h.name, h.comment, h.extra, h.data⟩, rfl, rfl⟩
theorem fits_parts {L : List En} (h : fitsE1 L = true) : L.length ≤ 2147483647 ∧ ∀ e ∈ L, e.data.length ≤ 2147483647 := by
  unfold fitsE1 at h
  rw [Bool.and_eq_true, decide_eq_true_eq, List.all_eq_true] at h
  refine ⟨h.1, fun e he => ?_⟩
  have := h.2 e he
  unfold fitsE2 at this
  rw [Bool.and_eq_true, decide_eq_true_eq] at this
  exact this.2
theorem reads_take {w : World} {B : Nat} {A : Option Addr} {L : List En} (h : Reads w B 15 A L.length (L.flatMap En.cells)) (k : Nat) (hk : k < L.length) : Reads w B 15 A (L.take k).length ((L.take k).flatMap En.cells) := by
  have hl : (L.take k).length = k := by rw [List.length_take]; omega
  refine ⟨flat_length _, fun hn => ?_⟩
  obtain ⟨ad, hA, hb, hc⟩ := h.2 (by omega)
  refine ⟨ad, hA, hb, fun j u hu => hc j u ?_⟩
  have e : L.flatMap En.cells = (L.take k).flatMap En.cells ++ (L.drop k).flatMap En.cells := by rw [← List.flatMap_append, List.take_append_drop]
  rw [e, List.getElem?_append_left (List.getElem?_eq_some_iff.1 hu).1]
  exact hu
theorem map_take (L : List En) (k : Nat) : (L.take k).map itemR = (L.map itemR).take k := List.map_take
set_option maxRecDepth 100000 in
set_option maxHeartbeats 8000000 in
theorem walkLs {w : World} (A0 : Option Addr) (c0 : Nat) (L0 : List En) (cm : List UInt8) (kz az : Int) (by_ : UInt8) {ea eu ef : Addr} (hcap : L0.length ≤ 9223372036854775807) (hr : Reads w w.heap.size 15 A0 L0.length (L0.flatMap En.cells)) (hwf : ∀ e ∈ L0, e.Wf) (hcm : cm.length ≤ 9223372036854775807) (hV : Env w ea eu ef) :
    Calls Tryz.prog 3 #[.slice A0 L0.length c0, .string ⟨cm.toArray⟩, .int .i64 kz, .int .i64 az, .int .u8 (by_.toNat : Int)] w fun e w' => e = .returned (.bool true) ∧ Kept [] w w' := by
  have hsz : ∀ l : List UInt8, (ByteArray.mk l.toArray).size = l.length := fun _ => rfl
  have HF := Lib.hid (fitsE1_any A0 c0 L0 hcap hr (fun e he => ⟨(hwf e he).name, (hwf e he).comment, (hwf e he).extra, (hwf e he).data⟩))
  obtain ⟨f1, hf1⟩ : ∃ b, fitsE1 L0 = b := ⟨_, rfl⟩
  rw [hf1] at HF
  have HW := Lib.hid (And.intro hr (And.intro hwf (And.intro hV hf1)))
  clear hr hwf hV hf1
  go_enter Tryz.func3, Tryz.ntmps3
  go_wp2_with fail
  refine HF.out.mono ?_
  rintro e w1 ⟨rfl, hb1⟩
  have HK1 := Lib.hid (Kept.of_below hb1 [])
  clear hb1 HF
  cases f1
  · go_wp2
    go_ret
    exact ⟨rfl, HK1.out⟩
  obtain ⟨hL2, hdat⟩ := fits_parts HW.out.2.2.2
  by_cases hcm2 : 2147483647 < cm.length
  · have hcmi : (2147483647 : Int) < cm.length := by omega
    go_wp2
    go_ret
    exact ⟨rfl, HK1.out⟩
  have hcmi : ¬ ((2147483647 : Int) < cm.length) := by omega
  have HA := Lib.hid (AllStored_any A0 c0 L0 hL2 (HW.out.1.kept HK1.out (by simp)) (fun e he => by have := hdat e he; omega))
  clear hdat
  go_wp2_with fail
  refine HA.out.mono ?_
  rintro e w2 ⟨⟨v, rfl, ho2⟩, hb2⟩
  obtain ⟨A, c, hv⟩ := own_sliceA ho2
  subst hv
  have hk2 := HK1.out.trans (Kept.of_below hb2 [])
  obtain ⟨L, hL⟩ : ∃ L, L = L0.map En.st := ⟨_, rfl⟩
  have hlen : L.length = L0.length := by rw [hL, List.length_map]
  rw [← hL, ← hlen] at ho2
  rw [← hlen]
  have hln : L.length ≤ 2147483647 := by omega
  have hlen3 := st_lens L0 HW.out.2.1
  rw [← hL] at hlen3
  have hrd := Reads.of_own ho2
  have HG := Lib.hid (Good_any A c L cm hln (by omega) hrd hlen3)
  have HL := Lib.hid (And.intro ho2 (And.intro hk2 (And.intro hlen3 (And.intro hlen hrd))))
  clear ho2 hb2 hk2 hL hlen3 hlen hrd HA HK1
  go_wp2_with fail
  refine HG.out.mono ?_
  rintro e w3 ⟨⟨b1, rfl, hgood⟩, hb3⟩
  have HK3 := Lib.hid (And.intro (HL.out.2.1.trans (Kept.of_below hb3 [])) (Kept.of_below hb3 []))
  have HGD := Lib.hid hgood
  clear hb3 hgood HG
  cases b1
  · go_wp2
    go_ret
    exact ⟨rfl, HK3.out.1⟩
  have HD := Lib.hid (dirs_any A c L (by omega) (HL.out.2.2.2.2.kept HK3.out.2 (by simp)) (fun e he => (HL.out.2.2.1 e he).1))
  obtain ⟨b2, hb2⟩ : ∃ b, L.all dirOk = b := ⟨_, rfl⟩
  rw [hb2] at HD
  clear hb2
  go_wp2_with fail
  refine HD.out.mono ?_
  rintro e w4 ⟨rfl, hb4⟩
  have HK4 := Lib.hid (And.intro (HK3.out.1.trans (Kept.of_below hb4 [])) (HK3.out.2.trans (Kept.of_below hb4 [])))
  clear hb4 HD HK3
  cases b2
  · go_wp2
    go_ret
    exact ⟨rfl, HK4.out.1⟩
  by_cases hk0 : kz < 0
  · go_wp2
    go_ret
    exact ⟨rfl, HK4.out.1⟩
  by_cases hk1 : (L.length : Int) ≤ kz
  · go_wp2
    go_ret
    exact ⟨rfl, HK4.out.1⟩
  by_cases ha0 : az < 0
  · go_wp2
    go_ret
    exact ⟨rfl, HK4.out.1⟩
  by_cases ha1 : 3 < az
  · go_wp2
    go_ret
    exact ⟨rfl, HK4.out.1⟩
  by_cases hz0 : by_ = 0
  · subst hz0
    go_wp2
    go_ret
    exact ⟨rfl, HK4.out.1⟩
  have hbz : (((by_.toNat : Nat) : Int) == 0) = false := by
    have : by_.toNat ≠ 0 := fun h => hz0 (UInt8.toNat_inj.1 (by simpa using h))
    simp; omega
  obtain ⟨k, rfl⟩ : ∃ k : Nat, kz = k := ⟨kz.toNat, by omega⟩
  obtain ⟨at_, rfl⟩ : ∃ k : Nat, az = k := ⟨az.toNat, by omega⟩
  have hkn : k < L.length := by omega
  have hat : at_ ≤ 3 := by omega
  obtain ⟨g, cap, hA, hbg, hgl⟩ := HL.out.1.form (by omega)
  injection hA with hA _ hcp
  subst hA
  subst hcp
  obtain ⟨hok, hmany, hcl, _⟩ := HGD.out trivial
  obtain ⟨har, hfl⟩ := arch_short hok hmany cm hcl
  have hkm : k < (L.map itemR).length := by rw [List.length_map]; exact hkn
  have hom := offs_mono (L.map itemR) k hkm
  have hlk : (L.take k).length = k := by rw [List.length_take]; omega
  have hAr : ∀ X, Kept [] w2 X → Calls Tryz.prog 9 #[.slice (some ⟨g, 0, none⟩) L.length c, .string ⟨cm.toArray⟩] X fun e w' => e = .returned (.string ⟨(archB (L.map itemR) cm).toArray⟩) ∧ Kept [] X w' := fun X kk => (Archive_any (some ⟨g, 0, none⟩) c L cm (HL.out.2.2.2.2.kept kk (by simp)) hok hmany hcl).mono fun e w' h => ⟨h.1, Kept.of_below h.2 []⟩
  have hFi : ∀ X, Kept [] w2 X → Calls Tryz.prog 10 #[.slice (some ⟨g, 0, none⟩) k c] X fun e w' => e = .returned (.string ⟨(filesB ((L.map itemR).take k)).toArray⟩) ∧ Kept [] X w' := fun X kk => by
    have h := Files_any (some ⟨g, 0, none⟩) c (L.take k) (reads_take (HL.out.2.2.2.2.kept kk (by simp)) k hkn) (fun e he => hok e (List.mem_of_mem_take he)) (by omega)
    rw [hlk, map_take] at h
    exact h.mono fun e w' h => ⟨h.1, Kept.of_below h.2 []⟩
  obtain ⟨F1, hF1⟩ : ∃ F1, F1 = filesB ((L.map itemR).take k) := ⟨_, rfl⟩
  obtain ⟨ar, harE⟩ : ∃ ar, ar = archB (L.map itemR) cm := ⟨_, rfl⟩
  have hF1l : F1.length = offs (L.map itemR) k := by rw [hF1]; rfl
  rw [← hF1] at hFi
  rw [← harE] at hAr har
  obtain ⟨p, hp⟩ : ∃ p, p = F1.length + at_ := ⟨_, rfl⟩
  have hpF : p < (filesB (L.map itemR)).length := by rw [localB_length] at hom; omega
  have hpa : p < ar.length := by
    rw [harE]
    unfold archB
    rw [List.length_append, List.length_append]
    omega
  obtain ⟨s, hs⟩ : ∃ s, s = ar.set p (ar[p]'hpa ^^^ by_) := ⟨_, rfl⟩
  have hTu : ∀ X, Calls Tryz.prog 8 #[.string ⟨ar.toArray⟩, .int .i64 p, .int .u8 (by_.toNat : Int)] X fun e w' => e = .returned (.string ⟨s.toArray⟩) ∧ Kept [] X w' := fun X => by
    rw [hs]
    exact (Turned_any ar p by_ hpa (by omega) X).mono fun e w' h => ⟨h.1, Kept.of_below h.2 []⟩
  have hF1i : F1.length ≤ 1200000000 := by omega
  have hpw : IntKind.i64.wrap ((F1.length : Int) + (at_ : Int)) = (p : Int) := by rw [IntWalk.i64_in _ (by omega)]; omega
  have hLc : L.length ≤ c := by
    have := HL.out.1
    rcases this.2 with ⟨h, _⟩ | ⟨g', cap', cur, hv, _, _, hle, _⟩
    · cases h
    · injection hv with _ _ hc
      omega
  have hkc : k ≤ c := by omega
  have HAr := Lib.hid hAr
  have HFi := Lib.hid hFi
  have HTu := Lib.hid hTu
  have HP := Lib.hid (And.intro hF1 (And.intro harE (And.intro hF1l (And.intro hp (And.intro hpF (And.intro hpa (And.intro har hfl)))))))
  have HS := Lib.hid hs
  have HOK := Lib.hid (And.intro hok (And.intro hmany (And.intro hcl hat)))
  clear hAr hFi hTu hF1 harE hF1l hp hpF hs har hfl hom hlk hok hmany hkm hat HGD
  go_upto_region 6 with (fail)
  apply pass_world (fun W => Kept [] w2 W)
  case k =>
    intro key
    have KEY := Lib.hid key
    clear key
    have KX := Lib.hid HK4.out.2.drew
    go_region_held3 (fun _ => True) (trivial)
      (first
        | (go_at_call 9; (with_reducible refine (HAr.out _ KX.out).mono ?_); rintro e x1 ⟨rfl, hk⟩; have ky := Lib.hid (KX.out.trans hk); clear KX hk; have KX := ky; clear ky)
        | (go_at_call 10; (with_reducible refine (HFi.out _ KX.out).mono ?_); rintro e x2 ⟨rfl, hk⟩; have ky := Lib.hid (KX.out.trans hk); clear KX hk; have KX := ky; clear ky)
        | (go_at_call 8; (with_reducible refine (HTu.out _).mono ?_); rintro e x3 ⟨rfl, hk⟩; have ky := Lib.hid (KX.out.trans hk); clear KX hk; have KX := ky; clear ky))
    all_goals exact KEY.out _ KX.out
  intro W5 hk5
  have HK5 := Lib.hid hk5
  clear hk5 HAr HFi HTu hpw hF1i hkc hLc
  have hsl : s.length ≤ 4294967294 := by rw [HS.out, List.length_set]; exact HP.out.2.2.2.2.2.2.1
  have HEn := fun X => Lib.hid (Ends_any s (by omega) X)
  obtain ⟨q, hq⟩ : ∃ q, endsL s = q := ⟨_, rfl⟩
  rw [hq] at HEn
  have hkw := HL.out.2.1.trans HK5.out
  have HKW := Lib.hid hkw
  clear hkw
  go_wp2_with fail
  refine (HEn _).out.mono ?_
  rintro e x5 ⟨rfl, rfl⟩
  by_cases hq1 : ¬ q = 1
  · have hq2 : ((q : Int) != 1) = true := by simp; omega
    go_wp2_with fail
    refine (HEn _).out.mono ?_
    rintro e x6 ⟨rfl, rfl⟩
    go_wp2
    go_ret
    exact ⟨rfl, HKW.out⟩
  obtain rfl : q = 1 := by omega
  clear hq1
  have hdr := HOK.out.1
  have hRd : RdS s (L.map itemR) cm := rds_turned (p := p) (v := ar[p]'HP.out.2.2.2.2.2.1 ^^^ by_) (by rw [HS.out]; exact congrArg (fun l : List UInt8 => l.set p (ar[p]'HP.out.2.2.2.2.2.1 ^^^ by_)) HP.out.2.1) HP.out.2.2.2.2.1 hq (fun i hi => by
    obtain ⟨x, hx, rfl⟩ := List.mem_map.1 hi
    exact itemR_fit (hdr x hx)) (by rw [List.length_map]; exact HOK.out.2.1) HOK.out.2.2.1 (by rw [← HP.out.2.1]; exact HP.out.2.2.2.2.2.2.1)
  have hf30 := files_30 (L.map itemR)
  have hV5 := HW.out.2.2.1.kept0 HKW.out
  have HRD := Lib.hid (Read_arch hRd hf30 hV5 (by rw [List.length_map]; omega))
  have HRS := Lib.hid (And.intro hRd hf30)
  clear hRd hf30 hV5 hdr hq
  go_wp2_with fail
  refine HRD.out.mono ?_
  rintro e w6 ⟨A1, c1, rfl, hrd1, hk6⟩
  have HR6 := Lib.hid (And.intro hrd1 (HK5.out.trans hk6))
  have HLi := Lib.hid (Listed_any (some ⟨g, 0, none⟩) c L HOK.out.2.1 (HL.out.2.2.2.2.kept (HK5.out.trans hk6) (by simp)) HOK.out.1)
  clear hrd1 hk6 HRD
  go_wp2_with fail
  refine HLi.out.mono ?_
  rintro e w7 ⟨⟨v7, rfl, ho7⟩, hb7⟩
  obtain ⟨A2, c2, hv7⟩ := own_sliceA ho7
  subst hv7
  have hk7 := Kept.of_below hb7 []
  have hrd1 := HR6.out.1.kept hk7 (by simp)
  have hrd2 := Reads.of_own ho7
  have htold : toldI (L.map itemR) = L.flatMap (fun e => hcells (hdR e) (nonU (hdR e))) := by
    unfold toldI
    rw [List.flatMap_map]
    rfl
  rw [htold, List.length_map] at hrd1
  have HSm := Lib.hid (Same_any A1 A2 c1 c2 L cm HOK.out.2.1 hrd1 hrd2)
  have HK7 := Lib.hid (HR6.out.2.trans hk7)
  clear hrd1 hrd2 htold ho7 hb7 hk7 HLi HR6
  go_wp2_with fail
  refine HSm.out.mono ?_
  rintro e w8 ⟨rfl, hb8⟩
  have HK8 := Lib.hid (HK7.out.trans (Kept.of_below hb8 []))
  clear hb8 HK7 HSm
  go_wp2_with fail
  have hrd := HL.out.2.2.2.2.kept HK8.out (by simp)
  have hV8 := HW.out.2.2.1.kept0 (HL.out.2.1.trans HK8.out)
  have h2 := HL.out.2.1
  refine lsLoop_wp (D := L.map (·.data)) (n := L.length) (b := g) (c := c) (k := k) (s := s) (w := w8) ⟨rfl, rfl, rfl, rfl, rfl, rfl⟩ rfl HOK.out.2.1 hkn (fun j hj W' kk => ?raw) (fun j hj => ?cell) (Nat.lt_of_lt_of_le hgl HK8.out.size) (Kept.refl _ _) ?exit
  case cell =>
    obtain ⟨ad, hA, hab, hc⟩ := hrd.2 (by omega)
    obtain rfl : (⟨g, 0, none⟩ : Addr) = ad := Option.some.inj hA
    have := hc (j * 15 + 14) (.string ⟨((L.map (·.data)).getD j []).toArray⟩) (by
      rw [flat_cells L j 14 hj (by decide)]
      simp [En.cells, hj])
    rw [add_at] at this
    simpa using this
  case raw =>
    have hjm : j < (L.map itemR).length := by rw [List.length_map]; exact hj
    have hkm : k < (L.map itemR).length := by rw [List.length_map]; exact hkn
    have hpo : p = offs (L.map itemR) k + at_ := by rw [HP.out.2.2.2.1, HP.out.2.2.1]
    have hsE : s = (archB (L.map itemR) cm).set (offs (L.map itemR) k + at_) (ar[p]'HP.out.2.2.2.2.2.1 ^^^ by_) := by rw [← hpo]; exact HS.out.trans (congrArg (fun l : List UInt8 => l.set p (ar[p]'HP.out.2.2.2.2.2.1 ^^^ by_)) HP.out.2.1)
    by_cases hjk : j = k
    · subst hjk
      rw [if_pos rfl]
      have hom := offs_mono (L.map itemR) j hjm
      rw [localB_length] at hom
      have hsl2 : s.length = (archB (L.map itemR) cm).length := by rw [hsE, List.length_set]
      have har : (filesB (L.map itemR)).length ≤ (archB (L.map itemR) cm).length := by
        unfold archB
        rw [List.length_append, List.length_append]
        omega
      refine Raw_bad HRS.out.1 HRS.out.2 (hV8.kept0 kk) j hjm (by omega) (turned_sig hkm HOK.out.2.2.2 hsE ?_)
      intro he
      have hpa : (archB (L.map itemR) cm)[offs (L.map itemR) j + at_]? = some (ar[p]'HP.out.2.2.2.2.2.1) := by
        rw [← hpo]
        exact (congrArg (fun l : List UInt8 => l[p]?) HP.out.2.1.symm).trans (List.getElem?_eq_getElem _)
      have hx := Option.some.inj (hpa.symm.trans he)
      have hx2 : (ar[p]'HP.out.2.2.2.2.2.1) ^^^ ((ar[p]'HP.out.2.2.2.2.2.1) ^^^ by_) = by_ := by rw [← UInt8.xor_assoc, UInt8.xor_self, UInt8.zero_xor]
      rw [← hx, UInt8.xor_self] at hx2
      exact hz0 hx2.symm
    · rw [if_neg hjk]
      obtain ⟨r, hrr⟩ := turned_other hkm HOK.out.2.2.2 hsE j hjm hjk
      have hje : (L.map itemR)[j] = itemR L[j] := List.getElem_map ..
      have hdj : (L.map (·.data)).getD j [] = L[j].data := by simp [hj]
      rw [hje] at hrr
      rw [hdj]
      exact Raw_ok HRS.out.1 HRS.out.2 (hV8.kept0 kk) j hjm L[j].data r (by rw [hje]; exact hrr) (by rw [hje]; exact hdR_fits (HOK.out.1 _ (List.getElem_mem hj))) (by rw [hje]; exact itemR_packed (HOK.out.1 _ (List.getElem_mem hj)))
  case exit =>
    intro a' W9 hs9 hd9 hk9
    obtain ⟨gg, hgg, rfl⟩ := frame120 a' hs9 hd9
    clear hs9 hd9 hgg
    go_wp2
    go_ret
    exact ⟨rfl, (h2.trans HK8.out).trans hk9⟩
end Go.Proofs.YtfagjhgmmaebfaaGreatDoor
