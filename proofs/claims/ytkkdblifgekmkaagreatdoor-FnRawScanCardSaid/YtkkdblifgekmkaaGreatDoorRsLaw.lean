/- Proved: laws.FnRawScan returns true for all lists of entries and all comments (the tied card FnRawScanCardSaid): its row lists package-level variables (errors, tables of unicode/utf8), tied by the given text. -/
import Derived.Test.YtkkdblifgekmkaaGreatDoorRsW
import Derived.Test.YtkkdblifgekmkaaGreatDoorCards
import Derived.Test.YtkkdblifgekmkaaGreatDoorTie
import Derived.ProofKit
import Derived.OpenShut
import Derived.ShutString
import Derived.PinnedBridge
import Derived.Lib.LaidU8
import Derived.Lay
import Derived.LaidMore
import Derived.Stop.Joined
import Derived.SevenTiedAt
import Derived.OpenVars
import Derived.Carry
namespace Go.Proofs.YtkkdblifgekmkaaGreatDoor
open Go.ChangeMaps (open_string shut_string)
open Go.ChangeShapes Go.WideShapes Go.ChangeAt Go.RowKit
theorem own : ownKnob Tryz.prog.godebug = none := by kernel_rfl
theorem laidOut : laidOutB Tryz.prog = true := by kernel_rfl
theorem accept_eq : Rows.laid_unicode_utf8_acceptRanges = (Lib.acceptData : DataW Unit) := by kernel_rfl
theorem x8 : U8Extra Tryz.prog Tryz.lays260_ren := ⟨by kernel_rfl, by kernel_rfl, by kernel_rfl, by kernel_rfl, by kernel_rfl, by kernel_rfl, by kernel_rfl⟩
theorem three_vars {H : Type} {enc : TypeId × Value → H} {P : Program} {w : World} {sp : Nat → Bool} {n0 n1 n2 : String} {gs : List (DataW H)} {ps : List MemPlace} (h : DataW.TrodVars enc P w sp [n0, n1, n2] gs ps) : ∃ g1 g2 g3, gs = [g1, g2, g3] := by
  match gs, h with
  | [], h => exact h.elim
  | [_], h => obtain ⟨_, _, _, _, _, _, _, _, _, _, h, _⟩ := h; exact h.elim
  | [_, _], h =>
    obtain ⟨_, _, _, _, _, _, _, _, _, _, h, _⟩ := h
    obtain ⟨_, _, _, _, _, _, _, _, _, _, h, _⟩ := h
    exact h.elim
  | [a, b, c], _ => exact ⟨a, b, c, rfl⟩
  | _ :: _ :: _ :: _ :: _, h =>
    obtain ⟨_, _, _, _, _, _, _, _, _, _, h, _⟩ := h
    obtain ⟨_, _, _, _, _, _, _, _, _, _, h, _⟩ := h
    obtain ⟨_, _, _, _, _, _, _, _, _, _, h, _⟩ := h
    exact h.elim
def seatLaidW : List (String × DataW Unit) := [("unicode/utf8.acceptRanges", Rows.laid_unicode_utf8_acceptRanges), ("io.ErrShortWrite", Rows.laid_io_ErrShortWrite), ("loop.example/pub-ziparchives/pub/gozip.ErrAlgorithm", Rows.laid_loop_example_pub_ziparchives_pub_gozip_ErrAlgorithm), ("loop.example/pub-ziparchives/pub/gozip.errLongName", Rows.laid_loop_example_pub_ziparchives_pub_gozip_errLongName), ("loop.example/pub-ziparchives/pub/gozip.errLongExtra", Rows.laid_loop_example_pub_ziparchives_pub_gozip_errLongExtra), ("unicode/utf8.first", Rows.laid_unicode_utf8_first)]
theorem row_laid : Rows.fnRawScanRow.laid = seatLaidW := rfl
theorem tabs_of {W : World} (hL : laidMet Tryz.prog seatLaidW W) : Lib.Utf8Tabs 11 12 W :=
  utf8Tabs_of_reads Tryz.lays260 x8 (Pinned.utf8First_eq ▸ Lib.laidMet.reads hL (.tail _ (.tail _ (.tail _ (.tail _ (.tail _ (.head _))))))) (accept_eq ▸ Lib.laidMet.reads hL (.head _))
set_option maxRecDepth 100000 in
theorem lifted (os : Os) (started : os.Started) (H : Type) (enc : TypeId × Value → H) :
    ReturnsInHanded {} Tryz.checked os 4 .any (fun w args => (Rows.fnRawScanSpec.pre enc Tryz.prog Tryz.f4 [] false w args ∧ laidMetH Tryz.prog seatLaidW w) ∧ sizedMet enc Tryz.prog Tryz.f4 (OpenSpec.ofChange Rows.fnRawScanSpec) false w args)
      (Rows.fnRawScanSpec.post enc Tryz.prog Tryz.f4 false true false false) := by
  refine returnsInHanded_of_change_and (C := Tryz.checked) (X := fun w _ => laidMetH Tryz.prog seatLaidW w) (fun _ _ _ hh h => h.of_heap hh) own started (by kernel_rfl) Tryz.func4
    (ChangeSpec.witness_shaped (enc := enc) (C := Tryz.checked) (os := os) (X := fun w _ => laidMetH Tryz.prog seatLaidW w) false (World.laidAll Tryz.prog os seatLaidW) #[.slice none 0 0, .string ⟨#[]⟩] 8 (World.laidAll_os _ _ _)
      (World.shaped_of_ZipB (by kernel_rfl) (by kernel_rfl)) (by kernel_rfl) (by kernel_rfl) (by kernel_rfl)
      (by rw [MakeChecks.laidMetH_plain _ _ _ (by kernel_rfl)]; exact laidMet_laidAll _ (by kernel_rfl) (by kernel_rfl))) ?_
  intro W base args ds gs before hval0 hW _ _ hL _
  have hval : ∀ (j : Nat) t v, Tryz.f4.params[j]? = some t → args[j]? = some v → Value.okWide Tryz.prog W .any base t v := hval0
  have hW' := hW
  obtain ⟨p, q, hA0, hV, rfl, _, _⟩ := hW
  have hA : DataW.TrodAll enc Tryz.prog W 0 (fun _ => true) true Tryz.f4.params.toList args.toList ds p := hA0
  rw [Tryz.params4] at hA hval
  obtain ⟨v0, v1, d0, d1, p0, p1, rfl, rfl, rfl, h0, h1⟩ := trodAll_two hA
  have k0 := h0
  have lt0 : ∀ x ∈ p0, x.block < W.heap.size := by obtain ⟨m, hm⟩ := k0; exact DataW.trod_lt m _ _ _ hm
  obtain ⟨A0, n0, c0, rfl⟩ := okWide_slice Tryz.underlying22 (hval 0 22 _ rfl rfl)
  obtain ⟨m0, hm0⟩ := h0
  obtain ⟨A, c, L, hcs, hcap, hcb, _, hr, hwf⟩ := open_entries hm0
  obtain ⟨rfl, rfl, rfl⟩ : A0 = A ∧ n0 = L.length ∧ c0 = c := by simpa [Value.cells] using hcs
  obtain ⟨s, rfl, rfl, rfl, ws⟩ := open_string Tryz.underlying9 (hval 1 9 v1 rfl rfl) h1
  obtain ⟨g1, g2, g3, hgs⟩ : ∃ g1 g2 g3, gs = [g1, g2, g3] := three_vars hV
  subst hgs
  rw [MakeChecks.laidMetH_plain _ _ _ (by kernel_rfl)] at hL
  have hT := tabs_of hL
  refine (walkRawScan A0 c0 L s hcap hcb hr hwf ws hT).mono fun e W' ⟨he, hb⟩ => ?_
  subst he
  refine ⟨_, rfl, _, _, _, [], _, q, hW', trodAll_mk1 (shut_bool Tryz.underlying4 _), trodAll_mk2 (Below.trod laidOut (by kernel_rfl) (of_decide_eq_true (by kernel_rfl)) k0 hb lt0) (shut_string Tryz.underlying9 ws), ?_, hb.frame _, fun h => by cases h⟩
  exact Below.trodVars laidOut hb (by kernel_rfl) hV

theorem row_holds : Rows.FnRawScanSaid :=
  OpenClaim.holds_of_wide 4 Tryz.f4 rfl rfl rfl rfl rfl rfl rfl ⟨rfl, rfl, rfl, rfl, rfl⟩ rfl rfl rfl rfl rfl (by kernel_rfl) Tryz.func4 (by kernel_rfl)
    (of_decide_eq_true (by kernel_rfl)) (by unfold Func.isWrapper; first | (rw [if_pos (by decide +kernel)]; kernel_rfl) | (rw [if_neg (by decide +kernel)]; exact ⟨rfl, rfl⟩))
    (fun os started H enc _ => lifted os started H enc)
theorem card_holds : Rows.FnRawScanCardSaid :=
  Claim7.holds_tied_plain_at .later [] [.data, .sentinel, .sentinel, .sentinel, .sentinel, .pinned] true (true, "98ba60d785f16941e8b730157634da190ca252ad9107bdbe6ba7b501a234ccf9") true
    row_holds (fun _ h => by cases h) (by kernel_rfl) (fun _ h => by cases h) fnRawScan_row_tie rfl ⟨rfl, rfl⟩ (by kernel_rfl) rfl
    (fun f fn hf hfn => by
      obtain rfl : f = 4 := Option.some.inj ((show Tryz.prog.funcNamed "loop.example/pub-ziparchives/laws.FnRawScan" = some 4 by kernel_rfl).symm.trans hf) |>.symm
      obtain rfl : fn = Tryz.f4 := (Option.some.inj (Tryz.func4.symm.trans hfn)).symm
      exact ⟨by kernel_rfl, fun j t ht => by
        rw [Tryz.params4] at ht
        have hm : t ∈ [22, 9] := by simpa using Array.mem_of_getElem? ht
        have hall : ([22, 9].all fun u => !Tryz.prog.wantsStandIn u) = true := by kernel_rfl
        exact (show Tryz.prog.wantsStandIn t = false by simpa using List.all_eq_true.1 hall t hm)⟩)
    (by kernel_rfl)
#print axioms card_holds
end Go.Proofs.YtkkdblifgekmkaaGreatDoor
