/- Proved: laws.FnExactDetect returns true for every string (the tied card FnExactDetectCardSaid): its row lists unicode/utf8.acceptRanges and unicode/utf8.first, tied by the given text. -/
import Derived.Test.YtdnijpehlahdnaaDoorDetect
import Derived.Test.YtdnijpehlahdnaaDoorCards
import Derived.Test.YtdnijpehlahdnaaDoorTie
import Derived.ProofKit
import Derived.OpenShut
import Derived.ShutString
import Derived.PinnedBridge
import Derived.Lib.LaidU8
import Derived.Lay
import Derived.LaidMore
import Derived.Stop.Joined
import Derived.SevenTiedAt
namespace Go.Proofs.YtdnijpehlahdnaaDoor
open Go.ChangeMaps (open_string shut_string)
open Go.ChangeShapes Go.WideShapes Go.ChangeAt Go.RowKit

theorem zipDetect_any (l : List UInt8) (hmax : l.length ≤ 4294967295) (w : World) (hT : Lib.Utf8Tabs 0 1 w) : Calls Tryd.prog 6 #[.string ⟨l.toArray⟩] w fun e w' => e = .returned (.tuple #[.bool (detectL l).1, .bool (detectL l).2]) ∧ Below w.heap.size w w' := by
  go_enter Tryd.func6, Tryd.ntmps6
  go_wp2_with (go_at_call 8; refine (detect_any l hmax _ hT).mono ?_; rintro e w1 ⟨rfl, hb⟩)
  go_ret2
  exact ⟨rfl, hb⟩
theorem implDetect_any (l : List UInt8) (hmax : l.length ≤ 4294967295) (w : World) (hT : Lib.Utf8Tabs 0 1 w) : Calls Tryd.prog 4 #[.string ⟨l.toArray⟩] w fun e w' => e = .returned (.tuple #[.bool (detectL l).1, .bool (detectL l).2]) ∧ Below w.heap.size w w' := by
  go_enter Tryd.func4, Tryd.ntmps4
  go_wp2_with (go_at_call 6; refine (zipDetect_any l hmax _ hT).mono ?_; rintro e w1 ⟨rfl, hb⟩)
  go_ret2
  exact ⟨rfl, hb⟩
theorem implDetect_c (l : List UInt8) (a b : Bool) (h : detectL l = (a, b)) (hmax : l.length ≤ 4294967295) (w : World) (hT : Lib.Utf8Tabs 0 1 w) : Calls Tryd.prog 4 #[.string ⟨l.toArray⟩] w fun e w' => e = .returned (.tuple #[.bool a, .bool b]) ∧ Below w.heap.size w w' := by
  have := implDetect_any l hmax w hT
  rw [h] at this; exact this
theorem valid_c (l : List UInt8) (a b : Bool) (h : detectL l = (a, b)) (hmax : l.length ≤ 4294967295) (w : World) : Calls Tryd.prog 5 #[.string ⟨l.toArray⟩] w fun e w' => e = .returned (.tuple #[.bool a, .bool b]) ∧ w = w' := by
  have := Valid_any l hmax w
  rw [← detect_valid, h] at this; exact this
theorem detect_e : detectL [195, 169] = (true, true) := by decide +kernel

set_option maxHeartbeats 400000 in
theorem walk (s : ByteArray) (hs : s.size ≤ maxLen) (w : World) (hT : Lib.Utf8Tabs 0 1 w) :
    Calls Tryd.prog 3 #[.string s] w fun e w' => e = .returned (.bool true) ∧ Below w.heap.size w w' := by
  unfold maxLen at hs
  by_cases hsz : 2147483647 < s.size
  · clear hT
    go_enter Tryd.func3, Tryd.ntmps3
    go_wp2
    go_ret
    exact ⟨rfl, Below.refl _ _⟩
  · obtain ⟨⟨l⟩⟩ := s
    obtain ⟨a, b, hab⟩ : ∃ a b, detectL l = (a, b) := ⟨_, _, rfl⟩
    have hl : l.length ≤ 2147483647 := by have : (ByteArray.mk (Array.mk l)).size = l.length := rfl; omega
    have h1 := Lib.hid (implDetect_c l a b hab (by omega))
    have h2 := Lib.hid (valid_c l a b hab (by omega))
    have h3 := Lib.hid (implDetect_c [195, 169] true true detect_e (by decide))
    have hsz2 : ∀ l : List UInt8, (ByteArray.mk l.toArray).size = l.length := fun _ => rfl
    have HT := Lib.hid hT
    clear hT hab hsz hs
    have heq : ∀ (x y : Bool), (x == y) = (x == y) := fun _ _ => rfl
    clear heq
    cases a <;> cases b
    all_goals
      go_enter Tryd.func3, Tryd.ntmps3
      go_wp2_with fail
      refine (h1.out _ HT.out).mono ?_
      rintro e w1 ⟨rfl, hb1⟩
      have HT1 := Lib.hid (tabs_keep HT.out hb1)
      have z1 := hb1.size
      go_wp2_with fail
      refine (h2.out _).mono ?_
      rintro e w2 ⟨rfl, rfl⟩
      go_wp2_with fail
      refine (h3.out _ HT1.out).mono ?_
      rintro e w3 ⟨rfl, hb3⟩
      go_wp2
      go_ret
      exact ⟨rfl, hb1.trans (hb3.mono z1)⟩

theorem own : ownKnob Tryd.prog.godebug = none := by kernel_rfl
theorem laidOut : laidOutB Tryd.prog = true := by kernel_rfl
theorem accept_eq : Rows.laid_unicode_utf8_acceptRanges = (Lib.acceptData : DataW Unit) := by kernel_rfl
def seatLaid : List (String × DataW Unit) := [("unicode/utf8.acceptRanges", Rows.laid_unicode_utf8_acceptRanges), ("unicode/utf8.first", Rows.laid_unicode_utf8_first)]
theorem x8 : U8Extra Tryd.prog Tryd.lays260_ren := ⟨by kernel_rfl, by kernel_rfl, by kernel_rfl, by kernel_rfl, by kernel_rfl, by kernel_rfl, by kernel_rfl⟩

set_option maxRecDepth 100000 in
theorem lifted (os : Os) (started : os.Started) (H : Type) (enc : TypeId × Value → H) :
    ReturnsInHanded {} Tryd.checked os 3 .any (fun w args => (Rows.fnExactDetectSpec.pre enc Tryd.prog Tryd.f3 [] false w args ∧ laidMetH Tryd.prog seatLaid w) ∧ sizedMet enc Tryd.prog Tryd.f3 (OpenSpec.ofChange Rows.fnExactDetectSpec) false w args)
      (Rows.fnExactDetectSpec.post enc Tryd.prog Tryd.f3 false true false false) := by
  refine returnsInHanded_of_change_and (C := Tryd.checked) (X := fun w _ => laidMetH Tryd.prog seatLaid w) (fun _ _ _ hh h => h.of_heap hh) own started (by kernel_rfl) Tryd.func3
    (ChangeSpec.witness_shaped (enc := enc) (C := Tryd.checked) (os := os) (X := fun w _ => laidMetH Tryd.prog seatLaid w) false (World.laidAll Tryd.prog os seatLaid) #[.string ⟨#[]⟩] 8 (World.laidAll_os _ _ _)
      (World.shaped_of_ZipB (by kernel_rfl) (by kernel_rfl)) (by kernel_rfl) (by kernel_rfl) (by kernel_rfl)
      (by rw [MakeChecks.laidMetH_plain _ _ _ (by kernel_rfl)]; exact laidMet_laidAll _ (by kernel_rfl) (by kernel_rfl))) ?_
  intro W base args ds gs before hval0 hW _ _ hL _
  have hval : ∀ (j : Nat) t v, Tryd.f3.params[j]? = some t → args[j]? = some v → Value.okWide Tryd.prog W .any base t v := hval0
  have hW' := hW
  obtain ⟨p, q, hA0, hV, rfl, _, _⟩ := hW
  have hA : DataW.TrodAll enc Tryd.prog W 0 (fun _ => true) true Tryd.f3.params.toList args.toList ds p := hA0
  rw [Tryd.params3] at hA hval
  obtain ⟨v0, d0, rfl, rfl, h0⟩ := trodAll_one hA
  obtain ⟨rfl, rfl⟩ := trodVars_none hV
  obtain ⟨s, rfl, rfl, rfl, ws⟩ := open_string Tryd.underlying9 (hval 0 9 v0 rfl rfl) h0
  simp only [List.append_nil] at hW'
  rw [MakeChecks.laidMetH_plain _ _ _ (by kernel_rfl)] at hL
  have hT : Lib.Utf8Tabs 0 1 W := utf8Tabs_of_reads Tryd.lays260 x8 (Pinned.utf8First_eq ▸ Lib.laidMet.reads hL (.tail _ (.head _))) (accept_eq ▸ Lib.laidMet.reads hL (.head _))
  refine (walk s ws W hT).mono fun e W' ⟨he, hb⟩ => ?_
  subst he
  exact ⟨_, rfl, _, _, _, [], [], [], hW', trodAll_mk1 (shut_bool Tryd.underlying4 _), trodAll_mk1 (shut_string Tryd.underlying9 ws), rfl, hb.frame _, fun h => by cases h⟩

theorem row_holds : Rows.FnExactDetectSaid :=
  OpenClaim.holds_of_wide 3 Tryd.f3 rfl rfl rfl rfl rfl rfl rfl ⟨rfl, rfl, rfl, rfl, rfl⟩ rfl rfl rfl rfl rfl (by kernel_rfl) Tryd.func3 (by kernel_rfl)
    (of_decide_eq_true (by kernel_rfl)) (by unfold Func.isWrapper; first | (rw [if_pos (by decide +kernel)]; kernel_rfl) | (rw [if_neg (by decide +kernel)]; exact ⟨rfl, rfl⟩))
    (fun os started H enc _ => lifted os started H enc)
theorem card_holds : Rows.FnExactDetectCardSaid :=
  Claim7.holds_tied_plain_at .later [] [.data, .pinned] true (true, "5f5458e5358f2d6c56e6d2155499787593fdae17c05197c744cdd2b28776dc0d") false
    row_holds (fun _ h => by cases h) (by kernel_rfl) (fun _ h => by cases h) fnExactDetect_row_tie rfl ⟨rfl, rfl⟩ (by kernel_rfl) rfl
    (fun f fn hf hfn => by
      obtain rfl : f = 3 := Option.some.inj ((show Tryd.prog.funcNamed "loop.example/pub-ziparchives/laws.FnExactDetect" = some 3 by kernel_rfl).symm.trans hf) |>.symm
      obtain rfl : fn = Tryd.f3 := (Option.some.inj (Tryd.func3.symm.trans hfn)).symm
      exact ⟨by kernel_rfl, fun j t ht => by
        rw [Tryd.params3] at ht
        have hm : t ∈ [9] := by simpa using Array.mem_of_getElem? ht
        have hall : ([9].all fun u => !Tryd.prog.wantsStandIn u) = true := by kernel_rfl
        exact (show Tryd.prog.wantsStandIn t = false by simpa using List.all_eq_true.1 hall t hm)⟩)
    (by kernel_rfl)
#print axioms card_holds
end Go.Proofs.YtdnijpehlahdnaaDoor
