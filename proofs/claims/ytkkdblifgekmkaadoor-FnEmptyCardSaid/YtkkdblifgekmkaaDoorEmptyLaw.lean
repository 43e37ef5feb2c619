/- Proved: laws.FnEmpty returns true for every comment (the tied card FnEmptyCardSaid): its row lists package-level variables (errors, tables of unicode/utf8), tied by the given text. -/
import Derived.Test.YtkkdblifgekmkaaDoorEmptyW
import Derived.Test.YtkkdblifgekmkaaDoorCards
import Derived.Test.YtkkdblifgekmkaaDoorTie
import Derived.ProofKit
import Derived.OpenShut
import Derived.ShutString
import Derived.PinnedBridge
import Derived.Lib.LaidU8
import Derived.Lay
import Derived.LaidMore
import Derived.Stop.Joined
import Derived.Stop.LaidErr
import Derived.SevenTiedAt
import Derived.OpenVars
namespace Go.Proofs.YtkkdblifgekmkaaDoor
open Go.ChangeMaps (open_string shut_string)
open Go.ChangeShapes Go.WideShapes Go.ChangeAt Go.RowKit

theorem laid_err {P : Program} {n nm : String} {text : List UInt8} {r : List (String × DataW Unit)} {W : World} {g : Nat} {ti tp te ts : TypeId} {ms : Array (String × TypeId)} {f : Field}
    (h : laidMet P ((n, .iface nm (.ptr (.agg [.lit (.string text)]))) :: r) W)
    (hg : P.globalNamed n = some g) (ht : (P.globals[g]?).map (·.type) = some ti) (hi : P.underlying ti = some (.interface ms)) (hrow : ∀ u, P.typeName? 3 u = some nm → u = tp)
    (hp : P.underlying tp = some (.pointer te)) (he : P.underlying te = some (.struct #[f])) (hft : f.type = ts) (hfo : f.offset = 0) (hs : P.underlying ts = some .string) (hc : P.cellsOf te = 1) (hcs : P.cellsOf ts = 1) :
    ∃ a : Addr, W.cell? ⟨g, 0, none⟩ = some (.iface tp (.pointer (some a))) ∧ ∃ c t, W.heap[a.block]? = some (.cells c t (0, 0)) := by
  obtain ⟨ps, ⟨g0, t0, cs0, f0, p0, q0, hg0, ht0, hv0, hd0, _, e0⟩, _, hrows⟩ := h
  obtain rfl := Option.some.inj (hg.symm.trans hg0)
  obtain rfl := Option.some.inj (ht.symm.trans ht0)
  subst e0
  obtain ⟨l0⟩ := cs0
  have ok0 : ∀ u v, l0 = [.iface u v] → Value.okWide P W .any 0 u v := fun u v e => by
    subst e
    exact (hrows g 0 (by simp [MemPlace.row])).2 u v (by simpa using World.var?_cell hg0 hv0 0)
  obtain ⟨a0, s0, rfl, hc0, hs0, hz0, rfl⟩ := errorString_of_trod hi hrow hp he hft hfo hs hc hcs hd0 ok0
  obtain ⟨c0, t0, hb0⟩ := (hrows a0.block a0.off (by simp [MemPlace.row])).1
  exact ⟨a0, by simpa using World.var?_cell hg0 hv0 0, c0, t0, hb0⟩

theorem own : ownKnob Tryd.prog.godebug = none := by kernel_rfl
theorem laidOut : laidOutB Tryd.prog = true := by kernel_rfl
theorem errStar : "*" ++ "errors.errorString" = "*errors.errorString" := by decide
theorem errOut (u : TypeId) (h : Tryd.prog.typeName? 3 u = some "*errors.errorString") : u = 147 :=
  typeName_ptr_named (nm := "errors.errorString") (by rw [errStar]; kernel_rfl) (by kernel_rfl) (by decide) u (by rw [errStar]; exact h)
theorem gEOF : Tryd.prog.globalNamed "io.EOF" = some 6 := by kernel_rfl
theorem gUEOF : Tryd.prog.globalNamed "io.ErrUnexpectedEOF" = some 3 := by kernel_rfl
theorem gFormat : Tryd.prog.globalNamed "loop.example/pub-ziparchives/pub/gozip.ErrFormat" = some 2 := by kernel_rfl
theorem tEOF : (Tryd.prog.globals[6]?).map (·.type) = some 51 := by kernel_rfl
theorem tUEOF : (Tryd.prog.globals[3]?).map (·.type) = some 51 := by kernel_rfl
theorem tFormat : (Tryd.prog.globals[2]?).map (·.type) = some 51 := by kernel_rfl
def seatLaidE : List (String × DataW Unit) := [("unicode/utf8.acceptRanges", Rows.laid_unicode_utf8_acceptRanges), ("io.ErrShortBuffer", Rows.laid_io_ErrShortBuffer), ("io.EOF", Rows.laid_io_EOF), ("io.ErrUnexpectedEOF", Rows.laid_io_ErrUnexpectedEOF), ("io.errWhence", Rows.laid_io_errWhence), ("io.errOffset", Rows.laid_io_errOffset), ("loop.example/pub-ziparchives/pub/gozip.ErrFormat", Rows.laid_loop_example_pub_ziparchives_pub_gozip_ErrFormat), ("loop.example/pub-ziparchives/pub/gozip.ErrInsecurePath", Rows.laid_loop_example_pub_ziparchives_pub_gozip_ErrInsecurePath), ("unicode/utf8.first", Rows.laid_unicode_utf8_first)]
theorem row_laid : Rows.fnEmptyRow.laid = seatLaidE := rfl
theorem errs_of {W : World} (h : laidMet Tryd.prog seatLaidE W) : (∃ a, ErrAt W 6 a) ∧ (∃ a, ErrAt W 3 a) ∧ ∃ a, ErrAt W 2 a := by
  have h2 := laidMet.tail (laidMet.tail h)
  have h3 := laidMet.tail h2
  have h6 := laidMet.tail (laidMet.tail (laidMet.tail h3))
  refine ⟨?_, ?_, ?_⟩
  · exact laid_err h2 gEOF tEOF Tryd.underlying51 errOut Tryd.underlying147 Tryd.underlying149 rfl rfl Tryd.underlying9 (by kernel_rfl) (by kernel_rfl)
  · exact laid_err h3 gUEOF tUEOF Tryd.underlying51 errOut Tryd.underlying147 Tryd.underlying149 rfl rfl Tryd.underlying9 (by kernel_rfl) (by kernel_rfl)
  · exact laid_err h6 gFormat tFormat Tryd.underlying51 errOut Tryd.underlying147 Tryd.underlying149 rfl rfl Tryd.underlying9 (by kernel_rfl) (by kernel_rfl)

theorem two_vars {H : Type} {enc : TypeId × Value → H} {P : Program} {w : World} {sp : Nat → Bool} {n0 n1 : String} {gs : List (DataW H)} {ps : List MemPlace} (h : DataW.TrodVars enc P w sp [n0, n1] gs ps) : ∃ g1 g2, gs = [g1, g2] := by
  match gs, h with
  | [], h => exact h.elim
  | [_], h => obtain ⟨_, _, _, _, _, _, _, _, _, _, h, _⟩ := h; exact h.elim
  | [a, b], _ => exact ⟨a, b, rfl⟩
  | _ :: _ :: _ :: _, h =>
    obtain ⟨_, _, _, _, _, _, _, _, _, _, h, _⟩ := h
    obtain ⟨_, _, _, _, _, _, _, _, _, _, h, _⟩ := h
    exact h.elim
set_option maxRecDepth 100000 in
theorem lifted (os : Os) (started : os.Started) (H : Type) (enc : TypeId × Value → H) :
    ReturnsInHanded {} Tryd.checked os 3 .any (fun w args => (Rows.fnEmptySpec.pre enc Tryd.prog Tryd.f3 [] false w args ∧ laidMetH Tryd.prog seatLaidE w) ∧ sizedMet enc Tryd.prog Tryd.f3 (OpenSpec.ofChange Rows.fnEmptySpec) false w args)
      (Rows.fnEmptySpec.post enc Tryd.prog Tryd.f3 false true false false) := by
  refine returnsInHanded_of_change_and (C := Tryd.checked) (X := fun w _ => laidMetH Tryd.prog seatLaidE w) (fun _ _ _ hh h => h.of_heap hh) own started (by kernel_rfl) Tryd.func3
    (ChangeSpec.witness_shaped (enc := enc) (C := Tryd.checked) (os := os) (X := fun w _ => laidMetH Tryd.prog seatLaidE w) false (World.laidAll Tryd.prog os seatLaidE) #[.string ⟨#[]⟩] 8 (World.laidAll_os _ _ _)
      (World.shaped_of_ZipB (by kernel_rfl) (by kernel_rfl)) (by kernel_rfl) (by kernel_rfl) (by kernel_rfl)
      (by rw [MakeChecks.laidMetH_plain _ _ _ (by kernel_rfl)]; exact laidMet_laidAll _ (by kernel_rfl) (by kernel_rfl))) ?_
  intro W base args ds gs before hval0 hW _ _ hL _
  have hval : ∀ (j : Nat) t v, Tryd.f3.params[j]? = some t → args[j]? = some v → Value.okWide Tryd.prog W .any base t v := hval0
  have hW' := hW
  obtain ⟨p, q, hA0, hV, rfl, _, _⟩ := hW
  have hA : DataW.TrodAll enc Tryd.prog W 0 (fun _ => true) true Tryd.f3.params.toList args.toList ds p := hA0
  rw [Tryd.params3] at hA hval
  obtain ⟨v0, d0, rfl, rfl, h0⟩ := trodAll_one hA
  obtain ⟨s, rfl, rfl, rfl, ws⟩ := open_string Tryd.underlying9 (hval 0 9 v0 rfl rfl) h0
  obtain ⟨g1, g2, hgs⟩ : ∃ g1 g2, gs = [g1, g2] := two_vars hV
  subst hgs
  rw [MakeChecks.laidMetH_plain _ _ _ (by kernel_rfl)] at hL
  obtain ⟨⟨ea, hE⟩, ⟨eu, hU⟩, ⟨ef, hF⟩⟩ := errs_of hL
  refine (walkEmpty s ws W ea eu ef hE hU hF).mono fun e W' ⟨he, hb⟩ => ?_
  subst he
  refine ⟨_, rfl, _, _, _, [], [], q, hW', trodAll_mk1 (shut_bool Tryd.underlying4 _), trodAll_mk1 (shut_string Tryd.underlying9 ws), ?_, hb.frame _, fun h => by cases h⟩
  exact Below.trodVars laidOut hb (by kernel_rfl) hV

theorem row_holds : Rows.FnEmptySaid :=
  OpenClaim.holds_of_wide 3 Tryd.f3 rfl rfl rfl rfl rfl rfl rfl ⟨rfl, rfl, rfl, rfl, rfl⟩ rfl rfl rfl rfl rfl (by kernel_rfl) Tryd.func3 (by kernel_rfl)
    (of_decide_eq_true (by kernel_rfl)) (by unfold Func.isWrapper; first | (rw [if_pos (by decide +kernel)]; kernel_rfl) | (rw [if_neg (by decide +kernel)]; exact ⟨rfl, rfl⟩))
    (fun os started H enc _ => lifted os started H enc)
theorem card_holds : Rows.FnEmptyCardSaid :=
  Claim7.holds_tied_plain_at .later [] [.data, .sentinel, .sentinel, .sentinel, .sentinel, .sentinel, .sentinel, .sentinel, .pinned] true (true, "e23a2148ee275691eb6c008bfd15bfe2919ea129f0fbf331d2f4399ebe09324a") true
    row_holds (fun _ h => by cases h) (by kernel_rfl) (fun _ h => by cases h) fnEmpty_row_tie rfl ⟨rfl, rfl⟩ (by kernel_rfl) rfl
    (fun f fn hf hfn => by
      obtain rfl : f = 3 := Option.some.inj ((show Tryd.prog.funcNamed "loop.example/pub-ziparchives/laws.FnEmpty" = some 3 by kernel_rfl).symm.trans hf) |>.symm
      obtain rfl : fn = Tryd.f3 := (Option.some.inj (Tryd.func3.symm.trans hfn)).symm
      exact ⟨by kernel_rfl, fun j t ht => by
        rw [Tryd.params3] at ht
        have hm : t ∈ [9] := by simpa using Array.mem_of_getElem? ht
        have hall : ([9].all fun u => !Tryd.prog.wantsStandIn u) = true := by kernel_rfl
        exact (show Tryd.prog.wantsStandIn t = false by simpa using List.all_eq_true.1 hall t hm)⟩)
    (by kernel_rfl)
#print axioms card_holds
end Go.Proofs.YtkkdblifgekmkaaDoor
