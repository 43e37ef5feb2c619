/- Proved: laws.FnLocalSpoilt returns true for all lists of entries, all comments, places and bytes (the tied card FnLocalSpoiltCardSaid): its row lists package-level variables (errors, tables of unicode/utf8), tied by the given text. -/
import Derived.Test.YtfagjhgmmaebfaaGreatDoorLsW
import Derived.Test.YtfagjhgmmaebfaaGreatDoorCards
import Derived.Test.YtfagjhgmmaebfaaGreatDoorTie
import Derived.ProofKit
import Derived.OpenShut
import Derived.ShutString
import Derived.PinnedBridge
import Derived.Lib.LaidU8
import Derived.Lay
import Derived.LaidMore
import Derived.Stop.Joined
import Derived.Stop.LaidErr
import Derived.SevenTiedAt
import Derived.OpenVars
import Derived.Carry
namespace Go.Proofs.YtfagjhgmmaebfaaGreatDoor
open Go.ChangeMaps (open_string shut_string)
open Go.ChangeShapes Go.WideShapes Go.ChangeAt Go.RowKit
theorem laid_err {P : Program} {n nm : String} {text : List UInt8} {r : List (String × DataW Unit)} {W : World} {g : Nat} {ti tp te ts : TypeId} {ms : Array (String × TypeId)} {f : Field}
    (h : laidMet P ((n, .iface nm (.ptr (.agg [.lit (.string text)]))) :: r) W)
    (hg : P.globalNamed n = some g) (ht : (P.globals[g]?).map (·.type) = some ti) (hi : P.underlying ti = some (.interface ms)) (hrow : ∀ u, P.typeName? 3 u = some nm → u = tp)
    (hp : P.underlying tp = some (.pointer te)) (he : P.underlying te = some (.struct #[f])) (hft : f.type = ts) (hfo : f.offset = 0) (hs : P.underlying ts = some .string) (hc : P.cellsOf te = 1) (hcs : P.cellsOf ts = 1) :
    ∃ a : Addr, W.cell? ⟨g, 0, none⟩ = some (.iface tp (.pointer (some a))) ∧ ∃ c t, W.heap[a.block]? = some (.cells c t (0, 0)) := by
  obtain ⟨ps, ⟨g0, t0, cs0, f0, p0, q0, hg0, ht0, hv0, hd0, _, e0⟩, _, hrows⟩ := h
  obtain rfl := Option.some.inj (hg.symm.trans hg0)
  obtain rfl := Option.some.inj (ht.symm.trans ht0)
  subst e0
  obtain ⟨l0⟩ := cs0
  have ok0 : ∀ u v, l0 = [.iface u v] → Value.okWide P W .any 0 u v := fun u v e => by
    subst e
    exact (hrows g 0 (by simp [MemPlace.row])).2 u v (by simpa using World.var?_cell hg0 hv0 0)
  obtain ⟨a0, s0, rfl, hc0, hs0, hz0, rfl⟩ := errorString_of_trod hi hrow hp he hft hfo hs hc hcs hd0 ok0
  obtain ⟨c0, t0, hb0⟩ := (hrows a0.block a0.off (by simp [MemPlace.row])).1
  exact ⟨a0, by simpa using World.var?_cell hg0 hv0 0, c0, t0, hb0⟩

theorem own : ownKnob Tryz.prog.godebug = none := by kernel_rfl
theorem laidOut : laidOutB Tryz.prog = true := by kernel_rfl
theorem errStar : "*" ++ "errors.errorString" = "*errors.errorString" := by decide
theorem errOut (u : TypeId) (h : Tryz.prog.typeName? 3 u = some "*errors.errorString") : u = 99 :=
  typeName_ptr_named (nm := "errors.errorString") (by rw [errStar]; kernel_rfl) (by kernel_rfl) (by decide) u (by rw [errStar]; exact h)
theorem gEOF : Tryz.prog.globalNamed "io.EOF" = some 5 := by kernel_rfl
theorem gUEOF : Tryz.prog.globalNamed "io.ErrUnexpectedEOF" = some 4 := by kernel_rfl
theorem gFormat : Tryz.prog.globalNamed "loop.example/pub-ziparchives/pub/gozip.ErrFormat" = some 1 := by kernel_rfl
theorem tEOF : (Tryz.prog.globals[5]?).map (·.type) = some 51 := by kernel_rfl
theorem tUEOF : (Tryz.prog.globals[4]?).map (·.type) = some 51 := by kernel_rfl
theorem tFormat : (Tryz.prog.globals[1]?).map (·.type) = some 51 := by kernel_rfl
theorem accept_eq : Rows.laid_unicode_utf8_acceptRanges = (Lib.acceptData : DataW Unit) := by kernel_rfl
theorem x8 : U8Extra Tryz.prog Tryz.lays260_ren := ⟨by kernel_rfl, by kernel_rfl, by kernel_rfl, by kernel_rfl, by kernel_rfl, by kernel_rfl, by kernel_rfl⟩
def seatLaidL : List (String × DataW Unit) := [("unicode/utf8.acceptRanges", Rows.laid_unicode_utf8_acceptRanges), ("io.ErrShortBuffer", Rows.laid_io_ErrShortBuffer), ("io.EOF", Rows.laid_io_EOF), ("io.ErrUnexpectedEOF", Rows.laid_io_ErrUnexpectedEOF), ("io.errWhence", Rows.laid_io_errWhence), ("io.errOffset", Rows.laid_io_errOffset), ("loop.example/pub-ziparchives/pub/gozip.ErrFormat", Rows.laid_loop_example_pub_ziparchives_pub_gozip_ErrFormat), ("loop.example/pub-ziparchives/pub/gozip.ErrAlgorithm", Rows.laid_loop_example_pub_ziparchives_pub_gozip_ErrAlgorithm), ("loop.example/pub-ziparchives/pub/gozip.ErrChecksum", Rows.laid_loop_example_pub_ziparchives_pub_gozip_ErrChecksum), ("loop.example/pub-ziparchives/pub/gozip.ErrInsecurePath", Rows.laid_loop_example_pub_ziparchives_pub_gozip_ErrInsecurePath), ("unicode/utf8.first", Rows.laid_unicode_utf8_first)]
theorem row_laid : Rows.fnLocalSpoiltRow.laid = seatLaidL := rfl
theorem tabs_of {W : World} (hL : laidMet Tryz.prog seatLaidL W) : Lib.Utf8Tabs 9 10 W :=
  utf8Tabs_of_reads Tryz.lays260 x8 (Pinned.utf8First_eq ▸ Lib.laidMet.reads hL (.tail _ (.tail _ (.tail _ (.tail _ (.tail _ (.tail _ (.tail _ (.tail _ (.tail _ (.tail _ (.head _)))))))))))) (accept_eq ▸ Lib.laidMet.reads hL (.head _))
theorem errs_of {W : World} (h : laidMet Tryz.prog seatLaidL W) : ∃ ea eu ef, Env W ea eu ef := by
  have h2 := laidMet.tail (laidMet.tail h)
  have h3 := laidMet.tail h2
  have h6 := laidMet.tail (laidMet.tail (laidMet.tail h3))
  obtain ⟨ea, h1⟩ : ∃ a, ErrAt W 5 a := laid_err h2 gEOF tEOF Tryz.underlying51 errOut Tryz.underlying99 Tryz.underlying101 rfl rfl Tryz.underlying9 (by kernel_rfl) (by kernel_rfl)
  obtain ⟨eu, h5⟩ : ∃ a, ErrAt W 4 a := laid_err h3 gUEOF tUEOF Tryz.underlying51 errOut Tryz.underlying99 Tryz.underlying101 rfl rfl Tryz.underlying9 (by kernel_rfl) (by kernel_rfl)
  obtain ⟨ef, h7⟩ : ∃ a, ErrAt W 1 a := laid_err h6 gFormat tFormat Tryz.underlying51 errOut Tryz.underlying99 Tryz.underlying101 rfl rfl Tryz.underlying9 (by kernel_rfl) (by kernel_rfl)
  exact ⟨ea, eu, ef, h1, h5, h7, tabs_of h⟩
section
variable {H : Type} {enc : TypeId × Value → H} {P : Program} {w : World} {base : Nat} {spare : Nat → Bool} {held : Bool}
theorem trodAll_five {t t1 t2 t3 t4 : TypeId} {args : Array Value} {ds : List (DataW H)} {ps : List MemPlace} (h : DataW.TrodAll enc P w base spare held [t, t1, t2, t3, t4] args.toList ds ps) :
    ∃ v v1 v2 v3 v4 d d1 d2 d3 d4 p p1 p2 p3 p4, args = #[v, v1, v2, v3, v4] ∧ ds = [d, d1, d2, d3, d4] ∧ ps = p ++ (p1 ++ (p2 ++ (p3 ++ p4))) ∧ DataW.Trod enc P w base spare held t v d p ∧ DataW.Trod enc P w base spare held t1 v1 d1 p1 ∧ DataW.Trod enc P w base spare held t2 v2 d2 p2 ∧ DataW.Trod enc P w base spare held t3 v3 d3 p3 ∧ DataW.Trod enc P w base spare held t4 v4 d4 p4 := by
  obtain ⟨v, vs, d, e0, p, q, hargs, rfl, rfl, hd, hrest⟩ := trodAll_cons h
  obtain ⟨v1, vs1, d1, e1, p1, q1, rfl, rfl, rfl, hd1, hrest1⟩ := trodAll_cons hrest
  obtain ⟨v2, vs2, d2, e2, p2, q2, rfl, rfl, rfl, hd2, hrest2⟩ := trodAll_cons hrest1
  obtain ⟨v3, vs3, d3, e3, p3, q3, rfl, rfl, rfl, hd3, hrest3⟩ := trodAll_cons hrest2
  obtain ⟨v4, vs4, d4, e4, p4, q4, rfl, rfl, rfl, hd4, hrest4⟩ := trodAll_cons hrest3
  obtain ⟨rfl, rfl, rfl⟩ := trodAll_nil hrest4
  exact ⟨v, v1, v2, v3, v4, d, d1, d2, d3, d4, p, p1, p2, p3, p4, by cases args; simp_all, rfl, by simp, hd, hd1, hd2, hd3, hd4⟩
theorem four_vars {sp : Nat → Bool} {n0 n1 n2 n3 : String} {gs : List (DataW H)} {ps : List MemPlace} (h : DataW.TrodVars enc P w sp [n0, n1, n2, n3] gs ps) : ∃ g1 g2 g3 g4, gs = [g1, g2, g3, g4] := by
  match gs, h with
  | [], h => exact h.elim
  | [_], h => obtain ⟨_, _, _, _, _, _, _, _, _, _, h, _⟩ := h; exact h.elim
  | [_, _], h =>
    obtain ⟨_, _, _, _, _, _, _, _, _, _, h, _⟩ := h
    obtain ⟨_, _, _, _, _, _, _, _, _, _, h, _⟩ := h
    exact h.elim
  | [_, _, _], h =>
    obtain ⟨_, _, _, _, _, _, _, _, _, _, h, _⟩ := h
    obtain ⟨_, _, _, _, _, _, _, _, _, _, h, _⟩ := h
    obtain ⟨_, _, _, _, _, _, _, _, _, _, h, _⟩ := h
    exact h.elim
  | [a, b, c, d], _ => exact ⟨a, b, c, d, rfl⟩
  | _ :: _ :: _ :: _ :: _ :: _, h =>
    obtain ⟨_, _, _, _, _, _, _, _, _, _, h, _⟩ := h
    obtain ⟨_, _, _, _, _, _, _, _, _, _, h, _⟩ := h
    obtain ⟨_, _, _, _, _, _, _, _, _, _, h, _⟩ := h
    obtain ⟨_, _, _, _, _, _, _, _, _, _, h, _⟩ := h
    exact h.elim
end
set_option maxRecDepth 100000 in
theorem lifted (os : Os) (started : os.Started) (H : Type) (enc : TypeId × Value → H) :
    ReturnsInHanded {} Tryz.checked os 3 .any (fun w args => (Rows.fnLocalSpoiltSpec.pre enc Tryz.prog Tryz.f3 [] false w args ∧ laidMetH Tryz.prog seatLaidL w) ∧ sizedMet enc Tryz.prog Tryz.f3 (OpenSpec.ofChange Rows.fnLocalSpoiltSpec) false w args)
      (Rows.fnLocalSpoiltSpec.post enc Tryz.prog Tryz.f3 false true false false) := by
  refine returnsInHanded_of_change_and (C := Tryz.checked) (X := fun w _ => laidMetH Tryz.prog seatLaidL w) (fun _ _ _ hh h => h.of_heap hh) own started (by kernel_rfl) Tryz.func3
    (ChangeSpec.witness_shaped (enc := enc) (C := Tryz.checked) (os := os) (X := fun w _ => laidMetH Tryz.prog seatLaidL w) false (World.laidAll Tryz.prog os seatLaidL) #[.slice none 0 0, .string ⟨#[]⟩, .int .i64 0, .int .i64 0, .int .u8 0] 8 (World.laidAll_os _ _ _)
      (World.shaped_of_ZipB (by kernel_rfl) (by kernel_rfl)) (by kernel_rfl) (by kernel_rfl) (by kernel_rfl)
      (by rw [MakeChecks.laidMetH_plain _ _ _ (by kernel_rfl)]; exact laidMet_laidAll _ (by kernel_rfl) (by kernel_rfl))) ?_
  intro W base args ds gs before hval0 hW _ _ hL _
  have hval : ∀ (j : Nat) t v, Tryz.f3.params[j]? = some t → args[j]? = some v → Value.okWide Tryz.prog W .any base t v := hval0
  have hW' := hW
  obtain ⟨p, q, hA0, hV, rfl, _, _⟩ := hW
  have hA : DataW.TrodAll enc Tryz.prog W 0 (fun _ => true) true Tryz.f3.params.toList args.toList ds p := hA0
  rw [Tryz.params3] at hA hval
  obtain ⟨v0, v1, v2, v3, v4, d0, d1, d2, d3, d4, p0, p1, p2, p3, p4, rfl, rfl, rfl, h0, h1, h2, h3, h4⟩ := trodAll_five hA
  have k0 := h0
  have lt0 : ∀ x ∈ p0, x.block < W.heap.size := by obtain ⟨m, hm⟩ := k0; exact DataW.trod_lt m _ _ _ hm
  obtain ⟨A0, n0, c0, rfl⟩ := okWide_slice Tryz.underlying22 (hval 0 22 _ rfl rfl)
  obtain ⟨m0, hm0⟩ := h0
  obtain ⟨A, c, L, hcs, hcap, hcb, _, hr, hwf⟩ := open_entries hm0
  obtain ⟨rfl, rfl, rfl⟩ : A0 = A ∧ n0 = L.length ∧ c0 = c := by simpa [Value.cells] using hcs
  obtain ⟨s, rfl, rfl, rfl, ws⟩ := open_string Tryz.underlying9 (hval 1 9 v1 rfl rfl) h1
  obtain ⟨kz, rfl, rfl, rfl, wk⟩ := open_int Tryz.underlying3 (hval 2 3 v2 rfl rfl) h2
  obtain ⟨az, rfl, rfl, rfl, wa⟩ := open_int Tryz.underlying3 (hval 3 3 v3 rfl rfl) h3
  obtain ⟨bz, rfl, rfl, rfl, wb⟩ := open_int Tryz.underlying5 (hval 4 5 v4 rfl rfl) h4
  obtain ⟨g1, g2, g3, g4, hgs⟩ : ∃ g1 g2 g3 g4, gs = [g1, g2, g3, g4] := four_vars hV
  subst hgs
  rw [MakeChecks.laidMetH_plain _ _ _ (by kernel_rfl)] at hL
  obtain ⟨ea, eu, ef, hEnv⟩ := errs_of hL
  obtain ⟨⟨cm⟩⟩ := s
  have hcm : cm.length ≤ 9223372036854775807 := by
    have : (ByteArray.mk (Array.mk cm)).size ≤ maxLen := ws
    unfold maxLen at this
    exact this
  obtain ⟨by_, hby⟩ : ∃ b : UInt8, (b.toNat : Int) = bz := by
    have e1 : IntKind.u8.min = 0 := by decide
    have e2 : IntKind.u8.max = 255 := by decide
    have wb' := wb
    simp only [Lit.wf, Bool.and_eq_true, decide_eq_true_eq, e1, e2] at wb'
    refine ⟨UInt8.ofNat bz.toNat, ?_⟩
    rw [UInt8.toNat_ofNat']
    omega
  have hwk := walkLs A0 c0 L cm kz az by_ (by omega) hr hwf hcm hEnv
  rw [hby] at hwk
  refine hwk.mono fun e W' ⟨he, hk⟩ => ?_
  have hb : Below W.heap.size W W' := hk.to_below (Nat.le_refl _) (by simp)
  subst he
  refine ⟨_, rfl, _, _, _, [], _, q, hW', trodAll_mk1 (shut_bool Tryz.underlying4 _), trodAll_cons_mk (Below.trod laidOut (by kernel_rfl) (of_decide_eq_true (by kernel_rfl)) k0 hb lt0) (trodAll_mk4 (shut_string Tryz.underlying9 ws) (shut_int Tryz.underlying3 wk) (shut_int Tryz.underlying3 wa) (shut_int Tryz.underlying5 wb)), ?_, hb.frame _, fun h => by cases h⟩
  exact Below.trodVars laidOut hb (by kernel_rfl) hV

theorem row_holds : Rows.FnLocalSpoiltSaid :=
  OpenClaim.holds_of_wide 3 Tryz.f3 rfl rfl rfl rfl rfl rfl rfl ⟨rfl, rfl, rfl, rfl, rfl⟩ rfl rfl rfl rfl rfl (by kernel_rfl) Tryz.func3 (by kernel_rfl)
    (of_decide_eq_true (by kernel_rfl)) (by unfold Func.isWrapper; first | (rw [if_pos (by decide +kernel)]; kernel_rfl) | (rw [if_neg (by decide +kernel)]; exact ⟨rfl, rfl⟩))
    (fun os started H enc _ => lifted os started H enc)
theorem card_holds : Rows.FnLocalSpoiltCardSaid :=
  Claim7.holds_tied_plain_at .later [] [.data, .sentinel, .sentinel, .sentinel, .sentinel, .sentinel, .sentinel, .sentinel, .sentinel, .sentinel, .pinned] true (true, "c1ed6d7950aee2446abfc4386cff762fdc2d1d5cf8c92986f86767a581b750d3") true
    row_holds (fun _ h => by cases h) (by kernel_rfl) (fun _ h => by cases h) fnLocalSpoilt_row_tie rfl ⟨rfl, rfl⟩ (by kernel_rfl) rfl
    (fun f fn hf hfn => by
      obtain rfl : f = 3 := Option.some.inj ((show Tryz.prog.funcNamed "loop.example/pub-ziparchives/laws.FnLocalSpoilt" = some 3 by kernel_rfl).symm.trans hf) |>.symm
      obtain rfl : fn = Tryz.f3 := (Option.some.inj (Tryz.func3.symm.trans hfn)).symm
      exact ⟨by kernel_rfl, fun j t ht => by
        rw [Tryz.params3] at ht
        have hm : t ∈ [22, 9, 3, 3, 5] := by simpa using Array.mem_of_getElem? ht
        have hall : ([22, 9, 3, 3, 5].all fun u => !Tryz.prog.wantsStandIn u) = true := by kernel_rfl
        exact (show Tryz.prog.wantsStandIn t = false by simpa using List.all_eq_true.1 hall t hm)⟩)
    (by kernel_rfl)
#print axioms card_holds
end Go.Proofs.YtfagjhgmmaebfaaGreatDoor
