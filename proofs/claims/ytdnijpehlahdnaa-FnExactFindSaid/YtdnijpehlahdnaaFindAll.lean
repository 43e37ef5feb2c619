/- Proved: laws.FnExactFind returns true for every two strings and every int (the statement FnExactFindSaid), with no conditions. -/
import Derived.Test.YtdnijpehlahdnaaFindLaw
import Derived.ProofKit
import Derived.OpenShut
import Derived.ShutString
namespace Go.Proofs.Ytdnijpehlahdnaa.fnExactFind
open Go.ChangeMaps (open_string shut_string)
open Go.ChangeShapes Go.WideShapes Go.ChangeAt Go.RowKit

theorem FindEnd_c (l : List UInt8) (n : Int) (h : findL l = n) (hmax : l.length ≤ 140737488355328) (w : World) :
    Calls Try.prog 11 #[.string ⟨l.toArray⟩] w fun e w' => e = .returned (.int .i64 n) ∧ Below w.heap.size w w' := by
  rw [← h]; exact FindEnd_any l hmax w
theorem Ends_c (l : List UInt8) (n : Int) (h : (endsL l : Int) = n) (hmax : l.length ≤ 9223372036854775800) (w : World) :
    Calls Try.prog 10 #[.string ⟨l.toArray⟩] w fun e w' => e = .returned (.int .i64 n) ∧ w = w' := by
  rw [← h]; exact Ends_any l hmax w
theorem endL_length (c : List UInt8) : (endL 0 0 0 c).length = c.length + 22 := by rw [end_eq]; simp

set_option maxHeartbeats 1000000 in
theorem walk_list (b c : List UInt8) (cut : Int) (hcut0 : -9223372036854775808 ≤ cut) (hcut1 : cut ≤ 9223372036854775807) (w : World) (hb : b.length ≤ 2147483647) (hc : c.length ≤ 2147483647) :
    Calls Try.prog 3 #[.string ⟨b.toArray⟩, .string ⟨c.toArray⟩, .int .i64 cut] w fun e w' => e = .returned (.bool true) ∧ Below w.heap.size w w' := by
  have hsz : ∀ l : List UInt8, (ByteArray.mk l.toArray).size = l.length := fun _ => rfl
  obtain ⟨s, hS⟩ : ∃ s, s = b ++ endL 0 0 0 c := ⟨_, rfl⟩
  have hsl : s.length = b.length + 22 + c.length := by rw [hS, List.length_append, endL_length]; omega
  have hsl2 : s.length ≤ 4294967316 := by omega
  have hcat : (ByteArray.mk b.toArray) ++ (ByteArray.mk (endL 0 0 0 c).toArray) = ByteArray.mk s.toArray := by rw [hS]; exact cat_mk _ _
  have hel := endL_length c
  have HS := Lib.hid hS
  have HSL := Lib.hid hsl
  clear hS hsl
  by_cases t1 : c.length > 65535
  · go_enter Try.func3, Try.ntmps3
    go_wp2_with fail
    refine (End_any 0 0 0 c (by decide) (by decide) (by decide) (by omega) _).mono ?_
    rintro e w1 ⟨rfl, hb1⟩
    have z1 := hb1.size
    go_wp2_with fail
    refine (End_any 0 0 0 [] (by decide) (by decide) (by decide) (by decide) _).mono ?_
    rintro e w3 ⟨rfl, hb3⟩
    have z3 := hb3.size
    go_wp2_with fail
    refine (FindEnd_c (endL 0 0 0 []) 0 find_empty_end (by decide) _).mono ?_
    rintro e w4 ⟨rfl, hb4⟩
    have z4 := hb4.size
    go_wp2_with fail
    refine (FindEnd_c [] (-1) find_empty (by decide) _).mono ?_
    rintro e w5 ⟨rfl, hb5⟩
    go_wp2
    go_ret
    exact ⟨rfl, ((hb1.trans (hb3.mono (by omega))).trans (hb4.mono (by omega))).trans (hb5.mono (by omega))⟩
  by_cases t2 : b.length > 1048576
  · go_enter Try.func3, Try.ntmps3
    go_wp2_with fail
    refine (End_any 0 0 0 c (by decide) (by decide) (by decide) (by omega) _).mono ?_
    rintro e w1 ⟨rfl, hb1⟩
    have z1 := hb1.size
    go_wp2_with fail
    refine (End_any 0 0 0 [] (by decide) (by decide) (by decide) (by decide) _).mono ?_
    rintro e w3 ⟨rfl, hb3⟩
    have z3 := hb3.size
    go_wp2_with fail
    refine (FindEnd_c (endL 0 0 0 []) 0 find_empty_end (by decide) _).mono ?_
    rintro e w4 ⟨rfl, hb4⟩
    have z4 := hb4.size
    go_wp2_with fail
    refine (FindEnd_c [] (-1) find_empty (by decide) _).mono ?_
    rintro e w5 ⟨rfl, hb5⟩
    go_wp2
    go_ret
    exact ⟨rfl, ((hb1.trans (hb3.mono (by omega))).trans (hb4.mono (by omega))).trans (hb5.mono (by omega))⟩
  obtain ⟨n, hn⟩ : ∃ n : Int, (endsL s : Int) = n := ⟨_, rfl⟩
  have He := Lib.hid (Ends_c s n hn (by omega))
  by_cases t3 : n = 1
  · subst t3
    by_cases t4 : cut < 0
    · clear hn
      go_enter Try.func3, Try.ntmps3
      go_wp2_with fail
      refine (End_any 0 0 0 c (by decide) (by decide) (by decide) (by omega) _).mono ?_
      rintro e w1 ⟨rfl, hb1⟩
      have z1 := hb1.size
      go_wp2_with fail
      refine (He.out _).mono ?_
      rintro e w2 ⟨rfl, rfl⟩
      go_wp2_with fail
      refine (End_any 0 0 0 [] (by decide) (by decide) (by decide) (by decide) _).mono ?_
      rintro e w3 ⟨rfl, hb3⟩
      have z3 := hb3.size
      go_wp2_with fail
      refine (FindEnd_c (endL 0 0 0 []) 0 find_empty_end (by decide) _).mono ?_
      rintro e w4 ⟨rfl, hb4⟩
      have z4 := hb4.size
      go_wp2_with fail
      refine (FindEnd_c [] (-1) find_empty (by decide) _).mono ?_
      rintro e w5 ⟨rfl, hb5⟩
      go_wp2
      go_ret
      exact ⟨rfl, ((hb1.trans (hb3.mono (by omega))).trans (hb4.mono (by omega))).trans (hb5.mono (by omega))⟩
    by_cases t5 : cut > s.length
    · clear hn
      go_enter Try.func3, Try.ntmps3
      go_wp2_with fail
      refine (End_any 0 0 0 c (by decide) (by decide) (by decide) (by omega) _).mono ?_
      rintro e w1 ⟨rfl, hb1⟩
      have z1 := hb1.size
      go_wp2_with fail
      refine (He.out _).mono ?_
      rintro e w2 ⟨rfl, rfl⟩
      go_wp2_with fail
      refine (End_any 0 0 0 [] (by decide) (by decide) (by decide) (by decide) _).mono ?_
      rintro e w3 ⟨rfl, hb3⟩
      have z3 := hb3.size
      go_wp2_with fail
      refine (FindEnd_c (endL 0 0 0 []) 0 find_empty_end (by decide) _).mono ?_
      rintro e w4 ⟨rfl, hb4⟩
      have z4 := hb4.size
      go_wp2_with fail
      refine (FindEnd_c [] (-1) find_empty (by decide) _).mono ?_
      rintro e w5 ⟨rfl, hb5⟩
      go_wp2
      go_ret
      exact ⟨rfl, ((hb1.trans (hb3.mono (by omega))).trans (hb4.mono (by omega))).trans (hb5.mono (by omega))⟩
    obtain ⟨k, rfl⟩ := Int.eq_ofNat_of_zero_le (show 0 ≤ cut by omega)
    have HF := find_law b c (by omega) (by rw [← HS.out]; omega) k (by rw [← HS.out]; omega)
    rw [← HS.out] at HF
    have hext : (ByteArray.mk s.toArray).extract 0 (s.length - k) = ByteArray.mk (s.take (s.length - k)).toArray := by
      rw [Lib.extract_eq]; simp
    clear hn
    by_cases t6 : k = 0
    · rw [if_neg (by omega)] at HF
      subst t6
      rw [Nat.sub_zero, List.take_length] at HF
      have HF2 := Lib.hid (FindEnd_c _ _ HF (by omega))
      have hext2 : (ByteArray.mk s.toArray).extract 0 s.length = ByteArray.mk s.toArray := by rw [Lib.extract_eq]; simp
      clear HF hext
      go_enter Try.func3, Try.ntmps3
      go_wp2_with fail
      refine (End_any 0 0 0 c (by decide) (by decide) (by decide) (by omega) _).mono ?_
      rintro e w1 ⟨rfl, hb1⟩
      have z1 := hb1.size
      go_wp2_with fail
      refine (He.out _).mono ?_
      rintro e w2 ⟨rfl, rfl⟩
      go_wp2_with fail
      refine (HF2.out _).mono ?_
      rintro e w6 ⟨rfl, hb6⟩
      go_wp2
      go_ret
      exact ⟨rfl, hb1.trans (hb6.mono (by omega))⟩
    · rw [if_pos (by omega)] at HF
      have HF2 := Lib.hid (FindEnd_c _ _ HF (by rw [List.length_take]; omega))
      clear HF
      go_enter Try.func3, Try.ntmps3
      go_wp2_with fail
      refine (End_any 0 0 0 c (by decide) (by decide) (by decide) (by omega) _).mono ?_
      rintro e w1 ⟨rfl, hb1⟩
      have z1 := hb1.size
      go_wp2_with fail
      refine (He.out _).mono ?_
      rintro e w2 ⟨rfl, rfl⟩
      go_wp2_with fail
      refine (HF2.out _).mono ?_
      rintro e w6 ⟨rfl, hb6⟩
      go_wp2
      go_ret
      exact ⟨rfl, hb1.trans (hb6.mono (by omega))⟩
  · have t3' : (n != 1) = true := by simpa using t3
    clear hn
    go_enter Try.func3, Try.ntmps3
    go_wp2_with fail
    refine (End_any 0 0 0 c (by decide) (by decide) (by decide) (by omega) _).mono ?_
    rintro e w1 ⟨rfl, hb1⟩
    have z1 := hb1.size
    go_wp2_with fail
    refine (He.out _).mono ?_
    rintro e w2 ⟨rfl, rfl⟩
    go_wp2_with fail
    refine (End_any 0 0 0 [] (by decide) (by decide) (by decide) (by decide) _).mono ?_
    rintro e w3 ⟨rfl, hb3⟩
    have z3 := hb3.size
    go_wp2_with fail
    refine (FindEnd_c (endL 0 0 0 []) 0 find_empty_end (by decide) _).mono ?_
    rintro e w4 ⟨rfl, hb4⟩
    have z4 := hb4.size
    go_wp2_with fail
    refine (FindEnd_c [] (-1) find_empty (by decide) _).mono ?_
    rintro e w5 ⟨rfl, hb5⟩
    go_wp2
    go_ret
    exact ⟨rfl, ((hb1.trans (hb3.mono (by omega))).trans (hb4.mono (by omega))).trans (hb5.mono (by omega))⟩

theorem walk (sb : ByteArray) (hb : sb.size ≤ maxLen) (sc : ByteArray) (hc : sc.size ≤ maxLen) (cut : Int) (wc : (Lit.int .i64 cut).wf = true) (w : World) :
    Calls Try.prog 3 #[.string sb, .string sc, .int .i64 cut] w fun e w' => e = .returned (.bool true) ∧ Below w.heap.size w w' := by
  unfold maxLen at hb hc
  by_cases h : sb.size ≤ 2147483647 ∧ sc.size ≤ 2147483647
  · have hcut : -9223372036854775808 ≤ cut ∧ cut ≤ 9223372036854775807 := by
      simp [Lit.wf, IntKind.min, IntKind.max, IntKind.bits, IntKind.signed] at wc; omega
    obtain ⟨⟨b⟩⟩ := sb
    obtain ⟨⟨c⟩⟩ := sc
    exact walk_list b c cut hcut.1 hcut.2 w h.1 h.2
  · go_enter Try.func3, Try.ntmps3
    go_wp2_with fail
    all_goals
      go_ret
      exact ⟨rfl, Below.refl _ _⟩

theorem own : ownKnob Try.prog.godebug = none := by kernel_rfl
theorem laidOut : laidOutB Try.prog = true := by kernel_rfl
set_option maxRecDepth 100000 in
theorem lifted (os : Os) (started : os.Started) (H : Type) (enc : TypeId × Value → H) :
    ReturnsInHanded {} Try.checked os 3 .any (Rows.fnExactFindSpec.pre6 enc Try.prog Try.f3 Rows.fnExactFindRow.domain false) (Rows.fnExactFindSpec.post enc Try.prog Try.f3 false true false false) := by
  refine returnsInHanded_of_change (C := Try.checked) own started (by kernel_rfl) Try.func3
    (ChangeSpec.witness6 (enc := enc) (C := Try.checked) false ⟨#[], #[.string ⟨#[]⟩, .string ⟨#[]⟩, .int .i64 0], []⟩ 8 (by kernel_rfl) (by kernel_rfl) (by kernel_rfl) (by kernel_rfl)) ?_
  intro W base args ds gs before hval0 hW hcnd _
  have hval : ∀ (j : Nat) t v, Try.f3.params[j]? = some t → args[j]? = some v → Value.okWide Try.prog W .any base t v := hval0
  have hW' := hW
  obtain ⟨p, q, hA0, hV, rfl, hfz, hnd⟩ := hW
  have hA : DataW.TrodAll enc Try.prog W 0 (fun _ => true) true Try.f3.params.toList args.toList ds p := hA0
  rw [Try.params3] at hA hval
  obtain ⟨v0, vs0, d0, ds0, p0, q0, hargs, rfl, rfl, h0, r0⟩ := trodAll_cons hA
  obtain ⟨v1, vs1, d1, ds1, p1, q1, rfl, rfl, rfl, h1, r1⟩ := trodAll_cons r0
  obtain ⟨v2, vs2, d2, ds2, p2, q2, rfl, rfl, rfl, h2, r2⟩ := trodAll_cons r1
  obtain ⟨rfl, rfl, rfl⟩ := trodAll_nil r2
  obtain rfl : args = #[v0, v1, v2] := by cases args; simp_all
  obtain ⟨rfl, rfl⟩ := trodVars_none hV
  have k0 := h0
  have lt0 : ∀ x ∈ p0, x.block < W.heap.size := by obtain ⟨m, hm⟩ := k0; exact DataW.trod_lt m _ _ _ hm
  obtain ⟨a0, rfl, _, _, w0⟩ := open_string Try.underlying9 (hval 0 9 v0 rfl rfl) h0
  have k1 := h1
  have lt1 : ∀ x ∈ p1, x.block < W.heap.size := by obtain ⟨m, hm⟩ := k1; exact DataW.trod_lt m _ _ _ hm
  obtain ⟨a1, rfl, _, _, w1⟩ := open_string Try.underlying9 (hval 1 9 v1 rfl rfl) h1
  have k2 := h2
  have lt2 : ∀ x ∈ p2, x.block < W.heap.size := by obtain ⟨m, hm⟩ := k2; exact DataW.trod_lt m _ _ _ hm
  obtain ⟨a2, rfl, _, _, w2⟩ := open_int Try.underlying3 (hval 2 3 v2 rfl rfl) h2
  clear hA0 hval0
  refine (walk a0 w0 a1 w1 a2 w2 W).mono fun e W' ⟨he, bel⟩ => ?_
  subst he
  exact ⟨_, rfl, _, _, _, [], _, [], hW', trodAll_mk1 (shut_bool Try.underlying4 _), (trodAll_cons_mk (Below.trod laidOut (by kernel_rfl) (of_decide_eq_true (by kernel_rfl)) k0 bel lt0) (trodAll_cons_mk (Below.trod laidOut (by kernel_rfl) (of_decide_eq_true (by kernel_rfl)) k1 bel lt1) (trodAll_cons_mk (Below.trod laidOut (by kernel_rfl) (of_decide_eq_true (by kernel_rfl)) k2 bel lt2) trodAll_mk0))), rfl, bel.frame _, fun h => by cases h⟩

theorem over : Rows.fnExactFindRow.holds Try.pinned (OpenSpec.ofChange Rows.fnExactFindSpec) :=
  OpenClaim.holds_of_wide 3 Try.f3 rfl rfl rfl rfl rfl rfl rfl ⟨rfl, rfl, rfl, rfl, rfl⟩ rfl rfl rfl rfl rfl (by kernel_rfl) Try.func3 (by kernel_rfl)
    (of_decide_eq_true (by kernel_rfl)) (by unfold Func.isWrapper; first | (rw [if_pos (by decide +kernel)]; kernel_rfl) | (rw [if_neg (by decide +kernel)]; exact ⟨rfl, rfl⟩))
    (fun os started H enc _ => lifted os started H enc)

theorem proved : Rows.FnExactFindSaid := over
#print axioms proved
end Go.Proofs.Ytdnijpehlahdnaa.fnExactFind
