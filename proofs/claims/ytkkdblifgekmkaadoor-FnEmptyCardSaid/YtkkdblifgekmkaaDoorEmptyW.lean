/- The walk of laws.FnEmpty. -/
import Derived.Test.YtkkdblifgekmkaaDoorEmpty
namespace Go.Proofs.YtkkdblifgekmkaaDoor
open Go.RowKit
set_option maxHeartbeats 400000 in
theorem walkEmpty (s : ByteArray) (hs : s.size ≤ maxLen) (w : World) (ea eu ef : Addr) (hE : ErrAt w 6 ea) (hU : ErrAt w 3 eu) (hF : ErrAt w 2 ef) :
    Calls Tryd.prog 3 #[.string s] w fun e w' => e = .returned (.bool true) ∧ Below w.heap.size w w' := by
  unfold maxLen at hs
  by_cases hsz : 2147483647 < s.size
  · clear hE hU hF
    go_enter Tryd.func3, Tryd.ntmps3
    go_wp2
    go_ret
    exact ⟨rfl, Below.refl _ _⟩
  · obtain ⟨⟨c⟩⟩ := s
    have hsz2 : ∀ l : List UInt8, (ByteArray.mk l.toArray).size = l.length := fun _ => rfl
    have hl : c.length ≤ 2147483647 := by have : (ByteArray.mk (Array.mk c)).size = c.length := rfl; omega
    have HE := Lib.hid (And.intro hE (And.intro hU hF))
    clear hs hsz hE hU hF
    by_cases hc : c.length ≤ 65535
    · by_cases h1 : endsL (endL 0 0 0 c) = 1
      · have HG := fun w => Lib.hid (Good_yes c hc h1 w)
        have HA := fun w => Lib.hid (Archive_nil c hc w)
        have H1 := Lib.hid h1
        clear h1
        go_enter Tryd.func3, Tryd.ntmps3
        go_wp2_with fail
        refine (HG _).out.mono ?_
        rintro e w1 ⟨rfl, hb1⟩
        have HB1 := Lib.hid hb1
        clear hb1
        go_wp2_with fail
        refine (HA _).out.mono ?_
        rintro e w2 ⟨rfl, hb2⟩
        have hz1 := HB1.out.size
        have hz2 := hb2.size
        have HB2 := Lib.hid (HB1.out.trans (hb2.mono hz1))
        clear hb2
        go_wp2_with fail
        refine (Read_any (endL 0 0 0 c) c hc rfl H1.out w2 ea eu ef (HE.out.1.below HB2.out HE.out.1.lt.1 HE.out.1.lt.2) (HE.out.2.1.below HB2.out HE.out.2.1.lt.1 HE.out.2.1.lt.2) (HE.out.2.2.below HB2.out HE.out.2.2.lt.1 HE.out.2.2.lt.2)).mono ?_
        rintro e w3 ⟨rfl, hb3⟩
        have hz3 := hb3.size
        have HB3 := Lib.hid (HB2.out.trans (hb3.mono (by omega)))
        clear hb3
        go_wp2_with fail
        refine (Same_nil c _).mono ?_
        rintro e w4 ⟨rfl, hb4⟩
        have HB4 := Lib.hid (HB3.out.trans (hb4.mono (by omega)))
        clear hb4
        go_wp2
        go_ret
        exact ⟨rfl, HB4.out⟩
      · have HG := fun w => Lib.hid (Good_no c hc h1 w)
        clear h1
        go_enter Tryd.func3, Tryd.ntmps3
        go_wp2_with fail
        refine (HG _).out.mono ?_
        rintro e w1 ⟨rfl, hb1⟩
        go_wp2
        go_ret
        exact ⟨rfl, hb1⟩
    · have HG := fun w => Lib.hid (Good_long c hc hl w)
      clear hc
      go_enter Tryd.func3, Tryd.ntmps3
      go_wp2_with fail
      refine (HG _).out.mono ?_
      rintro e w1 ⟨rfl, hb1⟩
      go_wp2
      go_ret
      exact ⟨rfl, hb1⟩
end Go.Proofs.YtkkdblifgekmkaaDoor
