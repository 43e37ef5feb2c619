/- Contract of spec.End. -/
import Derived.Test.YtkkdblifgekmkaaDoorBytes
namespace Go.Proofs.YtkkdblifgekmkaaDoor
open Go.RowKit
theorem cat_mk (a b : List UInt8) : (⟨a.toArray⟩ : ByteArray) ++ ⟨b.toArray⟩ = ⟨(a ++ b).toArray⟩ := by
  apply ByteArray.ext
  simp
/-- The end of an archive. -/
def endL (many size at_ : Nat) (c : List UInt8) : List UInt8 := [80, 75, 5, 6] ++ leB 0 2 ++ leB 0 2 ++ leB many 2 ++ leB many 2 ++ leB size 4 ++ leB at_ 4 ++ leB c.length 2 ++ c

set_option maxHeartbeats 400000 in
theorem End_any (many size at_ : Nat) (c : List UInt8) (h1 : many ≤ 9223372036854775807) (h2 : size ≤ 9223372036854775807) (h3 : at_ ≤ 9223372036854775807) (h4 : c.length ≤ 9223372036854775785) (w : World) :
    Calls Tryd.prog 24 #[.int .i64 many, .int .i64 size, .int .i64 at_, .string ⟨c.toArray⟩] w fun e w' => e = .returned (.string ⟨(endL many size at_ c).toArray⟩) ∧ Below w.heap.size w w' := by
  have hcat := cat_mk
  have hsz : ∀ l : List UInt8, (ByteArray.mk l.toArray).size = l.length := fun _ => rfl
  have hlen := leB_length
  go_enter Tryd.func24, Tryd.ntmps24
  go_wp2_with fail
  refine (Bytes_any 0 2 (by decide) (by decide) _).mono ?_
  rintro e w1 ⟨rfl, hb1⟩
  go_wp2_with fail
  refine (Bytes_any 0 2 (by decide) (by decide) _).mono ?_
  rintro e w2 ⟨rfl, hb2⟩
  go_wp2_with fail
  refine (Bytes_any many 2 h1 (by decide) _).mono ?_
  rintro e w3 ⟨rfl, hb3⟩
  go_wp2_with fail
  refine (Bytes_any many 2 h1 (by decide) _).mono ?_
  rintro e w4 ⟨rfl, hb4⟩
  go_wp2_with fail
  refine (Bytes_any size 4 h2 (by decide) _).mono ?_
  rintro e w5 ⟨rfl, hb5⟩
  go_wp2_with fail
  refine (Bytes_any at_ 4 h3 (by decide) _).mono ?_
  rintro e w6 ⟨rfl, hb6⟩
  go_wp2_with fail
  refine (Bytes_any c.length 2 (by omega) (by decide) _).mono ?_
  rintro e w7 ⟨rfl, hb7⟩
  have s1 := hb1.size
  have s2 := hb2.size
  have s3 := hb3.size
  have s4 := hb4.size
  have s5 := hb5.size
  have s6 := hb6.size
  have hB : Below w.heap.size w w7 := (((((hb1.trans (hb2.mono s1)).trans (hb3.mono (by omega))).trans (hb4.mono (by omega))).trans (hb5.mono (by omega))).trans (hb6.mono (by omega))).trans (hb7.mono (by omega))
  clear hb1 hb2 hb3 hb4 hb5 hb6 hb7 s1 s2 s3 s4 s5 s6
  go_wp2
  go_ret
  exact ⟨by simp [endL], hB⟩
end Go.Proofs.YtkkdblifgekmkaaDoor
