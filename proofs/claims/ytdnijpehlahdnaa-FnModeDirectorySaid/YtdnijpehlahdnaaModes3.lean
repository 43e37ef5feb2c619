/- Contracts: the methods Mode and SetMode of a header, ModeOf and SetMode of the thin package. -/
import Derived.Test.YtdnijpehlahdnaaModes2
import Derived.Deep.QuietTactic
import Derived.BigQuiet
namespace Go.Proofs.Ytdnijpehlahdnaa
open Go.ChangeShapes Go.WideShapes Go.ChangeAt Go.RowKit

/-- Of the attributes alone. -/
def attrV (c x : Int) : Int :=
  if c / 256 == 3 then fsV (x / 65536) else if c / 256 == 19 then fsV (x / 65536) else
  if c / 256 == 11 then dosV x else if c / 256 == 14 then dosV x else if c / 256 == 0 then dosV x else 0


theorem mode_none (b : Nat) (c x : Int) (w : World) (hs : w.cell? ⟨b, 0, none⟩ = some (.string ByteArray.empty)) (hc : w.cell? ⟨b, 3, none⟩ = some (.int .u16 c)) (hx : w.cell? ⟨b, 18, none⟩ = some (.int .u32 x))
    (_c0 : 0 ≤ c) (_x0 : 0 ≤ x) :
    Calls Try.prog 21 #[.pointer (some ⟨b, 0, none⟩)] w fun e w' => e = .returned (.int .u32 (attrV c x)) ∧ Below w.heap.size w w' := by
  go_enter Try.func21, Try.ntmps21
  go_wp2_with (first | (go_at_call 30; refine (fs_any _ _).mono ?_; rintro e w' ⟨rfl, rfl⟩) | (go_at_call 29; refine (dos_any _ _).mono ?_; rintro e w' ⟨rfl, rfl⟩))
  all_goals
    go_quiet (fail)
    go_wp2
    go_ret
    refine ⟨?_, ⟨rfl, rfl, rfl, Nat.le_refl _, fun _ _ => rfl⟩⟩
    simp [attrV, *]
theorem mode_plain (b : Nat) (s : ByteArray) (c x : Int) (w : World) (hs : w.cell? ⟨b, 0, none⟩ = some (.string s)) (hc : w.cell? ⟨b, 3, none⟩ = some (.int .u16 c)) (hx : w.cell? ⟨b, 18, none⟩ = some (.int .u32 x))
    (_c0 : 0 ≤ c) (_x0 : 0 ≤ x) (hpos : 0 < s.size) (hm : s.size ≤ 9223372036854775807) (hl : (((s[s.size - 1]'(by omega)).toNat : Int) == 47) = false) :
    Calls Try.prog 21 #[.pointer (some ⟨b, 0, none⟩)] w fun e w' => e = .returned (.int .u32 (attrV c x)) ∧ Below w.heap.size w w' := by
  have hw : IntKind.i64.wrap (↑s.size - 1) = ((s.size - 1 : Nat) : Int) := by rw [IntWalk.i64_in _ (by omega)]; omega
  have hlt : s.size - 1 < s.size := by omega
  go_enter Try.func21, Try.ntmps21
  go_wp2_with (first | (go_at_call 30; refine (fs_any _ _).mono ?_; rintro e w' ⟨rfl, rfl⟩) | (go_at_call 29; refine (dos_any _ _).mono ?_; rintro e w' ⟨rfl, rfl⟩))
  all_goals
    go_quiet (fail)
    go_wp2
    go_ret
    refine ⟨?_, ⟨rfl, rfl, rfl, Nat.le_refl _, fun _ _ => rfl⟩⟩
    simp [attrV, *]
theorem mode_dir (b : Nat) (s : ByteArray) (c x : Int) (w : World) (hs : w.cell? ⟨b, 0, none⟩ = some (.string s)) (hc : w.cell? ⟨b, 3, none⟩ = some (.int .u16 c)) (hx : w.cell? ⟨b, 18, none⟩ = some (.int .u32 x))
    (_c0 : 0 ≤ c) (_x0 : 0 ≤ x) (hpos : 0 < s.size) (hm : s.size ≤ 9223372036854775807) (hl : (((s[s.size - 1]'(by omega)).toNat : Int) == 47) = true) :
    Calls Try.prog 21 #[.pointer (some ⟨b, 0, none⟩)] w fun e w' => e = .returned (.int .u32 (bits .or .u32 (attrV c x) 2147483648)) ∧ Below w.heap.size w w' := by
  have hw : IntKind.i64.wrap (↑s.size - 1) = ((s.size - 1 : Nat) : Int) := by rw [IntWalk.i64_in _ (by omega)]; omega
  have hlt : s.size - 1 < s.size := by omega
  go_enter Try.func21, Try.ntmps21
  go_wp2_with (first | (go_at_call 30; refine (fs_any _ _).mono ?_; rintro e w' ⟨rfl, rfl⟩) | (go_at_call 29; refine (dos_any _ _).mono ?_; rintro e w' ⟨rfl, rfl⟩))
  all_goals
    go_quiet (fail)
    go_wp2
    go_ret
    refine ⟨?_, ⟨rfl, rfl, rfl, Nat.le_refl _, fun _ _ => rfl⟩⟩
    simp [attrV, *]
end Go.Proofs.Ytdnijpehlahdnaa
