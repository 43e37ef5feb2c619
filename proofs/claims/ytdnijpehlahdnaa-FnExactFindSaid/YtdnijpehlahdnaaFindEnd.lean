/- Contracts: slices.Clone of bytes, FindSignature, FindEnd. -/
import Derived.Test.YtdnijpehlahdnaaFind
namespace Go.Proofs.Ytdnijpehlahdnaa
open Go.RowKit

theorem Clone_any (b off c : Nat) (l : List UInt8) (hmax : l.length ≤ 140737488355328) (w : World) (hl : BytesAt w ⟨b, off, none⟩ l) (hb : b < w.heap.size) :
    Calls Try.prog 28 #[.slice (some ⟨b, off, none⟩) l.length c] w fun e w' => (∃ v, e = .returned v ∧ w'.ownsRow w.heap.size 5 1 v l.length (l.map byteV)) ∧ Below w.heap.size w w' := by
  obtain ⟨i0, hi, hz0, hz1, hz2⟩ := info_parts infoU8
  have hnil := fun W => Lib.run_eql_slice_nil (P := Try.prog) W 39 5 (some ⟨b, off, none⟩) l.length c 0 0 Try.underlying39
  have hl2 : BytesAt (w.alloc (.cells #[] 5)) ⟨b, off, none⟩ l := hl.below ((Below.refl _ _).alloc (Nat.le_refl _) _) hb
  go_enter Try.func28, Try.ntmps28
  go_wp2_with (at_builtin; refine wpList_append_own _ rfl _ _ 39 rfl w.heap.size 5 i0 (.int .u8 0) 1 1 Try.underlying39 hi hz0 hz1 hz2 rfl (by decide) _ 0 [] rfl (World.ownsRow_made w #[] 0 (Nat.le_refl _) (by decide) rfl) ⟨b, off, none⟩ l.length c (l.map byteV) rfl (by simp) ?c1 (byteV_one l) ?c3 ?c4 ?c5 ?_)
  case c1 =>
    intro j u hu
    rw [List.getElem?_map] at hu
    by_cases hj : j < l.length
    · rw [List.getElem?_eq_getElem hj] at hu
      simp only [Option.map_some, Option.some.injEq] at hu
      rw [← hu]; exact hl2 j hj
    · rw [List.getElem?_eq_none (by omega)] at hu; cases hu
  case c3 => unfold maxLen; omega
  case c4 => omega
  case c5 => simp
  intro v w1 hown hg _
  try simp only [Nat.zero_add, List.nil_append] at hown
  have hB : Below w.heap.size w w1 := ((Below.refl _ _).alloc (Nat.le_refl _) _).grown hg (by simp) (fun q hq => by
    have : w.heap.size = q := by simpa [Value.ownBlock] using hq
    omega)
  clear hg hl hl2
  go_wp2
  go_ret
  exact ⟨⟨_, rfl, hown⟩, hB⟩

theorem FindSig_any (b off c : Nat) (l : List UInt8) (hmax : l.length ≤ 140737488355328) (w : World) (hl : BytesAt w ⟨b, off, none⟩ l) (hb : b < w.heap.size) :
    Calls Try.prog 18 #[.slice (some ⟨b, off, none⟩) l.length c] w fun e w' => e = .returned (.int .i64 (findL l)) ∧ Below w.heap.size w w' := by
  go_enter Try.func18, Try.ntmps18
  go_wp2_with fail
  refine (Clone_any b off c l hmax _ hl hb).mono ?_
  rintro e w1 ⟨⟨v, rfl, hown⟩, hb1⟩
  have hs1 := hb1.size
  by_cases h22 : l.length < 22
  · have HL : Hid (findL l = -1) := by
      refine Lib.hid ?_
      unfold findL
      rw [show l.length - 21 = 0 by omega]; rfl
    have hv : ∃ A c', v = .slice A l.length c' := by
      rcases hown.2 with ⟨rfl, h0⟩ | ⟨g, cap, cur, rfl, _⟩
      · exact ⟨none, 0, by rw [h0]⟩
      · exact ⟨_, _, rfl⟩
    obtain ⟨A, c', rfl⟩ := hv
    go_wp2_with (go_at_call 27; refine (find_short A l.length c' h22 _).mono ?_; rintro e w' ⟨rfl, rfl⟩)
    go_ret
    exact ⟨by rw [HL.out]; rfl, hb1⟩
  · have hv : ∃ g c', v = .slice (some ⟨g, 0, none⟩) l.length c' := by
      rcases hown.2 with ⟨rfl, h0⟩ | ⟨g, cap, cur, rfl, _⟩
      · omega
      · exact ⟨_, _, rfl⟩
    obtain ⟨g, c', rfl⟩ := hv
    have hl1 := ownsRow_bytes hown
    go_wp2_with (go_at_call 27; refine (find_long g 0 c' l (by omega) hmax _ hl1).mono ?_; rintro e w2 ⟨rfl, hb2⟩)
    go_ret
    exact ⟨rfl, hb1.trans (hb2.mono hs1)⟩

theorem conv_bytes {w : World} {e : TypeId} (l : List UInt8) (c : Nat) (m : Nat × Nat) : BytesAt ((w.alloc (.cells (bytesRow ⟨l.toArray⟩ c) e m)).drew) ⟨w.heap.size, 0, none⟩ l := by
  intro j hj
  rw [Addr.add_lit]
  show (w.alloc (.cells (bytesRow ⟨l.toArray⟩ c) e m)).cell? _ = _
  rw [World.cell?_alloc_mark]
  unfold bytesRow byteV
  rw [show 0 + j = j by omega, Array.getElem?_append_left (by simpa using hj)]
  simp [hj]

theorem FindEnd_any (l : List UInt8) (hmax : l.length ≤ 140737488355328) (w : World) :
    Calls Try.prog 11 #[.string ⟨l.toArray⟩] w fun e w' => e = .returned (.int .i64 (findL l)) ∧ Below w.heap.size w w' := by
  have hcv := run_bytes_of_string (P := Try.prog) w 9 39 5 ⟨l.toArray⟩ Try.underlying9 Try.underlying39 Try.underlying5
  have hsz : (ByteArray.mk l.toArray).size = l.length := rfl
  go_enter Try.func11, Try.ntmps11
  go_wp2_with fail
  refine (FindSig_any _ 0 _ l hmax _ (conv_bytes l _ _) (by simp)).mono ?_
  rintro e w1 ⟨rfl, hb1⟩
  go_wp2
  go_ret
  exact ⟨rfl, (((Below.refl _ _).alloc (Nat.le_refl _) _).drew).trans (hb1.mono (by simp))⟩
end Go.Proofs.Ytdnijpehlahdnaa
