/- Contracts: bufio.Reader.Read over a section of a text: at its end, and with all of it ahead. -/
import Derived.Test.YtfagjhgmmaebfaaGreatDoorBuf
import Derived.Test.YtfagjhgmmaebfaaGreatDoorBlk
namespace Go.Proofs.YtfagjhgmmaebfaaGreatDoor
open Go.RowKit
/-- A section of a text: how far it has been read. -/
structure SectAt (w : World) (sb rb : Nat) (s : List UInt8) (p : Nat) : Prop where
  rd : w.cell? ⟨sb, 0, none⟩ = some (.iface 54 (.pointer (some ⟨rb, 0, none⟩)))
  off : w.cell? ⟨sb, 2, none⟩ = some (.int .i64 p)
  lim : w.cell? ⟨sb, 3, none⟩ = some (.int .i64 s.length)
  fs : w.frozen? ⟨sb, 2, none⟩ = false
  str : w.cell? ⟨rb, 0, none⟩ = some (.string ⟨s.toArray⟩)
theorem method_ReadS (a : Addr) (w : World) : (method 307 94 (.pointer (some a)) "Read").run Tryz.prog w = .ok (119, .pointer (some a)) w := by kernel_rfl
set_option maxHeartbeats 400000 in
theorem readErr_any (bb : Nat) (v : Value) (w : World) (h : w.cell? ⟨bb, 4, none⟩ = some v) (hf : w.frozen? ⟨bb, 4, none⟩ = false) :
    Calls Tryz.prog 126 #[.pointer (some ⟨bb, 0, none⟩)] w fun e w' => e = .returned v ∧ w' = w.setCell ⟨bb, 4, none⟩ .nilIface := by
  go_enter Tryz.func126, Tryz.ntmps126
  go_wp2
  go_ret
  exact ⟨rfl, rfl⟩
set_option maxRecDepth 100000 in
set_option maxHeartbeats 2000000 in
theorem Buf_read_end (bb gb sb rb r n c : Nat) (hn : 0 < n) (hn2 : n < 4096) (s : List UInt8) (p : Nat) (hp : s.length ≤ p) (A : Addr) (ea : Addr) (w : World) (hB : BufAt w bb gb sb r r) (hS : SectAt w sb rb s p) (hbs : bb ≠ sb) (hbr : bb ≠ rb) (hbe : bb ≠ 5)
    (hE : w.cell? ⟨5, 0, none⟩ = some (.iface 99 (.pointer (some ea)))) :
    Calls Tryz.prog 123 #[.pointer (some ⟨bb, 0, none⟩), .slice (some A) n c] w fun e w' => e = .returned (.tuple #[.int .i64 0, (.iface 99 (.pointer (some ea)))]) ∧ BufAt w' bb gb sb 0 0 ∧ Kept [bb] w w' := by
  have hm := method_ReadS
  obtain ⟨b0, b1, b2, b3, b4, ⟨v5, b5⟩, ⟨v6, b6⟩, hfb, hth, hfg, hne⟩ := hB
  obtain ⟨s0, s2, s3, fs, str⟩ := hS
  go_enter Tryz.func123, Tryz.ntmps123
  go_wp2
  go_quiet (fail)
  go_wp2
  go_region_with (go_at_call 119; refine (Sect_read_end sb p s.length (by omega) (.slice (some ⟨gb, 0, none⟩) 4096 4096) (.iface 99 (.pointer (some ea))) _ (by simp [go_sem, s2]) (by simp [go_sem, s3]) (by simp [go_sem, hE])).mono ?_; rintro e w1 ⟨rfl, k1, rfl⟩)
  all_goals (go_wp2_with (go_at_call 126; refine (readErr_any bb (.iface 99 (.pointer (some ea))) _ (by simp [go_sem, b4]) (by simp [World.frozen?_setCell, hfb])).mono ?_; rintro e w2 ⟨rfl, rfl⟩))
  all_goals go_ret2
  all_goals
    refine ⟨rfl, ⟨?_, ?_, ?_, ?_, ?_, ?_, ?_, ?_, ?_, ?_, hne⟩, ?_⟩
    · simp [go_sem, b0]
    · simp [go_sem, b1]
    · simp [go_sem, b2]
    · simp [go_sem, b3]
    · refine World.cell?_setCell_same (u := .iface 99 (.pointer (some ea))) (h := ?_) ..
      simp [go_sem, b4]
    · exact ⟨v5, by simp [go_sem, b5]⟩
    · exact ⟨v6, by simp [go_sem, b6]⟩
    · intro i; simp [World.frozen?_setCell, hfb]
    · intro j hj
      have := hth j hj
      simpa [go_sem, hne] using this
    · intro j; simp [World.frozen?_setCell, hfg]
    · exact ((((((Kept.refl [bb] w).drewN _).setCell (by simp) _).setCell (by simp) _).drewN _).setCell (by simp) _).setCell (by simp) _
end Go.Proofs.YtfagjhgmmaebfaaGreatDoor
