/- Contracts: io.ReadAtLeast, io.ReadFull over a bufio.Reader. -/
import Derived.Test.YtfagjhgmmaebfaaGreatDoorRd3
import Derived.Test.YtfagjhgmmaebfaaGreatDoorErr
import Derived.LoopTactic
namespace Go.Proofs.YtfagjhgmmaebfaaGreatDoor
open Go.RowKit
theorem method_ReadB (a : Addr) (w : World) : (method 307 108 (.pointer (some a)) "Read").run Tryz.prog w = .ok (123, .pointer (some a)) w := by kernel_rfl
theorem ahead_ReadB (a : Addr) (w : World) : (nilAhead 307 108 (.pointer (some a)) "Read").run Tryz.prog w = .ok (some false) w := by kernel_rfl
/-- The reader stands at q of the text. -/
def BR (w : World) (bb gb sb rb : Nat) (s : List UInt8) (L q : Nat) : Prop := ∃ r wr l v5 v6 b0 n0 i0 p0, BufR w bb gb sb rb s L q r wr l v5 v6 b0 n0 i0 p0
theorem BR.kept {w w' : World} {bb gb sb rb : Nat} {s : List UInt8} {L q : Nat} {S : List Nat} (h : BR w bb gb sb rb s L q) (k : Kept S w w') (h1 : bb ∉ S) (h2 : gb ∉ S) (h3 : sb ∉ S) (h4 : rb ∉ S) : BR w' bb gb sb rb s L q := by
  obtain ⟨r, wr, l, v5, v6, b0, n0, i0, p0, h⟩ := h
  exact ⟨r, wr, l, v5, v6, b0, n0, i0, p0, h.kept k h1 h2 h3 h4⟩
theorem BR.drewN {w : World} {bb gb sb rb : Nat} {s : List UInt8} {L q : Nat} (h : BR w bb gb sb rb s L q) (n : Nat) : BR (w.drewN n) bb gb sb rb s L q := h.kept ((Kept.refl [] w).drewN n) (by simp) (by simp) (by simp) (by simp)
theorem BR.drew {w : World} {bb gb sb rb : Nat} {s : List UInt8} {L q : Nat} (h : BR w bb gb sb rb s L q) : BR w.drew bb gb sb rb s L q := h.drewN 1
/-- What Read is to leave. -/
def ReadSome (w w' : World) (e : Ending) (bb gb sb rb : Nat) (s : List UInt8) (L q g o n tg : Nat) (cs : Array Value) : Prop :=
  ∃ k : Nat, 0 < k ∧ k ≤ n ∧ q + k ≤ L ∧ e = .returned (.tuple #[.int .i64 k, .nilIface]) ∧ BR w' bb gb sb rb s L (q + k) ∧ Blk w' g tg (putAll cs o (((s.drop q).take k).map byteV)) ∧ Kept [bb, gb, sb, g] w w'
theorem Buf_read {w : World} {bb gb sb rb : Nat} {s : List UInt8} {L q : Nat} (h : BR w bb gb sb rb s L q) (hq : q < L) (g o n c tg : Nat) (cs : Array Value) (hn : 0 < n) (hn2 : n < 4096) (hd : Blk w g tg cs) (ho : o + n ≤ cs.size) (hg : g ∉ [bb, gb, sb, rb]) :
    Calls Tryz.prog 123 #[.pointer (some ⟨bb, 0, none⟩), .slice (some ⟨g, o, none⟩) n c] w fun e w' => ReadSome w w' e bb gb sb rb s L q g o n tg cs := by
  obtain ⟨r, wr, l, v5, v6, b0, n0, i0, p0, h⟩ := h
  simp only [List.mem_cons, List.not_mem_nil, or_false, not_or] at hg
  obtain ⟨hg1, hg2, hg3, hg4⟩ := hg
  by_cases hr : r < wr
  · refine (Buf_copy bb gb sb rb s L q r wr l v5 v6 b0 n0 i0 p0 w h hr g o n c tg cs hn (by omega) hd ho hg1 hg2 hg3 hg4).mono ?_
    rintro e w' ⟨rfl, ⟨v, hb⟩, hd', hk⟩
    refine ⟨min n (wr - r), by omega, by omega, ?_, rfl, ⟨_, _, _, _, _, _, _, _, _, hb⟩, hd', hk.mono (fun x hx => .inl (by simp at hx ⊢; omega))⟩
    have := h.fit
    omega
  · obtain rfl : r = wr := by have := h.le; omega
    refine (Buf_fill bb gb sb rb s L q r l v5 v6 b0 n0 i0 p0 w h hq g o n c tg cs hn hn2 hd ho hg1 hg2 hg3 hg4).mono ?_
    rintro e w' ⟨rfl, ⟨l', v, hb⟩, hd', hk⟩
    exact ⟨min n (min 4096 (L - q)), by omega, by omega, by omega, rfl, ⟨_, _, _, _, _, _, _, _, _, hb⟩, hd', hk⟩
/-- At the end of the text. -/
theorem Buf_end {w : World} {bb gb sb rb : Nat} {s : List UInt8} (h : BR w bb gb sb rb s s.length s.length) (n c : Nat) (A : Addr) (hn : 0 < n) (hn2 : n < 4096) (ea : Addr) (hbe : bb ≠ 5) (hE : w.cell? ⟨5, 0, none⟩ = some (.iface 99 (.pointer (some ea)))) :
    Calls Tryz.prog 123 #[.pointer (some ⟨bb, 0, none⟩), .slice (some A) n c] w fun e w' => e = .returned (.tuple #[.int .i64 0, (.iface 99 (.pointer (some ea)))]) ∧ Kept [bb] w w' := by
  obtain ⟨r, wr, l, v5, v6, b0, n0, i0, p0, h⟩ := h
  obtain rfl : r = wr := by have := h.le; have := h.fit; omega
  have hB : BufAt w bb gb sb r r := ⟨h.buf.cell 0, h.buf.cell 1, h.buf.cell 2, h.buf.cell 3, h.buf.cell 4, ⟨_, h.buf.cell 5⟩, ⟨_, h.buf.cell 6⟩, h.buf.frozen, fun j hj => by rw [h.row.cell]; simp [h.len, hj], h.row.frozen, h.buf.ne_ h.row (by decide)⟩
  have hS : SectAt w sb rb s s.length := ⟨h.sec.cell 0, by have := h.sec.cell 2; simpa using this, h.sec.cell 3, h.sec.frozen 2, h.str.cell 0⟩
  exact (Buf_read_end bb gb sb rb r n c hn hn2 s s.length (Nat.le_refl _) A ea w hB hS (h.buf.ne_ h.sec (by decide)) (h.buf.ne_ h.str (by decide)) hbe hE).mono fun e w' h => ⟨h.1, h.2.2⟩
theorem BR.hL {w : World} {bb gb sb rb : Nat} {s : List UInt8} {L q : Nat} (h : BR w bb gb sb rb s L q) : L ≤ s.length := by
  obtain ⟨r, wr, l, v5, v6, b0, n0, i0, p0, h⟩ := h
  exact h.hL
theorem put_more {cs : Array Value} {o q d k L : Nat} {s : List UInt8} (hL : L ≤ s.length) (h : q + d ≤ L) :
    putAll (putAll cs o (((s.drop q).take d).map byteV)) (o + d) (((s.drop (q + d)).take k).map byteV) = putAll cs o (((s.drop q).take (d + k)).map byteV) := by
  have e : (((s.drop q).take d).map byteV).length = d := by rw [List.length_map, List.length_take, List.length_drop]; omega
  rw [List.take_add, List.map_append, putAll_append, e, List.drop_drop]
set_option maxRecDepth 100000 in
set_option maxHeartbeats 2000000 in
theorem ReadAtLeast_full {w : World} {bb gb sb rb : Nat} {s : List UInt8} {L q : Nat} (h : BR w bb gb sb rb s L q) (g o n c tg : Nat) (cs : Array Value) (hq : q + n ≤ L) (hn : 0 < n) (hn2 : n < 4096) (hnc : n ≤ c) (hd : Blk w g tg cs) (ho : o + n ≤ cs.size) (hg : g ∉ [bb, gb, sb, rb]) :
    Calls Tryz.prog 70 #[.iface 108 (.pointer (some ⟨bb, 0, none⟩)), .slice (some ⟨g, o, none⟩) n c, .int .i64 n] w fun e w' => e = .returned (.tuple #[.int .i64 n, .nilIface]) ∧ BR w' bb gb sb rb s L (q + n) ∧ Blk w' g tg (putAll cs o (((s.drop q).take n).map byteV)) ∧ Kept [bb, gb, sb, g] w w' := by
  have hm := method_ReadB
  have hma := ahead_ReadB
  have hLs := Lib.hid h.hL
  have H := Lib.hid h
  have HD := Lib.hid hd
  clear h hd
  go_enter Tryz.func70, Tryz.ntmps70
  go_wp2
  go_loopw [6, 7, 8] (fun c6 c7 _ W => ∃ d : Nat, d ≤ n ∧ c6 = .int .i64 d ∧ c7 = .nilIface ∧ Hid (BR W bb gb sb rb s L (q + d)) ∧ Hid (Blk W g tg (putAll cs o (((s.drop q).take d).map byteV))) ∧ Hid (Kept [bb, gb, sb, g] w W)) (fun c6 _ _ _ => n - (intOf c6).toNat)
  case atStart => exact ⟨0, Nat.zero_le _, rfl, rfl, H, HD, Lib.hid (Kept.refl _ _)⟩
  case round =>
    obtain ⟨d, hd, rfl, rfl, HB, HD1, HK⟩ := hrel
    by_cases hlt : d < n
    · have hlt' : (d : Int) < n := by omega
      have hcd : ¬ c = d := by omega
      have hR := Lib.hid (Buf_read HB.out.drew (by omega) g (o + d) (n - d) (c - d) tg _ (by omega) (by omega) HD1.out.drew (by rw [putAll_size]; omega) hg)
      go_wp2
      go_region_with (go_at_call 123; refine hR.out.mono ?_; rintro e w1 ⟨k, hk0, hk1, hk2, rfl, hB1, hD1, hK1⟩; have HB1 := Lib.hid hB1; have HD2 := Lib.hid hD1; have HK1 := Lib.hid hK1; clear hB1 hD1 hK1)
      all_goals go_wp2
      all_goals go_roundw
      case rel =>
        refine ⟨d + k, by omega, by go_num, rfl, ?_, ?_, ?_⟩
        · exact Lib.hid (by have := HB1.out; rwa [Nat.add_assoc] at this)
        · exact Lib.hid (Blk.cast HD2.out (put_more hLs.out (by omega)))
        · exact Lib.hid (HK.out.drew.trans HK1.out)
      case measure => simp [intOf]; omega
    · obtain rfl : d = n := by omega
      go_wp2
      go_ret2
      exact ⟨rfl, HB.out, HD1.out, HK.out⟩
set_option maxRecDepth 100000 in
set_option maxHeartbeats 2000000 in
theorem ReadAtLeast_short {w : World} {bb gb sb rb : Nat} {s : List UInt8} {q : Nat} (h : BR w bb gb sb rb s s.length q) (g o n c tg : Nat) (cs : Array Value) (hq : s.length < q + n) (hq2 : q < s.length) (hn2 : n < 4096) (hnc : n ≤ c) (hd : Blk w g tg cs) (ho : o + n ≤ cs.size) (hg : g ∉ [bb, gb, sb, rb])
    (ea eu : Addr) (hE : ErrAt w 5 ea) (hU : ErrAt w 4 eu) (hge : ∀ x ∈ [bb, gb, sb, g], 5 < x) (hgu : ∀ x ∈ [bb, gb, sb, g], 4 < x) :
    Calls Tryz.prog 70 #[.iface 108 (.pointer (some ⟨bb, 0, none⟩)), .slice (some ⟨g, o, none⟩) n c, .int .i64 n] w fun e w' => e = .returned (.tuple #[.int .i64 (s.length - q : Nat), .iface 99 (.pointer (some eu))]) ∧ Kept [bb, gb, sb, g] w w' := by
  have hm := method_ReadB
  have hma := ahead_ReadB
  have heq := eql_err ea
  have hEc := Lib.hid (And.intro hE.1 hE.lt.1)
  have hUc := Lib.hid (And.intro hU.1 hU.lt.1)
  have H := Lib.hid h
  have HD := Lib.hid hd
  have hg1 : 5 ∉ [bb, gb, sb, g] := fun hx => Nat.lt_irrefl _ (hge _ hx)
  have hg2 : 4 ∉ [bb, gb, sb, g] := fun hx => Nat.lt_irrefl _ (hgu _ hx)
  have hb1 : 5 < bb := hge bb (by simp)
  have hb2 : 4 < bb := hgu bb (by simp)
  have hbe : bb ≠ 5 := by omega
  clear hge hgu
  clear h hd hE hU
  go_enter Tryz.func70, Tryz.ntmps70
  go_wp2
  go_loopw [6, 7, 8] (fun c6 c7 _ W => ∃ d : Nat, d < n ∧ c6 = .int .i64 d ∧ ((c7 = .nilIface ∧ q + d ≤ s.length ∧ Hid (BR W bb gb sb rb s s.length (q + d)) ∧ Hid (Blk W g tg (putAll cs o (((s.drop q).take d).map byteV))) ∧ Hid (Kept [bb, gb, sb, g] w W)) ∨
      (c7 = .iface 99 (.pointer (some ea)) ∧ q + d = s.length ∧ W.cell? ⟨5, 0, none⟩ = some (.iface 99 (.pointer (some ea))) ∧ W.cell? ⟨4, 0, none⟩ = some (.iface 99 (.pointer (some eu))) ∧ Hid (Kept [bb, gb, sb, g] w W))))
    (fun c6 c7 _ _ => (n - (intOf c6).toNat) * 2 + (match c7 with | .nilIface => 1 | _ => 0))
  case atStart => exact ⟨0, by omega, rfl, .inl ⟨rfl, by omega, H, HD, Lib.hid (Kept.refl _ _)⟩⟩
  case round =>
    obtain ⟨d, hd, rfl, h⟩ := hrel
    have hlt' : (d : Int) < n := by omega
    rcases h with ⟨rfl, hqd, HB, HD1, HK⟩ | ⟨rfl, hqd, cE, cU, HK⟩
    · have hcd : ¬ c = d := by omega
      by_cases hx : q + d < s.length
      · have hR := Lib.hid (Buf_read HB.out.drew hx g (o + d) (n - d) (c - d) tg _ (by omega) (by omega) HD1.out.drew (by rw [putAll_size]; omega) hg)
        go_wp2
        go_region_with (go_at_call 123; refine hR.out.mono ?_; rintro e w1 ⟨k, hk0, hk1, hk2, rfl, hB1, hD1, hK1⟩; have HB1 := Lib.hid hB1; have HD2 := Lib.hid hD1; have HK1 := Lib.hid hK1; clear hB1 hD1 hK1)
        all_goals go_wp2
        all_goals
         go_roundw
         case rel =>
          refine ⟨d + k, by omega, by go_num, .inl ⟨rfl, by omega, ?_, ?_, ?_⟩⟩
          · exact Lib.hid (by have := HB1.out; rwa [Nat.add_assoc] at this)
          · exact Lib.hid (Blk.cast HD2.out (put_more (Nat.le_refl _) (by omega)))
          · exact Lib.hid (HK.out.drew.trans HK1.out)
         case measure => simp [intOf]; omega
      · have hqe : q + d = s.length := by omega
        have hR := Lib.hid (Buf_end (by have := HB.out.drew; rwa [hqe] at this) (n - d) (c - d) ⟨g, o + d, none⟩ (by omega) (by omega) ea hbe (by rw [World.cell?_drew, HK.out.cell hEc.out.2 hg1]; exact hEc.out.1))
        have cU : wr.cell? ⟨4, 0, none⟩ = some (.iface 99 (.pointer (some eu))) := by rw [HK.out.cell hUc.out.2 hg2]; exact hUc.out.1
        have cE : wr.cell? ⟨5, 0, none⟩ = some (.iface 99 (.pointer (some ea))) := by rw [HK.out.cell hEc.out.2 hg1]; exact hEc.out.1
        go_wp2
        go_region_with (go_at_call 123; refine hR.out.mono ?_; rintro e w1 ⟨rfl, hB1⟩; have HB1 := Lib.hid hB1; clear hB1)
        all_goals go_wp2
        all_goals
         go_roundw
         case rel =>
          refine ⟨d, by omega, rfl, .inr ⟨rfl, hqe, ?_, ?_, ?_⟩⟩
          · exact (HB1.out.cell (p := ⟨5, 0, none⟩) (Nat.lt_of_lt_of_le hEc.out.2 HK.out.size) (by simp; omega)).trans cE
          · exact (HB1.out.cell (p := ⟨4, 0, none⟩) (Nat.lt_of_lt_of_le hUc.out.2 HK.out.size) (by simp; omega)).trans cU
          · exact Lib.hid (HK.out.drew.trans' HB1.out (by simp))
         case measure => simp [intOf]
    · have hd0 : 0 < d := by omega
      have hd1 : 0 < (d : Int) := by omega
      have hd2 : ¬ n ≤ d := by omega
      have HCE := Lib.hid hqd
      clear hqd
      go_wp2
      go_ret2
      exact ⟨by rw [show s.length - q = d by have := HCE.out; omega]; rfl, HK.out⟩
theorem ReadFull_full {w : World} {bb gb sb rb : Nat} {s : List UInt8} {L q : Nat} (h : BR w bb gb sb rb s L q) (g o n c tg : Nat) (cs : Array Value) (hq : q + n ≤ L) (hn : 0 < n) (hn2 : n < 4096) (hnc : n ≤ c) (hd : Blk w g tg cs) (ho : o + n ≤ cs.size) (hg : g ∉ [bb, gb, sb, rb]) :
    Calls Tryz.prog 52 #[.iface 108 (.pointer (some ⟨bb, 0, none⟩)), .slice (some ⟨g, o, none⟩) n c] w fun e w' => e = .returned (.tuple #[.int .i64 n, .nilIface]) ∧ BR w' bb gb sb rb s L (q + n) ∧ Blk w' g tg (putAll cs o (((s.drop q).take n).map byteV)) ∧ Kept [bb, gb, sb, g] w w' := by
  have H := Lib.hid (ReadAtLeast_full h g o n c tg cs hq hn hn2 hnc hd ho hg)
  clear h hd
  go_enter Tryz.func52, Tryz.ntmps52
  go_wp2_with fail
  refine H.out.mono ?_
  rintro e w1 ⟨rfl, hb⟩
  have HB := Lib.hid hb
  clear hb
  go_wp2
  go_ret2
  exact ⟨rfl, HB.out⟩
theorem ReadFull_short {w : World} {bb gb sb rb : Nat} {s : List UInt8} {q : Nat} (h : BR w bb gb sb rb s s.length q) (g o n c tg : Nat) (cs : Array Value) (hq : s.length < q + n) (hq2 : q < s.length) (hn2 : n < 4096) (hnc : n ≤ c) (hd : Blk w g tg cs) (ho : o + n ≤ cs.size) (hg : g ∉ [bb, gb, sb, rb])
    (ea eu : Addr) (hE : ErrAt w 5 ea) (hU : ErrAt w 4 eu) (hge : ∀ x ∈ [bb, gb, sb, g], 5 < x) (hgu : ∀ x ∈ [bb, gb, sb, g], 4 < x) :
    Calls Tryz.prog 52 #[.iface 108 (.pointer (some ⟨bb, 0, none⟩)), .slice (some ⟨g, o, none⟩) n c] w fun e w' => e = .returned (.tuple #[.int .i64 (s.length - q : Nat), .iface 99 (.pointer (some eu))]) ∧ Kept [bb, gb, sb, g] w w' := by
  have H := Lib.hid (ReadAtLeast_short h g o n c tg cs hq hq2 hn2 hnc hd ho hg ea eu hE hU hge hgu)
  clear h hd hE hU hge hgu
  go_enter Tryz.func52, Tryz.ntmps52
  go_wp2_with fail
  refine H.out.mono ?_
  rintro e w1 ⟨rfl, hb⟩
  have HB := Lib.hid hb
  clear hb
  go_wp2
  go_ret2
  exact ⟨rfl, HB.out⟩
end Go.Proofs.YtfagjhgmmaebfaaGreatDoor
