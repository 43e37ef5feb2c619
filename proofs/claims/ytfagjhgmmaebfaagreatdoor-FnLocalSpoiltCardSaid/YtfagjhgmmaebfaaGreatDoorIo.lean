/- Contracts: strings.NewReader, strings.Reader.ReadAt. -/
import Derived.Test.YtfagjhgmmaebfaaGreatDoorEnd
import Derived.Laws.IdiomCopy
import Derived.Deep.MidRow
import Derived.Deep.QuietTactic
import Derived.BigQuiet
import Derived.Deep.RegionWith
import Derived.Test.YtfagjhgmmaebfaaGreatDoorBlk
namespace Go.Proofs.YtfagjhgmmaebfaaGreatDoor
open Go.RowKit

/-- 'copy(dst, s)', s a string: as many bytes as both have go over. -/
theorem run_copy_string_min {P : Program} (w : World) (dT sT ty elem : TypeId) (b o dLen dCap : Nat) (t : List UInt8)
    (hu : P.underlying dT = some (.slice elem)) (hs : (P.info? elem).map (·.size) = some 1)
    (hc : ∀ j, j < dLen → (w.cell? ⟨b, o + j, none⟩).isSome = true) (hf : ∀ j, j < dLen → w.frozen? ⟨b, o + j, none⟩ = false) (hle : dLen ≤ t.length) :
    (Builtin.copy_ #[dT, sT] ty #[.slice (some ⟨b, o, none⟩) dLen dCap, .string ⟨t.toArray⟩]).run P w = .ok (goInt dLen) (w.setCells b o ((t.take dLen).map byteV)) := by
  have hmin : Nat.min (ByteArray.mk t.toArray).size dLen = dLen := Nat.min_eq_right hle
  have hl : ((t.take dLen).map byteV).length = dLen := by rw [List.length_map, List.length_take]; omega
  have hst := run_storeCells_cells (P := P) b o ((t.take dLen).map byteV) 0 w (by rw [hl]; simpa using hc) (by rw [hl]; simpa using hf) (byteV_one _)
  have htk : List.take dLen (List.map (fun x : UInt8 => Value.int IntKind.u8 (x.toNat : Int)) t) = (t.take dLen).map byteV := by
    rw [List.map_take]; rfl
  cases hq : P.info? elem with
  | none => simp [hq] at hs
  | some i =>
    simp [Builtin.copy_, run_underlying hu, Builtin.lenOf, Builtin.firstCells, sizeOf, typeInfo, hq, hmin]
    rw [htk, hst]
    simp [Result.andThen]

theorem drew_two (w : World) (a b : Nat) : ∃ k, (w.drewN a).drewN b = w.drewN k := ⟨a + b, by simp⟩
theorem method_ReadAt (a : Addr) (w : World) : (method 307 54 (.pointer (some a)) "ReadAt").run Tryz.prog w = .ok (114, .pointer (some a)) w := by kernel_rfl
set_option maxHeartbeats 400000 in
theorem ReadAt_str (rb : Nat) (s : List UInt8) (g o n c off : Nat) (w : World) (_hs : s.length ≤ 4294967295)
    (h0 : w.cell? ⟨rb, 0, none⟩ = some (.string ⟨s.toArray⟩)) (hoff : off < s.length) (hfit : off + n ≤ s.length)
    (hc : ∀ j, j < n → (w.cell? ⟨g, o + j, none⟩).isSome = true) (hf : ∀ j, j < n → w.frozen? ⟨g, o + j, none⟩ = false) :
    Calls Tryz.prog 114 #[.pointer (some ⟨rb, 0, none⟩), .slice (some ⟨g, o, none⟩) n c, .int .i64 off] w fun e w' =>
      e = .returned (.tuple #[.int .i64 n, .nilIface]) ∧ w' = w.setCells g o (((s.drop off).take n).map byteV) := by
  have hsz : ∀ l : List UInt8, (ByteArray.mk l.toArray).size = l.length := fun _ => rfl
  have hex : (ByteArray.mk s.toArray).extract off s.length = ⟨(s.drop off).toArray⟩ := by
    rw [Lib.extract_eq]; simp [List.take_of_length_le]
  have hcp := fun (W : World) (ty : TypeId) (H : W = w) => run_copy_string_min (P := Tryz.prog) w 46 9 ty 5 g o n c (s.drop off) Tryz.underlying46 (by kernel_rfl) hc hf (by rw [List.length_drop]; omega)
  go_enter Tryz.func114, Tryz.ntmps114
  go_wp2
  go_ret2
  exact ⟨rfl, by simp [List.map_take, List.map_drop]⟩

set_option maxHeartbeats 400000 in
theorem StrReader_new (s : List UInt8) (w : World) :
    Calls Tryz.prog 23 #[.string ⟨s.toArray⟩] w fun e w' => e = .returned (.pointer (some ⟨w.heap.size, 0, none⟩)) ∧ w' = w.alloc (.cells #[.string ⟨s.toArray⟩, .int .i64 0, .int .i64 (-1)] 89) := by
  go_enter Tryz.func23, Tryz.ntmps23
  go_wp2
  go_ret
  exact ⟨rfl, rfl⟩
set_option maxHeartbeats 400000 in
theorem Sect_new (rb n : Nat) (hn : n ≤ 4294967295) (w : World) :
    Calls Tryz.prog 40 #[.iface 54 (.pointer (some ⟨rb, 0, none⟩)), .int .i64 0, .int .i64 n] w fun e w' => e = .returned (.pointer (some ⟨w.heap.size, 0, none⟩)) ∧ w' = w.alloc (.cells #[.iface 54 (.pointer (some ⟨rb, 0, none⟩)), .int .i64 0, .int .i64 0, .int .i64 n, .int .i64 n] 117) := by
  go_enter Tryz.func40, Tryz.ntmps40
  go_wp2
  go_ret
  exact ⟨rfl, rfl⟩
set_option maxHeartbeats 400000 in
theorem Sect_seek (sb : Nat) (w : World) (h1 : w.cell? ⟨sb, 1, none⟩ = some (.int .i64 0)) (h2 : w.cell? ⟨sb, 2, none⟩ = some (.int .i64 0)) (hf : w.frozen? ⟨sb, 2, none⟩ = false) :
    Calls Tryz.prog 42 #[.pointer (some ⟨sb, 0, none⟩), .int .i64 0, .int .i64 0] w fun e w' => e = .returned (.tuple #[.int .i64 0, .nilIface]) ∧ w' = w.setCell ⟨sb, 2, none⟩ (.int .i64 0) := by
  go_enter Tryz.func42, Tryz.ntmps42
  go_wp2
  go_ret2
  exact ⟨rfl, rfl⟩
set_option maxHeartbeats 400000 in
theorem Sect_read_end (sb : Nat) (p L : Int) (hp : L ≤ p) (v E : Value) (w : World) (h2 : w.cell? ⟨sb, 2, none⟩ = some (.int .i64 p)) (h3 : w.cell? ⟨sb, 3, none⟩ = some (.int .i64 L)) (hE : w.cell? ⟨5, 0, none⟩ = some E) :
    Calls Tryz.prog 119 #[.pointer (some ⟨sb, 0, none⟩), v] w fun e w' => e = .returned (.tuple #[.int .i64 0, E]) ∧ ∃ k, w' = w.drewN k := by
  go_enter Tryz.func119, Tryz.ntmps119
  go_wp2
  go_quiet (fail)
  go_wp2
  go_quiet (fail)
  go_wp2
  go_ret2
  exact ⟨rfl, drew_two _ _ _⟩
set_option maxRecDepth 100000 in
set_option maxHeartbeats 400000 in
theorem Sect_read_some (sb rb : Nat) (s : List UInt8) (L p g o n c : Nat) (hs : s.length ≤ 4294967295) (hL : L ≤ s.length) (hp : p < L) (hn : n ≤ c) (hc64 : c ≤ 4294967295) (w : World)
    (h0 : w.cell? ⟨sb, 0, none⟩ = some (.iface 54 (.pointer (some ⟨rb, 0, none⟩)))) (h2 : w.cell? ⟨sb, 2, none⟩ = some (.int .i64 p)) (h3 : w.cell? ⟨sb, 3, none⟩ = some (.int .i64 L)) (hf : w.frozen? ⟨sb, 2, none⟩ = false)
    (hr : w.cell? ⟨rb, 0, none⟩ = some (.string ⟨s.toArray⟩)) (hne : sb ≠ g)
    (hc : ∀ j, j < n → (w.cell? ⟨g, o + j, none⟩).isSome = true) (hfr : ∀ j, j < n → w.frozen? ⟨g, o + j, none⟩ = false) :
    Calls Tryz.prog 119 #[.pointer (some ⟨sb, 0, none⟩), .slice (some ⟨g, o, none⟩) n c] w fun e w' => e = .returned (.tuple #[.int .i64 (min n (L - p) : Nat), .nilIface]) ∧
      ∃ k, w' = ((w.drewN k).setCells g o (((s.drop p).take (min n (L - p))).map byteV)).setCell ⟨sb, 2, none⟩ (.int .i64 ((p + min n (L - p) : Nat))) := by
  have hm := method_ReadAt
  have hC : ∀ (k : Nat) (vs : List Value), ((w.drewN k).setCells g o vs).cell? ⟨sb, 2, none⟩ = some (.int .i64 p) := fun k vs => by
    rw [World.cell?_setCells_out g vs o _ _ (fun e => absurd e hne)]; simpa using h2
  have hF : ∀ (k : Nat) (vs : List Value), ((w.drewN k).setCells g o vs).frozen? ⟨sb, 2, none⟩ = false := fun k vs => by
    rw [World.frozen?_setCells]; simpa using hf
  go_enter Tryz.func119, Tryz.ntmps119
  by_cases hx : L - p < n
  · have hx' : (L : Int) - p < n := by omega
    have hR := fun k => ReadAt_str rb s g o (L - p) c p (w.drewN k) hs (by simpa using hr) (by omega) (by omega) (fun j hj => by simpa using hc j (by omega)) (fun j hj => by simpa using hfr j (by omega))
    go_wp2
    go_quiet (fail)
    go_wp2
    go_quiet (fail)
    go_wp2
    go_region_with (go_at_call 114; refine (hR _).mono ?_; rintro e w1 ⟨rfl, rfl⟩)
    all_goals go_wp2
    all_goals go_ret2
    all_goals (refine ⟨by rw [Nat.min_eq_right (Nat.le_of_lt hx)]; rfl, ?_, ?_⟩; rotate_left; rw [Nat.min_eq_right (Nat.le_of_lt hx), ← List.map_drop, ← List.map_take, Int.natCast_add]; try exact rfl)
  · have hx' : ¬ (L : Int) - p < n := by omega
    have hR := fun k => ReadAt_str rb s g o n c p (w.drewN k) hs (by simpa using hr) (by omega) (by omega) (fun j hj => by simpa using hc j (by omega)) (fun j hj => by simpa using hfr j (by omega))
    go_wp2
    go_quiet (fail)
    go_wp2
    go_quiet (fail)
    go_wp2
    go_region_with (go_at_call 114; refine (hR _).mono ?_; rintro e w1 ⟨rfl, rfl⟩)
    all_goals go_wp2
    all_goals go_ret2
    all_goals (refine ⟨by rw [Nat.min_eq_left (show n ≤ L - p by omega)]; rfl, ?_, ?_⟩; rotate_left; rw [Nat.min_eq_left (show n ≤ L - p by omega), ← List.map_drop, ← List.map_take, Int.natCast_add]; try exact rfl)
end Go.Proofs.YtfagjhgmmaebfaaGreatDoor
/- Contracts: io.NewSectionReader at a place, its Seek. -/
namespace Go.Proofs.YtfagjhgmmaebfaaGreatDoor
open Go.RowKit
set_option maxHeartbeats 400000 in
theorem Sect_newO (rb o n : Nat) (ho : o ≤ 4294967295) (hn : n ≤ 4294967295) (w : World) :
    Calls Tryz.prog 40 #[.iface 54 (.pointer (some ⟨rb, 0, none⟩)), .int .i64 o, .int .i64 n] w fun e w' => e = .returned (.pointer (some ⟨w.heap.size, 0, none⟩)) ∧ w' = w.alloc (.cells #[.iface 54 (.pointer (some ⟨rb, 0, none⟩)), .int .i64 o, .int .i64 o, .int .i64 (o + n : Nat), .int .i64 n] 117) := by
  go_enter Tryz.func40, Tryz.ntmps40
  go_wp2
  go_ret
  exact ⟨rfl, by rw [show ((n : Int) + (o : Int)) = ((o + n : Nat) : Int) by omega]⟩
set_option maxHeartbeats 400000 in
theorem Sect_seekO (sb o : Nat) (v : Value) (w : World) (h1 : w.cell? ⟨sb, 1, none⟩ = some (.int .i64 0)) (h2 : w.cell? ⟨sb, 2, none⟩ = some v) (hf : w.frozen? ⟨sb, 2, none⟩ = false) (ho : o ≤ 4294967295) :
    Calls Tryz.prog 42 #[.pointer (some ⟨sb, 0, none⟩), .int .i64 o, .int .i64 0] w fun e w' => e = .returned (.tuple #[.int .i64 o, .nilIface]) ∧ w' = w.setCell ⟨sb, 2, none⟩ (.int .i64 o) := by
  go_enter Tryz.func42, Tryz.ntmps42
  go_wp2
  go_ret2
  exact ⟨rfl, rfl⟩
end Go.Proofs.YtfagjhgmmaebfaaGreatDoor
