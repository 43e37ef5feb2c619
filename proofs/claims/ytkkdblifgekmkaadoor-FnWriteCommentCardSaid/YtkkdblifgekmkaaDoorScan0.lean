/- Words for spec.Scan; the closure of central. -/
import Derived.Test.YtkkdblifgekmkaaDoorNum
import Derived.Test.YtkkdblifgekmkaaDoorArch
import Derived.StillTailTactics
import Derived.Deep.QuietTactic
import Derived.BigQuiet
import Derived.Deep.RegionHeld3
import Derived.Outline
import Derived.Deep.CutRange
import Derived.Deep.CutBlock
namespace Go.Proofs.YtkkdblifgekmkaaDoor
open Go.RowKit
theorem ext_sub (l : List UInt8) (a n : Nat) : (ByteArray.mk l.toArray).extract a (a + n) = ⟨(sub l a n).toArray⟩ := by
  rw [Lib.extract_eq, show a + n - a = n by omega]
  rfl
theorem sub_length {l : List UInt8} {a n : Nat} (h : a + n ≤ l.length) : (sub l a n).length = n := by
  unfold sub; rw [List.length_take, List.length_drop]; omega
theorem sub_le (l : List UInt8) (a n : Nat) : (sub l a n).length ≤ n := by
  unfold sub; rw [List.length_take]; omega
/-- The closure of central: the number from at + i to at + j. -/
theorem f_any {w : World} {sb ab at_ : Nat} {l : List UInt8} (i n : Nat) (zi zj : Int) (hi : zi = (i : Int)) (hj : zj = ((i + n : Nat) : Int)) (h6 : n ≤ 6) (hi2 : i ≤ 100) (hs : w.cell? ⟨sb, 0, none⟩ = some (.string ⟨l.toArray⟩)) (ha : w.cell? ⟨ab, 0, none⟩ = some (.int .i64 at_)) (hb : at_ + (i + n) ≤ l.length) (hl : l.length ≤ 4611686018427387904) :
    Calls Tryd.prog 56 #[.int .i64 zi, .int .i64 zj, .pointer (some ⟨sb, 0, none⟩), .pointer (some ⟨ab, 0, none⟩)] w fun e w' => e = .returned (.int .i64 (numL (sub l (at_ + i) n))) ∧ w = w' := by
  subst hi
  subst hj
  have hsz : (ByteArray.mk l.toArray).size = l.length := rfl
  have hx := ext_sub l (at_ + i) n
  have HN := Lib.hid (Number_any (sub l (at_ + i) n) (Nat.le_trans (sub_le _ _ _) h6))
  rw [Nat.add_assoc] at hx
  go_enter Tryd.func56, Tryd.ntmps56
  go_wp2_with fail
  refine (HN.out _).mono ?_
  rintro e w' ⟨rfl, rfl⟩
  go_wp2
  go_ret
  exact ⟨rfl, rfl⟩
theorem f_is {w : World} {sb ab at_ : Nat} {l : List UInt8} (i n : Nat) (zi zj : Int) (hi : zi = (i : Int)) (hj : zj = ((i + n : Nat) : Int)) (h6 : n ≤ 6) (hi2 : i ≤ 100) (hs : w.cell? ⟨sb, 0, none⟩ = some (.string ⟨l.toArray⟩)) (ha : w.cell? ⟨ab, 0, none⟩ = some (.int .i64 at_)) (hb : at_ + (i + n) ≤ l.length) (hl : l.length ≤ 4611686018427387904) (v : Nat) (hv : numL (sub l (at_ + i) n) = v) :
    Calls Tryd.prog 56 #[.int .i64 zi, .int .i64 zj, .pointer (some ⟨sb, 0, none⟩), .pointer (some ⟨ab, 0, none⟩)] w fun e w' => e = .returned (.int .i64 v) ∧ w = w' :=
  hv ▸ f_any i n zi zj hi hj h6 hi2 hs ha hb hl
theorem At_is {w : World} {b : Bool} (l p : List UInt8) (k : Nat) (h : l.length ≤ 4611686018427387904) (hp : p.length ≤ 65536) (hk : k ≤ 4611686018427387904) (hkp : k ≤ l.length ∨ 0 < p.length) (hb : standsL l p k = b) :
    Calls Tryd.prog 29 #[.string ⟨l.toArray⟩, .int .i64 k, .string ⟨p.toArray⟩] w fun e w' => e = .returned (.bool b) ∧ w = w' := hb ▸ At_any l p k h hp hk hkp w
/-- A record's cells. -/
def recCells (h : Hd) (off : Nat) (data : List UInt8) : List Value :=
  [.string ⟨h.name.toArray⟩, .string ⟨h.comment.toArray⟩, .string ⟨h.extra.toArray⟩, .bool false, .int .i64 h.creator, .int .i64 h.reader, .int .i64 h.flags, .int .i64 h.method, .int .i64 h.time, .int .i64 h.date, .int .i64 h.crc, .int .i64 h.packed, .int .i64 h.size, .int .i64 h.external, .int .i64 off, .string ⟨data.toArray⟩]
def recZ : Array Value := #[.string ⟨#[]⟩, .string ⟨#[]⟩, .string ⟨#[]⟩, .bool false, .int .i64 0, .int .i64 0, .int .i64 0, .int .i64 0, .int .i64 0, .int .i64 0, .int .i64 0, .int .i64 0, .int .i64 0, .int .i64 0, .int .i64 0, .string ⟨#[]⟩]
theorem Blk.newAt (w : World) (t : TypeId) (cs : Array Value) (n : Nat) (h : w.heap.size = n) : Blk (w.alloc (.cells cs t)) n t cs := h ▸ Blk.new w t cs
theorem atX {f : Exit → Act → World → Prop} {e : Exit} {a : Act} {W : World} (S : World → Prop) (hS : S W) (key : ∀ W', S W' → f e a W') : f e a W := key _ hS
end Go.Proofs.YtkkdblifgekmkaaDoor
