/- Contracts: spec.Turned, spec.Stored. -/
import Derived.Test.YtfagjhgmmaebfaaGreatDoorSpa
import Derived.Test.YtfagjhgmmaebfaaGreatDoorCrcA
import Derived.BigQuiet
namespace Go.Proofs.YtfagjhgmmaebfaaGreatDoor
open Go.RowKit
set_option maxRecDepth 100000 in
set_option maxHeartbeats 1000000 in
theorem Turned_any (l : List UInt8) (p : Nat) (b : UInt8) (hp : p < l.length) (hl : l.length ≤ 4294967295) (w : World) :
    Calls Tryz.prog 8 #[.string ⟨l.toArray⟩, .int .i64 p, .int .u8 (b.toNat : Int)] w fun e w' => e = .returned (.string ⟨(l.set p (l[p] ^^^ b)).toArray⟩) ∧ Below w.heap.size w w' := by
  have hcat := cat_mk
  obtain ⟨x, hx⟩ : ∃ x, x = l[p] ^^^ b := ⟨_, rfl⟩
  have hv : bits .xor .u8 ((l[p].toNat : Nat) : Int) ((b.toNat : Nat) : Int) = ((x.toNat : Nat) : Int) := by
    rw [hx, UInt8.toNat_xor]
    have h1 := l[p].toNat_lt
    have h2 := b.toNat_lt
    have h3 := Nat.xor_lt_two_pow (n := 8) h1 h2
    have e : ∀ n : Nat, n < 256 → (BitVec.ofInt 8 (n : Int)).toNat = n := fun n hn => by simp; omega
    show IntKind.u8.wrap ((BitVec.ofInt 8 ((l[p].toNat : Nat) : Int) ^^^ BitVec.ofInt 8 ((b.toNat : Nat) : Int)).toNat : Int) = _
    rw [BitVec.toNat_xor, e _ h1, e _ h2, IntKind.wrap_u8]
    omega
  obtain ⟨N, hN⟩ : ∃ N, N = l.length := ⟨_, rfl⟩
  obtain ⟨p1, hp1⟩ : ∃ p1, p1 = p + 1 := ⟨_, rfl⟩
  have hsz : (ByteArray.mk l.toArray).size = N := hN.symm
  have hg : ∀ hq, (ByteArray.mk l.toArray)[p]'(hq) = l[p] := fun _ => rfl
  have hw : IntKind.i64.wrap ((p : Int) + 1) = (p1 : Int) := by rw [IntWalk.i64_in _ (by omega)]; omega
  have hex1 : (ByteArray.mk l.toArray).extract 0 p = ⟨(l.take p).toArray⟩ := by rw [Lib.extract_eq]; simp
  have hex2 : (ByteArray.mk l.toArray).extract p1 N = ⟨(l.drop p1).toArray⟩ := by rw [Lib.extract_eq, hN]; simp [List.take_of_length_le]
  have hi0 : (0 : Int) ≤ p := by omega
  have hi1 : (p : Int) < N := by omega
  have hi2 : (p : Int) ≤ N := by omega
  have hi3 : (0 : Int) ≤ p1 := by omega
  have hi4 : (p1 : Int) ≤ N := by omega
  have hj1 : p < N := by omega
  have hj2 : p ≤ N := by omega
  have hj3 : p1 ≤ N := by omega
  have hl1 : (ByteArray.mk (l.take p).toArray).size ≤ 4294967295 := by show (l.take p).length ≤ _; rw [List.length_take]; omega
  have hl2 : (ByteArray.mk (l.drop p1).toArray).size ≤ 4294967295 := by show (l.drop p1).length ≤ _; rw [List.length_drop]; omega
  have hcv : (convert 46 9 (.slice (some ⟨w.heap.size, 0, none⟩) 1 1)).run Tryz.prog (w.alloc (.cells #[.int .u8 (x.toNat : Int)] 5)).drew = .ok (.string ⟨#[x]⟩) (w.alloc (.cells #[.int .u8 (x.toNat : Int)] 5)).drew := by
    have hb : BytesAt (w.alloc (.cells #[.int .u8 (x.toNat : Int)] 5)).drew ⟨w.heap.size, 0, none⟩ [x] := (Blk.new w 5 (([x] : List UInt8).map byteV).toArray).bytes
    exact run_convert_bytes_back _ 46 9 5 ⟨w.heap.size, 0, none⟩ 1 [x] (by kernel_rfl) Tryz.underlying5 Tryz.underlying9 hb
  have hfin : l.set p x = l.take p ++ [x] ++ l.drop p1 := by rw [List.set_eq_take_append_cons_drop, if_pos (by omega), hp1]; simp
  rw [← hx, hfin]
  have HF := Lib.hid hN
  clear hfin hx hN hp1
  go_enter Tryz.func8, Tryz.ntmps8
  go_upto_region 1 with (fail)
  have hs1 : ¬ 9223372036854775807 < min p l.length + 1 := by omega
  have hs2 : ¬ 9223372036854775807 < min p l.length + 1 + (l.length - p1) := by omega
  go_region_with (fail)
  all_goals
    go_wp2
    go_ret
    exact ⟨by rw [List.append_assoc]; rfl, ((Below.refl _ _).alloc (Nat.le_refl _) _).drew⟩
set_option maxHeartbeats 1000000 in
theorem Stored_any (e : En) (hd : e.data.length ≤ 4294967295) (w : World) :
    Calls Tryz.prog 17 #[.agg #[.string ⟨e.name.toArray⟩, .string ⟨e.comment.toArray⟩, .string ⟨e.extra.toArray⟩, .bool e.nu, .int .i64 e.creator, .int .i64 e.reader, .int .i64 e.flags, .int .i64 e.method, .int .i64 e.time, .int .i64 e.date, .int .i64 e.crc, .int .i64 e.packed, .int .i64 e.size, .int .i64 e.external, .string ⟨e.data.toArray⟩]] w fun e' w' => e' = .returned (.agg #[.string ⟨e.name.toArray⟩, .string ⟨e.comment.toArray⟩, .string ⟨e.extra.toArray⟩, .bool e.nu, .int .i64 e.creator, .int .i64 e.reader, .int .i64 e.flags, .int .i64 0, .int .i64 e.time, .int .i64 e.date, .int .i64 (crcOf e.data), .int .i64 e.data.length, .int .i64 e.data.length, .int .i64 e.external, .string ⟨e.data.toArray⟩]) ∧ Below w.heap.size w w' := by
  have hsz : ∀ l : List UInt8, (ByteArray.mk l.toArray).size = l.length := fun _ => rfl
  have HC := CRC_any e.data hd
  go_enter Tryz.func17, Tryz.ntmps17
  go_wp2_with (go_at_call 31; refine (HC _).mono ?_; rintro e' w1 ⟨rfl, rfl⟩)
  refine bodyPost_ret (v := .agg #[.string ⟨e.name.toArray⟩, .string ⟨e.comment.toArray⟩, .string ⟨e.extra.toArray⟩, .bool e.nu, .int .i64 e.creator, .int .i64 e.reader, .int .i64 e.flags, .int .i64 0, .int .i64 e.time, .int .i64 e.date, .int .i64 (crcOf e.data), .int .i64 e.data.length, .int .i64 e.data.length, .int .i64 e.external, .string ⟨e.data.toArray⟩]) (by simp [results, Tryz.results17, go_sem]) rfl ⟨rfl, ((Below.refl _ _).alloc (Nat.le_refl _) _).alloc (by simp) _⟩
end Go.Proofs.YtfagjhgmmaebfaaGreatDoor
