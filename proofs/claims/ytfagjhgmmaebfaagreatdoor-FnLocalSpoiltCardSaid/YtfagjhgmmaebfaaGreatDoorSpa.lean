/- Contracts: spec.fields, spec.Local, spec.Central. -/
import Derived.Test.YtfagjhgmmaebfaaGreatDoorEnt
import Derived.Test.YtfagjhgmmaebfaaGreatDoorEnd
namespace Go.Proofs.YtfagjhgmmaebfaaGreatDoor
open Go.RowKit
theorem fieldsB_length (h : Hd) : (fieldsB h).length = 20 := by simp [fieldsB, leB_length]
theorem BytesN {n k : Nat} (hn : n < 4294967296) (hk : k ≤ 8) (w : World) : Calls Tryz.prog 34 #[.int .i64 n, .int .i64 k] w fun e w' => e = .returned (.string ⟨(leB n k).toArray⟩) ∧ Below w.heap.size w w' := Bytes_any n k (by omega) hk w
set_option maxRecDepth 100000 in
set_option maxHeartbeats 4000000 in
theorem fields_any (h : Hd) (nu : Bool) (hF : h.Fits) (w : World) :
    Calls Tryz.prog 35 #[.agg #[.string ⟨h.name.toArray⟩, .string ⟨h.comment.toArray⟩, .string ⟨h.extra.toArray⟩, .bool nu, .int .i64 h.creator, .int .i64 h.reader, .int .i64 h.flags, .int .i64 h.method, .int .i64 h.time, .int .i64 h.date, .int .i64 h.crc, .int .i64 h.packed, .int .i64 h.size, .int .i64 h.external]] w fun e w' => e = .returned (.string ⟨(fieldsB h).toArray⟩) ∧ Below w.heap.size w w' := by
  have hcat := cat_mk
  have hsz : ∀ l : List UInt8, (ByteArray.mk l.toArray).size = l.length := fun _ => rfl
  have hlen := leB_length
  have f1 := hF.name; have f2 := hF.comment; have f3 := hF.extra; have f4 := hF.creator; have f5 := hF.reader; have f6 := hF.flags; have f7 := hF.method; have f8 := hF.time; have f9 := hF.date; have f10 := hF.crc; have f11 := hF.packed; have f12 := hF.size; have f13 := hF.external
  have B_flags := Lib.hid (show ∀ w, Calls Tryz.prog 34 #[.int .i64 (h.flags : Nat), .int .i64 2] w fun e w' => e = .returned (.string ⟨(leB (h.flags) 2).toArray⟩) ∧ Below w.heap.size w w' from fun w => BytesN (n := h.flags) (k := 2) (by omega) (by decide) w)
  have B_method := Lib.hid (show ∀ w, Calls Tryz.prog 34 #[.int .i64 (h.method : Nat), .int .i64 2] w fun e w' => e = .returned (.string ⟨(leB (h.method) 2).toArray⟩) ∧ Below w.heap.size w w' from fun w => BytesN (n := h.method) (k := 2) (by omega) (by decide) w)
  have B_time := Lib.hid (show ∀ w, Calls Tryz.prog 34 #[.int .i64 (h.time : Nat), .int .i64 2] w fun e w' => e = .returned (.string ⟨(leB (h.time) 2).toArray⟩) ∧ Below w.heap.size w w' from fun w => BytesN (n := h.time) (k := 2) (by omega) (by decide) w)
  have B_date := Lib.hid (show ∀ w, Calls Tryz.prog 34 #[.int .i64 (h.date : Nat), .int .i64 2] w fun e w' => e = .returned (.string ⟨(leB (h.date) 2).toArray⟩) ∧ Below w.heap.size w w' from fun w => BytesN (n := h.date) (k := 2) (by omega) (by decide) w)
  have B_crc := Lib.hid (show ∀ w, Calls Tryz.prog 34 #[.int .i64 (h.crc : Nat), .int .i64 4] w fun e w' => e = .returned (.string ⟨(leB (h.crc) 4).toArray⟩) ∧ Below w.heap.size w w' from fun w => BytesN (n := h.crc) (k := 4) (by omega) (by decide) w)
  have B_packed := Lib.hid (show ∀ w, Calls Tryz.prog 34 #[.int .i64 (h.packed : Nat), .int .i64 4] w fun e w' => e = .returned (.string ⟨(leB (h.packed) 4).toArray⟩) ∧ Below w.heap.size w w' from fun w => BytesN (n := h.packed) (k := 4) (by omega) (by decide) w)
  have B_size := Lib.hid (show ∀ w, Calls Tryz.prog 34 #[.int .i64 (h.size : Nat), .int .i64 4] w fun e w' => e = .returned (.string ⟨(leB (h.size) 4).toArray⟩) ∧ Below w.heap.size w w' from fun w => BytesN (n := h.size) (k := 4) (by omega) (by decide) w)
  clear hF
  go_enter Tryz.func35, Tryz.ntmps35
  go_upto_region 1 with (fail)
  refine atW (fun W => Blk W w.heap.size 39 #[.string ⟨h.name.toArray⟩, .string ⟨h.comment.toArray⟩, .string ⟨h.extra.toArray⟩, .bool nu, .int .i64 h.creator, .int .i64 h.reader, .int .i64 h.flags, .int .i64 h.method, .int .i64 h.time, .int .i64 h.date, .int .i64 h.crc, .int .i64 h.packed, .int .i64 h.size, .int .i64 h.external] ∧ Below w.heap.size w W) ⟨Blk.new _ _ _, (Below.refl _ _).alloc (Nat.le_refl _) _⟩ ?_
  rintro W ⟨hW, hbW⟩
  obtain ⟨g, hg⟩ : ∃ g, g = w.heap.size := ⟨_, rfl⟩
  rw [← hg] at hW ⊢
  have k6 : W.cell? ⟨g, 6, none⟩ = some (.int .i64 h.flags) := hW.cell 6
  have k7 : W.cell? ⟨g, 7, none⟩ = some (.int .i64 h.method) := hW.cell 7
  have k8 : W.cell? ⟨g, 8, none⟩ = some (.int .i64 h.time) := hW.cell 8
  have k9 : W.cell? ⟨g, 9, none⟩ = some (.int .i64 h.date) := hW.cell 9
  have k10 : W.cell? ⟨g, 10, none⟩ = some (.int .i64 h.crc) := hW.cell 10
  have k11 : W.cell? ⟨g, 11, none⟩ = some (.int .i64 h.packed) := hW.cell 11
  have k12 : W.cell? ⟨g, 12, none⟩ = some (.int .i64 h.size) := hW.cell 12
  have HC := Lib.hid hW
  have HB0 := Lib.hid (And.intro hbW hg)
  have HY := Lib.hid ((Below.refl W.heap.size W).drew)
  clear hW hbW hg
  go_region_held3 (fun w' => w'.cell? ⟨g, 6, none⟩ = some (.int .i64 h.flags) ∧ w'.cell? ⟨g, 7, none⟩ = some (.int .i64 h.method) ∧ w'.cell? ⟨g, 8, none⟩ = some (.int .i64 h.time) ∧ w'.cell? ⟨g, 9, none⟩ = some (.int .i64 h.date) ∧ w'.cell? ⟨g, 10, none⟩ = some (.int .i64 h.crc) ∧ w'.cell? ⟨g, 11, none⟩ = some (.int .i64 h.packed) ∧ w'.cell? ⟨g, 12, none⟩ = some (.int .i64 h.size))
    (first
      | exact ⟨k6, k7, k8, k9, k10, k11, k12⟩
      | exact ⟨q6, q7, q8, q9, q10, q11, q12⟩)
    ((
      (first | (go_at_call 34; with_reducible refine (B_flags.out _).mono ?_) | (go_at_call 34; with_reducible refine (B_method.out _).mono ?_) | (go_at_call 34; with_reducible refine (B_time.out _).mono ?_) | (go_at_call 34; with_reducible refine (B_date.out _).mono ?_) | (go_at_call 34; with_reducible refine (B_crc.out _).mono ?_) | (go_at_call 34; with_reducible refine (B_packed.out _).mono ?_) | (go_at_call 34; with_reducible refine (B_size.out _).mono ?_))
      rintro e' w2 ⟨rfl, hx⟩
      have hy := Lib.hid (HY.out.trans (hx.mono HY.out.size))
      clear HY hx
      have HY := hy
      clear hy
      have q6 : w2.cell? ⟨g, 6, none⟩ = some (.int .i64 h.flags) := (HC.out.below HY.out HC.out.lt).cell 6
      have q7 : w2.cell? ⟨g, 7, none⟩ = some (.int .i64 h.method) := (HC.out.below HY.out HC.out.lt).cell 7
      have q8 : w2.cell? ⟨g, 8, none⟩ = some (.int .i64 h.time) := (HC.out.below HY.out HC.out.lt).cell 8
      have q9 : w2.cell? ⟨g, 9, none⟩ = some (.int .i64 h.date) := (HC.out.below HY.out HC.out.lt).cell 9
      have q10 : w2.cell? ⟨g, 10, none⟩ = some (.int .i64 h.crc) := (HC.out.below HY.out HC.out.lt).cell 10
      have q11 : w2.cell? ⟨g, 11, none⟩ = some (.int .i64 h.packed) := (HC.out.below HY.out HC.out.lt).cell 11
      have q12 : w2.cell? ⟨g, 12, none⟩ = some (.int .i64 h.size) := (HC.out.below HY.out HC.out.lt).cell 12))
  all_goals
    go_wp2
    go_ret
    exact ⟨by simp [fieldsB], HB0.out.1.trans (HY.out.mono HB0.out.1.size)⟩
set_option maxRecDepth 100000 in
set_option maxHeartbeats 4000000 in
theorem Local_any (h : Hd) (nu : Bool) (hF : h.Fits) (w : World) :
    Calls Tryz.prog 21 #[.agg #[.string ⟨h.name.toArray⟩, .string ⟨h.comment.toArray⟩, .string ⟨h.extra.toArray⟩, .bool nu, .int .i64 h.creator, .int .i64 h.reader, .int .i64 h.flags, .int .i64 h.method, .int .i64 h.time, .int .i64 h.date, .int .i64 h.crc, .int .i64 h.packed, .int .i64 h.size, .int .i64 h.external]] w fun e w' => e = .returned (.string ⟨(localB h).toArray⟩) ∧ Below w.heap.size w w' := by
  have hcat := cat_mk
  have hsz : ∀ l : List UInt8, (ByteArray.mk l.toArray).size = l.length := fun _ => rfl
  have hlen := leB_length
  have f1 := hF.name; have f2 := hF.comment; have f3 := hF.extra; have f4 := hF.creator; have f5 := hF.reader; have f6 := hF.flags; have f7 := hF.method; have f8 := hF.time; have f9 := hF.date; have f10 := hF.crc; have f11 := hF.packed; have f12 := hF.size; have f13 := hF.external
  have hfl := fieldsB_length h
  have hs1 : ¬ 9223372036854775807 < 30 + h.name.length := by omega
  have hs2 : ¬ 9223372036854775807 < 2 + (20 + (2 + (2 + h.name.length))) + 1 + 1 + 1 + 1 + h.extra.length := by omega
  have B_reader := Lib.hid (show ∀ w, Calls Tryz.prog 34 #[.int .i64 (h.reader : Nat), .int .i64 2] w fun e w' => e = .returned (.string ⟨(leB (h.reader) 2).toArray⟩) ∧ Below w.heap.size w w' from fun w => BytesN (n := h.reader) (k := 2) (by omega) (by decide) w)
  have H_f := Lib.hid (show ∀ w, Calls Tryz.prog 35 #[.agg #[.string ⟨h.name.toArray⟩, .string ⟨h.comment.toArray⟩, .string ⟨h.extra.toArray⟩, .bool nu, .int .i64 h.creator, .int .i64 h.reader, .int .i64 h.flags, .int .i64 h.method, .int .i64 h.time, .int .i64 h.date, .int .i64 h.crc, .int .i64 h.packed, .int .i64 h.size, .int .i64 h.external]] w fun e w' => e = .returned (.string ⟨(fieldsB h).toArray⟩) ∧ Below w.heap.size w w' from fun w => fields_any h nu hF w)
  have B_namel := Lib.hid (show ∀ w, Calls Tryz.prog 34 #[.int .i64 (h.name.length : Nat), .int .i64 2] w fun e w' => e = .returned (.string ⟨(leB (h.name.length) 2).toArray⟩) ∧ Below w.heap.size w w' from fun w => BytesN (n := h.name.length) (k := 2) (by omega) (by decide) w)
  have B_extral := Lib.hid (show ∀ w, Calls Tryz.prog 34 #[.int .i64 (h.extra.length : Nat), .int .i64 2] w fun e w' => e = .returned (.string ⟨(leB (h.extra.length) 2).toArray⟩) ∧ Below w.heap.size w w' from fun w => BytesN (n := h.extra.length) (k := 2) (by omega) (by decide) w)
  clear hF
  go_enter Tryz.func21, Tryz.ntmps21
  go_upto_region 1 with (fail)
  refine atW (fun W => Blk W w.heap.size 39 #[.string ⟨h.name.toArray⟩, .string ⟨h.comment.toArray⟩, .string ⟨h.extra.toArray⟩, .bool nu, .int .i64 h.creator, .int .i64 h.reader, .int .i64 h.flags, .int .i64 h.method, .int .i64 h.time, .int .i64 h.date, .int .i64 h.crc, .int .i64 h.packed, .int .i64 h.size, .int .i64 h.external] ∧ Below w.heap.size w W) ⟨Blk.new _ _ _, (Below.refl _ _).alloc (Nat.le_refl _) _⟩ ?_
  rintro W ⟨hW, hbW⟩
  obtain ⟨g, hg⟩ : ∃ g, g = w.heap.size := ⟨_, rfl⟩
  rw [← hg] at hW ⊢
  have k0 : W.cell? ⟨g, 0, none⟩ = some (.string ⟨h.name.toArray⟩) := hW.cell 0
  have k1 : W.cell? ⟨g, 1, none⟩ = some (.string ⟨h.comment.toArray⟩) := hW.cell 1
  have k2 : W.cell? ⟨g, 2, none⟩ = some (.string ⟨h.extra.toArray⟩) := hW.cell 2
  have k3 : W.cell? ⟨g, 3, none⟩ = some (.bool nu) := hW.cell 3
  have k4 : W.cell? ⟨g, 4, none⟩ = some (.int .i64 h.creator) := hW.cell 4
  have k5 : W.cell? ⟨g, 5, none⟩ = some (.int .i64 h.reader) := hW.cell 5
  have k6 : W.cell? ⟨g, 6, none⟩ = some (.int .i64 h.flags) := hW.cell 6
  have k7 : W.cell? ⟨g, 7, none⟩ = some (.int .i64 h.method) := hW.cell 7
  have k8 : W.cell? ⟨g, 8, none⟩ = some (.int .i64 h.time) := hW.cell 8
  have k9 : W.cell? ⟨g, 9, none⟩ = some (.int .i64 h.date) := hW.cell 9
  have k10 : W.cell? ⟨g, 10, none⟩ = some (.int .i64 h.crc) := hW.cell 10
  have k11 : W.cell? ⟨g, 11, none⟩ = some (.int .i64 h.packed) := hW.cell 11
  have k12 : W.cell? ⟨g, 12, none⟩ = some (.int .i64 h.size) := hW.cell 12
  have k13 : W.cell? ⟨g, 13, none⟩ = some (.int .i64 h.external) := hW.cell 13
  have HC := Lib.hid hW
  have HB0 := Lib.hid (And.intro hbW hg)
  have HY := Lib.hid ((Below.refl W.heap.size W).drew)
  clear hW hbW hg
  go_region_held3 (fun w' => w'.cell? ⟨g, 0, none⟩ = some (.string ⟨h.name.toArray⟩) ∧ w'.cell? ⟨g, 1, none⟩ = some (.string ⟨h.comment.toArray⟩) ∧ w'.cell? ⟨g, 2, none⟩ = some (.string ⟨h.extra.toArray⟩) ∧ w'.cell? ⟨g, 3, none⟩ = some (.bool nu) ∧ w'.cell? ⟨g, 4, none⟩ = some (.int .i64 h.creator) ∧ w'.cell? ⟨g, 5, none⟩ = some (.int .i64 h.reader) ∧ w'.cell? ⟨g, 6, none⟩ = some (.int .i64 h.flags) ∧ w'.cell? ⟨g, 7, none⟩ = some (.int .i64 h.method) ∧ w'.cell? ⟨g, 8, none⟩ = some (.int .i64 h.time) ∧ w'.cell? ⟨g, 9, none⟩ = some (.int .i64 h.date) ∧ w'.cell? ⟨g, 10, none⟩ = some (.int .i64 h.crc) ∧ w'.cell? ⟨g, 11, none⟩ = some (.int .i64 h.packed) ∧ w'.cell? ⟨g, 12, none⟩ = some (.int .i64 h.size) ∧ w'.cell? ⟨g, 13, none⟩ = some (.int .i64 h.external))
    (first
      | exact ⟨k0, k1, k2, k3, k4, k5, k6, k7, k8, k9, k10, k11, k12, k13⟩
      | exact ⟨q0, q1, q2, q3, q4, q5, q6, q7, q8, q9, q10, q11, q12, q13⟩)
    ((
      (first | (go_at_call 34; with_reducible refine (B_reader.out _).mono ?_) | (go_at_call 35; with_reducible refine (H_f.out _).mono ?_) | (go_at_call 34; with_reducible refine (B_namel.out _).mono ?_) | (go_at_call 34; with_reducible refine (B_extral.out _).mono ?_))
      rintro e' w2 ⟨rfl, hx⟩
      have hy := Lib.hid (HY.out.trans (hx.mono HY.out.size))
      clear HY hx
      have HY := hy
      clear hy
      have q0 : w2.cell? ⟨g, 0, none⟩ = some (.string ⟨h.name.toArray⟩) := (HC.out.below HY.out HC.out.lt).cell 0
      have q1 : w2.cell? ⟨g, 1, none⟩ = some (.string ⟨h.comment.toArray⟩) := (HC.out.below HY.out HC.out.lt).cell 1
      have q2 : w2.cell? ⟨g, 2, none⟩ = some (.string ⟨h.extra.toArray⟩) := (HC.out.below HY.out HC.out.lt).cell 2
      have q3 : w2.cell? ⟨g, 3, none⟩ = some (.bool nu) := (HC.out.below HY.out HC.out.lt).cell 3
      have q4 : w2.cell? ⟨g, 4, none⟩ = some (.int .i64 h.creator) := (HC.out.below HY.out HC.out.lt).cell 4
      have q5 : w2.cell? ⟨g, 5, none⟩ = some (.int .i64 h.reader) := (HC.out.below HY.out HC.out.lt).cell 5
      have q6 : w2.cell? ⟨g, 6, none⟩ = some (.int .i64 h.flags) := (HC.out.below HY.out HC.out.lt).cell 6
      have q7 : w2.cell? ⟨g, 7, none⟩ = some (.int .i64 h.method) := (HC.out.below HY.out HC.out.lt).cell 7
      have q8 : w2.cell? ⟨g, 8, none⟩ = some (.int .i64 h.time) := (HC.out.below HY.out HC.out.lt).cell 8
      have q9 : w2.cell? ⟨g, 9, none⟩ = some (.int .i64 h.date) := (HC.out.below HY.out HC.out.lt).cell 9
      have q10 : w2.cell? ⟨g, 10, none⟩ = some (.int .i64 h.crc) := (HC.out.below HY.out HC.out.lt).cell 10
      have q11 : w2.cell? ⟨g, 11, none⟩ = some (.int .i64 h.packed) := (HC.out.below HY.out HC.out.lt).cell 11
      have q12 : w2.cell? ⟨g, 12, none⟩ = some (.int .i64 h.size) := (HC.out.below HY.out HC.out.lt).cell 12
      have q13 : w2.cell? ⟨g, 13, none⟩ = some (.int .i64 h.external) := (HC.out.below HY.out HC.out.lt).cell 13))
  all_goals
    go_wp2
    go_ret
    exact ⟨by simp [localB], HB0.out.1.trans (HY.out.mono HB0.out.1.size)⟩
set_option maxRecDepth 100000 in
set_option maxHeartbeats 8000000 in
theorem Central_any (h : Hd) (nu : Bool) (hF : h.Fits) (at_ : Nat) (ha : at_ < 4294967296) (w : World) :
    Calls Tryz.prog 33 #[.agg #[.string ⟨h.name.toArray⟩, .string ⟨h.comment.toArray⟩, .string ⟨h.extra.toArray⟩, .bool nu, .int .i64 h.creator, .int .i64 h.reader, .int .i64 h.flags, .int .i64 h.method, .int .i64 h.time, .int .i64 h.date, .int .i64 h.crc, .int .i64 h.packed, .int .i64 h.size, .int .i64 h.external], .int .i64 at_] w fun e w' => e = .returned (.string ⟨(centralB h at_).toArray⟩) ∧ Below w.heap.size w w' := by
  have hcat := cat_mk
  have hsz : ∀ l : List UInt8, (ByteArray.mk l.toArray).size = l.length := fun _ => rfl
  have hlen := leB_length
  have f1 := hF.name; have f2 := hF.comment; have f3 := hF.extra; have f4 := hF.creator; have f5 := hF.reader; have f6 := hF.flags; have f7 := hF.method; have f8 := hF.time; have f9 := hF.date; have f10 := hF.crc; have f11 := hF.packed; have f12 := hF.size; have f13 := hF.external
  have hfl := fieldsB_length h
  have hs1 : ¬ 9223372036854775807 < 46 + h.name.length := by omega
  have hs2 : ¬ 9223372036854775807 < 2 + (2 + (20 + (2 + (2 + (2 + (2 + (2 + (4 + (4 + h.name.length))))))))) + 1 + 1 + 1 + 1 + h.extra.length := by omega
  have hs3 : ¬ 9223372036854775807 < 2 + (2 + (20 + (2 + (2 + (2 + (2 + (2 + (4 + (4 + (h.name.length + h.extra.length)))))))))) + 1 + 1 + 1 + 1 + h.comment.length := by omega
  have B_creator := Lib.hid (show ∀ w, Calls Tryz.prog 34 #[.int .i64 (h.creator : Nat), .int .i64 2] w fun e w' => e = .returned (.string ⟨(leB (h.creator) 2).toArray⟩) ∧ Below w.heap.size w w' from fun w => BytesN (n := h.creator) (k := 2) (by omega) (by decide) w)
  have B_reader := Lib.hid (show ∀ w, Calls Tryz.prog 34 #[.int .i64 (h.reader : Nat), .int .i64 2] w fun e w' => e = .returned (.string ⟨(leB (h.reader) 2).toArray⟩) ∧ Below w.heap.size w w' from fun w => BytesN (n := h.reader) (k := 2) (by omega) (by decide) w)
  have H_f := Lib.hid (show ∀ w, Calls Tryz.prog 35 #[.agg #[.string ⟨h.name.toArray⟩, .string ⟨h.comment.toArray⟩, .string ⟨h.extra.toArray⟩, .bool nu, .int .i64 h.creator, .int .i64 h.reader, .int .i64 h.flags, .int .i64 h.method, .int .i64 h.time, .int .i64 h.date, .int .i64 h.crc, .int .i64 h.packed, .int .i64 h.size, .int .i64 h.external]] w fun e w' => e = .returned (.string ⟨(fieldsB h).toArray⟩) ∧ Below w.heap.size w w' from fun w => fields_any h nu hF w)
  have B_namel := Lib.hid (show ∀ w, Calls Tryz.prog 34 #[.int .i64 (h.name.length : Nat), .int .i64 2] w fun e w' => e = .returned (.string ⟨(leB (h.name.length) 2).toArray⟩) ∧ Below w.heap.size w w' from fun w => BytesN (n := h.name.length) (k := 2) (by omega) (by decide) w)
  have B_extral := Lib.hid (show ∀ w, Calls Tryz.prog 34 #[.int .i64 (h.extra.length : Nat), .int .i64 2] w fun e w' => e = .returned (.string ⟨(leB (h.extra.length) 2).toArray⟩) ∧ Below w.heap.size w w' from fun w => BytesN (n := h.extra.length) (k := 2) (by omega) (by decide) w)
  have B_commentl := Lib.hid (show ∀ w, Calls Tryz.prog 34 #[.int .i64 (h.comment.length : Nat), .int .i64 2] w fun e w' => e = .returned (.string ⟨(leB (h.comment.length) 2).toArray⟩) ∧ Below w.heap.size w w' from fun w => BytesN (n := h.comment.length) (k := 2) (by omega) (by decide) w)
  have B_z := Lib.hid (show ∀ w, Calls Tryz.prog 34 #[.int .i64 0, .int .i64 2] w fun e w' => e = .returned (.string ⟨(leB 0 2).toArray⟩) ∧ Below w.heap.size w w' from fun w => BytesN (n := 0) (k := 2) (by decide) (by decide) w)
  have B_external := Lib.hid (show ∀ w, Calls Tryz.prog 34 #[.int .i64 (h.external : Nat), .int .i64 4] w fun e w' => e = .returned (.string ⟨(leB (h.external) 4).toArray⟩) ∧ Below w.heap.size w w' from fun w => BytesN (n := h.external) (k := 4) (by omega) (by decide) w)
  have B_at := Lib.hid (show ∀ w, Calls Tryz.prog 34 #[.int .i64 (at_ : Nat), .int .i64 4] w fun e w' => e = .returned (.string ⟨(leB at_ 4).toArray⟩) ∧ Below w.heap.size w w' from fun w => BytesN (n := at_) (k := 4) (by omega) (by decide) w)
  clear hF
  go_enter Tryz.func33, Tryz.ntmps33
  go_upto_region 1 with (fail)
  refine atW (fun W => Blk W w.heap.size 39 #[.string ⟨h.name.toArray⟩, .string ⟨h.comment.toArray⟩, .string ⟨h.extra.toArray⟩, .bool nu, .int .i64 h.creator, .int .i64 h.reader, .int .i64 h.flags, .int .i64 h.method, .int .i64 h.time, .int .i64 h.date, .int .i64 h.crc, .int .i64 h.packed, .int .i64 h.size, .int .i64 h.external] ∧ Below w.heap.size w W) ⟨Blk.new _ _ _, (Below.refl _ _).alloc (Nat.le_refl _) _⟩ ?_
  rintro W ⟨hW, hbW⟩
  obtain ⟨g, hg⟩ : ∃ g, g = w.heap.size := ⟨_, rfl⟩
  rw [← hg] at hW ⊢
  have k0 : W.cell? ⟨g, 0, none⟩ = some (.string ⟨h.name.toArray⟩) := hW.cell 0
  have k1 : W.cell? ⟨g, 1, none⟩ = some (.string ⟨h.comment.toArray⟩) := hW.cell 1
  have k2 : W.cell? ⟨g, 2, none⟩ = some (.string ⟨h.extra.toArray⟩) := hW.cell 2
  have k3 : W.cell? ⟨g, 3, none⟩ = some (.bool nu) := hW.cell 3
  have k4 : W.cell? ⟨g, 4, none⟩ = some (.int .i64 h.creator) := hW.cell 4
  have k5 : W.cell? ⟨g, 5, none⟩ = some (.int .i64 h.reader) := hW.cell 5
  have k6 : W.cell? ⟨g, 6, none⟩ = some (.int .i64 h.flags) := hW.cell 6
  have k7 : W.cell? ⟨g, 7, none⟩ = some (.int .i64 h.method) := hW.cell 7
  have k8 : W.cell? ⟨g, 8, none⟩ = some (.int .i64 h.time) := hW.cell 8
  have k9 : W.cell? ⟨g, 9, none⟩ = some (.int .i64 h.date) := hW.cell 9
  have k10 : W.cell? ⟨g, 10, none⟩ = some (.int .i64 h.crc) := hW.cell 10
  have k11 : W.cell? ⟨g, 11, none⟩ = some (.int .i64 h.packed) := hW.cell 11
  have k12 : W.cell? ⟨g, 12, none⟩ = some (.int .i64 h.size) := hW.cell 12
  have k13 : W.cell? ⟨g, 13, none⟩ = some (.int .i64 h.external) := hW.cell 13
  have HC := Lib.hid hW
  have HB0 := Lib.hid (And.intro hbW hg)
  have HY := Lib.hid ((Below.refl W.heap.size W).drew)
  clear hW hbW hg
  go_region_held3 (fun w' => w'.cell? ⟨g, 0, none⟩ = some (.string ⟨h.name.toArray⟩) ∧ w'.cell? ⟨g, 1, none⟩ = some (.string ⟨h.comment.toArray⟩) ∧ w'.cell? ⟨g, 2, none⟩ = some (.string ⟨h.extra.toArray⟩) ∧ w'.cell? ⟨g, 3, none⟩ = some (.bool nu) ∧ w'.cell? ⟨g, 4, none⟩ = some (.int .i64 h.creator) ∧ w'.cell? ⟨g, 5, none⟩ = some (.int .i64 h.reader) ∧ w'.cell? ⟨g, 6, none⟩ = some (.int .i64 h.flags) ∧ w'.cell? ⟨g, 7, none⟩ = some (.int .i64 h.method) ∧ w'.cell? ⟨g, 8, none⟩ = some (.int .i64 h.time) ∧ w'.cell? ⟨g, 9, none⟩ = some (.int .i64 h.date) ∧ w'.cell? ⟨g, 10, none⟩ = some (.int .i64 h.crc) ∧ w'.cell? ⟨g, 11, none⟩ = some (.int .i64 h.packed) ∧ w'.cell? ⟨g, 12, none⟩ = some (.int .i64 h.size) ∧ w'.cell? ⟨g, 13, none⟩ = some (.int .i64 h.external))
    (first
      | exact ⟨k0, k1, k2, k3, k4, k5, k6, k7, k8, k9, k10, k11, k12, k13⟩
      | exact ⟨q0, q1, q2, q3, q4, q5, q6, q7, q8, q9, q10, q11, q12, q13⟩)
    ((
      (first | (go_at_call 34; with_reducible refine (B_creator.out _).mono ?_) | (go_at_call 34; with_reducible refine (B_reader.out _).mono ?_) | (go_at_call 35; with_reducible refine (H_f.out _).mono ?_) | (go_at_call 34; with_reducible refine (B_namel.out _).mono ?_) | (go_at_call 34; with_reducible refine (B_extral.out _).mono ?_) | (go_at_call 34; with_reducible refine (B_commentl.out _).mono ?_) | (go_at_call 34; with_reducible refine (B_z.out _).mono ?_) | (go_at_call 34; with_reducible refine (B_external.out _).mono ?_) | (go_at_call 34; with_reducible refine (B_at.out _).mono ?_))
      rintro e' w2 ⟨rfl, hx⟩
      have hy := Lib.hid (HY.out.trans (hx.mono HY.out.size))
      clear HY hx
      have HY := hy
      clear hy
      have q0 : w2.cell? ⟨g, 0, none⟩ = some (.string ⟨h.name.toArray⟩) := (HC.out.below HY.out HC.out.lt).cell 0
      have q1 : w2.cell? ⟨g, 1, none⟩ = some (.string ⟨h.comment.toArray⟩) := (HC.out.below HY.out HC.out.lt).cell 1
      have q2 : w2.cell? ⟨g, 2, none⟩ = some (.string ⟨h.extra.toArray⟩) := (HC.out.below HY.out HC.out.lt).cell 2
      have q3 : w2.cell? ⟨g, 3, none⟩ = some (.bool nu) := (HC.out.below HY.out HC.out.lt).cell 3
      have q4 : w2.cell? ⟨g, 4, none⟩ = some (.int .i64 h.creator) := (HC.out.below HY.out HC.out.lt).cell 4
      have q5 : w2.cell? ⟨g, 5, none⟩ = some (.int .i64 h.reader) := (HC.out.below HY.out HC.out.lt).cell 5
      have q6 : w2.cell? ⟨g, 6, none⟩ = some (.int .i64 h.flags) := (HC.out.below HY.out HC.out.lt).cell 6
      have q7 : w2.cell? ⟨g, 7, none⟩ = some (.int .i64 h.method) := (HC.out.below HY.out HC.out.lt).cell 7
      have q8 : w2.cell? ⟨g, 8, none⟩ = some (.int .i64 h.time) := (HC.out.below HY.out HC.out.lt).cell 8
      have q9 : w2.cell? ⟨g, 9, none⟩ = some (.int .i64 h.date) := (HC.out.below HY.out HC.out.lt).cell 9
      have q10 : w2.cell? ⟨g, 10, none⟩ = some (.int .i64 h.crc) := (HC.out.below HY.out HC.out.lt).cell 10
      have q11 : w2.cell? ⟨g, 11, none⟩ = some (.int .i64 h.packed) := (HC.out.below HY.out HC.out.lt).cell 11
      have q12 : w2.cell? ⟨g, 12, none⟩ = some (.int .i64 h.size) := (HC.out.below HY.out HC.out.lt).cell 12
      have q13 : w2.cell? ⟨g, 13, none⟩ = some (.int .i64 h.external) := (HC.out.below HY.out HC.out.lt).cell 13))
  all_goals
    go_wp2
    go_ret
    exact ⟨by simp [centralB], HB0.out.1.trans (HY.out.mono HB0.out.1.size)⟩
end Go.Proofs.YtfagjhgmmaebfaaGreatDoor
