/- Contracts: the thin package's faultOf at ErrFormat, File.OpenRaw, the thin package's all over a section of a text. -/
import Derived.Test.YtfagjhgmmaebfaaGreatDoorHda
import Derived.Test.YtfagjhgmmaebfaaGreatDoorIo
import Derived.Laws.MakeOwn
import Derived.Test.YtfagjhgmmaebfaaGreatDoorSph
namespace Go.Proofs.YtfagjhgmmaebfaaGreatDoor
open Go.RowKit
theorem Fault_fmt {w : World} {ef : Addr} (hF : ErrAt w 1 ef) : Calls Tryz.prog 28 #[.iface 99 (.pointer (some ef))] w fun e w' => e = .returned (.int .i64 1) ∧ Kept [] w w' := by
  have f1 : w.cell? ⟨1, 0, none⟩ = some (.iface 99 (.pointer (some ef))) := hF.1
  have q1 := eql_err ef
  go_enter Tryz.func28, Tryz.ntmps28
  go_wp2
  go_ret
  exact ⟨rfl, Kept.refl _ _⟩
set_option maxRecDepth 100000 in
set_option maxHeartbeats 2000000 in
theorem OpenRaw_bad {w : World} {B zb rb fb off : Nat} {h : Hd} {s : List UInt8} {i0 p0 : Value} {ef : Addr} (hf : FileAt w B zb rb fb h off) (hr : Blk w rb 89 #[.string ⟨s.toArray⟩, i0, p0]) (hs : s.length ≤ 4294967294) (ho : off + 30 ≤ s.length) (hv : numL (sub s off 4) ≠ 67324752) (hE : ErrAt w 1 ef) :
    Calls Tryz.prog 27 #[.pointer (some ⟨fb, 0, none⟩)] w fun e w' => e = .returned (.tuple #[.nilIface, .iface 99 (.pointer (some ef))]) ∧ Kept [] w w' := by
  obtain ⟨t0, t1, t2, db, o, cq, a, dl, h1, h2, h3, h4, h5, h6⟩ := hf
  have HB := Lib.hid (Fbo_any (off := off) h1 rfl rfl hr hs ho _ rfl rfl rfl true (by simpa using hv) ef hE)
  clear hr hs ho hv hE h1 h2 h3 h4 h5 h6
  go_enter Tryz.func27, Tryz.ntmps27
  go_wp2_with fail
  refine HB.out.mono ?_
  rintro e w1 ⟨rfl, hk⟩
  simp only [if_true]
  have HK := Lib.hid hk
  clear hk
  go_wp2
  go_ret2
  exact ⟨rfl, HK.out⟩
set_option maxRecDepth 100000 in
set_option maxHeartbeats 2000000 in
theorem OpenRaw_ok {w : World} {B zb rb fb off nm xn : Nat} {h : Hd} {s : List UInt8} {i0 p0 : Value} {ef : Addr} (hf : FileAt w B zb rb fb h off) (hr : Blk w rb 89 #[.string ⟨s.toArray⟩, i0, p0]) (hs : s.length ≤ 4294967294) (ho : off + 30 ≤ s.length) (hv : numL (sub s off 4) = 67324752) (hn : numL (sub s (off + 26) 2) = nm) (hx : numL (sub s (off + 28) 2) = xn) (hend : off + (30 + nm + xn) + h.packed ≤ s.length) (hE : ErrAt w 1 ef) :
    Calls Tryz.prog 27 #[.pointer (some ⟨fb, 0, none⟩)] w fun e w' => ∃ sb, e = .returned (.tuple #[.iface 94 (.pointer (some ⟨sb, 0, none⟩)), .nilIface]) ∧ w.heap.size ≤ sb ∧ Blk w' sb 117 #[.iface 54 (.pointer (some ⟨rb, 0, none⟩)), .int .i64 (off + (30 + nm + xn) : Nat), .int .i64 (off + (30 + nm + xn) : Nat), .int .i64 (off + (30 + nm + xn) + h.packed : Nat), .int .i64 h.packed] ∧ Kept [] w w' := by
  obtain ⟨t0, t1, t2, db, o, cq, a, dl, h1, h2, h3, h4, h5, h6⟩ := hf
  have HB := Lib.hid (Fbo_any (off := off) h1 rfl rfl hr hs ho _ rfl rfl rfl false (by simp [hv]) ef hE)
  rw [hn, hx] at HB
  obtain ⟨bo, hbo⟩ : ∃ bo, bo = 30 + nm + xn := ⟨_, rfl⟩
  rw [← hbo] at HB hend ⊢
  have HF := Lib.hid h1
  have hpk : h.packed ≤ 4294967294 := by omega
  have hob : off + bo ≤ 4294967294 := by omega
  clear hr hs ho hv hn hx hE h1 h2 h3 h4 h5 h6 hbo hend
  go_enter Tryz.func27, Tryz.ntmps27
  go_wp2_with fail
  refine HB.out.mono ?_
  rintro e w1 ⟨rfl, hk⟩
  simp only [Bool.false_eq_true, if_false]
  have h1 := hk.blk HF.out (by simp)
  have f15 : w1.cell? ⟨fb, 15, none⟩ = some (.int .u64 h.packed) := h1.cell 15
  have f20 : w1.cell? ⟨fb, 20, none⟩ = some (.iface 54 (.pointer (some ⟨rb, 0, none⟩))) := h1.cell 20
  have f21 : w1.cell? ⟨fb, 21, none⟩ = some (.int .i64 off) := h1.cell 21
  have w15 : IntKind.i64.wrap (h.packed : Int) = (h.packed : Int) := IntWalk.i64_in _ (by omega)
  obtain ⟨po, hpo⟩ : ∃ po, po = off + bo := ⟨_, rfl⟩
  have wadd : IntKind.i64.wrap ((off : Int) + (bo : Int)) = (po : Int) := by rw [IntWalk.i64_in _ (by omega)]; omega
  have HK := Lib.hid hk
  have HS := Lib.hid (Sect_newO rb po h.packed (by omega) (by omega) w1.drew)
  have HPO := Lib.hid hpo
  clear hk h1 hpo HF HB
  go_upto_region 4 with (fail)
  go_still_tail 16, (by kernel_rfl)
  change wpList _ _ _ _ _ w1.drew
  go_wp2_with (go_at_call 40; refine HS.out.mono ?_; rintro e w2 ⟨rfl, hw2⟩; have HW2 := Lib.hid hw2; clear hw2)
  go_ret2
  rw [← HPO.out]
  refine ⟨w1.heap.size, rfl, HK.out.size, ?_, ?_⟩
  · rw [HW2.out]; exact Blk.new _ _ _
  · rw [HW2.out]; exact HK.out.drew.alloc _
end Go.Proofs.YtfagjhgmmaebfaaGreatDoor
/- Contract: the thin package's all over a section of a text. -/
namespace Go.Proofs.YtfagjhgmmaebfaaGreatDoor
open Go.RowKit
theorem make_bytes (n : Nat) (hn : n ≤ 65536) : ∃ cs : Array Value, cs.size = n ∧ ∀ W : World, (Instr.makeSlice 46 (.int .i64 (n : Int)) (.int .i64 (n : Int))).run Tryz.prog W = .ok (.slice (some ⟨W.heap.size, 0, none⟩) n n) (W.alloc (.cells cs 5)) := by
  obtain ⟨i0, hi, hz0, hz1, hz2⟩ := info_parts infoU8
  refine ⟨madeCells (Value.int .u8 0).cells (n * i0.size), by rw [size_madeCells, hz1]; omega, fun W => ?_⟩
  have h := run_make (P := Tryz.prog) W 46 5 i0 (.int .u8 0) Tryz.underlying46 hi hz0 .i64 .i64 n n (by omega) (Int.le_refl _) (by rw [hz2]; omega) (by omega)
  simpa using h
theorem eql_nilA (a : Addr) (W : World) : (binOp .eql 51 .nilIface (.iface 99 (.pointer (some a)))).run Tryz.prog W = .ok (.bool false) W := by kernel_rfl
/-- How far all has come. -/
structure AllI (w W : World) (g sb rb o n p : Nat) (s : List UInt8) (b0 n0 v : Value) : Prop where
  own : W.ownsRow w.heap.size 5 1 v p (((s.drop o).take p).map byteV)
  sec : Blk W sb 117 #[.iface 54 (.pointer (some ⟨rb, 0, none⟩)), b0, .int .i64 (o + p : Nat), .int .i64 (o + n : Nat), n0]
  buf : ∃ cs, Blk W g 5 cs ∧ cs.size = 512
  kept : Kept [sb] w W
  ne : v.ownBlock ≠ some g
def lenV : Value → Nat
  | .slice _ n _ => n
  | _ => 0
set_option maxRecDepth 100000 in
set_option maxHeartbeats 4000000 in
theorem All_any {w : World} {sb rb o n : Nat} {s : List UInt8} {i0 p0 b0 n0 : Value} (hs : Blk w sb 117 #[.iface 54 (.pointer (some ⟨rb, 0, none⟩)), b0, .int .i64 o, .int .i64 (o + n : Nat), n0]) (hr : Blk w rb 89 #[.string ⟨s.toArray⟩, i0, p0]) (hle : o + n ≤ s.length) (hsl : s.length ≤ 4294967294) (ea : Addr) (hE : ErrAt w 5 ea) (hge : 5 < sb ∧ ea.block < sb) :
    Calls Tryz.prog 29 #[.iface 94 (.pointer (some ⟨sb, 0, none⟩))] w fun e w' => e = .returned (.tuple #[.string ⟨((s.drop o).take n).toArray⟩, .int .i64 0]) ∧ Kept [sb] w w' := by
  obtain ⟨j0, hi, hz0, hz1, hz2⟩ := info_parts infoU8
  obtain ⟨cs0, hcs0, hmk⟩ := make_bytes 512 (by decide)
  have hmk' : ∀ W : World, (Instr.makeSlice 46 (.int .i64 512) (.int .i64 512)).run Tryz.prog W = .ok (.slice (some ⟨W.heap.size, 0, none⟩) 512 512) (W.alloc (.cells cs0 5)) := hmk
  have hm := method_ReadS
  have H := Lib.hid (And.intro hs (And.intro hr (And.intro hE hge)))
  clear hs hr hE hge hmk
  go_enter Tryz.func29, Tryz.ntmps29
  go_wp2_with fail
  obtain ⟨g, hg⟩ : ∃ g, g = w.heap.size + 1 := ⟨_, rfl⟩
  rw [← hg]
  refine at_world (fun W => AllI w W g sb rb o n 0 s b0 n0 (.slice (some ⟨w.heap.size, 0, none⟩) 0 0)) ⟨(World.ownsRow_made w #[] 0 (Nat.le_refl _) (by decide) rfl).alloc _, (H.out.1.alloc _).alloc _, ⟨cs0, by rw [hg]; exact Blk.newAt _ _ _ _ (by simp), hcs0⟩, ((Kept.refl _ _).alloc _).alloc _, by simp [Value.ownBlock, hg]⟩ ?_
  rintro W0 hI0
  have HI0 := Lib.hid hI0
  have HG := Lib.hid hg
  clear hI0 hg hcs0 hmk'
  go_loopw [4] (fun c4 W => ∃ (p : Nat) (A : Option Addr) (c : Nat), p ≤ n ∧ c4 = .slice A p c ∧ Hid (AllI w W g sb rb o n p s b0 n0 (.slice A p c))) (fun c4 _ => n - lenV c4)
  case atStart => exact ⟨0, _, _, Nat.zero_le _, rfl, HI0⟩
  case round =>
    obtain ⟨p, A, c, hp, rfl, HI⟩ := hrel
    clear HI0
    have hgw : w.heap.size ≤ g := by have := HG.out; omega
    obtain ⟨cs, hb, hbs⟩ := HI.out.buf
    have hgs : g ≠ sb := hb.ne_ HI.out.sec (by decide)
    have hrs := HI.out.kept.blk H.out.2.1 (by simp; exact H.out.2.1.ne_ H.out.1 (by decide))
    have hEw := HI.out.kept
    by_cases hlt : p < n
    · obtain ⟨m, hmm⟩ : ∃ m, m = min 512 (o + n - (o + p)) := ⟨_, rfl⟩
      have hS := Sect_read_some sb rb s (o + n) (o + p) g 0 512 512 (by omega) hle (by omega) (Nat.le_refl _) (by decide) wr (HI.out.sec.cell 0) (HI.out.sec.cell 2) (HI.out.sec.cell 3) (HI.out.sec.frozen 2) (hrs.cell 0) hgs.symm (fun j hj => by rw [hb.cell]; simp; omega) (fun j hj => hb.frozen _)
      rw [← hmm] at hS
      have HS := Lib.hid hS
      have hm1 : 0 < m := by omega
      have hm2 : m ≤ 512 := by omega
      have hm3 : p + m ≤ n := by omega
      have HB := Lib.hid (And.intro hb (And.intro hbs (And.intro hgs hrs)))
      clear hS hmm hb hbs hgs hrs hEw
      have hbl : (((s.drop (o + p)).take m).map byteV).length = m := by rw [List.length_map, List.length_take, List.length_drop]; omega
      have HBL := Lib.hid hbl
      clear hbl
      go_wp2_with (first
        | (go_at_call 119; refine HS.out.mono ?_; rintro e w1 ⟨rfl, k1, hw1⟩; have HW1 := Lib.hid hw1; clear hw1
           have hbA : Blk w1 g 5 (putAll cs 0 (((s.drop (o + p)).take m).map byteV)) := by rw [HW1.out]; exact ((HB.out.1.drewN _).setCells _ _).far HB.out.2.2.1 _
           have hsA : Blk w1 sb 117 #[.iface 54 (.pointer (some ⟨rb, 0, none⟩)), b0, .int .i64 (o + (p + m) : Nat), .int .i64 (o + n : Nat), n0] := by rw [HW1.out]; exact Blk.cast (((HI.out.sec.drewN _).fars HB.out.2.2.1.symm _ _).set_ 2 _) (by simp [Nat.add_assoc])
           have hkA : Kept [g, sb] wr w1 := by rw [HW1.out]; exact ((Kept.setCells (by simp) _ _ _ ((Kept.refl _ _).drewN _)).setCell (by simp) _)
           have hoA := owns_kept HI.out.own hkA (fun q hq hx => by
             simp only [List.mem_cons, List.not_mem_nil, or_false] at hx
             rcases hx with rfl | rfl
             · exact HI.out.ne hq
             · exact own_blk_ne HI.out.own HI.out.sec (by decide) hq)
           have HA := Lib.hid (And.intro hbA (And.intro hsA (And.intro (HI.out.kept.trans' hkA (fun x hx => by simp at hx ⊢; omega)) hoA)))
           clear hbA hsA hkA hoA)
        | (at_builtin; refine wpList_append_own_at _ rfl _ _ 46 rfl w.heap.size 5 j0 (.int .u8 0) 1 1 Tryz.underlying46 hi hz0 hz1 hz2 rfl (by decide) _ _ _ rfl HA.out.2.2.2 ⟨g, 0, none⟩ m 512 (((s.drop (o + p)).take m).map byteV) rfl (by rw [HBL.out]; omega) ?c1 (byteV_one _) ?c3 ?c4 ?c5 ?_))
      case c1 =>
        intro q u hu
        rw [Addr.add_lit, Nat.zero_add]
        refine (HA.out.1.cell q).trans ?_
        have hq : q < m := by have := (List.getElem?_eq_some_iff.1 hu).1; rwa [HBL.out] at this
        rw [putAll_get _ _ _ _ (by rw [HBL.out, HB.out.2.1]; omega), if_pos (by rw [HBL.out]; omega), Nat.sub_zero]
        exact hu
      case c3 => unfold maxLen; omega
      case c4 => omega
      case c5 => exact HA.out.2.2.1.size
      intro v' w6 hown6 hgrow _ hat
      obtain ⟨A', c', hv'⟩ := own_sliceA hown6
      subst hv'
      have hks : Kept [sb] w w6 := HA.out.2.2.1.grown hgrow (fun q hq => .inr (HA.out.2.2.2.lt q hq).1)
      have hI6 : AllI w w6 g sb rb o n (p + m) s b0 n0 (.slice A' (p + m) c') := by
        refine ⟨?_, HA.out.2.1.grown hgrow (fun e => own_blk_ne HA.out.2.2.2 HA.out.2.1 (by decide) e.symm), ⟨_, HA.out.1.grown hgrow (fun e => HI.out.ne e.symm), by rw [putAll_size, HB.out.2.1]⟩, hks, ?_⟩
        · have e : ((s.drop o).take (p + m)).map byteV = ((s.drop o).take p).map byteV ++ ((s.drop (o + p)).take m).map byteV := by rw [List.take_add, List.map_append, List.drop_drop]
          rw [e]
          simpa only [List.map_take, List.map_drop] using hown6
        · rcases hat with e | e
          · rw [e]; exact HI.out.ne
          · rw [e]; intro e2
            have := HA.out.1.lt
            injection e2 with e2
            omega
      have HI6 := Lib.hid hI6
      have gE : w6.cell? ⟨5, 0, none⟩ = some (.iface 99 (.pointer (some ea))) := (H.out.2.2.1.kept hks (by simp; have := H.out.2.2.2; omega) (by simp; have := H.out.2.2.2; omega)).1
      have qn := eql_nilA
      clear hI6 hown6 hgrow hat hks
      go_wp2
      go_roundw
      case rel => exact ⟨p + m, A', c', hm3, rfl, HI6⟩
      case measure => simp [lenV]; omega
    · obtain rfl : p = n := by omega
      have hE := Lib.hid (Sect_read_end sb ((o + p : Nat) : Int) ((o + p : Nat) : Int) (Int.le_refl _) (.slice (some ⟨g, 0, none⟩) 512 512) (.iface 99 (.pointer (some ea))) wr (HI.out.sec.cell 2) (HI.out.sec.cell 3) ((H.out.2.2.1.kept hEw (by simp; have := H.out.2.2.2; omega) (by simp; have := H.out.2.2.2; omega)).1))
      clear hb hbs hgs hrs hEw
      go_wp2_with (first
        | (go_at_call 119; refine hE.out.mono ?_; rintro e w1 ⟨rfl, k1, hw1⟩
           have hoA : w1.ownsRow w.heap.size 5 1 (.slice A p c) p (((s.drop o).take p).map byteV) := by rw [hw1]; exact owns_kept HI.out.own ((Kept.refl [] wr).drewN _) (by simp)
           have hkA : Kept [sb] w w1 := by rw [hw1]; exact HI.out.kept.drewN _
           have HA := Lib.hid (And.intro hoA hkA)
           clear hw1 hoA hkA)
        | (at_builtin; refine wpList_append_own_at _ rfl _ _ 46 rfl w.heap.size 5 j0 (.int .u8 0) 1 1 Tryz.underlying46 hi hz0 hz1 hz2 rfl (by decide) _ _ _ rfl HA.out.1 ⟨g, 0, none⟩ 0 512 [] rfl rfl ?d1 ?d2 ?d3 ?d4 ?d5 ?_))
      case d1 => intro q u hu; simp at hu
      case d2 => intro u hu; simp at hu
      case d3 => unfold maxLen; omega
      case d4 => omega
      case d5 => exact HA.out.2.size
      intro v' w6 hown6 hgrow _ hat
      obtain ⟨A', c', hv'⟩ := own_sliceA hown6
      subst hv'
      have hks : Kept [sb] w w6 := HA.out.2.grown hgrow (fun q hq => .inr (HA.out.1.lt q hq).1)
      have gE : w6.cell? ⟨5, 0, none⟩ = some (.iface 99 (.pointer (some ea))) := (H.out.2.2.1.kept hks (by simp; have := H.out.2.2.2; omega) (by simp; have := H.out.2.2.2; omega)).1
      have hbl : ((s.drop o).take p).length = p := by rw [List.length_take, List.length_drop]; omega
      have hcv : (convert 46 9 (.slice A' p c')).run Tryz.prog w6 = .ok (.string ⟨((s.drop o).take p).toArray⟩) w6 := run_string_own (P := Tryz.prog) w6 46 9 5 w.heap.size (.slice A' p c') ((s.drop o).take p) Tryz.underlying46 Tryz.underlying5 Tryz.underlying9 (by
        have := hown6
        simpa only [hbl, List.append_nil, List.map_take, List.map_drop] using this)
      have qe := eql_err ea
      have HK := Lib.hid hks
      clear hown6 hgrow hat hks hbl
      go_wp2
      go_ret2
      exact ⟨rfl, HK.out⟩
end Go.Proofs.YtfagjhgmmaebfaaGreatDoor
