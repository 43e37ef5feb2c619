/- Contract: readDirectoryEnd over an archive without files. -/
import Derived.Test.YtfagjhgmmaebfaaGreatDoorHdr
import Derived.Test.YtfagjhgmmaebfaaGreatDoorRba
import Derived.Test.YtfagjhgmmaebfaaGreatDoorFind
import Derived.Laws.MakeOwn
namespace Go.Proofs.YtfagjhgmmaebfaaGreatDoor
open Go.RowKit
theorem row_of_own {w : World} {base g n cap : Nat} {e : TypeId} {xs : List Value} (h : w.ownsRow base e 1 (.slice (some ⟨g, 0, none⟩) n cap) n xs) : ∃ cur, Blk w g e cur ∧ cur.size = cap ∧ base ≤ g := by
  rcases h.2 with ⟨h0, _⟩ | ⟨g', cap', cur, hv, hb, hh, _, _, hs, _⟩
  · cases h0
  · injection hv with h1 h2 h3
    injection h1 with h1
    injection h1 with h1
    subst h1
    subst h3
    exact ⟨cur, hh, by simpa using hs, hb⟩
theorem putAll_whole (cs : Array Value) (vs : List Value) (h : vs.length = cs.size) : putAll cs 0 vs = vs.toArray := by
  apply Array.ext_getElem?
  intro i
  rw [putAll_get _ _ _ _ (by omega)]
  by_cases hi : i < vs.length
  · rw [if_pos (by omega)]; simp
  · rw [if_neg (by omega), Array.getElem?_eq_none (by omega)]; simp; omega
/-- ReadAt of the whole text into a new row. -/
theorem read_whole (rb : Nat) (s : List UInt8) (n c g : Nat) (cur : Array Value) (hn : n = s.length) (hn0 : 0 < n) (hn1 : n ≤ 4294967295) (w : World) (hr : w.cell? ⟨rb, 0, none⟩ = some (.string ⟨s.toArray⟩)) (hd : Blk w g 5 cur) (hc : cur.size = n) :
    Calls Tryz.prog 114 #[.pointer (some ⟨rb, 0, none⟩), .slice (some ⟨g, 0, none⟩) n c, .int .i64 0] w fun e w' => e = .returned (.tuple #[.int .i64 n, .nilIface]) ∧ Blk w' g 5 (s.map byteV).toArray ∧ Kept [g] w w' := by
  refine (ReadAt_str rb s g 0 n c 0 w (by omega) hr (by omega) (by omega) (fun j hj => by rw [hd.cell]; simp; omega) (fun j hj => hd.frozen _)).mono ?_
  rintro e w' ⟨rfl, rfl⟩
  refine ⟨rfl, Blk.cast (hd.setCells _ _) ?_, Kept.setCells (by simp) _ _ _ (Kept.refl _ _)⟩
  rw [List.drop_zero, hn, List.take_length]
  exact putAll_whole _ _ (by simp [hc, hn])
theorem find_whole (g n cp : Nat) (s c : List UInt8) (w : World) (hn : n = s.length) (hs : s = endL 0 0 0 c) (h1 : endsL s = 1) (hc : c.length ≤ 65535) (hd : Blk w g 5 (s.map byteV).toArray) :
    Calls Tryz.prog 48 #[.slice (some ⟨g, 0, none⟩) n cp] w fun e w' => e = .returned (.int .i64 0) ∧ Below w.heap.size w w' := by
  have hl : s.length = 22 + c.length := by rw [hs]; simp [endL, leB_length]; omega
  have h := find_long g 0 cp s (by omega) (by omega) w hd.bytes
  have hf := find_law [] c hc (by rw [List.nil_append, ← hs]; exact h1) 0 (Nat.zero_le _)
  rw [List.nil_append, ← hs, Nat.sub_zero, List.take_length, if_neg (by decide)] at hf
  rw [hf, ← hn] at h
  exact h
/-- ReadAt of the text's last bytes into a new row. -/
theorem read_part (rb : Nat) (s : List UInt8) (m n g : Nat) (cur : Array Value) (z : Int) (hz : z = (m : Int)) (hn : m + n = s.length ∧ 0 < n ∧ s.length ≤ 4294967295) (w : World) (hr : w.cell? ⟨rb, 0, none⟩ = some (.string ⟨s.toArray⟩)) (hd : Blk w g 5 cur) (hc : cur.size = n) :
    Calls Tryz.prog 114 #[.pointer (some ⟨rb, 0, none⟩), .slice (some ⟨g, 0, none⟩) n n, .int .i64 z] w fun e w' => e = .returned (.tuple #[.int .i64 n, .nilIface]) ∧ Blk w' g 5 ((s.drop m).map byteV).toArray ∧ Kept [g] w w' := by
  subst hz
  refine (ReadAt_str rb s g 0 n n m w (by omega) hr (by omega) (by omega) (fun j hj => by rw [hd.cell]; simp; omega) (fun j hj => hd.frozen _)).mono ?_
  rintro e w' ⟨rfl, rfl⟩
  refine ⟨rfl, Blk.cast (hd.setCells _ _) ?_, Kept.setCells (by simp) _ _ _ (Kept.refl _ _)⟩
  rw [List.take_of_length_le (by rw [List.length_drop]; omega)]
  exact putAll_whole _ _ (by simp [hc]; omega)
theorem find_part (g m n : Nat) (s c : List UInt8) (w : World) (hn : m + n = s.length ∧ 22 ≤ n ∧ n ≤ 65536) (hm : 0 < m) (hs : s = endL 0 0 0 c) (h1 : endsL s = 1) (hd : Blk w g 5 ((s.drop m).map byteV).toArray) :
    Calls Tryz.prog 48 #[.slice (some ⟨g, 0, none⟩) n n] w fun e w' => e = .returned (.int .i64 (-1)) ∧ Below w.heap.size w w' := by
  have hl : (s.drop m).length = n := by rw [List.length_drop]; omega
  have h := find_long g 0 n (s.drop m) (by omega) (by omega) w hd.bytes
  have h0 : sigAt s 0 = true := by rw [hs, end_eq]; rfl
  have hf : findL (s.drop m) = -1 := find_none _ (fun i _ => by
    rw [Bool.eq_false_iff]
    intro hi
    have : sigAt s (m + i) = true := by
      unfold sigAt at hi ⊢
      rwa [List.drop_drop] at hi
    have := only_one h1 this h0
    omega)
  rw [hf, hl] at h
  exact h
theorem dir_world {wa W w0 w1 w2 : World} {B : Nat} (h : Below B wa W) (h0 : Below W.heap.size W w0) (hk : Kept [W.heap.size] w0 w1) (h2 : Below w1.heap.size w1 w2) (hB : B ≤ W.heap.size) : Below B wa w2 :=
  ((h.trans (h0.mono hB)).trans (hk.to_below (Nat.le_trans hB h0.size) (fun x hx => by simp at hx; omega))).trans (h2.mono (Nat.le_trans hB (Nat.le_trans h0.size hk.size)))
theorem end_nums (c : List UInt8) (hc : c.length ≤ 65535) : numL (sub (endL 0 0 0 c) 4 2) = 0 ∧ numL (sub (endL 0 0 0 c) 6 2) = 0 ∧ numL (sub (endL 0 0 0 c) 8 2) = 0 ∧ numL (sub (endL 0 0 0 c) 10 2) = 0 ∧ numL (sub (endL 0 0 0 c) 12 4) = 0 ∧ numL (sub (endL 0 0 0 c) 16 4) = 0 ∧ numL (sub (endL 0 0 0 c) 20 2) = c.length := by
  refine ⟨rfl, rfl, rfl, rfl, rfl, rfl, ?_⟩
  have e : sub (endL 0 0 0 c) 20 2 = leB c.length 2 := rfl
  rw [e]
  exact leB2 _ (by omega)
theorem tail_bytes {w : World} {g o : Nat} {s c : List UInt8} (hl : Blk w g 5 (s.map byteV).toArray) (hs : s = endL 0 0 0 c) (ho : 0 < c.length → o = 22) : BytesAt w ⟨g, o, none⟩ c := fun j hj => by
  obtain rfl := ho (by omega)
  have hls : 22 + j < s.length := by rw [hs]; simp [endL, leB_length]; omega
  have e : s[22 + j] = c[j] := by
    have : s[22 + j]? = some c[j] := by
      rw [hs, end_eq]
      rw [List.getElem?_append_right (by simp; omega)]
      simp [show 22 + j - 20 = j + 2 by omega]
    rw [List.getElem?_eq_getElem hls] at this
    exact Option.some.inj this
  rw [add_at, hl.byte (22 + j) hls, e]
  rfl
theorem conv_str {w : World} {g o n cap : Nat} {c : List UInt8} (h : BytesAt w ⟨g, o, none⟩ c) (hn : n = c.length) : (convert 113 9 (.slice (some ⟨g, o, none⟩) n cap)).run Tryz.prog w = .ok (.string ⟨c.toArray⟩) w := by
  subst hn
  exact run_convert_bytes_back w 113 9 5 ⟨g, o, none⟩ cap c (by kernel_rfl) Tryz.underlying5 Tryz.underlying9 h
set_option maxRecDepth 100000 in
set_option maxHeartbeats 2000000 in
theorem DirEnd (rb n : Nat) (s c : List UInt8) (hc : c.length ≤ 65535) (hs : s = endL 0 0 0 c) (hn : n = s.length) (h1 : endsL s = 1) (w : World) (hr : w.cell? ⟨rb, 0, none⟩ = some (.string ⟨s.toArray⟩)) (hrb : rb < w.heap.size) :
    Calls Tryz.prog 41 #[.iface 54 (.pointer (some ⟨rb, 0, none⟩)), .int .i64 n] w fun e w' => ∃ d, e = .returned (.tuple #[.pointer (some ⟨d, 0, none⟩), .int .i64 0, .nilIface]) ∧ w.heap.size ≤ d ∧
      Blk w' d 106 #[.int .u32 0, .int .u32 0, .int .u64 0, .int .u64 0, .int .u64 0, .int .u64 0, .int .u16 c.length, .string ⟨c.toArray⟩] ∧ Below w.heap.size w w' := by
  obtain ⟨i0, hi, hz0, hz1, hz2⟩ := info_parts infoU8
  have hm := method_ReadAt
  have hn2 : n = 22 + c.length := by rw [hn, hs]; simp [endL, leB_length]; omega
  have HN := Lib.hid (And.intro hn (And.intro hs h1))
  have HR := Lib.hid hr
  clear hn hs h1 hr
  have hnlo : 22 ≤ n := by omega
  have hnhi : n ≤ 65557 := by omega
  have HN2 := Lib.hid hn2
  clear hn2
  go_enter Tryz.func41, Tryz.ntmps41
  go_wp2_with fail
  go_loopw [25] (fun c25 W => ∃ k : Nat, k ≤ 1 ∧ c25 = .int .i64 k ∧ (k = 1 → 1024 < n) ∧ Hid (Below (w.heap.size + 1) (w.alloc (.cells #[.int .i64 1024, .int .i64 66560] 2)) W)) (fun c25 _ => 2 - (intOf c25).toNat)
  case atStart => exact ⟨0, by decide, rfl, (fun h => by cases h), Lib.hid (Below.refl _ _)⟩
  case round =>
    obtain ⟨W, rfl⟩ : ∃ W, W = wr := ⟨_, rfl⟩
    obtain ⟨k, hk, rfl, hk1, HB⟩ := hrel
    have a0 : W.cell? ⟨w.heap.size, 0, none⟩ = some (.int .i64 1024) := (HB.out.cell (p := ⟨w.heap.size, 0, none⟩) (Nat.lt_succ_self _)).trans ((Blk.new w _ _).cell 0)
    have a1 : W.cell? ⟨w.heap.size, 1, none⟩ = some (.int .i64 66560) := (HB.out.cell (p := ⟨w.heap.size, 1, none⟩) (Nat.lt_succ_self _)).trans ((Blk.new w _ _).cell 1)
    by_cases hA : k = 0 ∧ n < 1024
    · obtain ⟨rfl, hlt⟩ := hA
      clear hk hk1
      have hrw : W.cell? ⟨rb, 0, none⟩ = some (.string ⟨s.toArray⟩) := (HB.out.cell (p := ⟨rb, 0, none⟩) (by show rb < _; omega)).trans ((World.cell?_alloc_lt w _ ⟨rb, 0, none⟩ hrb).trans HR.out)
      have hsz := HB.out.size
      have hsz : w.heap.size + 1 ≤ W.heap.size := by simpa using hsz
      go_wp2_with (first
        | (at_make; refine wpList_make_full _ rfl _ _ 46 rfl W.heap.size 5 i0 (.int .u8 0) 1 Tryz.underlying46 hi hz0 hz1 .i64 .i64 _ _ n rfl rfl rfl rfl (by rw [hz2]; omega) (by unfold maxLen; omega) (Nat.le_refl _) ?_; intro w0 hown hgr
           obtain ⟨cur, hcur, hcs, hlt0⟩ := row_of_own hown
           have hb0 : Below W.heap.size W w0 := (Below.refl _ _).grown hgr (Nat.le_refl _) (fun q hq => by cases hq)
           have HRA := Lib.hid (read_whole rb s n n W.heap.size cur HN.out.1 (by omega) (by omega) w0 ((hb0.cell (p := ⟨rb, 0, none⟩) (by show rb < _; omega)).trans hrw) hcur hcs)
           have HB0 := Lib.hid hb0
           clear hown hgr hcur hb0)
        | (go_at_call 114; refine HRA.out.mono ?_; rintro e w1 ⟨rfl, hD, hK⟩
           have HFI := Lib.hid (find_whole W.heap.size n n s c w1 HN.out.1 HN.out.2.1 HN.out.2.2 hc hD)
           have HD := Lib.hid hD
           have HK := Lib.hid hK
           clear hD hK)
        | (go_at_call 48; refine HFI.out.mono ?_; rintro e w2 ⟨rfl, hb2⟩
           have HD2 := Lib.hid (HD.out.below hb2 HD.out.lt)
           have HB2 := Lib.hid (dir_world HB.out HB0.out HK.out hb2 (by omega))
           clear hb2))
      have hGR : W.heap.size ≠ w2.heap.size := Nat.ne_of_lt HD2.out.lt
      have HX3 := Lib.hid (And.intro (Blk.new w2 113 #[.slice (some ⟨W.heap.size, 4, none⟩) (n - 4) (n - 4)]) (And.intro (HD2.out.alloc (.cells #[.slice (some ⟨W.heap.size, 4, none⟩) (n - 4) (n - 4)] 113)) ((Kept.refl [] w2).alloc (.cells #[.slice (some ⟨W.heap.size, 4, none⟩) (n - 4) (n - 4)] 113))))
      refine (rb16 (o := 4) (n := n - 4) (c := n - 4) HX3.out.1 HX3.out.2.1 (by omega) (by omega) (by have := HN.out.1; omega) (0) (by rw [HN.out.2.1]; exact (end_nums c hc).1)).mono ?_
      rintro e w4 ⟨rfl, ⟨o4, ho4, hr4⟩, hk4⟩
      obtain rfl : o4 = 6 := ho4.out (by omega)
      rw [show n - 4 - 2 = n - 6 by omega] at hr4
      have HX4 := Lib.hid (And.intro hr4 (And.intro (hk4.blk HX3.out.2.1 (by simpa using hGR)) (HX3.out.2.2.trans' hk4 (fun x hx => .inr (by simp at hx; omega)))))
      clear hr4 hk4 ho4
      go_wp2_with fail
      refine (rb16 (o := 6) (n := n - 6) (c := n - 6) HX4.out.1 HX4.out.2.1 (by omega) (by omega) (by have := HN.out.1; omega) (0) (by rw [HN.out.2.1]; exact (end_nums c hc).2.1)).mono ?_
      rintro e w5 ⟨rfl, ⟨o5, ho5, hr5⟩, hk5⟩
      obtain rfl : o5 = 8 := ho5.out (by omega)
      rw [show n - 6 - 2 = n - 8 by omega] at hr5
      have HX5 := Lib.hid (And.intro hr5 (And.intro (hk5.blk HX4.out.2.1 (by simpa using hGR)) (HX4.out.2.2.trans' hk5 (fun x hx => .inr (by simp at hx; omega)))))
      clear hr5 hk5 ho5
      go_wp2_with fail
      refine (rb16 (o := 8) (n := n - 8) (c := n - 8) HX5.out.1 HX5.out.2.1 (by omega) (by omega) (by have := HN.out.1; omega) (0) (by rw [HN.out.2.1]; exact (end_nums c hc).2.2.1)).mono ?_
      rintro e w6 ⟨rfl, ⟨o6, ho6, hr6⟩, hk6⟩
      obtain rfl : o6 = 10 := ho6.out (by omega)
      rw [show n - 8 - 2 = n - 10 by omega] at hr6
      have HX6 := Lib.hid (And.intro hr6 (And.intro (hk6.blk HX5.out.2.1 (by simpa using hGR)) (HX5.out.2.2.trans' hk6 (fun x hx => .inr (by simp at hx; omega)))))
      clear hr6 hk6 ho6
      go_wp2_with fail
      refine (rb16 (o := 10) (n := n - 10) (c := n - 10) HX6.out.1 HX6.out.2.1 (by omega) (by omega) (by have := HN.out.1; omega) (0) (by rw [HN.out.2.1]; exact (end_nums c hc).2.2.2.1)).mono ?_
      rintro e w7 ⟨rfl, ⟨o7, ho7, hr7⟩, hk7⟩
      obtain rfl : o7 = 12 := ho7.out (by omega)
      rw [show n - 10 - 2 = n - 12 by omega] at hr7
      have HX7 := Lib.hid (And.intro hr7 (And.intro (hk7.blk HX6.out.2.1 (by simpa using hGR)) (HX6.out.2.2.trans' hk7 (fun x hx => .inr (by simp at hx; omega)))))
      clear hr7 hk7 ho7
      go_wp2_with fail
      refine (rb32 (o := 12) (n := n - 12) (c := n - 12) HX7.out.1 HX7.out.2.1 (by omega) (by omega) (by have := HN.out.1; omega) (0) (by rw [HN.out.2.1]; exact (end_nums c hc).2.2.2.2.1)).mono ?_
      rintro e w8 ⟨rfl, ⟨o8, ho8, hr8⟩, hk8⟩
      obtain rfl : o8 = 16 := ho8.out (by omega)
      rw [show n - 12 - 4 = n - 16 by omega] at hr8
      have HX8 := Lib.hid (And.intro hr8 (And.intro (hk8.blk HX7.out.2.1 (by simpa using hGR)) (HX7.out.2.2.trans' hk8 (fun x hx => .inr (by simp at hx; omega)))))
      clear hr8 hk8 ho8
      go_wp2_with fail
      refine (rb32 (o := 16) (n := n - 16) (c := n - 16) HX8.out.1 HX8.out.2.1 (by omega) (by omega) (by have := HN.out.1; omega) (0) (by rw [HN.out.2.1]; exact (end_nums c hc).2.2.2.2.2.1)).mono ?_
      rintro e w9 ⟨rfl, ⟨o9, ho9, hr9⟩, hk9⟩
      obtain rfl : o9 = 20 := ho9.out (by omega)
      rw [show n - 16 - 4 = n - 20 by omega] at hr9
      have HX9 := Lib.hid (And.intro hr9 (And.intro (hk9.blk HX8.out.2.1 (by simpa using hGR)) (HX8.out.2.2.trans' hk9 (fun x hx => .inr (by simp at hx; omega)))))
      clear hr9 hk9 ho9
      go_wp2_with fail
      refine (rb16 (o := 20) (n := n - 20) (c := n - 20) HX9.out.1 HX9.out.2.1 (by omega) (by omega) (by have := HN.out.1; omega) (c.length) (by rw [HN.out.2.1]; exact (end_nums c hc).2.2.2.2.2.2)).mono ?_
      rintro e w10 ⟨rfl, ⟨o10, ho10, hr10⟩, hk10⟩
      rw [show n - 20 - 2 = c.length by have := HN2.out; omega] at hr10
      have HX10 := Lib.hid (And.intro hr10 (And.intro (hk10.blk HX9.out.2.1 (by simpa using hGR)) (HX9.out.2.2.trans' hk10 (fun x hx => .inr (by simp at hx; omega)))))
      have hbc : BytesAt w10 ⟨W.heap.size, o10, none⟩ c := tail_bytes HX10.out.2.1 HN.out.2.1 (fun h => ho10.out (by have := HN2.out; omega))
      have HBC := Lib.hid hbc
      have hG10 : W.heap.size < w10.heap.size := HX10.out.2.1.lt
      have hR10 : w2.heap.size < w10.heap.size := HX10.out.1.lt
      have hcl : w10.cell? ⟨w2.heap.size, 0, none⟩ = some (.slice (some ⟨W.heap.size, o10, none⟩) c.length c.length) := HX10.out.1.cell 0
      have hconv := fun ob => conv_str (w := w10.alloc ob) (hbc.below ((Below.refl w10.heap.size w10).alloc (Nat.le_refl _) ob) hG10) rfl (cap := c.length)
      clear hr10 hk10 ho10 hbc
      go_wp2
      go_quiet (fail)
      go_wp2
      go_ret3
      refine ⟨w10.heap.size, rfl, ?_, (Blk.new w10 _ _).drewN _, ?_⟩
      · have z2 := HB2.out.size
        have z10 := HX10.out.2.2.size
        simp at z2
        omega
      · have z2 := HB2.out.size
        simp at z2
        have h2 : Below w.heap.size w w2 := below_new (by simpa using HB2.out)
        exact below_drewN ((h2.trans (HX10.out.2.2.to_below (by omega) (by simp))).alloc (by have := HX10.out.2.2.size; omega) _) _
    · by_cases hB : k = 0 ∧ n = 1024
      · obtain ⟨rfl, he⟩ := hB
        rw [show (1024 : Int) = ((n : Nat) : Int) by omega] at a0
        clear hk hk1 hA he
        have hrw : W.cell? ⟨rb, 0, none⟩ = some (.string ⟨s.toArray⟩) := (HB.out.cell (p := ⟨rb, 0, none⟩) (by show rb < _; omega)).trans ((World.cell?_alloc_lt w _ ⟨rb, 0, none⟩ hrb).trans HR.out)
        have hsz := HB.out.size
        have hsz : w.heap.size + 1 ≤ W.heap.size := by simpa using hsz
        go_wp2_with (first
          | (at_make; refine wpList_make_full _ rfl _ _ 46 rfl W.heap.size 5 i0 (.int .u8 0) 1 Tryz.underlying46 hi hz0 hz1 .i64 .i64 _ _ n rfl rfl rfl rfl (by rw [hz2]; omega) (by unfold maxLen; omega) (Nat.le_refl _) ?_; intro w0 hown hgr
             obtain ⟨cur, hcur, hcs, hlt0⟩ := row_of_own hown
             have hb0 : Below W.heap.size W w0 := (Below.refl _ _).grown hgr (Nat.le_refl _) (fun q hq => by cases hq)
             have HRA := Lib.hid (read_whole rb s n n W.heap.size cur HN.out.1 (by omega) (by omega) w0 ((hb0.cell (p := ⟨rb, 0, none⟩) (by show rb < _; omega)).trans hrw) hcur hcs)
             have HB0 := Lib.hid hb0
             clear hown hgr hcur hb0)
          | (go_at_call 114; refine HRA.out.mono ?_; rintro e w1 ⟨rfl, hD, hK⟩
             have HFI := Lib.hid (find_whole W.heap.size n n s c w1 HN.out.1 HN.out.2.1 HN.out.2.2 hc hD)
             have HD := Lib.hid hD
             have HK := Lib.hid hK
             clear hD hK)
          | (go_at_call 48; refine HFI.out.mono ?_; rintro e w2 ⟨rfl, hb2⟩
             have HD2 := Lib.hid (HD.out.below hb2 HD.out.lt)
             have HB2 := Lib.hid (dir_world HB.out HB0.out HK.out hb2 (by omega))
             clear hb2))
        have hGR : W.heap.size ≠ w2.heap.size := Nat.ne_of_lt HD2.out.lt
        have HX3 := Lib.hid (And.intro (Blk.new w2 113 #[.slice (some ⟨W.heap.size, 4, none⟩) (n - 4) (n - 4)]) (And.intro (HD2.out.alloc (.cells #[.slice (some ⟨W.heap.size, 4, none⟩) (n - 4) (n - 4)] 113)) ((Kept.refl [] w2).alloc (.cells #[.slice (some ⟨W.heap.size, 4, none⟩) (n - 4) (n - 4)] 113))))
        refine (rb16 (o := 4) (n := n - 4) (c := n - 4) HX3.out.1 HX3.out.2.1 (by omega) (by omega) (by have := HN.out.1; omega) (0) (by rw [HN.out.2.1]; exact (end_nums c hc).1)).mono ?_
        rintro e w4 ⟨rfl, ⟨o4, ho4, hr4⟩, hk4⟩
        obtain rfl : o4 = 6 := ho4.out (by omega)
        rw [show n - 4 - 2 = n - 6 by omega] at hr4
        have HX4 := Lib.hid (And.intro hr4 (And.intro (hk4.blk HX3.out.2.1 (by simpa using hGR)) (HX3.out.2.2.trans' hk4 (fun x hx => .inr (by simp at hx; omega)))))
        clear hr4 hk4 ho4
        go_wp2_with fail
        refine (rb16 (o := 6) (n := n - 6) (c := n - 6) HX4.out.1 HX4.out.2.1 (by omega) (by omega) (by have := HN.out.1; omega) (0) (by rw [HN.out.2.1]; exact (end_nums c hc).2.1)).mono ?_
        rintro e w5 ⟨rfl, ⟨o5, ho5, hr5⟩, hk5⟩
        obtain rfl : o5 = 8 := ho5.out (by omega)
        rw [show n - 6 - 2 = n - 8 by omega] at hr5
        have HX5 := Lib.hid (And.intro hr5 (And.intro (hk5.blk HX4.out.2.1 (by simpa using hGR)) (HX4.out.2.2.trans' hk5 (fun x hx => .inr (by simp at hx; omega)))))
        clear hr5 hk5 ho5
        go_wp2_with fail
        refine (rb16 (o := 8) (n := n - 8) (c := n - 8) HX5.out.1 HX5.out.2.1 (by omega) (by omega) (by have := HN.out.1; omega) (0) (by rw [HN.out.2.1]; exact (end_nums c hc).2.2.1)).mono ?_
        rintro e w6 ⟨rfl, ⟨o6, ho6, hr6⟩, hk6⟩
        obtain rfl : o6 = 10 := ho6.out (by omega)
        rw [show n - 8 - 2 = n - 10 by omega] at hr6
        have HX6 := Lib.hid (And.intro hr6 (And.intro (hk6.blk HX5.out.2.1 (by simpa using hGR)) (HX5.out.2.2.trans' hk6 (fun x hx => .inr (by simp at hx; omega)))))
        clear hr6 hk6 ho6
        go_wp2_with fail
        refine (rb16 (o := 10) (n := n - 10) (c := n - 10) HX6.out.1 HX6.out.2.1 (by omega) (by omega) (by have := HN.out.1; omega) (0) (by rw [HN.out.2.1]; exact (end_nums c hc).2.2.2.1)).mono ?_
        rintro e w7 ⟨rfl, ⟨o7, ho7, hr7⟩, hk7⟩
        obtain rfl : o7 = 12 := ho7.out (by omega)
        rw [show n - 10 - 2 = n - 12 by omega] at hr7
        have HX7 := Lib.hid (And.intro hr7 (And.intro (hk7.blk HX6.out.2.1 (by simpa using hGR)) (HX6.out.2.2.trans' hk7 (fun x hx => .inr (by simp at hx; omega)))))
        clear hr7 hk7 ho7
        go_wp2_with fail
        refine (rb32 (o := 12) (n := n - 12) (c := n - 12) HX7.out.1 HX7.out.2.1 (by omega) (by omega) (by have := HN.out.1; omega) (0) (by rw [HN.out.2.1]; exact (end_nums c hc).2.2.2.2.1)).mono ?_
        rintro e w8 ⟨rfl, ⟨o8, ho8, hr8⟩, hk8⟩
        obtain rfl : o8 = 16 := ho8.out (by omega)
        rw [show n - 12 - 4 = n - 16 by omega] at hr8
        have HX8 := Lib.hid (And.intro hr8 (And.intro (hk8.blk HX7.out.2.1 (by simpa using hGR)) (HX7.out.2.2.trans' hk8 (fun x hx => .inr (by simp at hx; omega)))))
        clear hr8 hk8 ho8
        go_wp2_with fail
        refine (rb32 (o := 16) (n := n - 16) (c := n - 16) HX8.out.1 HX8.out.2.1 (by omega) (by omega) (by have := HN.out.1; omega) (0) (by rw [HN.out.2.1]; exact (end_nums c hc).2.2.2.2.2.1)).mono ?_
        rintro e w9 ⟨rfl, ⟨o9, ho9, hr9⟩, hk9⟩
        obtain rfl : o9 = 20 := ho9.out (by omega)
        rw [show n - 16 - 4 = n - 20 by omega] at hr9
        have HX9 := Lib.hid (And.intro hr9 (And.intro (hk9.blk HX8.out.2.1 (by simpa using hGR)) (HX8.out.2.2.trans' hk9 (fun x hx => .inr (by simp at hx; omega)))))
        clear hr9 hk9 ho9
        go_wp2_with fail
        refine (rb16 (o := 20) (n := n - 20) (c := n - 20) HX9.out.1 HX9.out.2.1 (by omega) (by omega) (by have := HN.out.1; omega) (c.length) (by rw [HN.out.2.1]; exact (end_nums c hc).2.2.2.2.2.2)).mono ?_
        rintro e w10 ⟨rfl, ⟨o10, ho10, hr10⟩, hk10⟩
        rw [show n - 20 - 2 = c.length by have := HN2.out; omega] at hr10
        have HX10 := Lib.hid (And.intro hr10 (And.intro (hk10.blk HX9.out.2.1 (by simpa using hGR)) (HX9.out.2.2.trans' hk10 (fun x hx => .inr (by simp at hx; omega)))))
        have hbc : BytesAt w10 ⟨W.heap.size, o10, none⟩ c := tail_bytes HX10.out.2.1 HN.out.2.1 (fun h => ho10.out (by have := HN2.out; omega))
        have HBC := Lib.hid hbc
        have hG10 : W.heap.size < w10.heap.size := HX10.out.2.1.lt
        have hR10 : w2.heap.size < w10.heap.size := HX10.out.1.lt
        have hcl : w10.cell? ⟨w2.heap.size, 0, none⟩ = some (.slice (some ⟨W.heap.size, o10, none⟩) c.length c.length) := HX10.out.1.cell 0
        have hconv := fun ob => conv_str (w := w10.alloc ob) (hbc.below ((Below.refl w10.heap.size w10).alloc (Nat.le_refl _) ob) hG10) rfl (cap := c.length)
        clear hr10 hk10 ho10 hbc
        go_wp2
        go_quiet (fail)
        go_wp2
        go_ret3
        refine ⟨w10.heap.size, rfl, ?_, (Blk.new w10 _ _).drewN _, ?_⟩
        · have z2 := HB2.out.size
          have z10 := HX10.out.2.2.size
          simp at z2
          omega
        · have z2 := HB2.out.size
          simp at z2
          have h2 : Below w.heap.size w w2 := below_new (by simpa using HB2.out)
          exact below_drewN ((h2.trans (HX10.out.2.2.to_below (by omega) (by simp))).alloc (by have := HX10.out.2.2.size; omega) _) _
      · by_cases hC : k = 1
        · have hlt := hk1 hC
          obtain ⟨X, hX⟩ : ∃ X : Int, X = 66560 := ⟨_, rfl⟩
          have ak : W.cell? ⟨w.heap.size, k, none⟩ = some (.int .i64 X) := by rw [hC, hX]; exact a1
          have hXn : (n : Int) < X := by omega
          clear hX
          have hk2 : k < 2 := by omega
          clear hk hk1 hA hB hC a0 a1
          have hrw : W.cell? ⟨rb, 0, none⟩ = some (.string ⟨s.toArray⟩) := (HB.out.cell (p := ⟨rb, 0, none⟩) (by show rb < _; omega)).trans ((World.cell?_alloc_lt w _ ⟨rb, 0, none⟩ hrb).trans HR.out)
          have hsz := HB.out.size
          have hsz : w.heap.size + 1 ≤ W.heap.size := by simpa using hsz
          go_wp2_with (first
            | (at_make; refine wpList_make_full _ rfl _ _ 46 rfl W.heap.size 5 i0 (.int .u8 0) 1 Tryz.underlying46 hi hz0 hz1 .i64 .i64 _ _ n rfl rfl rfl rfl (by rw [hz2]; omega) (by unfold maxLen; omega) (Nat.le_refl _) ?_; intro w0 hown hgr
               obtain ⟨cur, hcur, hcs, hlt0⟩ := row_of_own hown
               have hb0 : Below W.heap.size W w0 := (Below.refl _ _).grown hgr (Nat.le_refl _) (fun q hq => by cases hq)
               have HRA := Lib.hid (read_whole rb s n n W.heap.size cur HN.out.1 (by omega) (by omega) w0 ((hb0.cell (p := ⟨rb, 0, none⟩) (by show rb < _; omega)).trans hrw) hcur hcs)
               have HB0 := Lib.hid hb0
               clear hown hgr hcur hb0)
            | (go_at_call 114; refine HRA.out.mono ?_; rintro e w1 ⟨rfl, hD, hK⟩
               have HFI := Lib.hid (find_whole W.heap.size n n s c w1 HN.out.1 HN.out.2.1 HN.out.2.2 hc hD)
               have HD := Lib.hid hD
               have HK := Lib.hid hK
               clear hD hK)
            | (go_at_call 48; refine HFI.out.mono ?_; rintro e w2 ⟨rfl, hb2⟩
               have HD2 := Lib.hid (HD.out.below hb2 HD.out.lt)
               have HB2 := Lib.hid (dir_world HB.out HB0.out HK.out hb2 (by omega))
               clear hb2))
          have hGR : W.heap.size ≠ w2.heap.size := Nat.ne_of_lt HD2.out.lt
          have HX3 := Lib.hid (And.intro (Blk.new w2 113 #[.slice (some ⟨W.heap.size, 4, none⟩) (n - 4) (n - 4)]) (And.intro (HD2.out.alloc (.cells #[.slice (some ⟨W.heap.size, 4, none⟩) (n - 4) (n - 4)] 113)) ((Kept.refl [] w2).alloc (.cells #[.slice (some ⟨W.heap.size, 4, none⟩) (n - 4) (n - 4)] 113))))
          refine (rb16 (o := 4) (n := n - 4) (c := n - 4) HX3.out.1 HX3.out.2.1 (by omega) (by omega) (by have := HN.out.1; omega) (0) (by rw [HN.out.2.1]; exact (end_nums c hc).1)).mono ?_
          rintro e w4 ⟨rfl, ⟨o4, ho4, hr4⟩, hk4⟩
          obtain rfl : o4 = 6 := ho4.out (by omega)
          rw [show n - 4 - 2 = n - 6 by omega] at hr4
          have HX4 := Lib.hid (And.intro hr4 (And.intro (hk4.blk HX3.out.2.1 (by simpa using hGR)) (HX3.out.2.2.trans' hk4 (fun x hx => .inr (by simp at hx; omega)))))
          clear hr4 hk4 ho4
          go_wp2_with fail
          refine (rb16 (o := 6) (n := n - 6) (c := n - 6) HX4.out.1 HX4.out.2.1 (by omega) (by omega) (by have := HN.out.1; omega) (0) (by rw [HN.out.2.1]; exact (end_nums c hc).2.1)).mono ?_
          rintro e w5 ⟨rfl, ⟨o5, ho5, hr5⟩, hk5⟩
          obtain rfl : o5 = 8 := ho5.out (by omega)
          rw [show n - 6 - 2 = n - 8 by omega] at hr5
          have HX5 := Lib.hid (And.intro hr5 (And.intro (hk5.blk HX4.out.2.1 (by simpa using hGR)) (HX4.out.2.2.trans' hk5 (fun x hx => .inr (by simp at hx; omega)))))
          clear hr5 hk5 ho5
          go_wp2_with fail
          refine (rb16 (o := 8) (n := n - 8) (c := n - 8) HX5.out.1 HX5.out.2.1 (by omega) (by omega) (by have := HN.out.1; omega) (0) (by rw [HN.out.2.1]; exact (end_nums c hc).2.2.1)).mono ?_
          rintro e w6 ⟨rfl, ⟨o6, ho6, hr6⟩, hk6⟩
          obtain rfl : o6 = 10 := ho6.out (by omega)
          rw [show n - 8 - 2 = n - 10 by omega] at hr6
          have HX6 := Lib.hid (And.intro hr6 (And.intro (hk6.blk HX5.out.2.1 (by simpa using hGR)) (HX5.out.2.2.trans' hk6 (fun x hx => .inr (by simp at hx; omega)))))
          clear hr6 hk6 ho6
          go_wp2_with fail
          refine (rb16 (o := 10) (n := n - 10) (c := n - 10) HX6.out.1 HX6.out.2.1 (by omega) (by omega) (by have := HN.out.1; omega) (0) (by rw [HN.out.2.1]; exact (end_nums c hc).2.2.2.1)).mono ?_
          rintro e w7 ⟨rfl, ⟨o7, ho7, hr7⟩, hk7⟩
          obtain rfl : o7 = 12 := ho7.out (by omega)
          rw [show n - 10 - 2 = n - 12 by omega] at hr7
          have HX7 := Lib.hid (And.intro hr7 (And.intro (hk7.blk HX6.out.2.1 (by simpa using hGR)) (HX6.out.2.2.trans' hk7 (fun x hx => .inr (by simp at hx; omega)))))
          clear hr7 hk7 ho7
          go_wp2_with fail
          refine (rb32 (o := 12) (n := n - 12) (c := n - 12) HX7.out.1 HX7.out.2.1 (by omega) (by omega) (by have := HN.out.1; omega) (0) (by rw [HN.out.2.1]; exact (end_nums c hc).2.2.2.2.1)).mono ?_
          rintro e w8 ⟨rfl, ⟨o8, ho8, hr8⟩, hk8⟩
          obtain rfl : o8 = 16 := ho8.out (by omega)
          rw [show n - 12 - 4 = n - 16 by omega] at hr8
          have HX8 := Lib.hid (And.intro hr8 (And.intro (hk8.blk HX7.out.2.1 (by simpa using hGR)) (HX7.out.2.2.trans' hk8 (fun x hx => .inr (by simp at hx; omega)))))
          clear hr8 hk8 ho8
          go_wp2_with fail
          refine (rb32 (o := 16) (n := n - 16) (c := n - 16) HX8.out.1 HX8.out.2.1 (by omega) (by omega) (by have := HN.out.1; omega) (0) (by rw [HN.out.2.1]; exact (end_nums c hc).2.2.2.2.2.1)).mono ?_
          rintro e w9 ⟨rfl, ⟨o9, ho9, hr9⟩, hk9⟩
          obtain rfl : o9 = 20 := ho9.out (by omega)
          rw [show n - 16 - 4 = n - 20 by omega] at hr9
          have HX9 := Lib.hid (And.intro hr9 (And.intro (hk9.blk HX8.out.2.1 (by simpa using hGR)) (HX8.out.2.2.trans' hk9 (fun x hx => .inr (by simp at hx; omega)))))
          clear hr9 hk9 ho9
          go_wp2_with fail
          refine (rb16 (o := 20) (n := n - 20) (c := n - 20) HX9.out.1 HX9.out.2.1 (by omega) (by omega) (by have := HN.out.1; omega) (c.length) (by rw [HN.out.2.1]; exact (end_nums c hc).2.2.2.2.2.2)).mono ?_
          rintro e w10 ⟨rfl, ⟨o10, ho10, hr10⟩, hk10⟩
          rw [show n - 20 - 2 = c.length by have := HN2.out; omega] at hr10
          have HX10 := Lib.hid (And.intro hr10 (And.intro (hk10.blk HX9.out.2.1 (by simpa using hGR)) (HX9.out.2.2.trans' hk10 (fun x hx => .inr (by simp at hx; omega)))))
          have hbc : BytesAt w10 ⟨W.heap.size, o10, none⟩ c := tail_bytes HX10.out.2.1 HN.out.2.1 (fun h => ho10.out (by have := HN2.out; omega))
          have HBC := Lib.hid hbc
          have hG10 : W.heap.size < w10.heap.size := HX10.out.2.1.lt
          have hR10 : w2.heap.size < w10.heap.size := HX10.out.1.lt
          have hcl : w10.cell? ⟨w2.heap.size, 0, none⟩ = some (.slice (some ⟨W.heap.size, o10, none⟩) c.length c.length) := HX10.out.1.cell 0
          have hconv := fun ob => conv_str (w := w10.alloc ob) (hbc.below ((Below.refl w10.heap.size w10).alloc (Nat.le_refl _) ob) hG10) rfl (cap := c.length)
          clear hr10 hk10 ho10 hbc
          go_wp2
          go_quiet (fail)
          go_wp2
          go_ret3
          refine ⟨w10.heap.size, rfl, ?_, (Blk.new w10 _ _).drewN _, ?_⟩
          · have z2 := HB2.out.size
            have z10 := HX10.out.2.2.size
            simp at z2
            omega
          · have z2 := HB2.out.size
            simp at z2
            have h2 : Below w.heap.size w w2 := below_new (by simpa using HB2.out)
            exact below_drewN ((h2.trans (HX10.out.2.2.to_below (by omega) (by simp))).alloc (by have := HX10.out.2.2.size; omega) _) _
        · obtain rfl : k = 0 := by omega
          have hlt : 1024 < n := by omega
          have hne : ((1024 : Int) == (n : Int)) = false := by simp; omega
          have hlt2 : ¬ ((n : Int) < 1024) := by omega
          have hrw : W.cell? ⟨rb, 0, none⟩ = some (.string ⟨s.toArray⟩) := (HB.out.cell (p := ⟨rb, 0, none⟩) (by show rb < _; omega)).trans ((World.cell?_alloc_lt w _ ⟨rb, 0, none⟩ hrb).trans HR.out)
          have hsz := HB.out.size
          have hsz : w.heap.size + 1 ≤ W.heap.size := by simpa using hsz
          clear hk hk1 hA hB hC
          go_wp2_with (first
            | (at_make; refine wpList_make_full _ rfl _ _ 46 rfl W.heap.size 5 i0 (.int .u8 0) 1 Tryz.underlying46 hi hz0 hz1 .i64 .i64 _ _ 1024 rfl rfl rfl rfl (by rw [hz2]; decide) (by decide) (Nat.le_refl _) ?_; intro w0 hown hgr
               obtain ⟨cur, hcur, hcs, hlt0⟩ := row_of_own hown
               have hb0 : Below W.heap.size W w0 := (Below.refl _ _).grown hgr (Nat.le_refl _) (fun q hq => by cases hq)
               have HRA := Lib.hid (read_part rb s (n - 1024) 1024 W.heap.size cur ((n : Int) - 1024) (by omega) (by have := HN.out.1; omega) w0 ((hb0.cell (p := ⟨rb, 0, none⟩) (by show rb < _; omega)).trans hrw) hcur hcs)
               have HB0 := Lib.hid hb0
               clear hown hgr hcur hb0)
            | (go_at_call 114; refine HRA.out.mono ?_; rintro e w1 ⟨rfl, hD, hK⟩
               have HFI := Lib.hid (find_part W.heap.size (n - 1024) 1024 s c w1 (by have := HN.out.1; omega) (by omega) HN.out.2.1 HN.out.2.2 hD)
               have HD := Lib.hid hD
               have HK := Lib.hid hK
               clear hD hK)
            | (go_at_call 48; refine HFI.out.mono ?_; rintro e w2 ⟨rfl, hb2⟩
               have HB2 := Lib.hid (dir_world HB.out HB0.out HK.out hb2 (by omega))
               clear hb2))
          go_roundw
          case rel => exact ⟨1, Nat.le_refl _, rfl, (fun _ => hlt), HB2⟩
          case measure => simp [intOf]
end Go.Proofs.YtfagjhgmmaebfaaGreatDoor
