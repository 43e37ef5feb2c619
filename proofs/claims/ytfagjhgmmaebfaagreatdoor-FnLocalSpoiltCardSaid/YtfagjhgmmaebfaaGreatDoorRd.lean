/- A bufio.Reader over a section of a text: what is known of it; bufio.Reader.Read where bytes lie in the buffer. -/
import Derived.Test.YtfagjhgmmaebfaaGreatDoorBuf
import Derived.Test.YtfagjhgmmaebfaaGreatDoorBlk
namespace Go.Proofs.YtfagjhgmmaebfaaGreatDoor
open Go.RowKit
/-- The reader bb (its buffer gb) over the section sb of the text rb = s up to L: it stands at q; the buffer holds what comes next from r to wr. -/
structure BufR (w : World) (bb gb sb rb : Nat) (s : List UInt8) (L q r wr : Nat) (l : List UInt8) (v5 v6 b0 n0 i0 p0 : Value) : Prop where
  buf : Blk w bb 145 #[.slice (some ⟨gb, 0, none⟩) 4096 4096, .iface 94 (.pointer (some ⟨sb, 0, none⟩)), .int .i64 r, .int .i64 wr, .nilIface, v5, v6]
  row : Blk w gb 5 (l.map byteV).toArray
  len : l.length = 4096
  le : r ≤ wr
  hw : wr ≤ 4096
  eq : (l.drop r).take (wr - r) = (s.drop q).take (wr - r)
  fit : q + (wr - r) ≤ L
  hL : L ≤ s.length
  hs : s.length ≤ 4294967295
  sec : Blk w sb 117 #[.iface 54 (.pointer (some ⟨rb, 0, none⟩)), b0, .int .i64 (q + (wr - r) : Nat), .int .i64 L, n0]
  str : Blk w rb 89 #[.string ⟨s.toArray⟩, i0, p0]
theorem BufR.kept {w w' : World} {bb gb sb rb : Nat} {s : List UInt8} {L q r wr : Nat} {l : List UInt8} {v5 v6 b0 n0 i0 p0 : Value} {S : List Nat} (h : BufR w bb gb sb rb s L q r wr l v5 v6 b0 n0 i0 p0) (k : Kept S w w') (h1 : bb ∉ S) (h2 : gb ∉ S) (h3 : sb ∉ S) (h4 : rb ∉ S) : BufR w' bb gb sb rb s L q r wr l v5 v6 b0 n0 i0 p0 :=
  ⟨k.blk h.buf h1, k.blk h.row h2, h.len, h.le, h.hw, h.eq, h.fit, h.hL, h.hs, k.blk h.sec h3, k.blk h.str h4⟩
theorem BufR.err4 {w : World} {bb gb sb rb : Nat} {s : List UInt8} {L q r wr : Nat} {l : List UInt8} {v5 v6 b0 n0 i0 p0 : Value} (h : BufR w bb gb sb rb s L q r wr l v5 v6 b0 n0 i0 p0) : BufR (w.setCell ⟨bb, 4, none⟩ .nilIface) bb gb sb rb s L q r wr l v5 v6 b0 n0 i0 p0 :=
  ⟨Blk.cast (h.buf.set_ 4 _) (by simp), h.row.far (h.row.ne_ h.buf (by decide)) _, h.len, h.le, h.hw, h.eq, h.fit, h.hL, h.hs, h.sec.far (h.sec.ne_ h.buf (by decide)) _, h.str.far (h.str.ne_ h.buf (by decide)) _⟩
/-- copy between two blocks known whole. -/
theorem copy_row {W : World} {g t gb tg : Nat} {cs : Array Value} {l : List UInt8} (hd : Blk W g t cs) (hrow : Blk W gb tg (l.map byteV).toArray) (o n c r m cap : Nat) (ho : o + n ≤ cs.size) (hm : r + m ≤ l.length) (ty : TypeId) :
    (Builtin.copy_ #[46, 46] ty #[.slice (some ⟨g, o, none⟩) n c, .slice (some ⟨gb, r, none⟩) m cap]).run Tryz.prog W = .ok (goInt (min n m : Nat)) (W.setCells g o (((l.drop r).take (min n m)).map byteV)) := by
  have hlen : (((l.drop r).take (min n m)).map byteV).length = min n m := by rw [List.length_map, List.length_take, List.length_drop]; omega
  have h := run_copy_cells (P := Tryz.prog) W 46 46 ty 5 g o n c ⟨gb, r, none⟩ m cap (((l.drop r).take (min n m)).map byteV) Tryz.underlying46 (by kernel_rfl) (by rw [hlen]; show min n m = min m n; omega) (fun j v hj => by
    have hj' : j < min n m := by
      have := (List.getElem?_eq_some_iff.1 hj).1; omega
    have e : (⟨gb, r, none⟩ : Addr).add j = ⟨gb, r + j, none⟩ := by
      unfold Addr.add
      split
      · subst_vars; rfl
      · rfl
    rw [e, hrow.cell, ← hj]
    simp [hj', List.getElem?_take_of_lt]) (fun j hj => by rw [hd.cell]; simp; omega) (fun j hj => hd.frozen _) (byteV_one _)
  rw [hlen] at h
  exact h
theorem add_at (b o j : Nat) : (⟨b, o, none⟩ : Addr).add j = ⟨b, o + j, none⟩ := by
  unfold Addr.add
  split
  · subst_vars; rfl
  · rfl
theorem u8_size (W : World) : (sizeOf (Tryz.prog.elem 46)).run Tryz.prog W = .ok 1 W := by kernel_rfl
/-- A slice of bytes cut from r to h. -/
theorem slice_lh (g o r h n c : Nat) (h1 : r ≤ h) (h2 : h ≤ c) (h3 : r < c) (W : World) :
    (Instr.slice 46 (.slice (some ⟨g, o, none⟩) n c) (some (.int .i64 r)) (some (.int .i64 h)) none).run Tryz.prog W = .ok (.slice (some ⟨g, o + r, none⟩) (h - r) (c - r)) W := by
  rw [run_slice_lh (P := Tryz.prog) W 46 (some ⟨g, o, none⟩) n c (by kernel_rfl) .i64 .i64 r h (by omega) (by omega) (by omega), u8_size]
  simp [sliced, add_at, Result.andThen, show ¬ c = r by omega]
theorem slice_l (g o r n c : Nat) (h1 : r ≤ n) (h3 : r < c) (W : World) :
    (Instr.slice 46 (.slice (some ⟨g, o, none⟩) n c) (some (.int .i64 r)) none none).run Tryz.prog W = .ok (.slice (some ⟨g, o + r, none⟩) (n - r) (c - r)) W := by
  rw [run_slice_l (P := Tryz.prog) W 46 (some ⟨g, o, none⟩) n c (by kernel_rfl) .i64 r (by omega) (by omega), u8_size]
  simp [sliced, add_at, Result.andThen, show ¬ c = r by omega]
end Go.Proofs.YtfagjhgmmaebfaaGreatDoor
