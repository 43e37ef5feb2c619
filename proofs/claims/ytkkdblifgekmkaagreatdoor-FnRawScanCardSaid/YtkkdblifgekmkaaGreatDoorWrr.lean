/- Contracts: the thin package's raw; fileWriter.Write of a raw entry. -/
import Derived.Test.YtkkdblifgekmkaaGreatDoorEn
import Derived.Test.YtkkdblifgekmkaaGreatDoorFw
import Derived.Test.YtkkdblifgekmkaaGreatDoorWhBase
import Derived.Test.YtkkdblifgekmkaaGreatDoorSt
import Derived.Test.YtkkdblifgekmkaaGreatDoorCr
import Derived.Test.YtkkdblifgekmkaaGreatDoorClosed
import Derived.Test.YtkkdblifgekmkaaGreatDoorNewW
import Derived.Test.YtkkdblifgekmkaaGreatDoorWr
import Derived.LoopTactic
namespace Go.Proofs.YtkkdblifgekmkaaGreatDoor
open Go.RowKit
theorem reads_convN {w : World} {e : TypeId} (l : List UInt8) (c : Nat) (m : Nat × Nat) (n : Nat) (hn : w.heap.size = n) : Reads (w.alloc (.cells (bytesRow ⟨l.toArray⟩ c) e m)) (w.alloc (.cells (bytesRow ⟨l.toArray⟩ c) e m)).heap.size 1 (some ⟨n, 0, none⟩) l.length (l.map byteV) := hn ▸ reads_conv l c m
set_option maxRecDepth 100000 in
set_option maxHeartbeats 1000000 in
theorem raw_any (h : Hd) (nu : Bool) (hF : h.Fits) (w : World) :
    Calls Tryz.prog 37 #[.agg #[.string ⟨h.name.toArray⟩, .string ⟨h.comment.toArray⟩, .string ⟨h.extra.toArray⟩, .bool nu, .int .i64 h.creator, .int .i64 h.reader, .int .i64 h.flags, .int .i64 h.method, .int .i64 h.time, .int .i64 h.date, .int .i64 h.crc, .int .i64 h.packed, .int .i64 h.size, .int .i64 h.external]] w fun e w' => ∃ fb ab ec, e = .returned (.pointer (some ⟨fb, 0, none⟩)) ∧ w.heap.size ≤ fb ∧ w.heap.size ≤ ab ∧ ab < fb ∧ h.extra.length ≤ ec ∧ Blk w' fb 69 (fhCells h nu 0 0 (.slice (some ⟨ab, 0, none⟩) h.extra.length ec)) ∧ Reads w' w'.heap.size 1 (some ⟨ab, 0, none⟩) h.extra.length (h.extra.map byteV) ∧ Below w.heap.size w w' := by
  have b0 := hF.creator
  have b1 := hF.reader
  have b2 := hF.flags
  have b3 := hF.method
  have b4 := hF.time
  have b5 := hF.date
  have b6 := hF.crc
  have b7 := hF.packed
  have b8 := hF.size
  have b9 := hF.external
  have hcv := fun W => run_bytes_of_string (P := Tryz.prog) W 9 56 5 ⟨h.extra.toArray⟩ Tryz.underlying9 Tryz.underlying56 Tryz.underlying5
  clear hF
  go_enter Tryz.func37, Tryz.ntmps37
  go_wp2
  go_ret
  have hg := grownCap_ge (w.alloc (.cells #[.string ⟨h.name.toArray⟩, .string ⟨h.comment.toArray⟩, .string ⟨h.extra.toArray⟩, .bool nu, .int .i64 h.creator, .int .i64 h.reader, .int .i64 h.flags, .int .i64 h.method, .int .i64 h.time, .int .i64 h.date, .int .i64 h.crc, .int .i64 h.packed, .int .i64 h.size, .int .i64 h.external] 25)) h.extra.length 0 5
  refine ⟨w.heap.size + 1 + 1, w.heap.size + 1, _, rfl, by omega, by omega, by omega, hg, Blk.cast (Blk.newAt _ _ _ _ (by simp)) rfl, ?_, ?_⟩
  · exact ((reads_convN h.extra _ _ (w.heap.size + 1) (by simp)).alloc (Nat.le_refl _) _).more (by simp)
  · exact ((((Below.refl _ _).alloc (Nat.le_refl _) _).alloc (by simp) _).alloc (by simp; omega) _).drew
theorem Fwr_write {w : World} {ob bw gb cw fw hb : Nat} {ro : Option Nat} {out : List UInt8} {c0 c1 : Value} (h : Snk w ob bw gb cw ro out) (hw : Blk w fw 144 (fwRaw hb cw)) (hh0 : Blk w hb 134 #[c0, c1, .bool true]) (A : Option Addr) (m c : Nat) (p : List UInt8) (hmc : m ≤ c) (hp : Reads w w.heap.size 1 A m (p.map byteV)) (hpb : ∀ ad, A = some ad → 0 < m → ad.block ∉ ob :: bw :: gb :: ro.toList) (hlen : out.length + p.length ≤ 140737488355328) :
    Calls Tryz.prog 184 #[.pointer (some ⟨fw, 0, none⟩), .slice A m c] w fun e w' => e = .returned (.tuple #[.int .i64 m, .nilIface]) ∧ ∃ ro', (ro' = ro ∨ ∃ n, ro' = some n ∧ w.heap.size ≤ n) ∧ Snk w' ob bw gb cw ro' (out ++ p) ∧ Kept (ob :: bw :: gb :: cw :: ro.toList) w w' := by
  have f0 : w.cell? ⟨fw, 0, none⟩ = some (.pointer (some ⟨hb, 0, none⟩)) := hw.cell 0
  have f1 : w.cell? ⟨fw, 1, none⟩ = some (.iface 112 (.pointer (some ⟨cw, 0, none⟩))) := hw.cell 1
  have f6 : w.cell? ⟨fw, 6, none⟩ = some (.bool false) := hw.cell 6
  have g2 : w.cell? ⟨hb, 2, none⟩ = some (.bool true) := hh0.cell 2
  have hm := method_WriteC
  have hma := ahead_WriteC
  have HC := Lib.hid (Cw_write h A m c p hmc hp hpb hlen)
  clear h hw hh0 hp hpb hlen hmc
  go_enter Tryz.func184, Tryz.ntmps184
  go_wp2_with fail
  refine HC.out.mono ?_
  rintro e w1 ⟨rfl, hx⟩
  have HX := Lib.hid hx
  clear hx f0 f1 f6 g2
  go_wp2
  go_ret2
  exact ⟨rfl, HX.out⟩
end Go.Proofs.YtkkdblifgekmkaaGreatDoor
/- Words: the state that CreateRaw leaves. -/
namespace Go.Proofs.YtkkdblifgekmkaaGreatDoor
open Go.RowKit
theorem CrPost.wst {w w' : World} {cm : ByteArray} {q : Wr} {ro ro' : Option Nat} {out : List UInt8} {dirv dirv' lastv lastv' : Value} {es : List Ent} {fb ec : Nat} {cs : Array Value} {h1 : Hd} {nu : Bool} {hbn : Nat} {A : Option Addr} (h : Wst w q ro out dirv lastv es cm) (p : CrPost w w' q.zw q.ob q.bw q.gb q.cw fb ro ro' out dirv dirv' lastv' (es.map (·.hb)) cm h1 nu (.slice A h1.extra.length ec) hbn) (hf : From w (q.zw :: fb :: q.ob :: q.bw :: q.gb :: q.cw :: (ro.toList ++ dirv.ownBlock.toList)) A h1.extra.length ec h1.extra) (ha : Apart q ro dirv es fb) (hfb : Blk w fb 69 cs) :
    Wst w' q ro' (out ++ localB h1) dirv' lastv' (es ++ [⟨hbn, fb, h1, nu, h1.packed, h1.size, out.length, true, A, ec⟩]) cm := by
  refine ⟨?_, ?_, nodup_snoc h.nodup ha.fb, by simp⟩
  · have := p.st
    simpa using this
  · intro x hx
    rcases List.mem_append.1 hx with hx | hx
    · exact h.old_ent p.kept ha hfb p.rof p.dirf x hx
    · obtain rfl := List.mem_singleton.1 hx
      exact ⟨p.hbb, p.fbb, (hf.step p.kept (fun ad e1 h0 => hf.apart ad e1 h0) (fun x hx => by
        rcases sink_fresh p.rof p.dirf x hx with h | h
        · left
          unfold sinkOf at h
          simp only [List.mem_cons] at h ⊢
          rcases h with h | h
          · exact .inl h
          · exact .inr (.inr h)
        · exact .inr h))⟩
end Go.Proofs.YtkkdblifgekmkaaGreatDoor
/- Contract: the thin package's WriteRaw. -/
namespace Go.Proofs.YtkkdblifgekmkaaGreatDoor
open Go.RowKit
/-- The header that WriteRaw hands on. -/
def hdR (e : En) : Hd := ⟨e.name, e.comment, e.extra, e.creator.toNat, e.reader.toNat, e.flags.toNat, e.method.toNat, e.time.toNat, e.date.toNat, e.crc.toNat, e.packed.toNat, e.size.toNat, e.external.toNat⟩
def itemR (e : En) : Item := ⟨hdR e, hdR e, e.data, []⟩
/-- Entries as WriteRaw takes them. -/
structure En.OkR (e : En) : Prop where
  name : e.name.length ≤ 60000
  comment : e.comment.length ≤ 60000
  extra : e.extra.length ≤ 60000
  data : e.data.length ≤ 1048576
  creator : 0 ≤ e.creator ∧ e.creator ≤ 65535
  reader : 0 ≤ e.reader ∧ e.reader ≤ 65535
  flags : 0 ≤ e.flags ∧ e.flags ≤ 65535
  method : 0 ≤ e.method ∧ e.method ≤ 65535
  time : 0 ≤ e.time ∧ e.time ≤ 65535
  date : 0 ≤ e.date ∧ e.date ≤ 65535
  crc : 0 ≤ e.crc ∧ e.crc ≤ 4294967295
  packed : e.packed = (e.data.length : Int)
  size : 0 ≤ e.size ∧ e.size ≤ 4294967294
  external : 0 ≤ e.external ∧ e.external ≤ 4294967295
  simple : e.flags.toNat / 8 % 2 = 0
  dir : slashL e.name = true → e.data = []
theorem hdR_fits {e : En} (h : e.OkR) : (hdR e).Fits := by
  have h1 := h.creator; have h2 := h.reader; have h3 := h.flags; have h4 := h.method; have h5 := h.time; have h6 := h.date
  have h7 := h.crc; have h8 := h.packed; have h9 := h.size; have h10 := h.external; have h11 := h.name; have h12 := h.comment; have h13 := h.extra; have h14 := h.data
  refine ⟨?_, ?_, ?_, ?_, ?_, ?_, ?_, ?_, ?_, ?_, ?_, ?_, ?_⟩ <;> simp only [hdR] <;> omega
theorem itemR_packed {e : En} (h : e.OkR) : (itemR e).cen.packed = e.data.length := by
  have h8 := h.packed
  show e.packed.toNat = _
  omega
theorem itemR_fit {e : En} (h : e.OkR) : (itemR e).cen.Fits ∧ (itemR e).cen.packed < 4294967295 ∧ (itemR e).cen.size < 4294967295 ∧ (itemR e).data.length < 4294967295 := by
  have h9 := h.size; have h14 := h.data
  refine ⟨hdR_fits h, by rw [itemR_packed h]; omega, ?_, by show e.data.length < _; omega⟩
  show e.size.toNat < _
  omega
theorem itemR_ok {e : En} (h : e.OkR) : ItemOk (itemR e) := ⟨hdR_fits h, hdR_fits h, rfl, rfl, itemR_packed h⟩
theorem itemR_len {e : En} (h : e.OkR) : (itemR e).bytes.length ≤ 1200000 ∧ ∀ o, (centralB (itemR e).cen o).length ≤ 181000 := by
  have h11 := h.name; have h12 := h.comment; have h13 := h.extra; have h14 := h.data
  refine ⟨?_, fun o => ?_⟩
  · simp only [Item.bytes, itemR, List.length_append, localB_length, hdR, List.length_nil]; omega
  · rw [centralB_length]; simp only [itemR, hdR]; omega
theorem items_lenR (is : List Item) (h : ∀ i ∈ is, i.bytes.length ≤ 1200000 ∧ ∀ o, (centralB i.cen o).length ≤ 181000) : (filesB is).length ≤ is.length * 1200000 ∧ ∀ o, (dirB o is).length ≤ is.length * 181000 := by
  induction is with
  | nil => simp [filesB, dirB]
  | cons i r ih =>
    obtain ⟨h1, h2⟩ := ih (fun j hj => h j (List.mem_cons_of_mem _ hj))
    obtain ⟨h3, h4⟩ := h i (by simp)
    refine ⟨?_, fun o => ?_⟩
    · rw [filesB, List.length_append, List.length_cons]; omega
    · have := h2 (o + i.bytes.length)
      have := h4 o
      rw [dirB, List.length_append, List.length_cons]; omega
def cellsH (h : Hd) (nu : Bool) (d : List UInt8) : List Value := [.string ⟨h.name.toArray⟩, .string ⟨h.comment.toArray⟩, .string ⟨h.extra.toArray⟩, .bool nu, .int .i64 h.creator, .int .i64 h.reader, .int .i64 h.flags, .int .i64 h.method, .int .i64 h.time, .int .i64 h.date, .int .i64 h.crc, .int .i64 h.packed, .int .i64 h.size, .int .i64 h.external, .string ⟨d.toArray⟩]
theorem cells_R {e : En} (h : e.OkR) : e.cells = cellsH (hdR e) e.nu e.data := by
  have h1 := h.creator; have h2 := h.reader; have h3 := h.flags; have h4 := h.method; have h5 := h.time; have h6 := h.date
  have h7 := h.crc; have h8 := h.packed; have h9 := h.size; have h10 := h.external
  unfold En.cells cellsH hdR
  dsimp only
  rw [Int.toNat_of_nonneg (show 0 ≤ e.creator by omega), Int.toNat_of_nonneg (show 0 ≤ e.reader by omega), Int.toNat_of_nonneg (show 0 ≤ e.flags by omega), Int.toNat_of_nonneg (show 0 ≤ e.method by omega), Int.toNat_of_nonneg (show 0 ≤ e.time by omega), Int.toNat_of_nonneg (show 0 ≤ e.date by omega), Int.toNat_of_nonneg (show 0 ≤ e.crc by omega), Int.toNat_of_nonneg (show 0 ≤ e.packed by omega), Int.toNat_of_nonneg (show 0 ≤ e.size by omega), Int.toNat_of_nonneg (show 0 ≤ e.external by omega)]
theorem Reads.at_block {w w' : World} {ab m : Nat} {xs : List Value} (h : Reads w w.heap.size 1 (some ⟨ab, 0, none⟩) m xs) (he : w'.heap[ab]? = w.heap[ab]?) (hs : ab < w'.heap.size) : Reads w' w'.heap.size 1 (some ⟨ab, 0, none⟩) m xs :=
  ⟨h.1, fun hn => ⟨_, rfl, hs, fun j u hu => by
    obtain ⟨ad, e, _, hc⟩ := h.2 hn
    injection e with e
    have := hc j u hu
    rw [← e] at this
    rw [← this]
    exact World.cell?_of_block (w := w) (by rw [block_of_add]; exact he)⟩⟩
theorem WSt.snk_apart {w : World} {zw ob bw gb cw : Nat} {ro : Option Nat} {out : List UInt8} {dirv lastv : Value} {hs : List Nat} {cl : Bool} {cm : ByteArray} (h : WSt w zw ob bw gb cw ro out dirv lastv hs cl cm) : w.heap.size ∉ ob :: bw :: gb :: ro.toList := fun hm => Nat.lt_irrefl _ (h.snk.lt _ hm)
/-- The state when the sink alone has grown. -/
theorem Wst.sunk {w w' : World} {q : Wr} {ro ro' : Option Nat} {out p : List UInt8} {dirv lastv : Value} {es : List Ent} {cm : ByteArray} (h : Wst w q ro out dirv lastv es cm) (s : Snk w' q.ob q.bw q.gb q.cw ro' (out ++ p)) (k : Kept (q.ob :: q.bw :: q.gb :: q.cw :: ro.toList) w w') (r : ro' = ro ∨ ∃ n, ro' = some n ∧ w.heap.size ≤ n) : Wst w' q ro' (out ++ p) dirv lastv es cm := by
  refine ⟨⟨s, k.blk h.st.zwb (h.st.snk.not h.st.zwb (by decide) (by decide) (by decide) (by decide)), owns_kept h.st.dir k (fun g hg hm => h.st.dir_apart g hm (by simp [hg]))⟩, fun x hx => ?_, h.nodup, h.nil0⟩
  have ho := h.ents x hx
  exact ho.step k (fun hm => h.hb_not ho.hbb (by decide) (sink_in hm)) (fun hm => h.hb_not ho.fbb (by decide) (sink_in hm)) (fun ad e1 h0 hm => ho.src.apart ad e1 h0 (sink_in hm)) (sink_fresh r (.inl rfl))
/-- The state behind a raw file's content. -/
theorem Pend.of_raw {B : Nat} {wr w0 w1 w2 w2' w3 : World} {q : Wr} {cm : ByteArray} {is : List Item} {dirv dirv' lastv : Value} {es : List Ent} {ro ro1 ro2 : Option Nat} {fbn ec : Nat} {cs : Array Value} {h : Hd} {nu : Bool} {d : List UInt8} {fw hbn : Nat} {A : Option Addr} (hB : B ≤ wr.heap.size) (hk : Kept [] wr w0) (s : Shut B true wr w0 q cm is dirv lastv es ro w1) (of : EntsOf 0 es is) (hn : wr.heap.size ≤ fbn) (hb : Blk w0 fbn 69 cs)
    (hf : From w1 (q.zw :: fbn :: q.ob :: q.bw :: q.gb :: q.cw :: (ro.toList ++ dirv.ownBlock.toList)) A h.extra.length ec h.extra)
    (p : CrPost w1 w2 q.zw q.ob q.bw q.gb q.cw fbn ro ro1 (filesB is) dirv dirv' (.pointer (some ⟨fw, 0, none⟩)) (es.map (·.hb)) cm h nu (.slice A h.extra.length ec) hbn) (hw : Blk w2 fw 144 (fwRaw hbn q.cw)) (hw2 : w1.heap.size ≤ fw) (hfl : h.flags < 65536 ∧ h.flags / 8 % 2 = 0)
    (k2 : Kept [] w2 w2') (r2 : ro2 = ro1 ∨ ∃ n, ro2 = some n ∧ w2'.heap.size ≤ n) (s3 : Snk w3 q.ob q.bw q.gb q.cw ro2 (filesB is ++ localB h ++ d)) (k3 : Kept (q.ob :: q.bw :: q.gb :: q.cw :: ro1.toList) w2' w3) :
    Pend B true w3 q cm (is ++ [⟨h, h, d, []⟩]) ∧ Below B w0 w3 := by
  have hB1 : B ≤ w1.heap.size := Nat.le_trans (Nat.le_trans hB hk.size) s.below.size
  have hs1 : ∀ x ∈ sinkOf q ro1 dirv', B ≤ x := fun x hx => by
    rcases sink_fresh p.rof p.dirf x hx with h | h
    · exact s.old x h
    · omega
  have hs2 : ∀ x ∈ sinkOf q ro2 dirv', B ≤ x := fun x hx => by
    have := k2.size
    have := p.kept.size
    rcases sink_fresh r2 (.inl rfl) x hx with h | h
    · exact hs1 x h
    · omega
  have b12 : Below B w1 w2 := p.kept.to_below hB1 (fun x hx => by
    rcases mem_ins hx with h | h
    · omega
    · exact s.old x h)
  have b23 : Below B w2' w3 := k3.to_below (by have := k2.size; have := p.kept.size; omega) (fun x hx => hs1 x (sink_in hx))
  obtain ⟨hh, ha⟩ := s.new fbn hn hb.lt
  have hw1 := (CrPost.wst s.wst p hf ha (show Blk w1 fbn 69 cs from hh.trans hb)).kept k2
  have hwf := hw1.sunk s3 k3 r2
  refine ⟨?_, ((s.below.trans b12).trans (k2.to_below (by have := p.kept.size; omega) (by simp))).trans b23⟩
  have hfs : filesB (is ++ [⟨h, h, d, []⟩]) = filesB is ++ localB h ++ d := by rw [filesB_snoc]; simp
  refine Pend.raw (ro := ro2) (dirv := dirv') (es := es) (e := ⟨hbn, fbn, h, nu, h.packed, h.size, (filesB is).length, true, A, ec⟩) (fw := fw) ?_ (of.snoc rfl (by rw [Nat.zero_add])) ?_ (fun h => by cases h) rfl hfl ?_ ?_
  · rw [hfs]; exact hwf
  · intro x hx
    rcases List.mem_cons.1 hx with rfl | hx
    · omega
    · exact hs2 x hx
  · exact k3.blk (k2.blk hw (by simp)) (fun hm => hw1.hb_not (k2.blk hw (by simp)) (by decide) (sink_in hm))
  · intro x hx ad e1 h0
    rcases List.mem_append.1 hx with hx | hx
    · have := (s.wst.ents x hx).src.lt e1 h0
      omega
    · obtain rfl := List.mem_singleton.1 hx
      have := hf.lt e1 h0
      omega
theorem Pend.of_rawDir {B : Nat} {wr w0 w1 w2 w3 : World} {q : Wr} {cm : ByteArray} {is : List Item} {dirv dirv' lastv : Value} {es : List Ent} {ro ro1 : Option Nat} {fbn ec : Nat} {cs : Array Value} {h : Hd} {nu : Bool} {hbn : Nat} {A : Option Addr} (hB : B ≤ wr.heap.size) (hk : Kept [] wr w0) (s : Shut B true wr w0 q cm is dirv lastv es ro w1) (of : EntsOf 0 es is) (hn : wr.heap.size ≤ fbn) (hb : Blk w0 fbn 69 cs)
    (hf : From w1 (q.zw :: fbn :: q.ob :: q.bw :: q.gb :: q.cw :: (ro.toList ++ dirv.ownBlock.toList)) A h.extra.length ec h.extra)
    (p : CrPost w1 w2 q.zw q.ob q.bw q.gb q.cw fbn ro ro1 (filesB is) dirv dirv' (.pointer none) (es.map (·.hb)) cm h nu (.slice A h.extra.length ec) hbn) (k2 : Kept [] w2 w3) :
    Pend B true w3 q cm (is ++ [⟨h, h, [], []⟩]) ∧ Below B w0 w3 := by
  have hB1 : B ≤ w1.heap.size := Nat.le_trans (Nat.le_trans hB hk.size) s.below.size
  have hs1 : ∀ x ∈ sinkOf q ro1 dirv', B ≤ x := fun x hx => by
    rcases sink_fresh p.rof p.dirf x hx with h | h
    · exact s.old x h
    · omega
  have b12 : Below B w1 w2 := p.kept.to_below hB1 (fun x hx => by
    rcases mem_ins hx with h | h
    · omega
    · exact s.old x h)
  obtain ⟨hh, ha⟩ := s.new fbn hn hb.lt
  have hw := (CrPost.wst s.wst p hf ha (show Blk w1 fbn 69 cs from hh.trans hb)).kept k2
  refine ⟨?_, (s.below.trans b12).trans (k2.to_below (by have := p.kept.size; omega) (by simp))⟩
  have hfs : filesB (is ++ [⟨h, h, [], []⟩]) = filesB is ++ localB h := by rw [filesB_snoc]; simp
  refine .shut (ro := ro1) (dirv := dirv') (es := es ++ [⟨hbn, fbn, h, nu, h.packed, h.size, (filesB is).length, true, A, ec⟩]) ?_ (of.snoc rfl (by rw [Nat.zero_add])) hs1 (fun h => by cases h)
  rw [hfs]; exact hw
end Go.Proofs.YtkkdblifgekmkaaGreatDoor
/- Contract: the thin package's WriteRaw: the walk. -/
namespace Go.Proofs.YtkkdblifgekmkaaGreatDoor
open Go.RowKit
set_option maxRecDepth 100000 in
set_option maxHeartbeats 4000000 in
theorem WriteRaw_any {w : World} (A : Option Addr) (c : Nat) (L : List En) (cl : List UInt8) (hr : Reads w w.heap.size 15 A L.length (L.flatMap En.cells)) (hL : ∀ e ∈ L, e.OkR) (hn : L.length ≤ 1000) (hcl : cl.length ≤ 65535) :
    Calls Tryz.prog 15 #[.slice A L.length c, .string ⟨cl.toArray⟩] w fun e w' => e = .returned (.tuple #[.string ⟨(archB (L.map itemR) cl).toArray⟩, .bool true]) ∧ Below w.heap.size w w' := by
  have H := Lib.hid (And.intro hr (And.intro hL hcl))
  clear hr hL hcl
  go_enter Tryz.func15, Tryz.ntmps15
  go_wp2_with fail
  have hbl : Bld (w.alloc (.cells #[.pointer none, .slice none 0 0] 58)) w.heap.size none [] := ⟨_, _, Blk.new _ _ _, .inl rfl, ⟨rfl, .inl ⟨rfl, rfl⟩⟩, rfl⟩
  refine (NewWriterZ hbl).mono ?_
  rintro e w1 ⟨zw, bw, gb, cw, rfl, h1, h2, h3, h4, hs, hz, hb⟩
  have HB := Lib.hid (below_new hb)
  have hpend : Pend w.heap.size true w1 ⟨zw, w.heap.size, bw, gb, cw⟩ ⟨#[]⟩ [] := by
    simp at h1 h2 h3 h4
    refine .shut (ro := none) (dirv := .slice none 0 0) (es := []) ⟨⟨hs, hz, ⟨rfl, .inl ⟨rfl, rfl⟩⟩⟩, by simp, by simp, fun _ => rfl⟩ trivial ?_ (by simp)
    intro x hx
    simp only [sinkOf, List.mem_cons, Option.toList, Value.ownBlock, List.append_nil, List.not_mem_nil, or_false] at hx
    omega
  have HP := Lib.hid hpend
  clear hbl h1 h2 h3 h4 hs hz hb hpend
  have hlens := fun k => items_lenR ((L.take k).map itemR) (fun i hi => by
    obtain ⟨x, hx, rfl⟩ := List.mem_map.1 hi
    exact itemR_len (H.out.2.1 x (List.mem_of_mem_take hx)))
  have hfits : ∀ k, ∀ i ∈ (L.take k).map itemR, i.cen.Fits ∧ i.cen.packed < 4294967295 ∧ i.cen.size < 4294967295 ∧ i.data.length < 4294967295 := fun k i hi => by
    obtain ⟨x, hx, rfl⟩ := List.mem_map.1 hi
    exact itemR_fit (H.out.2.1 x (List.mem_of_mem_take hx))
  have HLEN := Lib.hid (And.intro hlens hfits)
  clear hlens hfits
  go_wp2_with fail
  go_loopw [21] (fun s wr => ∃ k : Nat, s = .int .i64 k ∧ k ≤ L.length ∧ Hid (Pend w.heap.size true wr ⟨zw, w.heap.size, bw, gb, cw⟩ ⟨#[]⟩ ((L.take k).map itemR) ∧ Below w.heap.size w wr)) (fun s _ => L.length - (intOf s).toNat)
  case atStart => exact ⟨0, rfl, Nat.zero_le _, Lib.hid ⟨HP.out, HB.out⟩⟩
  case round =>
    obtain ⟨k, rfl, hk, HI⟩ := hrel
    clear HP HB
    by_cases hlt : k < L.length
    · obtain ⟨ad, hA, hab, hcell⟩ := H.out.1.2 (by omega)
      subst hA
      obtain ⟨e, he⟩ : ∃ e, e = L[k] := ⟨_, rfl⟩
      have heo : e.OkR := by rw [he]; exact H.out.2.1 _ (List.getElem_mem _)
      obtain ⟨h, hh⟩ : ∃ h, h = hdR e := ⟨_, rfl⟩
      obtain ⟨nu, hnu⟩ : ∃ nu, nu = e.nu := ⟨_, rfl⟩
      obtain ⟨d, hd⟩ : ∃ d, d = e.data := ⟨_, rfl⟩
      have hcs : ∀ (j : Nat) (v : Value), (cellsH h nu d)[j]? = some v → wr.cell? (ad.add (k * 15 + j)) = some v := fun j v hj => by
        have hj15 : j < 15 := (List.getElem?_eq_some_iff.1 hj).1
        have := hcell (k * 15 + j) v (by rw [flat_cells L k j hlt hj15, ← he, cells_R heo, ← hh, ← hnu, ← hd]; exact hj)
        rw [← this]
        exact HI.out.2.cell (by rw [block_of_add]; exact hab)
      have HCS := Lib.hid hcs
      have hF : h.Fits := by rw [hh]; exact hdR_fits heo
      have hdl : d.length ≤ 1048576 := by rw [hd]; exact heo.data
      have hnl : h.name.length ≤ 60000 := by rw [hh]; exact heo.name
      have hxl : h.extra.length ≤ 60000 := by rw [hh]; exact heo.extra
      have hfl : h.flags / 8 % 2 = 0 := by rw [hh]; exact heo.simple
      have hdir : slashL h.name = true → d = [] := by rw [hh, hd]; exact heo.dir
      have hit : itemR L[k] = ⟨h, h, d, []⟩ := by rw [← he, hh, hd]; rfl
      have HEO := Lib.hid (And.intro hF (And.intro hfl (And.intro hdir hit)))
      have HRW := Lib.hid (fun w => raw_any h nu hF w)
      clear hcs hcell heo he hab hh hnu hd hF hfl hdir hit
      have c0 : wr.cell? (ad.add (k * 15)) = some (.string ⟨h.name.toArray⟩) := HCS.out 0 _ rfl
      have c1 : wr.cell? ⟨(ad.add (k * 15)).block, (ad.add (k * 15)).off + 1, none⟩ = some (.string ⟨h.comment.toArray⟩) := by rw [add_off _ _ _ (by decide)]; exact HCS.out 1 _ rfl
      have c2 : wr.cell? ⟨(ad.add (k * 15)).block, (ad.add (k * 15)).off + 2, none⟩ = some (.string ⟨h.extra.toArray⟩) := by rw [add_off _ _ _ (by decide)]; exact HCS.out 2 _ rfl
      have c3 : wr.cell? ⟨(ad.add (k * 15)).block, (ad.add (k * 15)).off + 3, none⟩ = some (.bool nu) := by rw [add_off _ _ _ (by decide)]; exact HCS.out 3 _ rfl
      have c4 : wr.cell? ⟨(ad.add (k * 15)).block, (ad.add (k * 15)).off + 4, none⟩ = some (.int .i64 h.creator) := by rw [add_off _ _ _ (by decide)]; exact HCS.out 4 _ rfl
      have c5 : wr.cell? ⟨(ad.add (k * 15)).block, (ad.add (k * 15)).off + 5, none⟩ = some (.int .i64 h.reader) := by rw [add_off _ _ _ (by decide)]; exact HCS.out 5 _ rfl
      have c6 : wr.cell? ⟨(ad.add (k * 15)).block, (ad.add (k * 15)).off + 6, none⟩ = some (.int .i64 h.flags) := by rw [add_off _ _ _ (by decide)]; exact HCS.out 6 _ rfl
      have c7 : wr.cell? ⟨(ad.add (k * 15)).block, (ad.add (k * 15)).off + 7, none⟩ = some (.int .i64 h.method) := by rw [add_off _ _ _ (by decide)]; exact HCS.out 7 _ rfl
      have c8 : wr.cell? ⟨(ad.add (k * 15)).block, (ad.add (k * 15)).off + 8, none⟩ = some (.int .i64 h.time) := by rw [add_off _ _ _ (by decide)]; exact HCS.out 8 _ rfl
      have c9 : wr.cell? ⟨(ad.add (k * 15)).block, (ad.add (k * 15)).off + 9, none⟩ = some (.int .i64 h.date) := by rw [add_off _ _ _ (by decide)]; exact HCS.out 9 _ rfl
      have c10 : wr.cell? ⟨(ad.add (k * 15)).block, (ad.add (k * 15)).off + 10, none⟩ = some (.int .i64 h.crc) := by rw [add_off _ _ _ (by decide)]; exact HCS.out 10 _ rfl
      have c11 : wr.cell? ⟨(ad.add (k * 15)).block, (ad.add (k * 15)).off + 11, none⟩ = some (.int .i64 h.packed) := by rw [add_off _ _ _ (by decide)]; exact HCS.out 11 _ rfl
      have c12 : wr.cell? ⟨(ad.add (k * 15)).block, (ad.add (k * 15)).off + 12, none⟩ = some (.int .i64 h.size) := by rw [add_off _ _ _ (by decide)]; exact HCS.out 12 _ rfl
      have c13 : wr.cell? ⟨(ad.add (k * 15)).block, (ad.add (k * 15)).off + 13, none⟩ = some (.int .i64 h.external) := by rw [add_off _ _ _ (by decide)]; exact HCS.out 13 _ rfl
      have c14 : wr.cell? ⟨(ad.add (k * 15)).block, (ad.add (k * 15)).off + 14, none⟩ = some (.string ⟨d.toArray⟩) := by rw [add_off _ _ _ (by decide)]; exact HCS.out 14 _ rfl
      go_wp2_with fail
      refine (HRW.out _).mono ?_
      rintro e' w0 ⟨fb, ab, ec, rfl, hfbn, habn, habf, hec, hfb, hrd, hb0⟩
      clear c0 c1 c2 c3 c4 c5 c6 c7 c8 c9 c10 c11 c12 c13 c14 HRW
      have hsz1 : ∀ o, (wr.alloc o).heap.size = wr.heap.size + 1 := fun o => by simp
      rw [hsz1] at hfbn habn
      clear hsz1
      have hk0 : Kept [] wr w0 := ((Kept.refl [] wr).alloc _).below hb0 (by simp)
      have heb : Blk w0 wr.heap.size 27 (cellsH h nu d).toArray := (Blk.new wr 27 (cellsH h nu d).toArray).below hb0 (by simp)
      have hB : w.heap.size ≤ wr.heap.size := HI.out.2.size
      obtain ⟨dirv, lastv, es, of, hprep⟩ := HI.out.1.prep hk0 hB (by have := (HLEN.out.1 k).1; simp only [List.length_map, List.length_take] at this; omega) (fun i hi => by have := (HLEN.out.2 k i hi).2.2.2; omega) (by simp; omega) hfb (by omega)
      have h0l : wr.heap.size < w0.heap.size := heb.lt
      have h0f : fb < w0.heap.size := hfb.lt
      have hFrom : ∀ ro w1, Shut w.heap.size true wr w0 ⟨zw, w.heap.size, bw, gb, cw⟩ ⟨#[]⟩ ((L.take k).map itemR) dirv lastv es ro w1 → From w1 (zw :: fb :: w.heap.size :: bw :: gb :: cw :: (ro.toList ++ dirv.ownBlock.toList)) (some ⟨ab, 0, none⟩) h.extra.length ec h.extra := fun ro w1 s => by
        obtain ⟨q1, q2⟩ := s.new ab (by omega) (by omega)
        refine ⟨hec, hrd.at_block q1 (by have := s.below.size; omega), fun ad e1 _ hm => ?_⟩
        injection e1 with e1
        subst e1
        rcases mem_ins hm with h | h
        · have : ab = fb := h
          omega
        · exact q2.sink h
      have hPst : ∀ ro w1, Shut w.heap.size true wr w0 ⟨zw, w.heap.size, bw, gb, cw⟩ ⟨#[]⟩ ((L.take k).map itemR) dirv lastv es ro w1 → WSt w1 zw w.heap.size bw gb cw ro (filesB ((L.take k).map itemR)) dirv lastv (es.map (·.hb)) false ⟨#[]⟩ ∧ Blk w1 fb 69 (fhCells h nu 0 0 (.slice (some ⟨ab, 0, none⟩) h.extra.length ec)) ∧ From w1 (zw :: fb :: w.heap.size :: bw :: gb :: cw :: (ro.toList ++ dirv.ownBlock.toList)) (some ⟨ab, 0, none⟩) h.extra.length ec h.extra := fun ro w1 s =>
        ⟨s.wst.st, (s.new _ (by omega) h0f).1.trans hfb, hFrom ro w1 s⟩
      have hfl : (filesB ((L.take k).map itemR)).length ≤ 70368744177664 := by have := (HLEN.out.1 k).1; simp only [List.length_map, List.length_take] at this; omega
      have hel : es.length ≤ 1000000 := by rw [of.len]; simp; omega
      by_cases hsl : slashL h.name = true
      · have HCH := Lib.hid (Cr_dir hprep hPst HEO.out.1 HEO.out.2.1 (by omega) hsl hfl (by simpa using hel))
        have hd0 : d = [] := HEO.out.2.2.1 hsl
        have HX := Lib.hid (And.intro hk0 (And.intro heb (And.intro hfb (And.intro of (And.intro hFrom hB)))))
        have HD := Lib.hid hd0
        clear hk0 heb hfb of hprep hPst hfl hel hB hsl hd0 hFrom hrd hb0
        go_wp2_with fail
        refine HCH.out.mono ?_
        rintro e' w2 ⟨ro, w1, ro1, dirv', hbn, hs, rfl, p⟩
        have hbw : Blk w2 wr.heap.size 27 (cellsH h nu d).toArray := by
          obtain ⟨q1, q2⟩ := hs.new wr.heap.size (Nat.le_refl _) h0l
          exact p.kept.blk (q1.trans HX.out.2.1) (fun hm => by
            rcases mem_ins hm with h | h
            · omega
            · exact q2.sink h)
        have c14 : w2.cell? ⟨wr.heap.size, 14, none⟩ = some (.string ⟨([] : List UInt8).toArray⟩) := (hbw.cell 14).trans (by rw [← HD.out]; rfl)
        have HY := Lib.hid (And.intro hs p)
        have hma := ahead_dirW
        have hmm := method_dirW
        have hcv := fun W => run_bytes_of_string (P := Tryz.prog) W 9 56 5 ⟨([] : List UInt8).toArray⟩ Tryz.underlying9 Tryz.underlying56 Tryz.underlying5
        clear hs p hbw HCH
        go_wp2_with fail
        refine (dirW_nil _ _ _).mono ?_
        rintro e'' w3 ⟨rfl, hb3⟩
        have hk3 : Kept [] w2 w3 := (((Kept.refl [] w2).alloc _).drew).below hb3 (by simp)
        have HZ := Lib.hid hk3
        clear hk3 hb3 c14 hma hmm hcv
        go_wp2
        go_roundw
        case rel =>
          obtain ⟨hs, hp⟩ := HY.out
          obtain ⟨hk0, heb, hfb, of, hFrom, hB⟩ := HX.out
          obtain ⟨z1, z2⟩ := Pend.of_rawDir (q := ⟨zw, w.heap.size, bw, gb, cw⟩) hB hk0 hs of (by omega) hfb (hFrom _ _ hs) hp HZ.out
          refine ⟨k + 1, by go_num, by omega, Lib.hid ⟨?_, (HI.out.2.trans (hk0.to_below hB (by simp))).trans z2⟩⟩
          rw [take_snoc_map itemR L k hlt, HEO.out.2.2.2, HD.out]
          exact z1
        case measure => simp [intOf]; omega
      · have hsl0 : slashL h.name = false := by simpa using hsl
        have HCH := Lib.hid (Cr_file hprep hPst HEO.out.1 HEO.out.2.1 (by omega) hsl0 hfl (by simpa using hel))
        have HX := Lib.hid (And.intro hk0 (And.intro heb (And.intro hfb (And.intro of (And.intro hFrom (And.intro hB hfl))))))
        clear hk0 heb hfb of hprep hPst hfl hel hB hsl hsl0 hFrom hrd hb0
        go_wp2_with fail
        refine HCH.out.mono ?_
        rintro e' w2 ⟨ro, w1, ro1, dirv', fw, hbn, hs, rfl, p, hw, hw2⟩
        have hbw : Blk w2 wr.heap.size 27 (cellsH h nu d).toArray := by
          obtain ⟨q1, q2⟩ := hs.new wr.heap.size (Nat.le_refl _) h0l
          exact p.kept.blk (q1.trans HX.out.2.1) (fun hm => by
            rcases mem_ins hm with h | h
            · omega
            · exact q2.sink h)
        have c14 : w2.cell? ⟨wr.heap.size, 14, none⟩ = some (.string ⟨d.toArray⟩) := (hbw.cell 14).trans rfl
        have HY := Lib.hid (And.intro hs (And.intro p (And.intro hw hw2)))
        have hma := ahead_fwW
        have hmm := method_fwW
        have hcv := fun W => run_bytes_of_string (P := Tryz.prog) W 9 56 5 ⟨d.toArray⟩ Tryz.underlying9 Tryz.underlying56 Tryz.underlying5
        clear hs p hbw HCH hw
        go_wp2_with fail
        have kk := fun c m => (((Kept.refl [] w2).alloc (.cells (bytesRow ⟨d.toArray⟩ c) 5 m)).drew)
        refine (Fwr_write (HY.out.2.1.st.snk.kept (kk _ _) (by simp) (by simp) (by simp) (by simp) (by simp)) ((kk _ _).blk HY.out.2.2.1 (by simp)) ((kk _ _).blk HY.out.2.1.hbb (by simp)) (some ⟨w2.heap.size, 0, none⟩) d.length _ d (grownCap_ge _ _ _ _) (reads_conv d _ _) (fun ad e1 _ => by
          injection e1 with e1
          subst e1
          exact HY.out.2.1.st.snk_apart) (by
            have h1 := HX.out.2.2.2.2.2.2
            rw [List.length_append, localB_length]
            omega)).mono ?_
        rintro e'' w3 ⟨rfl, ro2, r2, s3, k3⟩
        have HZ := Lib.hid (And.intro r2 (And.intro s3 k3))
        clear r2 s3 k3 c14 hma hmm hcv kk
        go_wp2
        go_roundw
        case rel =>
          obtain ⟨hs, hp, hw, hw2⟩ := HY.out
          obtain ⟨hk0, heb, hfb, of, hFrom, hB, _⟩ := HX.out
          obtain ⟨r2, s3, k3⟩ := HZ.out
          obtain ⟨z1, z2⟩ := Pend.of_raw (q := ⟨zw, w.heap.size, bw, gb, cw⟩) hB hk0 hs of (by omega) hfb (hFrom _ _ hs) hp hw hw2 ⟨HEO.out.1.flags, HEO.out.2.1⟩ (((Kept.refl [] w2).alloc _).drew) r2 s3 k3
          refine ⟨k + 1, by go_num, by omega, Lib.hid ⟨?_, (HI.out.2.trans (hk0.to_below hB (by simp))).trans z2⟩⟩
          rw [take_snoc_map itemR L k hlt, HEO.out.2.2.2]
          exact z1
        case measure => simp [intOf]; omega
    · obtain rfl : k = L.length := by omega
      have hp := HI.out.1
      rw [List.take_length] at hp
      have h1 := HLEN.out.1 L.length
      have h2 := HLEN.out.2 L.length
      rw [List.take_length] at h1 h2
      have HCL := Lib.hid (closed_any hp HI.out.2.size cl H.out.2.2 h2 (by have := h1.2 0; have := h1.1; simp only [List.length_map] at *; omega) (by simp only [List.length_map]; omega))
      clear hp h1 h2
      go_wp2_with fail
      refine HCL.out.mono ?_
      rintro e' w2 ⟨rfl, hb2⟩
      have HB2 := Lib.hid (HI.out.2.trans hb2)
      clear hb2 HCL
      go_wp2
      go_ret2
      exact ⟨rfl, HB2.out⟩
end Go.Proofs.YtkkdblifgekmkaaGreatDoor
