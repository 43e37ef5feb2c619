/- Contract: the thin package's Write. -/
import Derived.Test.YtkkdblifgekmkaaDoorClosed
import Derived.Test.YtkkdblifgekmkaaDoorNewW
import Derived.Test.YtkkdblifgekmkaaDoorEn
import Derived.LoopTactic
namespace Go.Proofs.YtkkdblifgekmkaaDoor
open Go.RowKit
/-- The state behind a file's content. -/
theorem Pend.of_file {B : Nat} {wr w0 w1 w2 w2' w3 : World} {q : Wr} {cm : ByteArray} {is : List Item} {dirv dirv' lastv : Value} {es : List Ent} {ro ro1 ro2 : Option Nat} {fbn t : Nat} {cs : Array Value} {e : En} {fw hbn rc nc cc hh : Nat} (hB : B ≤ wr.heap.size) (hk : Kept [] wr w0) (s : Shut B false wr w0 q cm is dirv lastv es ro w1) (of : EntsOf 0 es is) (hn : wr.heap.size ≤ fbn) (_hb : Blk w0 fbn t cs)
    (p : ChPost w1 w2 q.zw q.ob q.bw q.gb q.cw fbn ro ro1 (filesB is) dirv dirv' (es.map (·.hb)) cm (hdW e) e.nu fw hbn rc nc cc hh) (hsl : slashL e.name = false) (he : e.OkW)
    (o : Opn w3 q ro2 (filesB is ++ localB (hdW e) ++ e.data) dirv' es ⟨hbn, fbn, hdW e, e.nu, 0, 0, (filesB is).length, false, none, 0⟩ cm fw rc nc cc hh (0 + e.data.length) (notU (crcFold (notU 0) e.data))) (r2 : ro2 = ro1 ∨ ∃ n, ro2 = some n ∧ w2'.heap.size ≤ n) (k2 : Kept [] w2 w2') (k3 : Kept (q.ob :: q.bw :: q.gb :: q.cw :: cc :: rc :: hh :: ro1.toList) w2' w3) :
    Pend B false w3 q cm (is ++ [itemW e]) ∧ Below B w0 w3 := by
  have hB1 : B ≤ w1.heap.size := Nat.le_trans (Nat.le_trans hB hk.size) s.below.size
  have hs1 : ∀ x ∈ sinkOf q ro1 dirv', B ≤ x := fun x hx => by
    rcases sink_fresh p.rof p.dirf x hx with h | h
    · exact s.old x h
    · omega
  have hs2 : ∀ x ∈ sinkOf q ro2 dirv', B ≤ x := fun x hx => by
    have := k2.size
    have := p.kept.size
    rcases sink_fresh r2 (.inl rfl) x hx with h | h
    · exact hs1 x h
    · omega
  have hfr : ∀ x ∈ [fw, hbn, rc, nc, cc, hh], B ≤ x := fun x hx => Nat.le_trans hB1 (p.fresh x hx)
  have b12 : Below B w1 w2 := p.kept.to_below hB1 (fun x hx => by
    rcases mem_ins hx with h | h
    · omega
    · exact s.old x h)
  have b23 : Below B w2' w3 := k3.to_below (by have := k2.size; have := p.kept.size; omega) (fun x hx => by
    simp only [List.mem_cons] at hx
    rcases hx with h | h | h | h | h | h | h | h
    · exact hs1 x (by simp [sinkOf, h])
    · exact hs1 x (by simp [sinkOf, h])
    · exact hs1 x (by simp [sinkOf, h])
    · exact hs1 x (by simp [sinkOf, h])
    · exact hfr x (by simp [h])
    · exact hfr x (by simp [h])
    · exact hfr x (by simp [h])
    · exact hs1 x (by rw [Option.mem_toList] at h; simp [sinkOf, h]))
  refine ⟨?_, ((s.below.trans b12).trans (k2.to_below (by have := p.kept.size; omega) (by simp))).trans b23⟩
  have hi : itemW e = ⟨hdW e, (hdW e).done e.data.length (crcOf e.data), e.data, tailB ((hdW e).done e.data.length (crcOf e.data))⟩ := by unfold itemW; rw [hsl]; rfl
  rw [hi]
  rw [crcOf_eq, Nat.zero_add, List.append_assoc] at o
  refine Pend.opn (ro := ro2) (dirv := dirv') (es := es) (e := ⟨hbn, fbn, hdW e, e.nu, 0, 0, (filesB is).length, false, none, 0⟩) (fw := fw) (rc := rc) (nc := nc) (cc := cc) (hh := hh) (is := is) (i := ⟨hdW e, (hdW e).done e.data.length (crcOf e.data), e.data, tailB ((hdW e).done e.data.length (crcOf e.data))⟩) o of ?_ ⟨rfl, rfl, rfl⟩ (hdW_fits he) ?_ rfl
  · intro x hx
    simp only [List.mem_cons] at hx
    rcases hx with h | h | h | h | h | h
    · exact hfr x (by simp [h])
    · exact hfr x (by simp [h])
    · exact hfr x (by simp [h])
    · exact hfr x (by simp [h])
    · have : x = fbn := h
      omega
    · exact hs2 x h
  · show (hdW e).flags / 8 % 2 = 1
    unfold hdW
    rw [hsl]
    simp only [Bool.false_eq_true, if_false]
    show (uOf e.nu e.name e.comment + 8) / 8 % 2 = 1
    rcases uOf_cases e.nu e.name e.comment with h | h <;> rw [h]
/-- The state behind a directory. -/
theorem Pend.of_dir {B : Nat} {wr w0 w1 w2 w3 : World} {q : Wr} {cm : ByteArray} {is : List Item} {dirv dirv' lastv : Value} {es : List Ent} {ro ro1 : Option Nat} {fbn : Nat} {cs : Array Value} {e : En} {hbn : Nat} (hB : B ≤ wr.heap.size) (hk : Kept [] wr w0) (s : Shut B false wr w0 q cm is dirv lastv es ro w1) (of : EntsOf 0 es is) (hn : wr.heap.size ≤ fbn) (hb : Blk w0 fbn 72 cs)
    (p : ChPostD w1 w2 q.zw q.ob q.bw q.gb q.cw fbn ro ro1 (filesB is) dirv dirv' (es.map (·.hb)) cm (hdW e) e.nu hbn) (hsl : slashL e.name = true) (k2 : Kept [] w2 w3) :
    Pend B false w3 q cm (is ++ [itemW e]) ∧ Below B w0 w3 := by
  have hB1 : B ≤ w1.heap.size := Nat.le_trans (Nat.le_trans hB hk.size) s.below.size
  have hs1 : ∀ x ∈ sinkOf q ro1 dirv', B ≤ x := fun x hx => by
    rcases sink_fresh p.rof p.dirf x hx with h | h
    · exact s.old x h
    · omega
  have b12 : Below B w1 w2 := p.kept.to_below hB1 (fun x hx => by
    rcases mem_ins hx with h | h
    · omega
    · exact s.old x h)
  obtain ⟨hh, ha⟩ := s.new fbn hn hb.lt
  have hx0 : (hdW e).extra = [] := by unfold hdW; split <;> rfl
  have hw := (ChPostD.wst s.wst p hx0 ha (show Blk w1 fbn 72 cs from hh.trans hb)).kept k2
  refine ⟨?_, (s.below.trans b12).trans (k2.to_below (by have := p.kept.size; omega) (by simp))⟩
  have hi : itemW e = ⟨hdW e, hdW e, [], []⟩ := by unfold itemW; rw [hsl]; rfl
  have hfs : filesB (is ++ [itemW e]) = filesB is ++ localB (hdW e) := by rw [filesB_snoc, hi]; simp
  refine .shut (ro := ro1) (dirv := dirv') (es := es ++ [⟨hbn, fbn, hdW e, e.nu, 0, 0, (filesB is).length, false, none, 0⟩]) ?_ ?_ hs1 ?_
  · rw [hfs]; exact hw
  · exact of.snoc (by rw [hi]) (by rw [Nat.zero_add])
  · intro _ x hx
    rcases List.mem_append.1 hx with hx | hx
    · exact s.noA rfl x hx
    · obtain rfl := List.mem_singleton.1 hx
      rfl
theorem fh_mod (e : En) (h : e.OkW) : e.external % 4294967296 = ((e.external.toNat : Nat) : Int) := by
  have := h.lo
  have := h.hi
  omega
theorem Opn.src_apart {w : World} {q : Wr} {ro : Option Nat} {out : List UInt8} {dirv : Value} {es : List Ent} {e : Ent} {cm : ByteArray} {fw rc nc cc hh n crc : Nat} (h : Opn w q ro out dirv es e cm fw rc nc cc hh n crc) : w.heap.size ∉ hh :: q.ob :: q.bw :: q.gb :: ro.toList := by
  intro hm
  have l1 := h.wst.st.lts w.heap.size
  have l2 := h.fwo.hhb.lt
  simp only [List.mem_cons] at hm
  rcases hm with e | e | e | e | e
  · omega
  · exact Nat.lt_irrefl _ (l1 (by simp [e]))
  · exact Nat.lt_irrefl _ (l1 (by simp [e]))
  · exact Nat.lt_irrefl _ (l1 (by simp [e]))
  · exact Nat.lt_irrefl _ (l1 (by simp only [List.mem_cons, List.mem_append]; exact .inr (.inr (.inr (.inr (.inr (.inl e)))))))
theorem src_conv {w : World} {e : TypeId} (l : List UInt8) (c : Nat) (m : Nat × Nat) : Src ((w.alloc (.cells (bytesRow ⟨l.toArray⟩ c) e m)).drew) (some ⟨w.heap.size, 0, none⟩) l.length l := by
  refine ⟨rfl, fun _ => ⟨w.heap.size, 0, rfl, by simp, fun j hj => ?_⟩⟩
  obtain ⟨h1, h2⟩ := reads_conv (w := w) (e := e) l c m
  obtain ⟨ad, e1, _, h3⟩ := h2 (by omega)
  injection e1 with e1
  have := h3 j (byteV l[j]) (by simp [hj])
  rw [← e1, add_atW] at this
  exact this
set_option maxRecDepth 100000 in
set_option maxHeartbeats 2000000 in
theorem Write_any {w : World} (A : Option Addr) (c : Nat) (L : List En) (cl : List UInt8) (hr : Reads w w.heap.size 15 A L.length (L.flatMap En.cells)) (hT : Lib.Utf8Tabs 10 11 w) (hL : ∀ e ∈ L, e.OkW) (hn : L.length ≤ 1000) (hcl : cl.length ≤ 65535) :
    Calls Tryd.prog 11 #[.slice A L.length c, .string ⟨cl.toArray⟩] w fun e w' => e = .returned (.tuple #[.string ⟨(archB (L.map itemW) cl).toArray⟩, .bool true]) ∧ Below w.heap.size w w' := by
  have H := Lib.hid (And.intro hr (And.intro hT (And.intro hL hcl)))
  clear hr hT hL hcl
  go_enter Tryd.func11, Tryd.ntmps11
  go_wp2_with fail
  have hbl : Bld (w.alloc (.cells #[.pointer none, .slice none 0 0] 79)) w.heap.size none [] := ⟨_, _, Blk.new _ _ _, .inl rfl, ⟨rfl, .inl ⟨rfl, rfl⟩⟩, rfl⟩
  refine (NewWriterZ hbl).mono ?_
  rintro e w1 ⟨zw, bw, gb, cw, rfl, h1, h2, h3, h4, hs, hz, hb⟩
  have HB := Lib.hid (below_new hb)
  have hpend : Pend w.heap.size false w1 ⟨zw, w.heap.size, bw, gb, cw⟩ ⟨#[]⟩ [] := by
    simp at h1 h2 h3 h4
    refine .shut (ro := none) (dirv := .slice none 0 0) (es := []) ⟨⟨hs, hz, ⟨rfl, .inl ⟨rfl, rfl⟩⟩⟩, by simp, by simp, fun _ => rfl⟩ trivial ?_ (by simp)
    intro x hx
    simp only [sinkOf, List.mem_cons, Option.toList, Value.ownBlock, List.append_nil, List.not_mem_nil, or_false] at hx
    omega
  have HP := Lib.hid hpend
  clear hbl h1 h2 h3 h4 hs hz hb hpend
  have hlens := fun k => items_len ((L.take k).map itemW) (fun i hi => by
    obtain ⟨x, hx, rfl⟩ := List.mem_map.1 hi
    exact itemW_len (H.out.2.2.1 x (List.mem_of_mem_take hx)))
  have hfits : ∀ k, ∀ i ∈ (L.take k).map itemW, i.cen.Fits ∧ i.cen.packed < 4294967295 ∧ i.cen.size < 4294967295 ∧ i.data.length < 4294967295 := fun k i hi => by
    obtain ⟨x, hx, rfl⟩ := List.mem_map.1 hi
    exact itemW_fit (H.out.2.2.1 x (List.mem_of_mem_take hx))
  have HLEN := Lib.hid (And.intro hlens hfits)
  clear hlens hfits
  go_wp2_with fail
  go_loopw [22] (fun s22 wr => ∃ k : Nat, s22 = .int .i64 k ∧ k ≤ L.length ∧ Hid (Pend w.heap.size false wr ⟨zw, w.heap.size, bw, gb, cw⟩ ⟨#[]⟩ ((L.take k).map itemW) ∧ Below w.heap.size w wr)) (fun s22 _ => L.length - (intOf s22).toNat)
  case atStart => exact ⟨0, rfl, Nat.zero_le _, Lib.hid ⟨HP.out, HB.out⟩⟩
  case round =>
    obtain ⟨k, rfl, hk, HI⟩ := hrel
    clear HP HB
    by_cases hlt : k < L.length
    · obtain ⟨ad, hA, hab, hcell⟩ := H.out.1.2 (by omega)
      subst hA
      obtain ⟨e, he⟩ : ∃ e, e = L[k] := ⟨_, rfl⟩
      have hcs : ∀ (j : Nat) (v : Value), e.cells[j]? = some v → wr.cell? (ad.add (k * 15 + j)) = some v := fun j v hj => by
        have hj15 : j < 15 := by
          have := (List.getElem?_eq_some_iff.1 hj).1; rwa [En.cells_length] at this
        have := hcell (k * 15 + j) v (by rw [flat_cells L k j hlt hj15, ← he]; exact hj)
        rw [← this]
        exact HI.out.2.cell (by rw [block_of_add]; exact hab)
      have HCS := Lib.hid hcs
      have heo : e.OkW := by rw [he]; exact H.out.2.2.1 _ (List.getElem_mem _)
      have HEO := Lib.hid (And.intro heo he)
      clear hcs hcell heo he hab
      have c0 : wr.cell? (ad.add (k * 15)) = some (.string ⟨e.name.toArray⟩) := HCS.out 0 _ rfl
      have c1 : wr.cell? ⟨(ad.add (k * 15)).block, (ad.add (k * 15)).off + 1, none⟩ = some (.string ⟨e.comment.toArray⟩) := by rw [add_off _ _ _ (by decide)]; exact HCS.out 1 _ rfl
      have c2 : wr.cell? ⟨(ad.add (k * 15)).block, (ad.add (k * 15)).off + 2, none⟩ = some (.string ⟨e.extra.toArray⟩) := by rw [add_off _ _ _ (by decide)]; exact HCS.out 2 _ rfl
      have c3 : wr.cell? ⟨(ad.add (k * 15)).block, (ad.add (k * 15)).off + 3, none⟩ = some (.bool e.nu) := by rw [add_off _ _ _ (by decide)]; exact HCS.out 3 _ rfl
      have c4 : wr.cell? ⟨(ad.add (k * 15)).block, (ad.add (k * 15)).off + 4, none⟩ = some (.int .i64 e.creator) := by rw [add_off _ _ _ (by decide)]; exact HCS.out 4 _ rfl
      have c5 : wr.cell? ⟨(ad.add (k * 15)).block, (ad.add (k * 15)).off + 5, none⟩ = some (.int .i64 e.reader) := by rw [add_off _ _ _ (by decide)]; exact HCS.out 5 _ rfl
      have c6 : wr.cell? ⟨(ad.add (k * 15)).block, (ad.add (k * 15)).off + 6, none⟩ = some (.int .i64 e.flags) := by rw [add_off _ _ _ (by decide)]; exact HCS.out 6 _ rfl
      have c7 : wr.cell? ⟨(ad.add (k * 15)).block, (ad.add (k * 15)).off + 7, none⟩ = some (.int .i64 e.method) := by rw [add_off _ _ _ (by decide)]; exact HCS.out 7 _ rfl
      have c8 : wr.cell? ⟨(ad.add (k * 15)).block, (ad.add (k * 15)).off + 8, none⟩ = some (.int .i64 e.time) := by rw [add_off _ _ _ (by decide)]; exact HCS.out 8 _ rfl
      have c9 : wr.cell? ⟨(ad.add (k * 15)).block, (ad.add (k * 15)).off + 9, none⟩ = some (.int .i64 e.date) := by rw [add_off _ _ _ (by decide)]; exact HCS.out 9 _ rfl
      have c10 : wr.cell? ⟨(ad.add (k * 15)).block, (ad.add (k * 15)).off + 10, none⟩ = some (.int .i64 e.crc) := by rw [add_off _ _ _ (by decide)]; exact HCS.out 10 _ rfl
      have c11 : wr.cell? ⟨(ad.add (k * 15)).block, (ad.add (k * 15)).off + 11, none⟩ = some (.int .i64 e.packed) := by rw [add_off _ _ _ (by decide)]; exact HCS.out 11 _ rfl
      have c12 : wr.cell? ⟨(ad.add (k * 15)).block, (ad.add (k * 15)).off + 12, none⟩ = some (.int .i64 e.size) := by rw [add_off _ _ _ (by decide)]; exact HCS.out 12 _ rfl
      have c13 : wr.cell? ⟨(ad.add (k * 15)).block, (ad.add (k * 15)).off + 13, none⟩ = some (.int .i64 e.external) := by rw [add_off _ _ _ (by decide)]; exact HCS.out 13 _ rfl
      have c14 : wr.cell? ⟨(ad.add (k * 15)).block, (ad.add (k * 15)).off + 14, none⟩ = some (.string ⟨e.data.toArray⟩) := by rw [add_off _ _ _ (by decide)]; exact HCS.out 14 _ rfl
      go_wp2_with fail
      refine callsW (fun W => Kept [] wr W ∧ Blk W wr.heap.size 38 e.cells.toArray ∧ Blk W (wr.heap.size + 1) 72 (fhCells (hd0 e.name e.comment e.external.toNat) e.nu 0 0 (.slice none 0 0))) ⟨((Kept.refl [] wr).alloc _).alloc _, (Blk.new _ _ _).alloc _, Blk.cast (Blk.new1 _ _ _ _) (by rw [fh_mod e HEO.out.1]; rfl)⟩ ?_
      clear c0 c1 c2 c3 c4 c5 c6 c7 c8 c9 c10 c11 c12 c13 c14
      rintro w0 ⟨hk0, heb, hfb⟩
      have hB : w.heap.size ≤ wr.heap.size := HI.out.2.size
      obtain ⟨dirv, lastv, es, of, hprep⟩ := HI.out.1.prep hk0 hB (by have := (HLEN.out.1 k).1; simp only [List.length_map, List.length_take] at this; omega) (fun i hi => by have := (HLEN.out.2 k i hi).2.2.2; omega) (by simp; omega) hfb (Nat.le_succ _)
      have h0l : wr.heap.size < w0.heap.size := heb.lt
      have h0l1 : wr.heap.size + 1 < w0.heap.size := hfb.lt
      have hPst : ∀ ro w1, Shut w.heap.size false wr w0 ⟨zw, w.heap.size, bw, gb, cw⟩ ⟨#[]⟩ ((L.take k).map itemW) dirv lastv es ro w1 → WSt w1 zw w.heap.size bw gb cw ro (filesB ((L.take k).map itemW)) dirv lastv (es.map (·.hb)) false ⟨#[]⟩ ∧ Blk w1 (wr.heap.size + 1) 72 (fhCells (hd0 e.name e.comment e.external.toNat) e.nu 0 0 (.slice none 0 0)) ∧ Lib.Utf8Tabs 10 11 w1 := fun ro w1 s => by
        refine ⟨s.wst.st, (s.new _ (Nat.le_succ _) h0l1).1.trans hfb, tabs_keep H.out.2.1 ?_⟩
        exact (HI.out.2.trans (hk0.to_below hB (by simp))).trans s.below
      have hfl : (filesB ((L.take k).map itemW)).length ≤ 70368744177664 := by have := (HLEN.out.1 k).1; simp only [List.length_map, List.length_take] at this; omega
      have hel : es.length ≤ 1000000 := by rw [of.len]; simp; omega
      by_cases hsl : slashL e.name = true
      · have HCH := Lib.hid (Ch_dir hprep hPst HEO.out.1.name HEO.out.1.comment (by have := HEO.out.1.hi; have := HEO.out.1.lo; omega) hsl hfl (by simpa using hel))
        have hd0 : e.data = [] := HEO.out.1.dir hsl
        have HX := Lib.hid (And.intro hk0 (And.intro heb (And.intro hfb (And.intro of (And.intro hsl hB)))))
        have HD := Lib.hid hd0
        clear hk0 heb hfb of hprep hPst hfl hel hB hsl hd0
        refine HCH.out.mono ?_
        rintro e' w2 ⟨ro, w1, ro1, dirv', hbn, hs, rfl, p⟩
        have hbw : Blk w2 wr.heap.size 38 e.cells.toArray := by
          obtain ⟨q1, q2⟩ := hs.new wr.heap.size (Nat.le_refl _) h0l
          exact p.kept.blk (q1.trans HX.out.2.1) (fun hm => by
            rcases mem_ins hm with h | h
            · omega
            · exact q2.sink h)
        have c14 : w2.cell? ⟨wr.heap.size, 14, none⟩ = some (.string ⟨([] : List UInt8).toArray⟩) := (hbw.cell 14).trans (by rw [← HD.out]; rfl)
        have hp : ChPostD w1 w2 zw w.heap.size bw gb cw (wr.heap.size + 1) ro ro1 (filesB ((L.take k).map itemW)) dirv dirv' (es.map (·.hb)) ⟨#[]⟩ (hdW e) e.nu hbn := by
          have : hdW e = hd1 e.name e.comment e.external.toNat (uOf e.nu e.name e.comment) := by unfold hdW; rw [HX.out.2.2.2.2.1]; rfl
          rw [this]; exact p
        have HY := Lib.hid (And.intro hs hp)
        have hma := ahead_dirW
        have hmm := method_dirW
        have hcv := fun W => run_bytes_of_string (P := Tryd.prog) W 9 30 5 ⟨([] : List UInt8).toArray⟩ Tryd.underlying9 Tryd.underlying30 Tryd.underlying5
        clear hs p hbw hp HCH
        go_wp2_with fail
        refine (dirW_nil _ _ _).mono ?_
        rintro e'' w3 ⟨rfl, hb3⟩
        have hk3 : Kept [] w2 w3 := (((Kept.refl [] w2).alloc _).drew).below hb3 (by simp)
        have HZ := Lib.hid hk3
        clear hk3 hb3 c14 hma hmm hcv
        go_wp2
        go_roundw
        case rel =>
          obtain ⟨hs, hp⟩ := HY.out
          obtain ⟨hk0, heb, hfb, of, hsl, hB⟩ := HX.out
          obtain ⟨z1, z2⟩ := Pend.of_dir hB hk0 hs of (Nat.le_succ _) hfb hp hsl HZ.out
          refine ⟨k + 1, by go_num, by omega, Lib.hid ⟨?_, (HI.out.2.trans (hk0.to_below hB (by simp))).trans z2⟩⟩
          rw [take_snoc_map itemW L k hlt, ← HEO.out.2]
          exact z1
        case measure => simp [intOf]; omega
      · have hsl0 : slashL e.name = false := by simpa using hsl
        have HCH := Lib.hid (Ch_file hprep hPst HEO.out.1.name HEO.out.1.comment (by have := HEO.out.1.hi; have := HEO.out.1.lo; omega) hsl0 hfl (by simpa using hel))
        have HX := Lib.hid (And.intro hk0 (And.intro heb (And.intro hfb (And.intro of (And.intro hsl0 (And.intro hB hfl))))))
        clear hk0 heb hfb of hprep hPst hfl hel hB hsl hsl0
        refine HCH.out.mono ?_
        rintro e' w2 ⟨ro, w1, ro1, dirv', fw, hbn, rc, nc, cc, hh, hs, rfl, p⟩
        have hbw : Blk w2 wr.heap.size 38 e.cells.toArray := by
          obtain ⟨q1, q2⟩ := hs.new wr.heap.size (Nat.le_refl _) h0l
          exact p.kept.blk (q1.trans HX.out.2.1) (fun hm => by
            rcases mem_ins hm with h | h
            · omega
            · exact q2.sink h)
        have c14 : w2.cell? ⟨wr.heap.size, 14, none⟩ = some (.string ⟨e.data.toArray⟩) := (hbw.cell 14).trans rfl
        have hp : ChPost w1 w2 zw w.heap.size bw gb cw (wr.heap.size + 1) ro ro1 (filesB ((L.take k).map itemW)) dirv dirv' (es.map (·.hb)) ⟨#[]⟩ (hdW e) e.nu fw hbn rc nc cc hh := by
          have : hdW e = hd1 e.name e.comment e.external.toNat (uOf e.nu e.name e.comment + 8) := by unfold hdW; rw [HX.out.2.2.2.2.1]; rfl
          rw [this]; exact p
        have hopn : Opn w2 ⟨zw, w.heap.size, bw, gb, cw⟩ ro1 (filesB ((L.take k).map itemW) ++ localB (hdW e)) dirv' es ⟨hbn, wr.heap.size + 1, hdW e, e.nu, 0, 0, (filesB ((L.take k).map itemW)).length, false, none, 0⟩ ⟨#[]⟩ fw rc nc cc hh 0 0 := by
          obtain ⟨q1, q2⟩ := hs.new (wr.heap.size + 1) (Nat.le_succ _) h0l1
          exact ChPost.opn (q := ⟨zw, w.heap.size, bw, gb, cw⟩) hs.wst hp (by unfold hdW; split <;> rfl) q2 (show Blk w1 _ _ _ from q1.trans HX.out.2.2.1) (hs.noA rfl)
        have HY := Lib.hid (And.intro hs (And.intro hp hopn))
        have hma := ahead_fwW
        have hmm := method_fwW
        have hcv := fun W => run_bytes_of_string (P := Tryd.prog) W 9 30 5 ⟨e.data.toArray⟩ Tryd.underlying9 Tryd.underlying30 Tryd.underlying5
        clear hs p hbw hp HCH hopn
        go_wp2_with fail
        have hopn2 := fun c m => HY.out.2.2.kept (((Kept.refl [] w2).alloc (.cells (bytesRow ⟨e.data.toArray⟩ c) 5 m)).drew)
        refine ((hopn2 _ _).write (some ⟨w2.heap.size, 0, none⟩) e.data.length _ e.data (grownCap_ge _ _ _ _) (src_conv e.data _ _) (fun ad e1 _ => by
          injection e1 with e1
          subst e1
          exact HY.out.2.2.src_apart) (by decide) (by
            have h1 := HX.out.2.2.2.2.2.2
            have h2 := HEO.out.1.data
            have h3 := HEO.out.1.name
            have e1 : (hdW e).name = e.name := by unfold hdW; split <;> rfl
            have e2 : (hdW e).extra = [] := by unfold hdW; split <;> rfl
            rw [List.length_append, localB_length, e1, e2, List.length_nil]
            omega) (by have := HEO.out.1.data; omega)).mono ?_
        rintro e'' w3 ⟨rfl, ro2, r2, o3, k3⟩
        have HZ := Lib.hid (And.intro r2 (And.intro o3 k3))
        clear r2 o3 k3 c14 hma hmm hcv hopn2
        go_wp2
        go_roundw
        case rel =>
          obtain ⟨hs, hp, _⟩ := HY.out
          obtain ⟨hk0, heb, hfb, of, hsl, hB, _⟩ := HX.out
          obtain ⟨r2, o3, k3⟩ := HZ.out
          obtain ⟨z1, z2⟩ := Pend.of_file hB hk0 hs of (Nat.le_succ _) hfb hp hsl HEO.out.1 o3 r2 (((Kept.refl [] w2).alloc _).drew) k3
          refine ⟨k + 1, by go_num, by omega, Lib.hid ⟨?_, (HI.out.2.trans (hk0.to_below hB (by simp))).trans z2⟩⟩
          rw [take_snoc_map itemW L k hlt, ← HEO.out.2]
          exact z1
        case measure => simp [intOf]; omega
    · obtain rfl : k = L.length := by omega
      have hp := HI.out.1
      rw [List.take_length] at hp
      have h1 := HLEN.out.1 L.length
      have h2 := HLEN.out.2 L.length
      rw [List.take_length] at h1 h2
      have HCL := Lib.hid (closed_any hp HI.out.2.size cl H.out.2.2.2 h2 (by have := h1.2 0; have := h1.1; simp only [List.length_map] at *; omega) (by simp only [List.length_map]; omega))
      clear hp h1 h2
      go_wp2_with fail
      refine HCL.out.mono ?_
      rintro e' w2 ⟨rfl, hb2⟩
      have HB2 := Lib.hid (HI.out.2.trans hb2)
      clear hb2 HCL
      go_wp2
      go_ret2
      exact ⟨rfl, HB2.out⟩
end Go.Proofs.YtkkdblifgekmkaaDoor
