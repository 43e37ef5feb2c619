/- Contracts: the thin package's Write where it fails: content for a directory; no entries and a comment that is too long. -/
import Derived.Test.YtkkdblifgekmkaaDoorWr
namespace Go.Proofs.YtkkdblifgekmkaaDoor
open Go.RowKit
set_option maxRecDepth 100000 in
set_option maxHeartbeats 2000000 in
theorem Write_dirErr {w : World} (A : Option Addr) (c : Nat) (e : En) (cl : ByteArray) (hr : Reads w w.heap.size 15 A 1 ([e].flatMap En.cells)) (hT : Lib.Utf8Tabs 10 11 w) (hnl : e.name.length ≤ 60001) (hcl : e.comment.length ≤ 60000) (hlo : 0 ≤ e.external) (hhi : e.external < 4294967296) (hsl : slashL e.name = true) (hd0 : 0 < e.data.length) (hdl : e.data.length ≤ 140737488355328) :
    Calls Tryd.prog 11 #[.slice A 1 c, .string cl] w fun e w' => e = .returned (.tuple #[.string ⟨#[]⟩, .bool false]) ∧ Below w.heap.size w w' := by
  have H := Lib.hid (And.intro hr hT)
  have HD := Lib.hid (And.intro hnl (And.intro hcl (And.intro hlo (And.intro hhi hsl))))
  have HDL := Lib.hid (And.intro hd0 hdl)
  clear hr hT hnl hcl hlo hhi hsl hd0 hdl
  go_enter Tryd.func11, Tryd.ntmps11
  go_wp2_with fail
  have hbl : Bld (w.alloc (.cells #[.pointer none, .slice none 0 0] 79)) w.heap.size none [] := ⟨_, _, Blk.new _ _ _, .inl rfl, ⟨rfl, .inl ⟨rfl, rfl⟩⟩, rfl⟩
  refine (NewWriterZ hbl).mono ?_
  rintro e' w1 ⟨zw, bw, gb, cw, rfl, h1, h2, h3, h4, hs, hz, hb⟩
  have HB := Lib.hid (below_new hb)
  have hpend : Pend w.heap.size false w1 ⟨zw, w.heap.size, bw, gb, cw⟩ ⟨#[]⟩ [] := by
    simp at h1 h2 h3 h4
    refine .shut (ro := none) (dirv := .slice none 0 0) (es := []) ⟨⟨hs, hz, ⟨rfl, .inl ⟨rfl, rfl⟩⟩⟩, by simp, by simp, fun _ => rfl⟩ trivial ?_ (by simp)
    intro x hx
    simp only [sinkOf, List.mem_cons, Option.toList, Value.ownBlock, List.append_nil, List.not_mem_nil, or_false] at hx
    omega
  have HP := Lib.hid hpend
  clear hbl h1 h2 h3 h4 hs hz hb hpend
  go_wp2_with fail
  refine atW (fun wr => Pend w.heap.size false wr ⟨zw, w.heap.size, bw, gb, cw⟩ ⟨#[]⟩ [] ∧ Below w.heap.size w wr) ⟨HP.out, HB.out⟩ ?_
  clear HP HB
  rintro wr hwr
  have HI := Lib.hid hwr
  clear hwr
  refine wp_loop_rounds 1 ?_
  rw [rounds_succ]
  obtain ⟨ad, hA, hab, hcell⟩ := H.out.1.2 (by omega)
  subst hA
  have hcs : ∀ (j : Nat) (v : Value), e.cells[j]? = some v → wr.cell? (ad.add (0 + j)) = some v := fun j v hj => by
    have hj15 : j < 15 := by
      have := (List.getElem?_eq_some_iff.1 hj).1; rwa [En.cells_length] at this
    have := hcell (0 + j) v (by have := flat_cells [e] 0 j (by simp) hj15; rw [Nat.zero_mul] at this; rw [this]; exact hj)
    rw [← this]
    exact HI.out.2.cell (by rw [block_of_add]; exact hab)
  have HCS := Lib.hid hcs
  clear hcs hcell hab
  have c0 : wr.cell? ad = some (.string ⟨e.name.toArray⟩) := HCS.out 0 _ rfl
  have c1 : wr.cell? ⟨ad.block, ad.off + 1, none⟩ = some (.string ⟨e.comment.toArray⟩) := (congrArg wr.cell? (add_off ad 0 1 (by decide))).trans (HCS.out 1 _ rfl)
  have c2 : wr.cell? ⟨ad.block, ad.off + 2, none⟩ = some (.string ⟨e.extra.toArray⟩) := (congrArg wr.cell? (add_off ad 0 2 (by decide))).trans (HCS.out 2 _ rfl)
  have c3 : wr.cell? ⟨ad.block, ad.off + 3, none⟩ = some (.bool e.nu) := (congrArg wr.cell? (add_off ad 0 3 (by decide))).trans (HCS.out 3 _ rfl)
  have c4 : wr.cell? ⟨ad.block, ad.off + 4, none⟩ = some (.int .i64 e.creator) := (congrArg wr.cell? (add_off ad 0 4 (by decide))).trans (HCS.out 4 _ rfl)
  have c5 : wr.cell? ⟨ad.block, ad.off + 5, none⟩ = some (.int .i64 e.reader) := (congrArg wr.cell? (add_off ad 0 5 (by decide))).trans (HCS.out 5 _ rfl)
  have c6 : wr.cell? ⟨ad.block, ad.off + 6, none⟩ = some (.int .i64 e.flags) := (congrArg wr.cell? (add_off ad 0 6 (by decide))).trans (HCS.out 6 _ rfl)
  have c7 : wr.cell? ⟨ad.block, ad.off + 7, none⟩ = some (.int .i64 e.method) := (congrArg wr.cell? (add_off ad 0 7 (by decide))).trans (HCS.out 7 _ rfl)
  have c8 : wr.cell? ⟨ad.block, ad.off + 8, none⟩ = some (.int .i64 e.time) := (congrArg wr.cell? (add_off ad 0 8 (by decide))).trans (HCS.out 8 _ rfl)
  have c9 : wr.cell? ⟨ad.block, ad.off + 9, none⟩ = some (.int .i64 e.date) := (congrArg wr.cell? (add_off ad 0 9 (by decide))).trans (HCS.out 9 _ rfl)
  have c10 : wr.cell? ⟨ad.block, ad.off + 10, none⟩ = some (.int .i64 e.crc) := (congrArg wr.cell? (add_off ad 0 10 (by decide))).trans (HCS.out 10 _ rfl)
  have c11 : wr.cell? ⟨ad.block, ad.off + 11, none⟩ = some (.int .i64 e.packed) := (congrArg wr.cell? (add_off ad 0 11 (by decide))).trans (HCS.out 11 _ rfl)
  have c12 : wr.cell? ⟨ad.block, ad.off + 12, none⟩ = some (.int .i64 e.size) := (congrArg wr.cell? (add_off ad 0 12 (by decide))).trans (HCS.out 12 _ rfl)
  have c13 : wr.cell? ⟨ad.block, ad.off + 13, none⟩ = some (.int .i64 e.external) := (congrArg wr.cell? (add_off ad 0 13 (by decide))).trans (HCS.out 13 _ rfl)
  have c14 : wr.cell? ⟨ad.block, ad.off + 14, none⟩ = some (.string ⟨e.data.toArray⟩) := (congrArg wr.cell? (add_off ad 0 14 (by decide))).trans (HCS.out 14 _ rfl)
  have hext : e.external % 4294967296 = ((e.external.toNat : Nat) : Int) := by have := HD.out.2.2.1; have := HD.out.2.2.2.1; omega
  have HEX := Lib.hid hext
  clear hext
  go_wp2_with fail
  refine callsW (fun W => Kept [] wr W ∧ Blk W wr.heap.size 38 e.cells.toArray ∧ Blk W (wr.heap.size + 1) 72 (fhCells (hd0 e.name e.comment e.external.toNat) e.nu 0 0 (.slice none 0 0))) ⟨((Kept.refl [] wr).alloc _).alloc _, (Blk.new _ _ _).alloc _, Blk.cast (Blk.new1 _ _ _ _) (by rw [HEX.out]; rfl)⟩ ?_
  clear c0 c1 c2 c3 c4 c5 c6 c7 c8 c9 c10 c11 c12 c13 c14
  rintro w0 ⟨hk0, heb, hfb⟩
  have hB : w.heap.size ≤ wr.heap.size := HI.out.2.size
  obtain ⟨dirv, lastv, es, of, hprep⟩ := HI.out.1.prep hk0 hB (by decide) (by simp) (by decide) hfb (Nat.le_succ _)
  have h0l : wr.heap.size < w0.heap.size := heb.lt
  have h0l1 : wr.heap.size + 1 < w0.heap.size := hfb.lt
  have hPst : ∀ ro w1, Shut w.heap.size false wr w0 ⟨zw, w.heap.size, bw, gb, cw⟩ ⟨#[]⟩ [] dirv lastv es ro w1 → WSt w1 zw w.heap.size bw gb cw ro (filesB []) dirv lastv (es.map (·.hb)) false ⟨#[]⟩ ∧ Blk w1 (wr.heap.size + 1) 72 (fhCells (hd0 e.name e.comment e.external.toNat) e.nu 0 0 (.slice none 0 0)) ∧ Lib.Utf8Tabs 10 11 w1 := fun ro w1 s => by
    refine ⟨s.wst.st, (s.new _ (Nat.le_succ _) h0l1).1.trans hfb, tabs_keep H.out.2 ?_⟩
    exact (HI.out.2.trans (hk0.to_below hB (by simp))).trans s.below
  have hel : es.length ≤ 1000000 := by rw [of.len]; decide
  have HCH := Lib.hid (Ch_dir hprep hPst HD.out.1 HD.out.2.1 (by have := HD.out.2.2.2.1; have := HD.out.2.2.1; omega) HD.out.2.2.2.2 (by decide) (by simpa using hel))
  have HX := Lib.hid (And.intro hk0 (And.intro heb (And.intro hfb hB)))
  clear hk0 heb hfb of hprep hPst hel hB
  refine HCH.out.mono ?_
  rintro e' w2 ⟨ro, w1, ro1, dirv', hbn, hs, rfl, p⟩
  have hbw : Blk w2 wr.heap.size 38 e.cells.toArray := by
    obtain ⟨q1, q2⟩ := hs.new wr.heap.size (Nat.le_refl _) h0l
    exact p.kept.blk (q1.trans HX.out.2.1) (fun hm => by
      rcases mem_ins hm with h | h
      · omega
      · exact q2.sink h)
  have c14 : w2.cell? ⟨wr.heap.size, 14, none⟩ = some (.string ⟨e.data.toArray⟩) := (hbw.cell 14).trans rfl
  have hb2 : Below w.heap.size w w2 := by
    have hB1 : w.heap.size ≤ w1.heap.size := Nat.le_trans (Nat.le_trans HX.out.2.2.2 HX.out.1.size) hs.below.size
    have b12 : Below w.heap.size w1 w2 := p.kept.to_below hB1 (fun x hx => by
      rcases mem_ins hx with h | h
      · have := HX.out.2.2.2; omega
      · exact hs.old x h)
    exact ((HI.out.2.trans (HX.out.1.to_below HX.out.2.2.2 (by simp))).trans hs.below).trans b12
  have HY := Lib.hid hb2
  have hma := ahead_dirW
  have hmm := method_dirW
  have hcv := fun W => run_bytes_of_string (P := Tryd.prog) W 9 30 5 ⟨e.data.toArray⟩ Tryd.underlying9 Tryd.underlying30 Tryd.underlying5
  clear hs p hbw hb2 HCH
  go_wp2_with fail
  refine (dirW_err _ _ _ HDL.out.1 _).mono ?_
  rintro e'' w3 ⟨⟨a, rfl⟩, hb3⟩
  have HZ := Lib.hid ((HY.out.alloc HY.out.size (.cells (bytesRow ⟨e.data.toArray⟩ (grownCap w2 e.data.length 0 5)) 5 ((bytesRow { data := e.data.toArray } (grownCap w2 e.data.length 0 5)).size, (bytesRow { data := e.data.toArray } (grownCap w2 e.data.length 0 5)).size + 1))).drew.trans (hb3.mono (by have := HY.out.size; simp; omega)))
  clear hb3 c14 hma hmm hcv
  go_wp2
  go_ret2
  exact ⟨rfl, HZ.out⟩
set_option maxRecDepth 100000 in
set_option maxHeartbeats 2000000 in
theorem Write_long {w : World} (cl : ByteArray) (hcl : 65535 < cl.size) (hm : cl.size ≤ 9223372036854775807) :
    Calls Tryd.prog 11 #[.slice none 0 0, .string cl] w fun e w' => e = .returned (.tuple #[.string ⟨#[]⟩, .bool false]) ∧ Below w.heap.size w w' := by
  have HC := Lib.hid (And.intro hcl hm)
  clear hcl hm
  go_enter Tryd.func11, Tryd.ntmps11
  go_wp2_with fail
  have hbl : Bld (w.alloc (.cells #[.pointer none, .slice none 0 0] 79)) w.heap.size none [] := ⟨_, _, Blk.new _ _ _, .inl rfl, ⟨rfl, .inl ⟨rfl, rfl⟩⟩, rfl⟩
  refine (NewWriterZ hbl).mono ?_
  rintro e' w1 ⟨zw, bw, gb, cw, rfl, h1, h2, h3, h4, hs, hz, hb⟩
  have HB := Lib.hid (below_new hb)
  have hpend : Pend w.heap.size false w1 ⟨zw, w.heap.size, bw, gb, cw⟩ ⟨#[]⟩ [] := by
    simp at h1 h2 h3 h4
    refine .shut (ro := none) (dirv := .slice none 0 0) (es := []) ⟨⟨hs, hz, ⟨rfl, .inl ⟨rfl, rfl⟩⟩⟩, by simp, by simp, fun _ => rfl⟩ trivial ?_ (by simp)
    intro x hx
    simp only [sinkOf, List.mem_cons, Option.toList, Value.ownBlock, List.append_nil, List.not_mem_nil, or_false] at hx
    omega
  have HP := Lib.hid hpend
  clear hbl h1 h2 h3 h4 hs hz hb hpend
  clear HP
  go_wp2_with fail
  refine wp_loop_rounds 1 ?_
  rw [rounds_succ]
  go_wp2_with fail
  refine (closed_long _ _ cl HC.out.1 HC.out.2).mono ?_
  rintro e' w2 ⟨rfl, hb2⟩
  have HB2 := Lib.hid (HB.out.trans (hb2.mono HB.out.size))
  clear hb2
  go_wp2
  go_ret2
  exact ⟨rfl, HB2.out⟩
end Go.Proofs.YtkkdblifgekmkaaDoor
