/- Words: the writer between two entries, whatever the last entry is. Contract: Writer.prepare. -/
import Derived.Test.YtkkdblifgekmkaaDoorSt
import Derived.Test.YtkkdblifgekmkaaDoorPrep
namespace Go.Proofs.YtkkdblifgekmkaaDoor
open Go.RowKit
/-- The writer between two entries: the items so far; cm: the comment; rw: whether entries may have extra fields. -/
inductive Pend (B : Nat) (rw : Bool) (w : World) (q : Wr) (cm : ByteArray) : List Item → Prop
  | shut {ro : Option Nat} {dirv : Value} {es : List Ent} {is : List Item} (h : Wst w q ro (filesB is) dirv (.pointer none) es cm) (of : EntsOf 0 es is) (old : ∀ x ∈ sinkOf q ro dirv, B ≤ x) (hA : rw = false → ∀ x ∈ es, x.A = none) : Pend B rw w q cm is
  | raw {ro : Option Nat} {dirv : Value} {es : List Ent} {e : Ent} {fw : Nat} {is : List Item} (h : Wst w q ro (filesB is) dirv (.pointer (some ⟨fw, 0, none⟩)) (es ++ [e]) cm) (of : EntsOf 0 (es ++ [e]) is) (old : ∀ x ∈ fw :: sinkOf q ro dirv, B ≤ x) (hA : rw = false → ∀ x ∈ es ++ [e], x.A = none)
      (hr : e.raw = true) (hfl : e.h.flags < 65536 ∧ e.h.flags / 8 % 2 = 0) (hw : Blk w fw 137 (fwRaw e.hb q.cw)) (hsrc : ∀ x ∈ es ++ [e], ∀ ad, x.A = some ad → 0 < x.h.extra.length → ad.block ≠ fw) : Pend B rw w q cm is
  | opn {ro : Option Nat} {dirv : Value} {es : List Ent} {e : Ent} {fw rc nc cc hh : Nat} {is : List Item} {i : Item} (h : Opn w q ro (filesB is ++ (localB e.h ++ i.data)) dirv es e cm fw rc nc cc hh i.data.length (crcOf i.data)) (of : EntsOf 0 es is) (old : ∀ x ∈ fw :: rc :: cc :: hh :: e.fb :: sinkOf q ro dirv, B ≤ x)
      (hi : i.loc = e.h ∧ i.cen = e.h.done i.data.length (crcOf i.data) ∧ i.tail = tailB (e.h.done i.data.length (crcOf i.data))) (hF : e.h.Fits) (hfl : e.h.flags / 8 % 2 = 1) (hoff : e.off = (filesB is).length) : Pend B rw w q cm (is ++ [i])
theorem Pend.kept {B : Nat} {rw : Bool} {w w' : World} {q : Wr} {cm : ByteArray} {is : List Item} (h : Pend B rw w q cm is) (k : Kept [] w w') : Pend B rw w' q cm is := by
  cases h with
  | shut h of old hA => exact .shut (h.kept k) of old hA
  | raw h of old hA hr hfl hw hsrc => exact .raw (h.kept k) of old hA hr hfl (k.blk hw (by simp)) hsrc
  | opn h of old hi hF hfl hoff => exact .opn (h.kept k) of old hi hF hfl hoff
theorem Wst.setZ {w w' : World} {q : Wr} {ro : Option Nat} {out : List UInt8} {dirv lastv lastv' : Value} {es : List Ent} {cm cm' : ByteArray} (h : Wst w q ro out dirv lastv es cm) (k : Kept [q.zw] w w') (hb : Blk w' q.zw 114 (zwCells q.cw dirv lastv' false cm')) : Wst w' q ro out dirv lastv' es cm' := by
  have hz := h.st.snk.not h.st.zwb (by decide) (by decide) (by decide) (by decide)
  simp only [List.mem_cons, Option.mem_toList, not_or] at hz
  refine ⟨⟨h.st.snk.kept k (by simp; omega) (by simp; omega) (by simp; omega) (by simp; omega) (fun g hg hm => hz.2.2.2.2 (by simp at hm; rw [hg, hm])), hb, owns_kept h.st.dir k (fun g hg hm => own_blk_ne h.st.dir h.st.zwb (by decide) (by simp at hm; rw [hg, hm]))⟩, fun e he => ?_, h.nodup, h.nil0⟩
  have ho := h.ents e he
  exact ho.step k (by simpa using ho.hbb.ne_ h.st.zwb (by decide)) (by simpa using ho.fbb.ne_ h.st.zwb (by decide)) (fun ad e1 h0 hm => ho.src.apart ad e1 h0 (by simp at hm; rw [hm]; simp [sinkOf])) (fun x hx => .inl hx)
theorem Pend.comment {B : Nat} {rw : Bool} {w w' : World} {q : Wr} {cm cm' : ByteArray} {is : List Item} (h : Pend B rw w q cm is) (k : Kept [q.zw] w w') (hb : ∀ cs, Blk w q.zw 114 cs → Blk w' q.zw 114 (cs.setIfInBounds 5 (.string cm'))) : Pend B rw w' q cm' is := by
  cases h with
  | shut h of old hA => exact .shut (h.setZ k (hb _ h.st.zwb)) of old hA
  | raw h of old hA hr hfl hw hsrc => exact .raw (h.setZ k (hb _ h.st.zwb)) of old hA hr hfl (k.blk hw (by simpa using hw.ne_ h.st.zwb (by decide))) hsrc
  | opn h of old hi hF hfl hoff =>
    have z := h.wst.st.zwb
    have o := h.fwo
    exact .opn ⟨h.wst.setZ k (hb _ z), o.kept k (by
      intro x hx hm
      obtain rfl : x = q.zw := by simpa using hm
      simp only [List.mem_cons, List.not_mem_nil, or_false] at hx
      rcases hx with e | e | e | e | e
      · exact z.ne_ o.fwb (by decide) e
      · exact z.ne_ o.rcb (by decide) e
      · exact z.ne_ o.ncb (by decide) e
      · exact z.ne_ o.ccb (by decide) e
      · exact z.ne_ o.hhb (by decide) e), h.raw, h.noA⟩ of old hi hF hfl hoff
/-- All entries are closed; what was new between wr and w0 is as it was in w0. -/
structure Shut (B : Nat) (rw : Bool) (wr w0 : World) (q : Wr) (cm : ByteArray) (is : List Item) (dirv lastv : Value) (es : List Ent) (ro : Option Nat) (w' : World) : Prop where
  wst : Wst w' q ro (filesB is) dirv lastv es cm
  old : ∀ x ∈ sinkOf q ro dirv, B ≤ x
  below : Below B w0 w'
  new : ∀ y, wr.heap.size ≤ y → y < w0.heap.size → w'.heap[y]? = w0.heap[y]? ∧ Apart q ro dirv es y
  noA : rw = false → ∀ x ∈ es, x.A = none
theorem Shut.drewN {B : Nat} {rw : Bool} {wr w0 w' : World} {q : Wr} {cm : ByteArray} {is : List Item} {dirv lastv : Value} {es : List Ent} {ro : Option Nat} (h : Shut B rw wr w0 q cm is dirv lastv es ro w') (n : Nat) : Shut B rw wr w0 q cm is dirv lastv es ro (w'.drewN n) :=
  ⟨h.wst.kept ((Kept.refl [] w').drewN n), h.old, below_drewN h.below n, h.new, h.noA⟩
theorem filesB_snoc (is : List Item) (i : Item) : filesB (is ++ [i]) = filesB is ++ (localB i.loc ++ (i.data ++ i.tail)) := by
  rw [filesB_append]
  simp [filesB, Item.bytes]
theorem Pend.last {B : Nat} {rw : Bool} {wr w0 : World} {q : Wr} {cm : ByteArray} {is : List Item} (h : Pend B rw wr q cm is) (k : Kept [] wr w0) (hB : B ≤ wr.heap.size) (hlen : (filesB is).length ≤ 70368744177664) (hdat : ∀ i ∈ is, i.data.length < 4294967296) :
    ∃ dirv lastv es, EntsOf 0 es is ∧ w0.cell? ⟨q.zw, 2, none⟩ = some lastv ∧ ((lastv = .pointer none ∧ ∃ ro, Shut B rw wr w0 q cm is dirv lastv es ro w0) ∨ ∃ fw, lastv = .pointer (some ⟨fw, 0, none⟩) ∧ w0.cell? ⟨fw, 6, none⟩ = some (.bool false) ∧ Calls Tryd.prog 65 #[.pointer (some ⟨fw, 0, none⟩)] w0 fun e w' => e = .returned .nilIface ∧ ∃ ro, Shut B rw wr w0 q cm is dirv lastv es ro w') := by
  have hBw : B ≤ w0.heap.size := Nat.le_trans hB k.size
  cases h with
  | shut h of old hA => exact ⟨_, .pointer none, _, of, (h.kept k).st.zwb.cell 2, .inl ⟨rfl, _, h.kept k, old, Below.refl _ _, fun y h1 h2 => ⟨rfl, h.apart_new h1⟩, hA⟩⟩
  | @raw ro dirv es e fw is h of old hA hr hfl hw hsrc =>
    have h' := h.kept k
    have hw' := k.blk hw (by simp)
    have he := h'.ents e (by simp)
    have hbb := he.hbb
    rw [hr] at hbb
    refine ⟨dirv, .pointer (some ⟨fw, 0, none⟩), es ++ [e], of, h'.st.zwb.cell 2, .inr ⟨fw, rfl, hw'.cell 6, (close_raw hw' hbb he.fbb hfl.1 hfl.2).mono ?_⟩⟩
    rintro e' w' ⟨rfl, kf⟩
    have hns : fw ∉ sinkOf q ro dirv := h'.hb_not hw' (by decide)
    have hkept : Wst w' q ro (filesB is) dirv (.pointer (some ⟨fw, 0, none⟩)) (es ++ [e]) cm := by
      refine ⟨h'.st.kept kf (fun x hx hm => by obtain rfl := List.mem_singleton.1 hm; exact hns hx), fun x hx => ?_, h.nodup, h.nil0⟩
      have ho := h'.ents x hx
      exact ho.step kf (by simpa using ho.hbb.ne_ hw' (by decide)) (by simpa using ho.fbb.ne_ hw' (by decide)) (fun ad e1 h0 hm => hsrc x hx ad e1 h0 (by simpa using hm)) (fun x hx => .inl hx)
    refine ⟨rfl, ro, hkept, fun x hx => old x (List.mem_cons_of_mem _ hx), kf.to_below hBw (fun x hx => by obtain rfl := List.mem_singleton.1 hx; exact old _ (by simp)), fun y h1 h2 => ⟨?_, h.apart_new h1⟩, hA⟩
    exact kf.block y h2 (fun hm => by obtain rfl := List.mem_singleton.1 hm; have := hw.lt; omega)
  | @opn ro dirv es e fw rc nc cc hh is i h of old hi hF hfl hoff =>
    have h' := h.kept k
    obtain ⟨hi1, hi2, hi3⟩ := hi
    have hfs : filesB (is ++ [i]) = filesB is ++ (localB e.h ++ i.data) ++ tailB (e.h.done i.data.length (crcOf i.data)) := by
      rw [filesB_snoc, hi1, hi3]; simp only [List.append_assoc]
    have hl2 := congrArg List.length hfs
    rw [List.length_append, tailB_length] at hl2
    refine ⟨dirv, .pointer (some ⟨fw, 0, none⟩), es ++ [e.done i.data.length (crcOf i.data)], of.snoc (by rw [hi2]; rfl) (by rw [show (e.done i.data.length (crcOf i.data)).off = e.off from rfl, hoff, Nat.zero_add]), h'.wst.st.zwb.cell 2, .inr ⟨fw, rfl, h'.fwo.fwb.cell 6, (h'.close hF hfl (hdat i (by simp)) (crcOf_lt _) (by omega)).mono ?_⟩⟩
    rintro e' w' ⟨rfl, ro', r1, s1, k1⟩
    have hfbl := (h.wst.ents e (by simp)).fbb.lt
    have hfwl := h.fwo.fwb.lt
    have hlt := h.wst.st.lts
    refine ⟨rfl, ro', ?_, ?_, ?_, ?_, ?_⟩
    · rw [hfs]; exact s1
    · intro x hx
      rcases sink_fresh r1 (.inl rfl) x hx with h | h
      · exact old x (by simp [h])
      · omega
    · refine k1.to_below hBw ?_
      intro x hx
      simp only [List.mem_cons] at hx
      rcases hx with h | h | h | h | h | h | h
      · exact old x (by simp [sinkOf, h])
      · exact old x (by simp [sinkOf, h])
      · exact old x (by simp [sinkOf, h])
      · exact old x (by simp [sinkOf, h])
      · exact old x (by simp [h])
      · exact old x (by simp [h])
      · exact old x (by rw [Option.mem_toList] at h; simp [sinkOf, h])
    · intro y h1 h2
      refine ⟨k1.block y h2 ?_, ?_, ?_, ?_⟩
      · intro hm
        have : y ∈ sinkOf q ro dirv ∨ y = fw ∨ y = e.fb := by
          simp only [List.mem_cons] at hm
          rcases hm with h | h | h | h | h | h | h
          · exact .inl (by simp [sinkOf, h])
          · exact .inl (by simp [sinkOf, h])
          · exact .inl (by simp [sinkOf, h])
          · exact .inl (by simp [sinkOf, h])
          · exact .inr (.inl h)
          · exact .inr (.inr h)
          · exact .inl (by rw [Option.mem_toList] at h; simp [sinkOf, h])
        rcases this with h | rfl | rfl
        · have := hlt y h; omega
        · omega
        · omega
      · intro hm
        rcases sink_fresh r1 (.inl rfl) y hm with h | h
        · have := hlt y h; omega
        · omega
      · intro x hx
        rcases List.mem_append.1 hx with hx | hx
        · have := (h.wst.ents x (by simp [hx])).fbb.lt; omega
        · obtain rfl := List.mem_singleton.1 hx
          show e.fb ≠ y
          omega
      · intro x hx ad e1
        have hn : x.A = none := by
          rcases List.mem_append.1 hx with hx | hx
          · exact h.noA x (by simp [hx])
          · obtain rfl := List.mem_singleton.1 hx
            exact h.noA e (by simp)
        rw [hn] at e1
        cases e1
    · intro _ x hx
      rcases List.mem_append.1 hx with hx | hx
      · exact h.noA x (by simp [hx])
      · obtain rfl := List.mem_singleton.1 hx
        exact h.noA e (by simp)
theorem Wst.lastApart {w : World} {q : Wr} {ro : Option Nat} {out : List UInt8} {dirv lastv : Value} {es : List Ent} {cm : ByteArray} (h : Wst w q ro out dirv lastv es cm) {fbn t : Nat} {cs : Array Value} (ha : ∀ e ∈ es, e.fb ≠ fbn) (hb : Blk w fbn t cs) (hm : es.length ≤ 140737488355328) : LastApart w q.zw fbn dirv := by
  refine ⟨h.st.zwb.cell 1, ?_⟩
  rcases List.eq_nil_or_concat es with e0 | ⟨es0, e, e0⟩
  · exact .inl (h.nil0 e0)
  · right
    rw [List.concat_eq_append] at e0
    have hd := h.st.dir
    subst e0
    have hl : ((es0 ++ [e]).map (·.hb)).length = es0.length + 1 := by simp
    rw [hl] at hd
    obtain ⟨g, cap, hv, _, hlt⟩ := hd.form (Nat.succ_pos _)
    have he := h.ents e (by simp)
    have hc := hd.cells (g := g) (by rw [hv]; rfl) es0.length (hptr e.hb) (by simp [hptr])
    rw [add_atW, Nat.zero_add] at hc
    exact ⟨g, es0.length, cap, e.hb, e.fb, _, _, _, _, hv, by simp at hm; omega, hc, he.hbb.cell 0, ha e (by simp), he.fbb, hb⟩
theorem Pend.prep {B : Nat} {rw : Bool} {wr w0 : World} {q : Wr} {cm : ByteArray} {is : List Item} (h : Pend B rw wr q cm is) (k : Kept [] wr w0) (hB : B ≤ wr.heap.size) (hlen : (filesB is).length ≤ 70368744177664) (hdat : ∀ i ∈ is, i.data.length < 4294967296) (hm : is.length ≤ 140737488355328) {fbn t : Nat} {cs : Array Value} (hb : Blk w0 fbn t cs) (hn : wr.heap.size ≤ fbn) :
    ∃ dirv lastv es, EntsOf 0 es is ∧ Calls Tryd.prog 41 #[.pointer (some ⟨q.zw, 0, none⟩), .pointer (some ⟨fbn, 0, none⟩)] w0 fun e w' => e = .returned .nilIface ∧ ∃ ro, Shut B rw wr w0 q cm is dirv lastv es ro w' := by
  obtain ⟨dirv, lastv, es, of, h2, hl⟩ := h.last k hB hlen hdat
  have hlA : ∀ ro w', Shut B rw wr w0 q cm is dirv lastv es ro w' → LastApart w' q.zw fbn dirv := fun ro w' s =>
    s.wst.lastApart (s.new fbn hn hb.lt).2.fb (show Blk w' fbn t cs from (s.new fbn hn hb.lt).1.trans hb) (by rw [of.len]; exact hm)
  refine ⟨dirv, lastv, es, of, ?_⟩
  rcases hl with ⟨rfl, ro, hs⟩ | ⟨fw, rfl, h6, hc⟩
  · refine (prepare_nil h2 (hlA ro w0 hs)).mono ?_
    rintro e w' ⟨rfl, n, rfl⟩
    exact ⟨rfl, ro, hs.drewN n⟩
  · refine (prepare_open (P := fun w' => ∃ ro, Shut B rw wr w0 q cm is dirv (.pointer (some ⟨fw, 0, none⟩)) es ro w') h2 h6 hc (fun w' ⟨ro, hs⟩ => hlA ro w' hs)).mono ?_
    rintro e w' ⟨rfl, w1, n, ⟨ro, hs⟩, rfl⟩
    exact ⟨rfl, ro, hs.drewN n⟩
end Go.Proofs.YtkkdblifgekmkaaDoor
