/- Words: the writer between two entries of the thin package's loops. -/
import Derived.Test.YtkkdblifgekmkaaDoorClo
import Derived.Test.YtkkdblifgekmkaaDoorFw
import Derived.Test.YtkkdblifgekmkaaDoorFcl
import Derived.Test.YtkkdblifgekmkaaDoorArch
import Derived.Test.YtkkdblifgekmkaaDoorCh
import Derived.Test.YtkkdblifgekmkaaDoorChd
namespace Go.Proofs.YtkkdblifgekmkaaDoor
open Go.RowKit
/-- The entries hold the items' headers, at the items' places. -/
def EntsOf : Nat → List Ent → List Item → Prop
  | _, [], [] => True
  | o, e :: r, i :: s => e.h = i.cen ∧ e.off = o ∧ EntsOf (o + i.bytes.length) r s
  | _, _, _ => False
theorem EntsOf.snoc : ∀ {o : Nat} {es : List Ent} {is : List Item} {e : Ent} {i : Item}, EntsOf o es is → e.h = i.cen → e.off = o + (filesB is).length → EntsOf o (es ++ [e]) (is ++ [i])
  | o, [], [], e, i, _, h1, h2 => ⟨h1, by simpa [filesB] using h2, trivial⟩
  | o, a :: r, j :: s, e, i, ⟨g1, g2, g3⟩, h1, h2 => ⟨g1, g2, EntsOf.snoc g3 h1 (by rw [h2, filesB, List.length_append, Nat.add_assoc])⟩
theorem EntsOf.cen : ∀ {o : Nat} {es : List Ent} {is : List Item}, EntsOf o es is → cenB es = dirB o is
  | o, [], [], _ => rfl
  | o, a :: r, j :: s, ⟨g1, g2, g3⟩ => by rw [cenB, dirB, EntsOf.cen g3, g1, g2]
theorem EntsOf.len : ∀ {o : Nat} {es : List Ent} {is : List Item}, EntsOf o es is → es.length = is.length
  | o, [], [], _ => rfl
  | o, a :: r, j :: s, ⟨_, _, g3⟩ => by rw [List.length_cons, List.length_cons, EntsOf.len g3]
theorem EntsOf.off : ∀ {o : Nat} {es : List Ent} {is : List Item}, EntsOf o es is → ∀ e ∈ es, (∃ i ∈ is, e.h = i.cen) ∧ e.off ≤ o + (filesB is).length
  | o, [], [], _ => by simp
  | o, a :: r, j :: s, ⟨g1, g2, g3⟩ => by
    intro e he
    rcases List.mem_cons.1 he with rfl | he
    · exact ⟨⟨j, by simp, g1⟩, by omega⟩
    · obtain ⟨⟨i, hi, h1⟩, h2⟩ := EntsOf.off g3 e he
      exact ⟨⟨i, List.mem_cons_of_mem _ hi, h1⟩, by rw [filesB, List.length_append]; omega⟩
structure Wr where
  zw : Nat
  ob : Nat
  bw : Nat
  gb : Nat
  cw : Nat
def sinkOf (q : Wr) (ro : Option Nat) (dirv : Value) : List Nat := q.zw :: q.ob :: q.bw :: q.gb :: q.cw :: (ro.toList ++ dirv.ownBlock.toList)
/-- The writer with its entries. -/
structure Wst (w : World) (q : Wr) (ro : Option Nat) (out : List UInt8) (dirv lastv : Value) (es : List Ent) (cm : ByteArray) : Prop where
  st : WSt w q.zw q.ob q.bw q.gb q.cw ro out dirv lastv (es.map (·.hb)) false cm
  ents : ∀ e ∈ es, EntOk w (sinkOf q ro dirv) e
  nodup : (es.map (·.fb)).Nodup
  nil0 : es = [] → dirv = .slice none 0 0
theorem From.lt {w : World} {S : List Nat} {A : Option Addr} {m c : Nat} {p : List UInt8} (h : From w S A m c p) {ad : Addr} (e : A = some ad) (h0 : 0 < m) : ad.block < w.heap.size := by
  obtain ⟨ad', e', hb, _⟩ := h.reads.2 h0
  rw [e] at e'
  injection e' with e'
  rw [e']; exact hb
theorem From.step {w w' : World} {S S' T : List Nat} {A : Option Addr} {m c : Nat} {p : List UInt8} (h : From w S A m c p) (k : Kept T w w') (hT : ∀ ad, A = some ad → 0 < m → ad.block ∉ T) (hS : ∀ x ∈ S', x ∈ S ∨ w.heap.size ≤ x) : From w' S' A m c p :=
  ⟨h.cap, h.reads.kept k (fun h0 ad e => hT ad e h0), fun ad e h0 hm => by
    rcases hS _ hm with h1 | h1
    · exact h.apart ad e h0 h1
    · have := h.lt e h0; omega⟩
theorem EntOk.step {w w' : World} {S S' T : List Nat} {e : Ent} (h : EntOk w S e) (k : Kept T w w') (h1 : e.hb ∉ T) (h2 : e.fb ∉ T) (h3 : ∀ ad, e.A = some ad → 0 < e.h.extra.length → ad.block ∉ T) (hS : ∀ x ∈ S', x ∈ S ∨ w.heap.size ≤ x) : EntOk w' S' e :=
  ⟨k.blk h.hbb h1, k.blk h.fbb h2, h.src.step k h3 hS⟩
theorem Wst.hb_not {w : World} {q : Wr} {ro : Option Nat} {out : List UInt8} {dirv lastv : Value} {es : List Ent} {cm : ByteArray} (h : Wst w q ro out dirv lastv es cm) {b t : Nat} {cs : Array Value} (hb : Blk w b t cs) (ht : t ∉ [79, 207, 5, 108, 114, 126]) : b ∉ sinkOf q ro dirv := fun hm => h.st.apart hb ht b hm rfl
theorem Wst.kept {w w' : World} {q : Wr} {ro : Option Nat} {out : List UInt8} {dirv lastv : Value} {es : List Ent} {cm : ByteArray} (h : Wst w q ro out dirv lastv es cm) (k : Kept [] w w') : Wst w' q ro out dirv lastv es cm :=
  ⟨h.st.kept k (by simp), fun e he => (h.ents e he).step k (by simp) (by simp) (by simp) (fun x hx => .inl hx), h.nodup, h.nil0⟩
/-- A block that none of the writer's is. -/
structure Apart (q : Wr) (ro : Option Nat) (dirv : Value) (es : List Ent) (x : Nat) : Prop where
  sink : x ∉ sinkOf q ro dirv
  fb : ∀ e ∈ es, e.fb ≠ x
  src : ∀ e ∈ es, ∀ ad, e.A = some ad → 0 < e.h.extra.length → ad.block ≠ x
theorem WSt.lts {w : World} {zw ob bw gb cw : Nat} {ro : Option Nat} {out : List UInt8} {dirv lastv : Value} {hs : List Nat} {cl : Bool} {cm : ByteArray} (h : WSt w zw ob bw gb cw ro out dirv lastv hs cl cm) : ∀ x ∈ zw :: ob :: bw :: gb :: cw :: (ro.toList ++ dirv.ownBlock.toList), x < w.heap.size := by
  intro x hx
  have h1 := h.snk.lt
  have h2 := h.zwb.lt
  have h3 := h.snk.cnt.lt
  have h4 := fun g hg => (h.dir.lt g hg).2
  simp only [List.mem_cons, List.mem_append, Option.mem_toList] at hx h1
  rcases hx with rfl | rfl | rfl | rfl | rfl | hx | hx
  · exact h2
  · exact h1 _ (by simp)
  · exact h1 _ (by simp)
  · exact h1 _ (by simp)
  · exact h3
  · exact h1 _ (.inr (.inr (.inr hx)))
  · exact h4 _ hx
theorem Wst.apart_new {w : World} {q : Wr} {ro : Option Nat} {out : List UInt8} {dirv lastv : Value} {es : List Ent} {cm : ByteArray} (h : Wst w q ro out dirv lastv es cm) {x : Nat} (hx : w.heap.size ≤ x) : Apart q ro dirv es x :=
  ⟨fun hm => by have := h.st.lts x hm; omega, fun e he => by have := (h.ents e he).fbb.lt; omega, fun e he ad e1 h0 => by have := (h.ents e he).src.lt e1 h0; omega⟩
/-- The writer with an entry that is open: its n bytes so far have the running checksum crc. -/
structure Opn (w : World) (q : Wr) (ro : Option Nat) (out : List UInt8) (dirv : Value) (es : List Ent) (e : Ent) (cm : ByteArray) (fw rc nc cc hh n crc : Nat) : Prop where
  wst : Wst w q ro out dirv (.pointer (some ⟨fw, 0, none⟩)) (es ++ [e]) cm
  fwo : FwO w fw e.hb rc nc cc hh q.cw n crc
  raw : e.raw = false
  noA : ∀ x ∈ es ++ [e], x.A = none
theorem Opn.kept {w w' : World} {cm : ByteArray} {q : Wr} {ro : Option Nat} {out : List UInt8} {dirv : Value} {es : List Ent} {e : Ent} {fw rc nc cc hh n crc : Nat} (h : Opn w q ro out dirv es e cm fw rc nc cc hh n crc) (k : Kept [] w w') : Opn w' q ro out dirv es e cm fw rc nc cc hh n crc :=
  ⟨h.wst.kept k, h.fwo.kept k (by simp), h.raw, h.noA⟩
theorem sink_fresh {a : Nat} {q : Wr} {ro ro' : Option Nat} {dirv dirv' : Value} (h1 : ro' = ro ∨ ∃ n, ro' = some n ∧ a ≤ n) (h2 : dirv'.ownBlock = dirv.ownBlock ∨ ∃ n, dirv'.ownBlock = some n ∧ a ≤ n) : ∀ x ∈ sinkOf q ro' dirv', x ∈ sinkOf q ro dirv ∨ a ≤ x := by
  intro x hx
  have e1 := fresh_mem h1 x
  have e2 := fresh_mem h2 x
  unfold sinkOf at hx ⊢
  simp only [List.mem_cons, List.mem_append] at hx ⊢
  rcases hx with h | h | h | h | h | h | h
  · exact .inl (.inl h)
  · exact .inl (.inr (.inl h))
  · exact .inl (.inr (.inr (.inl h)))
  · exact .inl (.inr (.inr (.inr (.inl h))))
  · exact .inl (.inr (.inr (.inr (.inr (.inl h)))))
  · rcases e1 h with h | h
    · exact .inl (.inr (.inr (.inr (.inr (.inr (.inl h))))))
    · exact .inr h
  · rcases e2 h with h | h
    · exact .inl (.inr (.inr (.inr (.inr (.inr (.inr h))))))
    · exact .inr h
theorem sink_in {x : Nat} {q : Wr} {ro : Option Nat} {dirv : Value} (h : x ∈ q.ob :: q.bw :: q.gb :: q.cw :: ro.toList) : x ∈ sinkOf q ro dirv := by
  unfold sinkOf
  simp only [List.mem_cons, List.mem_append] at h ⊢
  rcases h with h | h | h | h | h
  · exact .inr (.inl h)
  · exact .inr (.inr (.inl h))
  · exact .inr (.inr (.inr (.inl h)))
  · exact .inr (.inr (.inr (.inr (.inl h))))
  · exact .inr (.inr (.inr (.inr (.inr (.inl h)))))
theorem sink_split {x : Nat} {q : Wr} {ro : Option Nat} {dirv : Value} (h : x ∈ sinkOf q ro dirv) : x = q.zw ∨ x ∈ q.ob :: q.bw :: q.gb :: q.cw :: ro.toList ∨ dirv.ownBlock = some x := by
  unfold sinkOf at h
  simp only [List.mem_cons, List.mem_append, Option.mem_toList] at h ⊢
  rcases h with h | h | h | h | h | h | h
  · exact .inl h
  · exact .inr (.inl (.inl h))
  · exact .inr (.inl (.inr (.inl h)))
  · exact .inr (.inl (.inr (.inr (.inl h))))
  · exact .inr (.inl (.inr (.inr (.inr (.inl h)))))
  · exact .inr (.inl (.inr (.inr (.inr (.inr h)))))
  · exact .inr (.inr h)
/-- The entry when its content is written. -/
def Ent.done (e : Ent) (n crc : Nat) : Ent := { e with h := e.h.done n crc, cs := n, us := n }
theorem Opn.close {w : World} {cm : ByteArray} {q : Wr} {ro : Option Nat} {out : List UInt8} {dirv : Value} {es : List Ent} {e : Ent} {fw rc nc cc hh n crc : Nat} (h : Opn w q ro out dirv es e cm fw rc nc cc hh n crc) (hF : e.h.Fits) (h0 : e.h.flags / 8 % 2 = 1) (hn : n < 4294967296) (hc : crc < 4294967296) (hlen : out.length + 16 ≤ 140737488355328) :
    Calls Tryd.prog 65 #[.pointer (some ⟨fw, 0, none⟩)] w fun e' w' => e' = .returned .nilIface ∧ ∃ ro', (ro' = ro ∨ ∃ n, ro' = some n ∧ w.heap.size ≤ n) ∧ Wst w' q ro' (out ++ tailB (e.h.done n crc)) dirv (.pointer (some ⟨fw, 0, none⟩)) (es ++ [e.done n crc]) cm ∧ Kept (q.ob :: q.bw :: q.gb :: q.cw :: fw :: e.fb :: ro.toList) w w' := by
  have he := h.wst.ents e (by simp)
  have hA := h.noA e (by simp)
  have hbb := he.hbb
  rw [h.raw] at hbb
  refine (close_any h.wst.st.snk h.fwo hbb he.fbb hF h0 hn hc hlen).mono ?_
  rintro e' w' ⟨rfl, ro', r1, s1, f1, k1⟩
  have hin : ∀ x, x ∉ sinkOf q ro dirv → x ≠ fw → x ≠ e.fb → x ∉ q.ob :: q.bw :: q.gb :: q.cw :: fw :: e.fb :: ro.toList := by
    intro x h1 h2 h3 hm
    apply h1
    apply sink_in
    simp only [List.mem_cons] at hm ⊢
    rcases hm with h | h | h | h | h | h | h
    · exact .inl h
    · exact .inr (.inl h)
    · exact .inr (.inr (.inl h))
    · exact .inr (.inr (.inr (.inl h)))
    · exact absurd h h2
    · exact absurd h h3
    · exact .inr (.inr (.inr (.inr h)))
  have hfwl := h.fwo.fwb
  have zne1 : q.zw ≠ fw := h.wst.st.zwb.ne_ hfwl (by decide)
  have zne2 : q.zw ≠ e.fb := h.wst.st.zwb.ne_ he.fbb (by decide)
  have hznot : q.zw ∉ q.ob :: q.bw :: q.gb :: q.cw :: fw :: e.fb :: ro.toList := by
    have := h.wst.st.snk.not h.wst.st.zwb (by decide) (by decide) (by decide) (by decide)
    simp only [List.mem_cons, not_or] at this ⊢
    exact ⟨this.1, this.2.1, this.2.2.1, this.2.2.2.1, zne1, zne2, this.2.2.2.2⟩
  have hdnot : ∀ g, dirv.ownBlock = some g → g ∉ q.ob :: q.bw :: q.gb :: q.cw :: fw :: e.fb :: ro.toList := by
    intro g hg hm
    have d1 := own_blk_ne h.wst.st.dir hfwl (by decide)
    have d2 := own_blk_ne h.wst.st.dir he.fbb (by decide)
    have hda := h.wst.st.dir_apart g
    simp only [List.mem_cons] at hm hda
    have hg2 : g ∈ dirv.ownBlock.toList := by simp [hg]
    rcases hm with h | h | h | h | h | h | h
    · exact hda (.inl h) (.inr hg2)
    · exact hda (.inr (.inl h)) (.inr hg2)
    · exact hda (.inr (.inr (.inl h))) (.inr hg2)
    · exact hda (.inr (.inr (.inr (.inl h)))) (.inr hg2)
    · exact d1 (by rw [hg, h])
    · exact d2 (by rw [hg, h])
    · exact hda (.inr (.inr (.inr (.inr h)))) (.inr hg2)
  refine ⟨rfl, ro', r1, ⟨⟨s1, k1.blk h.wst.st.zwb hznot, ?_⟩, ?_, ?_, by simp⟩, k1⟩
  · have := owns_kept h.wst.st.dir k1 hdnot
    simpa [Ent.done] using this
  · intro x hx
    have hfr : ∀ y ∈ sinkOf q ro' dirv, y ∈ sinkOf q ro dirv ∨ w.heap.size ≤ y := sink_fresh r1 (.inl rfl)
    rcases List.mem_append.1 hx with hx | hx
    · have ho := h.wst.ents x (by simp [hx])
      have hne : x.fb ≠ e.fb := by
        have hnd := h.wst.nodup
        rw [List.map_append, List.nodup_append] at hnd
        exact hnd.2.2 x.fb (List.mem_map_of_mem hx) e.fb (by simp)
      refine ho.step k1 ?_ ?_ ?_ hfr
      · exact hin _ (h.wst.hb_not ho.hbb (by decide)) (ho.hbb.ne_ hfwl (by decide)) (ho.hbb.ne_ he.fbb (by decide))
      · exact hin _ (h.wst.hb_not ho.fbb (by decide)) (ho.fbb.ne_ hfwl (by decide)) hne
      · intro ad e1 h0
        rw [h.noA x (by simp [hx])] at e1
        cases e1
    · obtain rfl : x = e.done n crc := by simpa using hx
      refine ⟨k1.blk he.hbb ?_, f1, ?_⟩
      · exact hin _ (h.wst.hb_not he.hbb (by decide)) (he.hbb.ne_ hfwl (by decide)) (he.hbb.ne_ he.fbb (by decide))
      · exact he.src.step k1 (fun ad e1 => by rw [hA] at e1; cases e1) hfr
  · have hnd := h.wst.nodup
    simpa [Ent.done] using hnd
theorem mem_ins {x fb zw : Nat} {l : List Nat} (h : x ∈ zw :: fb :: l) : x = fb ∨ x ∈ zw :: l := by
  simp only [List.mem_cons] at h ⊢
  rcases h with h | h | h
  · exact .inr (.inl h)
  · exact .inl h
  · exact .inr (.inr h)
/-- An entry of before at what CreateHeader or CreateRaw leaves. -/
theorem Wst.old_ent {w w' : World} {q : Wr} {ro ro' : Option Nat} {out : List UInt8} {dirv dirv' lastv : Value} {es : List Ent} {cm : ByteArray} {fb : Nat} {cs : Array Value} (h : Wst w q ro out dirv lastv es cm) (k : Kept (q.zw :: fb :: q.ob :: q.bw :: q.gb :: q.cw :: (ro.toList ++ dirv.ownBlock.toList)) w w') (ha : Apart q ro dirv es fb) (hfb : Blk w fb 72 cs) (r1 : ro' = ro ∨ ∃ n, ro' = some n ∧ w.heap.size ≤ n) (r2 : dirv'.ownBlock = dirv.ownBlock ∨ ∃ n, dirv'.ownBlock = some n ∧ w.heap.size ≤ n) : ∀ x ∈ es, EntOk w' (sinkOf q ro' dirv') x := by
  intro x hx
  have ho := h.ents x hx
  refine ho.step k ?_ ?_ ?_ (sink_fresh r1 r2)
  · intro hm
    rcases mem_ins hm with e | e
    · exact ho.hbb.ne_ hfb (by decide) e
    · exact h.hb_not ho.hbb (by decide) e
  · intro hm
    rcases mem_ins hm with e | e
    · exact ha.fb x hx e
    · exact h.hb_not ho.fbb (by decide) e
  · intro ad e1 h0 hm
    rcases mem_ins hm with e | e
    · exact ha.src x hx ad e1 h0 e
    · exact ho.src.apart ad e1 h0 e
theorem nodup_snoc {es : List Ent} {e : Ent} (h : (es.map (·.fb)).Nodup) (hn : ∀ x ∈ es, x.fb ≠ e.fb) : ((es ++ [e]).map (·.fb)).Nodup := by
  rw [List.map_append, List.nodup_append]
  refine ⟨h, by simp, fun a ha b hb => ?_⟩
  obtain ⟨x, hx, rfl⟩ := List.mem_map.1 ha
  obtain rfl : b = e.fb := by simpa using hb
  exact hn x hx
theorem From.nil (w : World) (S : List Nat) (m : Nat) (p : List UInt8) (hm : m = 0) (hp : p = []) : From w S none m 0 p := by
  subst hm; subst hp
  exact ⟨Nat.le_refl _, Reads.none_, fun ad e => by cases e⟩
theorem ChPost.opn {w w' : World} {cm : ByteArray} {q : Wr} {ro ro' : Option Nat} {out : List UInt8} {dirv dirv' lastv : Value} {es : List Ent} {fb : Nat} {cs : Array Value} {h1 : Hd} {nu : Bool} {fw hbn rc nc cc hh : Nat} (h : Wst w q ro out dirv lastv es cm) (p : ChPost w w' q.zw q.ob q.bw q.gb q.cw fb ro ro' out dirv dirv' (es.map (·.hb)) cm h1 nu fw hbn rc nc cc hh) (hx0 : h1.extra = []) (ha : Apart q ro dirv es fb) (hfb : Blk w fb 72 cs) (hA : ∀ x ∈ es, x.A = none) :
    Opn w' q ro' (out ++ localB h1) dirv' es ⟨hbn, fb, h1, nu, 0, 0, out.length, false, none, 0⟩ cm fw rc nc cc hh 0 0 := by
  refine ⟨⟨?_, ?_, nodup_snoc h.nodup ha.fb, by simp⟩, p.fwo, rfl, ?_⟩
  · have := p.st
    simpa using this
  · intro x hx
    rcases List.mem_append.1 hx with hx | hx
    · exact h.old_ent p.kept ha hfb p.rof p.dirf x hx
    · obtain rfl := List.mem_singleton.1 hx
      refine ⟨p.hbb, ?_, ?_⟩
      · have := p.fbb
        simpa [hx0] using this
      · exact From.nil _ _ _ _ (by simp [hx0]) hx0
  · intro x hx
    rcases List.mem_append.1 hx with hx | hx
    · exact hA x hx
    · obtain rfl := List.mem_singleton.1 hx
      rfl
theorem ChPostD.wst {w w' : World} {cm : ByteArray} {q : Wr} {ro ro' : Option Nat} {out : List UInt8} {dirv dirv' lastv : Value} {es : List Ent} {fb : Nat} {cs : Array Value} {h1 : Hd} {nu : Bool} {hbn : Nat} (h : Wst w q ro out dirv lastv es cm) (p : ChPostD w w' q.zw q.ob q.bw q.gb q.cw fb ro ro' out dirv dirv' (es.map (·.hb)) cm h1 nu hbn) (hx0 : h1.extra = []) (ha : Apart q ro dirv es fb) (hfb : Blk w fb 72 cs) :
    Wst w' q ro' (out ++ localB h1) dirv' (.pointer none) (es ++ [⟨hbn, fb, h1, nu, 0, 0, out.length, false, none, 0⟩]) cm := by
  refine ⟨?_, ?_, nodup_snoc h.nodup ha.fb, by simp⟩
  · have := p.st
    simpa using this
  · intro x hx
    rcases List.mem_append.1 hx with hx | hx
    · exact h.old_ent p.kept ha hfb p.rof p.dirf x hx
    · obtain rfl := List.mem_singleton.1 hx
      refine ⟨p.hbb, ?_, ?_⟩
      · have := p.fbb
        simpa [hx0] using this
      · exact From.nil _ _ _ _ (by simp [hx0]) hx0
theorem Opn.write {w : World} {cm : ByteArray} {q : Wr} {ro : Option Nat} {out : List UInt8} {dirv : Value} {es : List Ent} {e : Ent} {fw rc nc cc hh n crc : Nat} (h : Opn w q ro out dirv es e cm fw rc nc cc hh n crc) (A : Option Addr) (m c : Nat) (p : List UInt8) (hmc : m ≤ c) (hs : Src w A m p) (hap : ∀ ad, A = some ad → 0 < m → ad.block ∉ hh :: q.ob :: q.bw :: q.gb :: ro.toList) (hcrc : crc < 4294967296) (hlen : out.length + p.length ≤ 140737488355328) (hn1 : n + p.length ≤ 140737488355328) :
    Calls Tryd.prog 168 #[.pointer (some ⟨fw, 0, none⟩), .slice A m c] w fun e' w' => e' = .returned (.tuple #[.int .i64 m, .nilIface]) ∧ ∃ ro', (ro' = ro ∨ ∃ n, ro' = some n ∧ w.heap.size ≤ n) ∧ Opn w' q ro' (out ++ p) dirv es e cm fw rc nc cc hh (n + m) (notU (crcFold (notU crc) p)) ∧ Kept (q.ob :: q.bw :: q.gb :: q.cw :: cc :: rc :: hh :: ro.toList) w w' := by
  have he := h.wst.ents e (by simp)
  have hbb := he.hbb
  rw [h.raw] at hbb
  refine (Fw_write h.wst.st.snk h.fwo hbb A m c p hmc hs hap hcrc hlen hn1).mono ?_
  rintro e' w' ⟨rfl, ro', r1, s1, f1, k1⟩
  have o := h.fwo
  have hin : ∀ x, x ∉ q.ob :: q.bw :: q.gb :: q.cw :: ro.toList → x ≠ cc → x ≠ rc → x ≠ hh → x ∉ q.ob :: q.bw :: q.gb :: q.cw :: cc :: rc :: hh :: ro.toList := by
    intro x h1 h2 h3 h4 hm
    simp only [List.mem_cons, not_or] at h1 hm
    rcases hm with h | h | h | h | h | h | h | h
    · exact h1.1 h
    · exact h1.2.1 h
    · exact h1.2.2.1 h
    · exact h1.2.2.2.1 h
    · exact h2 h
    · exact h3 h
    · exact h4 h
    · exact h1.2.2.2.2 h
  have z := h.wst.st.zwb
  refine ⟨rfl, ro', r1, ⟨⟨⟨s1, k1.blk z (hin _ (h.wst.st.snk.not z (by decide) (by decide) (by decide) (by decide)) (z.ne_ o.ccb (by decide)) (z.ne_ o.rcb (by decide)) (z.ne_ o.hhb (by decide))), owns_kept h.wst.st.dir k1 ?_⟩, ?_, h.wst.nodup, h.wst.nil0⟩, f1, h.raw, h.noA⟩, k1⟩
  · intro g hg hm
    have d1 := own_blk_ne h.wst.st.dir o.ccb (by decide)
    have d2 := own_blk_ne h.wst.st.dir o.rcb (by decide)
    have d3 := own_blk_ne h.wst.st.dir o.hhb (by decide)
    refine hin g (fun hm => h.wst.st.dir_apart g hm (by simp [hg])) ?_ ?_ ?_ hm
    · rintro rfl; exact d1 hg
    · rintro rfl; exact d2 hg
    · rintro rfl; exact d3 hg
  · intro x hx
    have ho := h.wst.ents x hx
    refine ho.step k1 ?_ ?_ ?_ (sink_fresh r1 (.inl rfl))
    · exact hin _ (fun hm => h.wst.hb_not ho.hbb (by decide) (sink_in hm)) (ho.hbb.ne_ o.ccb (by decide)) (ho.hbb.ne_ o.rcb (by decide)) (ho.hbb.ne_ o.hhb (by decide))
    · exact hin _ (fun hm => h.wst.hb_not ho.fbb (by decide) (sink_in hm)) (ho.fbb.ne_ o.ccb (by decide)) (ho.fbb.ne_ o.rcb (by decide)) (ho.fbb.ne_ o.hhb (by decide))
    · intro ad e1
      rw [h.noA x hx] at e1
      cases e1
end Go.Proofs.YtkkdblifgekmkaaDoor
