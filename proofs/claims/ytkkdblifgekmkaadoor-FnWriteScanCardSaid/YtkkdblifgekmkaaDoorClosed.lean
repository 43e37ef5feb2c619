/- Contract: the thin package's closed. -/
import Derived.Test.YtkkdblifgekmkaaDoorPend
import Derived.Test.YtkkdblifgekmkaaDoorShelf
import Derived.Test.YtkkdblifgekmkaaDoorAr
namespace Go.Proofs.YtkkdblifgekmkaaDoor
open Go.RowKit


theorem Blk.uniq {w : World} {g t : Nat} {cs cs' : Array Value} (h : Blk w g t cs) (h' : Blk w g t cs') : cs = cs' := by
  unfold Blk at h h'
  rw [h] at h'
  injection h' with h'
  injection h'
theorem Pend.zwb {B : Nat} {rw : Bool} {w : World} {q : Wr} {cm : ByteArray} {is : List Item} (h : Pend B rw w q cm is) : (∃ dirv lastv, Blk w q.zw 114 (zwCells q.cw dirv lastv false cm)) ∧ B ≤ q.zw ∧ B ≤ q.ob := by
  cases h with
  | shut h of old hA => exact ⟨⟨_, _, h.st.zwb⟩, old _ (by simp [sinkOf]), old _ (by simp [sinkOf])⟩
  | raw h of old hA hr hfl hw hsrc => exact ⟨⟨_, _, h.st.zwb⟩, old _ (by simp [sinkOf]), old _ (by simp [sinkOf])⟩
  | opn h of old hi hF hfl hoff => exact ⟨⟨_, _, h.wst.st.zwb⟩, old _ (by simp [sinkOf]), old _ (by simp [sinkOf])⟩
theorem owns_base {w : World} {b b' n size : Nat} {e : TypeId} {v : Value} {xs : List Value} (h : w.ownsRow b e size v n xs) (hb : ∀ g, v.ownBlock = some g → b' ≤ g) : w.ownsRow b' e size v n xs := by
  refine ⟨h.1, ?_⟩
  rcases h.2 with hn | ⟨g, cap, cur, rfl, _, rest⟩
  · exact .inl hn
  · exact .inr ⟨g, cap, cur, rfl, hb g rfl, rest⟩
theorem Bld.isB {w : World} {B ob : Nat} {ro : Option Nat} {out : List UInt8} (h : Bld w ob ro out) (h1 : B ≤ ob) (h2 : ∀ g, ro = some g → B ≤ g) : Lib.IsBuilder 79 5 B ob (Lib.byteCells out) w := by
  obtain ⟨ad, v, hb, ha, ho, hr⟩ := h
  have ho2 := owns_base ho (fun g hg => h2 g (hr.symm.trans hg))
  have hne := own_blk_ne ho hb (by decide)
  have e : Lib.byteCells out = out.map byteV := rfl
  rw [e]
  have hl : (out.map byteV).length = out.length := by simp
  rcases ha with rfl | rfl
  · exact .inl ⟨h1, v, hb, by rw [hl]; exact ho2, hne⟩
  · exact .inr ⟨h1, v, hb, by rw [hl]; exact ho2, hne⟩
set_option maxHeartbeats 400000 in
theorem closed_any {B : Nat} {rw : Bool} {w : World} {q : Wr} {cm : ByteArray} {is : List Item} (h : Pend B rw w q cm is) (hB : B ≤ w.heap.size) (cl : List UInt8) (hcl : cl.length ≤ 65535) (hfit : ∀ i ∈ is, i.cen.Fits ∧ i.cen.packed < 4294967295 ∧ i.cen.size < 4294967295 ∧ i.data.length < 4294967295) (hlen : (filesB is).length + (dirB 0 is).length ≤ 4294967294) (hm : is.length ≤ 65534) :
    Calls Tryd.prog 27 #[.pointer (some ⟨q.zw, 0, none⟩), .pointer (some ⟨q.ob, 0, none⟩), .string ⟨cl.toArray⟩] w fun e w' => e = .returned (.tuple #[.string ⟨(archB is cl).toArray⟩, .bool true]) ∧ Below B w w' := by
  obtain ⟨⟨dv, lv, hz⟩, hBz, hBo⟩ := h.zwb
  have HS := Lib.hid (setComment_any hz ⟨cl.toArray⟩ hcl)
  have HX := Lib.hid (And.intro h (And.intro hB (And.intro hfit (And.intro hlen hm))))
  have HZ := Lib.hid hz
  have HC := Lib.hid hcl
  clear h hB hfit hlen hm hz hcl
  go_enter Tryd.func27, Tryd.ntmps27
  go_wp2_with fail
  refine HS.out.mono ?_
  rintro e w2 ⟨rfl, hb2, hk2⟩
  obtain ⟨h, hB, hfit, hlen, hm⟩ := HX.out
  have hp2 : Pend B rw w2 q ⟨cl.toArray⟩ is := h.comment hk2 (fun cs hcs => by
    obtain rfl := hcs.uniq HZ.out
    exact Blk.cast hb2 (by simp [zwCells]))
  have hB2 : B ≤ w2.heap.size := Nat.le_trans hB hk2.size
  obtain ⟨dirv, lastv, es, of, h2, hl⟩ := hp2.last (Kept.refl [] w2) hB2 (by omega) (fun i hi => by have := (hfit i hi).2.2.2; omega)
  have hcl2 : (cenB es).length = (dirB 0 is).length := by rw [of.cen]
  have HCL := Lib.hid (Close_any (P := fun ro w1 => Shut B rw w2 w2 q ⟨cl.toArray⟩ is dirv lastv es ro w1) h2 hl (fun ro w1 s => ⟨s.wst.st, fun e he => ⟨(s.wst.ents e he).hbb, (s.wst.ents e he).fbb, (s.wst.ents e he).src.sub (fun x hx => by
      unfold sinkOf
      simp only [List.mem_cons, List.mem_append] at hx ⊢
      rcases hx with h | h | h | h | h | h
      · exact .inl h
      · exact .inr (.inl h)
      · exact .inr (.inr (.inl h))
      · exact .inr (.inr (.inr (.inl h)))
      · exact .inr (.inr (.inr (.inr (.inl h))))
      · exact .inr (.inr (.inr (.inr (.inr (.inl h))))))⟩⟩)
    (fun e he => by
      obtain ⟨⟨i, hi, e1⟩, e2⟩ := of.off e he
      have := hfit i hi
      exact ⟨by rw [e1]; exact this.1, by rw [e1]; exact this.2.1, by rw [e1]; exact this.2.2.1, by omega⟩)
    (by omega) (by rw [of.len]; exact hm) HC.out)
  have HBW := Lib.hid hB
  have HY := Lib.hid (And.intro of (And.intro hk2 hB2))
  clear h hB hfit hlen hm hp2 hB2 of h2 hl hcl2 hb2 hk2 HX HS HZ
  go_wp2_with fail
  refine HCL.out.mono ?_
  rintro e w3 ⟨rfl, ro, w1, ro', hs, hr, hbl, hk3⟩
  obtain ⟨of, hk2, hB2⟩ := HY.out
  have hB3 : B ≤ w1.heap.size := Nat.le_trans hB2 hs.below.size
  have hro : ∀ g, ro' = some g → B ≤ g := fun g hg => by
    rcases hr with h | ⟨n, h, hn⟩
    · exact hs.old g (by rw [hg] at h; simp [sinkOf, ← h])
    · rw [hg] at h
      injection h with h
      omega
  have hk13 : Below B w1 w3 := hk3.to_below hB3 (fun x hx => hs.old x (by
      unfold sinkOf
      simp only [List.mem_cons, List.mem_append] at hx ⊢
      rcases hx with h | h | h | h | h | h
      · exact .inl h
      · exact .inr (.inl h)
      · exact .inr (.inr (.inl h))
      · exact .inr (.inr (.inr (.inl h)))
      · exact .inr (.inr (.inr (.inr (.inl h))))
      · exact .inr (.inr (.inr (.inr (.inr (.inl h)))))))
  have hbw : Below B w w3 := by
    have k2 : Below B w w2 := hk2.to_below HBW.out (fun x hx => by obtain rfl := List.mem_singleton.1 hx; exact hBz)
    exact (k2.trans hs.below).trans hk13
  have e1 : filesB is ++ cenB es ++ endL es.length (cenB es).length (filesB is).length cl = archB is cl := by
    rw [of.cen, of.len]; rfl
  rw [e1] at hbl
  have hne : archB is cl ≠ [] := by
    intro h
    have := congrArg List.length h
    simp [archB, endL, leB_length] at this
  have HST := Lib.hid (Tryd.Builder_String B q.ob (archB is cl) w3 (hbl.isB hBo hro) hne)
  have HB := Lib.hid hbw
  clear hs hr hbl hk3 of hk2 hB2 hB3 hro hk13 hbw e1 hne HCL HY
  go_wp2_with fail
  refine HST.out.mono ?_
  rintro e w4 ⟨rfl, hb4⟩
  have HB4 := Lib.hid (HB.out.trans hb4)
  clear hb4 HST HB
  go_wp2
  go_ret2
  exact ⟨rfl, HB4.out⟩
theorem closed_long {w : World} (a b : Option Addr) (s : ByteArray) (hs : 65535 < s.size) (hm : s.size ≤ 9223372036854775807) :
    Calls Tryd.prog 27 #[.pointer a, .pointer b, .string s] w fun e w' => e = .returned (.tuple #[.string ⟨#[]⟩, .bool false]) ∧ Below w.heap.size w w' := by
  have HS := Lib.hid (setComment_long a s hs hm w)
  clear hs hm
  go_enter Tryd.func27, Tryd.ntmps27
  go_wp2_with fail
  refine HS.out.mono ?_
  rintro e w2 ⟨⟨a, rfl⟩, hb2⟩
  go_wp2
  go_ret2
  exact ⟨rfl, hb2⟩
end Go.Proofs.YtkkdblifgekmkaaDoor
