/- Words for Writer.CreateHeader: the headers; the writer's state. -/
import Derived.Test.YtkkdblifgekmkaaDoorPrep
import Derived.Test.YtkkdblifgekmkaaDoorDetect
import Derived.Deep.CutRange
import Derived.Deep.CutBlock
import Derived.Deep.Light
namespace Go.Proofs.YtkkdblifgekmkaaDoor
open Go.RowKit
/-- A header as the thin package hands it on. -/
def hd0 (name comment : List UInt8) (ext : Nat) : Hd := ⟨name, comment, [], 0, 0, 0, 0, 0, 0, 0, 0, 0, ext⟩
/-- The same with the versions and the flags that CreateHeader sets. -/
def hd1 (name comment : List UInt8) (ext fl : Nat) : Hd := ⟨name, comment, [], 20, 20, fl, 0, 0, 0, 0, 0, 0, ext⟩
def uflag (nu v1 r1 v2 r2 : Bool) : Nat := if nu then 0 else if (r1 || r2) && (v1 && v2) then 2048 else 0
/-- The flag of UTF-8 for a name and a comment. -/
def uOf (nu : Bool) (name comment : List UInt8) : Nat := uflag nu (detectL name).1 (detectL name).2 (detectL comment).1 (detectL comment).2
def hptr (b : Nat) : Value := .pointer (some ⟨b, 0, none⟩)
/-- The writer between two calls. -/
structure WSt (w : World) (zw ob bw gb cw : Nat) (ro : Option Nat) (out : List UInt8) (dirv lastv : Value) (hs : List Nat) (cl : Bool) (cm : ByteArray) : Prop where
  snk : Snk w ob bw gb cw ro out
  zwb : Blk w zw 114 (zwCells cw dirv lastv cl cm)
  dir : w.ownsRow 0 126 1 dirv hs.length (hs.map hptr)
theorem WSt.kept {w w' : World} {zw ob bw gb cw : Nat} {ro : Option Nat} {out : List UInt8} {dirv lastv : Value} {hs : List Nat} {cl : Bool} {cm : ByteArray} {S : List Nat} (h : WSt w zw ob bw gb cw ro out dirv lastv hs cl cm) (k : Kept S w w') (hS : ∀ x ∈ zw :: ob :: bw :: gb :: cw :: (ro.toList ++ dirv.ownBlock.toList), x ∉ S) : WSt w' zw ob bw gb cw ro out dirv lastv hs cl cm :=
  ⟨h.snk.kept k (hS _ (by simp)) (hS _ (by simp)) (hS _ (by simp)) (hS _ (by simp)) (fun g hg => hS _ (by simp [hg])), k.blk h.zwb (hS _ (by simp)), owns_kept h.dir k (fun g hg => hS _ (by simp [hg]))⟩
theorem WSt.below {w w' : World} {zw ob bw gb cw : Nat} {ro : Option Nat} {out : List UInt8} {dirv lastv : Value} {hs : List Nat} {cl : Bool} {cm : ByteArray} (h : WSt w zw ob bw gb cw ro out dirv lastv hs cl cm) (hb : Below w.heap.size w w') : WSt w' zw ob bw gb cw ro out dirv lastv hs cl cm := h.kept (Kept.of_below hb []) (by simp)
theorem WSt.apart {w : World} {zw ob bw gb cw b t : Nat} {ro : Option Nat} {out : List UInt8} {dirv lastv : Value} {hs : List Nat} {cl : Bool} {cm : ByteArray} {cs : Array Value} (h : WSt w zw ob bw gb cw ro out dirv lastv hs cl cm) (hb : Blk w b t cs) (ht : t ∉ [79, 207, 5, 108, 114, 126]) : ∀ x ∈ zw :: ob :: bw :: gb :: cw :: (ro.toList ++ dirv.ownBlock.toList), x ≠ b := by
  simp only [List.mem_cons, not_or, List.not_mem_nil, not_false_eq_true, and_true] at ht
  have h1 := h.snk.not hb (Ne.symm ht.1) (Ne.symm ht.2.1) (Ne.symm ht.2.2.1) (Ne.symm ht.2.2.2.1)
  have h2 := h.zwb.ne_ hb (Ne.symm ht.2.2.2.2.1)
  have h3 := own_blk_ne h.dir hb (Ne.symm ht.2.2.2.2.2)
  intro x hx e
  subst e
  simp only [List.mem_cons, List.mem_append, Option.mem_toList, not_or] at hx h1
  rcases hx with h | h | h | h | h | h | h
  · exact h2 h.symm
  · exact h1.1 h
  · exact h1.2.1 h
  · exact h1.2.2.1 h
  · exact h1.2.2.2.1 h
  · exact h1.2.2.2.2 h
  · exact h3 h
theorem IsZero_zero (w : World) : Calls Tryd.prog 43 #[.agg #[.int .u64 0, .int .i64 0, .pointer none]] w fun e w' => e = .returned (.bool true) ∧ Below w.heap.size w w' := by
  go_enter Tryd.func43, Tryd.ntmps43
  go_wp2
  go_ret
  exact ⟨rfl, (Below.refl _ _).alloc (Nat.le_refl _) _⟩
theorem Blk.newAt (w : World) (t : TypeId) (cs : Array Value) (n : Nat) (h : w.heap.size = n) : Blk (w.alloc (.cells cs t)) n t cs := h ▸ Blk.new w t cs
theorem eql_func_some (W : World) : (binOp .eql 139 (.func (.func 112) #[] #[]) .nilFunc).run Tryd.prog W = .ok (.bool false) W := by kernel_rfl
theorem infoHp : (Tryd.prog.info? 126).map (fun i => (i.zero, i.size, i.bytes)) = some (some (.pointer none), 1, 8) := by kernel_rfl
theorem reads_one (w : World) (v : Value) (t : TypeId) : Reads (w.alloc (.cells #[v] t)) (w.heap.size + 1) 1 (some ⟨w.heap.size, 0, none⟩) 1 [v] := by
  refine ⟨rfl, fun _ => ⟨_, rfl, by simp, fun j u hu => ?_⟩⟩
  match j, hu with
  | 0, hu => rw [add_atW, Nat.add_zero, (Blk.new w t #[v]).cell]; simpa using hu
theorem own_own_ne {w : World} {b1 b2 n1 n2 s1 s2 : Nat} {e1 e2 : TypeId} {v1 v2 : Value} {x1 x2 : List Value} (h1 : w.ownsRow b1 e1 s1 v1 n1 x1) (h2 : w.ownsRow b2 e2 s2 v2 n2 x2) (hne : e1 ≠ e2) {g : Nat} (hg : v1.ownBlock = some g) : v2.ownBlock ≠ some g := by
  rcases h1.2 with ⟨rfl, _⟩ | ⟨g', cap, cur, rfl, _, hh, _⟩
  · simp [Value.ownBlock] at hg
  · have : g' = g := by simpa [Value.ownBlock] using hg
    subst this
    exact own_blk_ne h2 (show Blk w g' e1 cur from hh) (Ne.symm hne)
theorem WSt.dir_apart {w : World} {zw ob bw gb cw : Nat} {ro : Option Nat} {out : List UInt8} {dirv lastv : Value} {hs : List Nat} {cl : Bool} {cm : ByteArray} (h : WSt w zw ob bw gb cw ro out dirv lastv hs cl cm) : ∀ x ∈ ob :: bw :: gb :: cw :: ro.toList, x ∉ zw :: dirv.ownBlock.toList := by
  obtain ⟨done, l, n, hb, _⟩ := h.snk.buf
  obtain ⟨ad, v, hob, _, hrow, hro⟩ := hb.bld
  have hz := h.snk.not h.zwb (by decide) (by decide) (by decide) (by decide)
  have d1 := own_blk_ne h.dir hob (by decide)
  have d2 := own_blk_ne h.dir hb.buf (by decide)
  have d3 := own_blk_ne h.dir hb.row (by decide)
  have d4 := own_blk_ne h.dir h.snk.cnt (by decide)
  intro x hx hm
  rcases List.mem_cons.1 hm with rfl | hm
  · exact hz hx
  · rw [Option.mem_toList] at hm
    simp only [List.mem_cons, Option.mem_toList] at hx
    rcases hx with rfl | rfl | rfl | rfl | hx
    · exact d1 hm
    · exact d2 hm
    · exact d3 hm
    · exact d4 hm
    · exact own_own_ne h.dir hrow (by decide) hm (hro.trans hx)
theorem hd1_fits {name comment : List UInt8} {ext fl : Nat} (h1 : name.length ≤ 60001) (h2 : comment.length ≤ 60000) (h3 : ext < 4294967296) (h4 : fl < 65536) : (hd1 name comment ext fl).Fits :=
  ⟨by simp [hd1]; omega, by simp [hd1]; omega, by simp [hd1], by simp [hd1], by simp [hd1], by simpa [hd1] using h4, by simp [hd1], by simp [hd1], by simp [hd1], by simp [hd1], by simp [hd1], by simp [hd1], by simpa [hd1] using h3⟩
/-- What CreateHeader leaves for a file: the entry hbn, fb; the writer of its content. -/
structure ChPost (w1 w' : World) (zw ob bw gb cw fb : Nat) (ro ro' : Option Nat) (out : List UInt8) (dirv dirv' : Value) (hs : List Nat) (cm : ByteArray) (h1 : Hd) (nu : Bool) (fw hbn rc nc cc hh : Nat) : Prop where
  st : WSt w' zw ob bw gb cw ro' (out ++ localB h1) dirv' (.pointer (some ⟨fw, 0, none⟩)) (hs ++ [hbn]) false cm
  fwo : FwO w' fw hbn rc nc cc hh cw 0 0
  hbb : Blk w' hbn 128 #[.pointer (some ⟨fb, 0, none⟩), .int .u64 out.length, .bool false]
  fbb : Blk w' fb 72 (fhCells h1 nu 0 0 (.slice none 0 0))
  kept : Kept (zw :: fb :: ob :: bw :: gb :: cw :: (ro.toList ++ dirv.ownBlock.toList)) w1 w'
  fresh : ∀ x ∈ [fw, hbn, rc, nc, cc, hh], w1.heap.size ≤ x
  rof : ro' = ro ∨ ∃ n, ro' = some n ∧ w1.heap.size ≤ n
  dirf : dirv'.ownBlock = dirv.ownBlock ∨ ∃ n, dirv'.ownBlock = some n ∧ w1.heap.size ≤ n
/-- The cells of an open raw writer. -/
def fwRaw (hb cw : Nat) : Array Value := #[.pointer (some ⟨hb, 0, none⟩), .iface 104 (.pointer (some ⟨cw, 0, none⟩)), .pointer none, .nilIface, .pointer none, .pointer none, .bool false]
/-- A name ends with a slash. -/
def slashL (l : List UInt8) : Bool := Lib.hasSuffix l [47]
theorem slash_call (l : List UInt8) (b : Bool) (h : slashL l = b) (hl : l.length ≤ 60001) (w : World) : Calls Tryd.prog 49 #[.string ⟨l.toArray⟩, .string { data := #[47] }] w fun e w' => e = .returned (.bool b) ∧ w = w' := by
  refine (Tryd.strings_HasSuffix ⟨l.toArray⟩ { data := #[47] } w (by show l.length ≤ _; omega)).mono ?_
  rintro e w' ⟨rfl, rfl⟩
  refine ⟨?_, rfl⟩
  rw [← h]
  rfl
theorem uflag_cases (nu v1 r1 v2 r2 : Bool) : uflag nu v1 r1 v2 r2 = 0 ∨ uflag nu v1 r1 v2 r2 = 2048 := by
  revert nu v1 r1 v2 r2
  decide
end Go.Proofs.YtkkdblifgekmkaaDoor
