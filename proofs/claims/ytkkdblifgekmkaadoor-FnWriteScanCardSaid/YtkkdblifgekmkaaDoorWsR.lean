/- Region 21 of laws.FnWriteScan: the comparisons, over a frame of letters. -/
import Derived.Test.YtkkdblifgekmkaaDoorCrcS
import Derived.Test.YtkkdblifgekmkaaDoorEn
import Derived.Test.YtkkdblifgekmkaaDoorReads
import Derived.BigQuiet
import Derived.LoopTactic
namespace Go.Proofs.YtkkdblifgekmkaaDoor
open Go.RowKit
def findRegion (n : Nat) : Code → Option Code
  | .region m ops d => if m = n then some (.region m ops d) else none
  | .seq a b => match findRegion n a with
    | some c => some c
    | none => findRegion n b
  | .cond _ a b => match findRegion n a with
    | some c => some c
    | none => findRegion n b
  | .block _ c => findRegion n c
  | .loop c => findRegion n c
  | .scope c => findRegion n c
  | _ => none
noncomputable def reg21 : Code := ((Tryd.f6.body.bind (findRegion 21)).getD .skip)
set_option maxRecDepth 1000000 in
set_option maxHeartbeats 4000000 in
theorem reg21_wp {Q : Exit → Act → World → Prop} {W : World} (ad : Addr) (n c k g : Nat) (e : En) (hk : k < n) (hd : e.data.length ≤ 1048576)
    (p0 : W.cell? ⟨g + 1, 0, none⟩ = some (.string ⟨e.name.toArray⟩))
    (p1 : W.cell? ⟨g + 1, 1, none⟩ = some (.string ⟨e.comment.toArray⟩))
    (p7 : W.cell? ⟨g + 1, 7, none⟩ = some (.int .i64 0))
    (p10 : W.cell? ⟨g + 1, 10, none⟩ = some (.int .i64 (crcOf e.data)))
    (p11 : W.cell? ⟨g + 1, 11, none⟩ = some (.int .i64 e.data.length))
    (p12 : W.cell? ⟨g + 1, 12, none⟩ = some (.int .i64 e.data.length))
    (p13 : W.cell? ⟨g + 1, 13, none⟩ = some (.int .i64 e.external))
    (q15 : W.cell? ⟨g, 15, none⟩ = some (.string ⟨e.data.toArray⟩))
    (d0 : W.cell? (ad.add (k * 15)) = some (.string ⟨e.name.toArray⟩))
    (d1 : W.cell? ⟨(ad.add (k * 15)).block, (ad.add (k * 15)).off + 1, none⟩ = some (.string ⟨e.comment.toArray⟩))
    (d13 : W.cell? ⟨(ad.add (k * 15)).block, (ad.add (k * 15)).off + 13, none⟩ = some (.int .i64 e.external))
    (d14 : W.cell? ⟨(ad.add (k * 15)).block, (ad.add (k * 15)).off + 14, none⟩ = some (.string ⟨e.data.toArray⟩))
    (u1 u2 u3 u4 u5 u6 u7 u8 u9 u10 u11 u15 u16 u17 u18 u19 u20 u21 u22 u23 u24 u25 u26 u27 u28 u29 u30 u31 u32 u33 u34 u35 u36 u37 u38 u39 u40 u41 u42 u43 u44 u45 u46 u47 u48 u49 u50 u51 u52 u53 u54 u55 u56 u57 u58 u59 u60 u61 u62 u63 u64 u65 u66 u67 u68 u69 u70 u71 u72 u73 u74 u75 u76 u77 u78 u79 u80 u81 u82 u83 u84 u85 u86 u87 u88 u89 u90 u91 u92 u93 u94 u95 u96 u97 u98 u99 u100 u101 u102 u103 u104 u105 u106 u107 u108 u109 u110 u111 u112 u113 u114 u115 u116 u117 u118 u119 u120 u121 u122 u123 u124 u125 u126 u127 u128 u129 u130 u131 u132 u133 u134 u135 u136 u137 u138 u139 u140 u141 u142 u143 u144 u145 u146 u147 u148 u149 u150 u151 u152 u153 u154 u155 u156 u157 u158 u159 u160 u161 u162 u163 u164 u165 u166 u167 u168 u169 u170 u171 u172 u173 u174 u175 u176 u177 u178 u179 u180 u181 u182 u183 u184 u185 u186 u187 : Value)
    (h : ∀ (m : Nat) (v116 v117 v118 v119 v120 v121 v122 v123 v124 v125 v126 v127 v128 v129 v130 v131 v132 v133 v134 v135 v136 v137 v138 v139 v140 v141 v142 v143 v144 v145 v146 v147 v148 v149 v150 v151 v152 v153 v154 v155 v156 v157 v158 v159 v160 v161 v162 v163 v164 v165 v166 v167 v168 v169 v170 v171 v172 v173 v174 v175 v176 v177 v178 v179 v180 v181 v182 v183 v184 : Value), Q .normal ⟨#[.slice (some ad) n c, u1, u2, u3, u4, u5, u6, u7, u8, u9, u10, u11, .int .i64 k, .pointer (some ⟨g, 0, none⟩), .pointer (some ⟨g + 1, 0, none⟩), u15, u16, u17, u18, u19, u20, u21, u22, u23, u24, u25, u26, u27, u28, u29, u30, u31, u32, u33, u34, u35, u36, u37, u38, u39, u40, u41, u42, u43, u44, u45, u46, u47, u48, u49, u50, u51, u52, u53, u54, u55, u56, u57, u58, u59, u60, u61, u62, u63, u64, u65, u66, u67, u68, u69, u70, u71, u72, u73, u74, u75, u76, u77, u78, u79, u80, u81, u82, u83, u84, u85, u86, u87, u88, u89, u90, u91, u92, u93, u94, u95, u96, u97, u98, u99, u100, u101, u102, u103, u104, u105, u106, u107, u108, u109, u110, u111, u112, u113, u114, u115, v116, v117, v118, v119, v120, v121, v122, v123, v124, v125, v126, v127, v128, v129, v130, v131, v132, v133, v134, v135, v136, v137, v138, v139, v140, v141, v142, v143, v144, v145, v146, v147, v148, v149, v150, v151, v152, v153, v154, v155, v156, v157, v158, v159, v160, v161, v162, v163, v164, v165, v166, v167, v168, v169, v170, v171, v172, v173, v174, v175, v176, v177, v178, v179, v180, v181, v182, v183, v184, .bool false, u186, u187], []⟩ (W.drewN m)) :
    Code.wp Tryd.prog reg21 Q ⟨#[.slice (some ad) n c, u1, u2, u3, u4, u5, u6, u7, u8, u9, u10, u11, .int .i64 k, .pointer (some ⟨g, 0, none⟩), .pointer (some ⟨g + 1, 0, none⟩), u15, u16, u17, u18, u19, u20, u21, u22, u23, u24, u25, u26, u27, u28, u29, u30, u31, u32, u33, u34, u35, u36, u37, u38, u39, u40, u41, u42, u43, u44, u45, u46, u47, u48, u49, u50, u51, u52, u53, u54, u55, u56, u57, u58, u59, u60, u61, u62, u63, u64, u65, u66, u67, u68, u69, u70, u71, u72, u73, u74, u75, u76, u77, u78, u79, u80, u81, u82, u83, u84, u85, u86, u87, u88, u89, u90, u91, u92, u93, u94, u95, u96, u97, u98, u99, u100, u101, u102, u103, u104, u105, u106, u107, u108, u109, u110, u111, u112, u113, u114, u115, u116, u117, u118, u119, u120, u121, u122, u123, u124, u125, u126, u127, u128, u129, u130, u131, u132, u133, u134, u135, u136, u137, u138, u139, u140, u141, u142, u143, u144, u145, u146, u147, u148, u149, u150, u151, u152, u153, u154, u155, u156, u157, u158, u159, u160, u161, u162, u163, u164, u165, u166, u167, u168, u169, u170, u171, u172, u173, u174, u175, u176, u177, u178, u179, u180, u181, u182, u183, u184, u185, u186, u187], []⟩ W := by
  have HCRC := Lib.hid (show ∀ W, Calls Tryd.prog 17 #[.string ⟨e.data.toArray⟩] W (fun e' w' => e' = .returned (.int .i64 (crcOf e.data)) ∧ w' = W) from fun W => (CRC_any e.data (by omega) W).mono fun _ _ q => ⟨q.1, q.2.symm⟩)
  have n1 : ((0 : Int) != 0) = false := by decide
  have hszd : (ByteArray.mk e.data.toArray).size = e.data.length := rfl
  have HH := Lib.hid h
  clear h
  conv => arg 2; whnf
  go_quiet ((go_at_call 17; with_reducible exact Calls.quiet_of_same (HCRC.out _)))
  exact HH.out _ _ _ _ _ _ _ _ _ _ _ _ _ _ _ _ _ _ _ _ _ _ _ _ _ _ _ _ _ _ _ _ _ _ _ _ _ _ _ _ _ _ _ _ _ _ _ _ _ _ _ _ _ _ _ _ _ _ _ _ _ _ _ _ _ _ _ _ _ _
end Go.Proofs.YtkkdblifgekmkaaDoor
