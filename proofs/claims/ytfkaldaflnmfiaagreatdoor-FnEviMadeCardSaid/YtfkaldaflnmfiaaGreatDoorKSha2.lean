/- The pure steps of the package's hash, and the pieces of one round of it -/
import Derived.Test.YtfkaldaflnmfiaaGreatDoorProg
import Derived.WalkKit
import Derived.WalkSpells
import Derived.WalkLawsBesides
import Derived.Below
import Derived.Handy
import Derived.Deep.QuietTactic
import Derived.BigQuiet
import Derived.LoopTactic
import Derived.StillTailTactics
import Derived.IntWalk
import Derived.Test.YtfkaldaflnmfiaaGreatDoorKNat2
import Derived.Test.YtfkaldaflnmfiaaGreatDoorKRot
import Derived.Deep.DeepCutAuto
import Derived.Lib.Hide
namespace Go.Proofs.YtfkaldaflnmfiaaGreatDoor
set_option linter.unusedSimpArgs false
set_option linter.unusedVariables false
open Go.RowKit

/-- The piece of a body that a road of turns leads to: at a sequence or a test 0 or 1, else 0. -/
def codeDown : List Nat → Code → Code
  | [], c => c
  | k :: r, .seq a b => codeDown r (if k = 0 then a else b)
  | k :: r, .cond _ a b => codeDown r (if k = 0 then a else b)
  | _ :: r, .block _ c => codeDown r c
  | _ :: r, .loop c => codeDown r c
  | _ :: r, .scope c => codeDown r c
  | _ :: _, c => c
noncomputable def codeAt (f : Func) (p : List Nat) : Code := codeDown p (f.body.getD .skip)

/-- A store, and draws. -/
def Put (w : World) (p : Addr) (v : Value) (w' : World) : Prop := ∃ m, w' = (w.setCell p v).drewN m

/-- Four bytes as a word, the highest first. -/
def be32 (b0 b1 b2 b3 : Int) : Int := bits BinOp.or IntKind.u32 (bits BinOp.or IntKind.u32 (bits BinOp.or IntKind.u32 (b0 * 16777216) (b1 * 65536)) (b2 * 256)) b3
/-- A later word of the schedule. -/
def sched (x2 x7 x15 x16 : Int) : Int := (((bits BinOp.xor IntKind.u32 (bits BinOp.xor IntKind.u32 (rotL (-17) x2) (rotL (-19) x2)) (x2 / 1024) + x7) % 4294967296 + bits BinOp.xor IntKind.u32 (bits BinOp.xor IntKind.u32 (rotL (-7) x15) (rotL (-18) x15)) (x15 / 8)) % 4294967296 + x16) % 4294967296
def shaT1 (e f g h k x : Int) : Int := (h + bits BinOp.xor IntKind.u32 (bits BinOp.xor IntKind.u32 (rotL (-6) e) (rotL (-11) e)) (rotL (-25) e) + bits BinOp.xor IntKind.u32 (bits BinOp.and IntKind.u32 e f) (bits BinOp.and IntKind.u32 (bits BinOp.xor IntKind.u32 IntKind.u32.max e) g) + k + x) % 4294967296
def shaT2 (a b c : Int) : Int := (bits BinOp.xor IntKind.u32 (bits BinOp.xor IntKind.u32 (rotL (-2) a) (rotL (-13) a)) (rotL (-22) a) + bits BinOp.xor IntKind.u32 (bits BinOp.xor IntKind.u32 (bits BinOp.and IntKind.u32 a b) (bits BinOp.and IntKind.u32 a c)) (bits BinOp.and IntKind.u32 b c)) % 4294967296

set_option maxRecDepth 100000 in
set_option maxHeartbeats 4000000 in
theorem segLo {u0 u2 u3 u5 u6 u7 u8 u9 u10 u11 u12 u13 u14 u15 u16 u17 u18 u19 u20 u22 u23 u24 u25 u26 u27 u28 u29 u30 u31 u32 u33 u34 u35 u36 u37 u38 u39 u40 u41 u42 u43 u44 u45 u46 u47 u48 u49 u50 u51 u52 u53 u54 u55 u56 u57 u58 u59 u60 u61 u62 u63 u64 u65 u66 u67 u68 u69 u70 u71 u72 u73 u74 u75 u76 u77 u78 u79 u80 u81 u82 u83 u85 u86 u87 u88 u89 u90 u91 u92 u93 u94 u95 u96 u97 u98 u99 u100 u101 u102 u103 u104 u105 u106 u107 u108 u109 u110 u111 u112 u113 u114 u115 u116 u117 u118 u119 u120 u121 u122 u123 u124 u125 u126 u127 u128 u129 u130 u131 u132 u133 u134 u135 u136 u137 u138 u139 u140 u141 u142 u143 u144 u145 u146 u147 u148 u149 u150 u151 u152 u153 u154 u155 u156 u157 u158 u159 u160 u161 u162 u163 u164 u165 u166 u167 u168 u169 u170 u171 u172 u173 u174 u175 u176 u177 u178 u179 u180 u181 u182 u183 u184 u185 u186 u187 u188 u189 u190 u191 u192 u193 u194 u195 u196 u197 u198 u199 u200 u201 u202 u203 u204 u205 u206 u207 u208 u209 u210 u211 u212 u213 u214 u215 u216 u217 u218 u219 u220 u221 u222 u223 u224 u225 u226 u227 u228 u229 u230 u231 u232 u233 u234 u235 u236 u237 u238 u239 u240 u241 u242 u243 u244 u245 u246 u247 u248 u249 u250 u251 u252 u253 u254 u255 u256 u257 u258 u259 u260 u261 u262 u263 u264 u265 u266 u267 u268 u269 u270 u271 u272 u273 u274 u275 u276 u277 u278 u279 u280 u281 u282 : Value} {K : Act → World → Prop} {Q0 : Exit → Act → World → Prop} (i B b o m c : Nat) (b0 b1 b2 b3 : Int) (w : World) (hi : i < 16) (hm : 64 ≤ m) (hmc : m ≤ 9223372036854775807) (k0 : 0 ≤ b0) (k0' : b0 ≤ 255) (k1 : 0 ≤ b1) (k1' : b1 ≤ 255) (k2 : 0 ≤ b2) (k2' : b2 ≤ 255) (k3 : 0 ≤ b3) (k3' : b3 ≤ 255) (q0 : w.cell? ⟨b, o + i * 4, none⟩ = some (.int .u8 b0)) (q1 : w.cell? ⟨b, o + (i * 4 + 1), none⟩ = some (.int .u8 b1)) (q2 : w.cell? ⟨b, o + (i * 4 + 2), none⟩ = some (.int .u8 b2)) (q3 : w.cell? ⟨b, o + (i * 4 + 3), none⟩ = some (.int .u8 b3)) (hfz : w.frozen? ⟨B, i, none⟩ = false) (y : Value) (hcl : w.cell? ⟨B, i, none⟩ = some y)
    (hK : ∀ (v22 v23 v24 v25 v26 v85 v86 v87 v88 v89 v90 v91 v92 v93 v94 v95 v96 v97 v98 v99 v100 v101 v102 v103 v104 v105 v106 v107 v108 v109 v110 v111 v112 v113 v114 v115 v116 v117 v118 v119 v120 v121 v122 v123 v124 v125 v126 v127 v128 v129 v130 v131 v132 v133 v134 v135 v136 v137 v138 v139 v140 v141 v142 v143 v144 v145 v146 v147 v148 v149 v150 v151 v152 v153 v154 v155 v156 : Value) (w' : World), Put w ⟨B, i, none⟩ (.int .u32 (be32 b0 b1 b2 b3)) w' → K ⟨#[u0, .slice (some ⟨b, o, none⟩) m c, u2, u3, .pointer (some ⟨B, 0, none⟩), u5, u6, u7, u8, u9, u10, u11, u12, u13, u14, u15, u16, u17, u18, u19, u20, .int .i64 (i : Int), v22, v23, v24, v25, v26, u27, u28, u29, u30, u31, u32, u33, u34, u35, u36, u37, u38, u39, u40, u41, u42, u43, u44, u45, u46, u47, u48, u49, u50, u51, u52, u53, u54, u55, u56, u57, u58, u59, u60, u61, u62, u63, u64, u65, u66, u67, u68, u69, u70, u71, u72, u73, u74, u75, u76, u77, u78, u79, u80, u81, u82, u83, .bool true, v85, v86, v87, v88, v89, v90, v91, v92, v93, v94, v95, v96, v97, v98, v99, v100, v101, v102, v103, v104, v105, v106, v107, v108, v109, v110, v111, v112, v113, v114, v115, v116, v117, v118, v119, v120, v121, v122, v123, v124, v125, v126, v127, v128, v129, v130, v131, v132, v133, v134, v135, v136, v137, v138, v139, v140, v141, v142, v143, v144, v145, v146, v147, v148, v149, v150, v151, v152, v153, v154, v155, v156, u157, u158, u159, u160, u161, u162, u163, u164, u165, u166, u167, u168, u169, u170, u171, u172, u173, u174, u175, u176, u177, u178, u179, u180, u181, u182, u183, u184, u185, u186, u187, u188, u189, u190, u191, u192, u193, u194, u195, u196, u197, u198, u199, u200, u201, u202, u203, u204, u205, u206, u207, u208, u209, u210, u211, u212, u213, u214, u215, u216, u217, u218, u219, u220, u221, u222, u223, u224, u225, u226, u227, u228, u229, u230, u231, u232, u233, u234, u235, u236, u237, u238, u239, u240, u241, u242, u243, u244, u245, u246, u247, u248, u249, u250, u251, u252, u253, u254, u255, u256, u257, u258, u259, u260, u261, u262, u263, u264, u265, u266, u267, u268, u269, u270, u271, u272, u273, u274, u275, u276, u277, u278, u279, u280, u281, u282], []⟩ w') :
    Code.wp Tryz.prog (codeAt Tryz.f115 [1, 1, 0, 0, 0, 1, 0, 1, 0, 1, 0, 0, 1, 1, 0, 0, 1, 0, 1]) (Exit.then K Q0) ⟨#[u0, .slice (some ⟨b, o, none⟩) m c, u2, u3, .pointer (some ⟨B, 0, none⟩), u5, u6, u7, u8, u9, u10, u11, u12, u13, u14, u15, u16, u17, u18, u19, u20, .int .i64 (i : Int), u22, u23, u24, u25, u26, u27, u28, u29, u30, u31, u32, u33, u34, u35, u36, u37, u38, u39, u40, u41, u42, u43, u44, u45, u46, u47, u48, u49, u50, u51, u52, u53, u54, u55, u56, u57, u58, u59, u60, u61, u62, u63, u64, u65, u66, u67, u68, u69, u70, u71, u72, u73, u74, u75, u76, u77, u78, u79, u80, u81, u82, u83, .bool true, u85, u86, u87, u88, u89, u90, u91, u92, u93, u94, u95, u96, u97, u98, u99, u100, u101, u102, u103, u104, u105, u106, u107, u108, u109, u110, u111, u112, u113, u114, u115, u116, u117, u118, u119, u120, u121, u122, u123, u124, u125, u126, u127, u128, u129, u130, u131, u132, u133, u134, u135, u136, u137, u138, u139, u140, u141, u142, u143, u144, u145, u146, u147, u148, u149, u150, u151, u152, u153, u154, u155, u156, u157, u158, u159, u160, u161, u162, u163, u164, u165, u166, u167, u168, u169, u170, u171, u172, u173, u174, u175, u176, u177, u178, u179, u180, u181, u182, u183, u184, u185, u186, u187, u188, u189, u190, u191, u192, u193, u194, u195, u196, u197, u198, u199, u200, u201, u202, u203, u204, u205, u206, u207, u208, u209, u210, u211, u212, u213, u214, u215, u216, u217, u218, u219, u220, u221, u222, u223, u224, u225, u226, u227, u228, u229, u230, u231, u232, u233, u234, u235, u236, u237, u238, u239, u240, u241, u242, u243, u244, u245, u246, u247, u248, u249, u250, u251, u252, u253, u254, u255, u256, u257, u258, u259, u260, u261, u262, u263, u264, u265, u266, u267, u268, u269, u270, u271, u272, u273, u274, u275, u276, u277, u278, u279, u280, u281, u282], []⟩ w := by
  conv => arg 2; whnf
  go_wp2_with fail
  have s1 : IntKind.i64.wrap ((i : Int) * 4 + 1) = (i : Int) * 4 + 1 := IntWalk.i64_in _ (by omega)
  have t1 : (0 : Int) ≤ (i : Int) * 4 + 1 := by omega
  have l1 : (i : Int) * 4 + 1 < (m : Int) := by omega
  have n1 : ((i : Int) * 4 + 1).toNat = i * 4 + 1 := by omega
  have s2 : IntKind.i64.wrap ((i : Int) * 4 + 2) = (i : Int) * 4 + 2 := IntWalk.i64_in _ (by omega)
  have t2 : (0 : Int) ≤ (i : Int) * 4 + 2 := by omega
  have l2 : (i : Int) * 4 + 2 < (m : Int) := by omega
  have n2 : ((i : Int) * 4 + 2).toNat = i * 4 + 2 := by omega
  have s3 : IntKind.i64.wrap ((i : Int) * 4 + 3) = (i : Int) * 4 + 3 := IntWalk.i64_in _ (by omega)
  have t3 : (0 : Int) ≤ (i : Int) * 4 + 3 := by omega
  have l3 : (i : Int) * 4 + 3 < (m : Int) := by omega
  have n3 : ((i : Int) * 4 + 3).toNat = i * 4 + 3 := by omega
  have t0 : (0 : Int) ≤ (i : Int) * 4 := by omega
  have l0 : (i : Int) * 4 < (m : Int) := by omega
  have n0 : ((i : Int) * 4).toNat = i * 4 := by omega
  have ll : (i : Int) < 64 := by omega
  refine wp_region_still_tail 31 (by kernel_rfl) (by kernel_rfl) ?_
  simp only [List.take_succ_cons, List.take_zero, List.drop_succ_cons, List.drop_zero]
  repeat still_step
  refine wpStill_nil ?_
  go_wp2
  exact ⟨1, rfl⟩
set_option maxRecDepth 100000 in
set_option maxHeartbeats 4000000 in
theorem segHi {u0 u1 u2 u3 u5 u6 u7 u8 u9 u10 u11 u12 u13 u14 u15 u16 u17 u18 u19 u20 u22 u23 u24 u25 u26 u27 u28 u29 u30 u31 u32 u33 u34 u35 u36 u37 u38 u39 u40 u41 u42 u43 u44 u45 u46 u47 u48 u49 u50 u51 u52 u53 u54 u55 u56 u57 u58 u59 u60 u61 u62 u63 u64 u65 u66 u67 u68 u69 u70 u71 u72 u73 u74 u75 u76 u77 u78 u79 u80 u81 u82 u83 u85 u86 u87 u88 u89 u90 u91 u92 u93 u94 u95 u96 u97 u98 u99 u100 u101 u102 u103 u104 u105 u106 u107 u108 u109 u110 u111 u112 u113 u114 u115 u116 u117 u118 u119 u120 u121 u122 u123 u124 u125 u126 u127 u128 u129 u130 u131 u132 u133 u134 u135 u136 u137 u138 u139 u140 u141 u142 u143 u144 u145 u146 u147 u148 u149 u150 u151 u152 u153 u154 u155 u156 u157 u158 u159 u160 u161 u162 u163 u164 u165 u166 u167 u168 u169 u170 u171 u172 u173 u174 u175 u176 u177 u178 u179 u180 u181 u182 u183 u184 u185 u186 u187 u188 u189 u190 u191 u192 u193 u194 u195 u196 u197 u198 u199 u200 u201 u202 u203 u204 u205 u206 u207 u208 u209 u210 u211 u212 u213 u214 u215 u216 u217 u218 u219 u220 u221 u222 u223 u224 u225 u226 u227 u228 u229 u230 u231 u232 u233 u234 u235 u236 u237 u238 u239 u240 u241 u242 u243 u244 u245 u246 u247 u248 u249 u250 u251 u252 u253 u254 u255 u256 u257 u258 u259 u260 u261 u262 u263 u264 u265 u266 u267 u268 u269 u270 u271 u272 u273 u274 u275 u276 u277 u278 u279 u280 u281 u282 : Value} {K : Act → World → Prop} {Q0 : Exit → Act → World → Prop} (i B : Nat) (x2 x7 x15 x16 : Int) (w : World) (hi : i < 64) (hi' : 16 ≤ i) (q2 : w.cell? ⟨B, i - 2, none⟩ = some (.int .u32 x2)) (q7 : w.cell? ⟨B, i - 7, none⟩ = some (.int .u32 x7)) (q15 : w.cell? ⟨B, i - 15, none⟩ = some (.int .u32 x15)) (q16 : w.cell? ⟨B, i - 16, none⟩ = some (.int .u32 x16)) (hfz : w.frozen? ⟨B, i, none⟩ = false) (y : Value) (hcl : w.cell? ⟨B, i, none⟩ = some y)
    (hK : ∀ (v22 v23 v24 v25 v26 v85 v86 v87 v88 v89 v90 v91 v92 v93 v94 v95 v96 v97 v98 v99 v100 v101 v102 v103 v104 v105 v106 v107 v108 v109 v110 v111 v112 v113 v114 v115 v116 v117 v118 v119 v120 v121 v122 v123 v124 v125 v126 v127 v128 v129 v130 v131 v132 v133 v134 v135 v136 v137 v138 v139 v140 v141 v142 v143 v144 v145 v146 v147 v148 v149 v150 v151 v152 v153 v154 v155 v156 : Value) (w' : World), Put w ⟨B, i, none⟩ (.int .u32 (sched x2 x7 x15 x16)) w' → K ⟨#[u0, u1, u2, u3, .pointer (some ⟨B, 0, none⟩), u5, u6, u7, u8, u9, u10, u11, u12, u13, u14, u15, u16, u17, u18, u19, u20, .int .i64 (i : Int), v22, v23, v24, v25, v26, u27, u28, u29, u30, u31, u32, u33, u34, u35, u36, u37, u38, u39, u40, u41, u42, u43, u44, u45, u46, u47, u48, u49, u50, u51, u52, u53, u54, u55, u56, u57, u58, u59, u60, u61, u62, u63, u64, u65, u66, u67, u68, u69, u70, u71, u72, u73, u74, u75, u76, u77, u78, u79, u80, u81, u82, u83, .bool false, v85, v86, v87, v88, v89, v90, v91, v92, v93, v94, v95, v96, v97, v98, v99, v100, v101, v102, v103, v104, v105, v106, v107, v108, v109, v110, v111, v112, v113, v114, v115, v116, v117, v118, v119, v120, v121, v122, v123, v124, v125, v126, v127, v128, v129, v130, v131, v132, v133, v134, v135, v136, v137, v138, v139, v140, v141, v142, v143, v144, v145, v146, v147, v148, v149, v150, v151, v152, v153, v154, v155, v156, u157, u158, u159, u160, u161, u162, u163, u164, u165, u166, u167, u168, u169, u170, u171, u172, u173, u174, u175, u176, u177, u178, u179, u180, u181, u182, u183, u184, u185, u186, u187, u188, u189, u190, u191, u192, u193, u194, u195, u196, u197, u198, u199, u200, u201, u202, u203, u204, u205, u206, u207, u208, u209, u210, u211, u212, u213, u214, u215, u216, u217, u218, u219, u220, u221, u222, u223, u224, u225, u226, u227, u228, u229, u230, u231, u232, u233, u234, u235, u236, u237, u238, u239, u240, u241, u242, u243, u244, u245, u246, u247, u248, u249, u250, u251, u252, u253, u254, u255, u256, u257, u258, u259, u260, u261, u262, u263, u264, u265, u266, u267, u268, u269, u270, u271, u272, u273, u274, u275, u276, u277, u278, u279, u280, u281, u282], []⟩ w') :
    Code.wp Tryz.prog (codeAt Tryz.f115 [1, 1, 0, 0, 0, 1, 0, 1, 0, 1, 0, 0, 1, 1, 0, 0, 1, 0, 1]) (Exit.then K Q0) ⟨#[u0, u1, u2, u3, .pointer (some ⟨B, 0, none⟩), u5, u6, u7, u8, u9, u10, u11, u12, u13, u14, u15, u16, u17, u18, u19, u20, .int .i64 (i : Int), u22, u23, u24, u25, u26, u27, u28, u29, u30, u31, u32, u33, u34, u35, u36, u37, u38, u39, u40, u41, u42, u43, u44, u45, u46, u47, u48, u49, u50, u51, u52, u53, u54, u55, u56, u57, u58, u59, u60, u61, u62, u63, u64, u65, u66, u67, u68, u69, u70, u71, u72, u73, u74, u75, u76, u77, u78, u79, u80, u81, u82, u83, .bool false, u85, u86, u87, u88, u89, u90, u91, u92, u93, u94, u95, u96, u97, u98, u99, u100, u101, u102, u103, u104, u105, u106, u107, u108, u109, u110, u111, u112, u113, u114, u115, u116, u117, u118, u119, u120, u121, u122, u123, u124, u125, u126, u127, u128, u129, u130, u131, u132, u133, u134, u135, u136, u137, u138, u139, u140, u141, u142, u143, u144, u145, u146, u147, u148, u149, u150, u151, u152, u153, u154, u155, u156, u157, u158, u159, u160, u161, u162, u163, u164, u165, u166, u167, u168, u169, u170, u171, u172, u173, u174, u175, u176, u177, u178, u179, u180, u181, u182, u183, u184, u185, u186, u187, u188, u189, u190, u191, u192, u193, u194, u195, u196, u197, u198, u199, u200, u201, u202, u203, u204, u205, u206, u207, u208, u209, u210, u211, u212, u213, u214, u215, u216, u217, u218, u219, u220, u221, u222, u223, u224, u225, u226, u227, u228, u229, u230, u231, u232, u233, u234, u235, u236, u237, u238, u239, u240, u241, u242, u243, u244, u245, u246, u247, u248, u249, u250, u251, u252, u253, u254, u255, u256, u257, u258, u259, u260, u261, u262, u263, u264, u265, u266, u267, u268, u269, u270, u271, u272, u273, u274, u275, u276, u277, u278, u279, u280, u281, u282], []⟩ w := by
  conv => arg 2; whnf
  go_wp2_with (go_at_call 122; (with_reducible refine (rot_any _ ?_ _ _).mono ?_); (· unfold rotAt; decide); rintro e w' ⟨rfl, rfl⟩)
  have s7 : IntKind.i64.wrap ((i : Int) - 7) = (i : Int) - 7 := IntWalk.i64_in _ (by omega)
  have t7 : (7 : Int) ≤ (i : Int) := by omega
  have l7 : (i : Int) - 7 < 64 := by omega
  have n7 : ((i : Int) - 7).toNat = i - 7 := by omega
  have s16 : IntKind.i64.wrap ((i : Int) - 16) = (i : Int) - 16 := IntWalk.i64_in _ (by omega)
  have t16 : (16 : Int) ≤ (i : Int) := by omega
  have l16 : (i : Int) - 16 < 64 := by omega
  have n16 : ((i : Int) - 16).toNat = i - 16 := by omega
  have l0 : (i : Int) < 64 := by omega
  refine wp_region_still_tail 15 (by kernel_rfl) (by kernel_rfl) ?_
  simp only [List.take_succ_cons, List.take_zero, List.drop_succ_cons, List.drop_zero]
  repeat still_step
  refine wpStill_nil ?_
  go_wp2
  exact ⟨1, rfl⟩
set_option maxRecDepth 100000 in
set_option maxHeartbeats 4000000 in
theorem seg15 {u0 u1 u2 u3 u5 u6 u7 u8 u9 u10 u11 u12 u13 u14 u15 u16 u22 u23 u24 u25 u26 u27 u28 u29 u30 u31 u32 u33 u34 u35 u36 u37 u38 u39 u40 u41 u42 u43 u44 u45 u46 u47 u48 u49 u50 u51 u52 u53 u54 u55 u56 u57 u58 u59 u60 u61 u62 u63 u64 u65 u66 u67 u68 u69 u70 u71 u72 u73 u74 u75 u76 u77 u78 u79 u80 u81 u82 u83 u84 u85 u86 u87 u88 u89 u90 u91 u92 u93 u94 u95 u96 u97 u98 u99 u100 u101 u102 u103 u104 u105 u106 u107 u108 u109 u110 u111 u112 u113 u114 u115 u116 u117 u118 u119 u120 u121 u122 u123 u124 u125 u126 u127 u128 u129 u130 u131 u132 u133 u134 u135 u136 u137 u138 u139 u140 u141 u142 u143 u144 u145 u146 u147 u148 u149 u150 u151 u152 u153 u154 u155 u156 u157 u158 u159 u160 u161 u162 u163 u164 u165 u166 u167 u168 u169 u170 u171 u172 u173 u174 u175 u176 u177 u178 u179 u180 u181 u182 u183 u184 u185 u186 u187 u188 u189 u190 u191 u192 u193 u194 u195 u196 u197 u198 u199 u200 u201 u202 u203 u204 u205 u206 u207 u208 u209 u210 u211 u212 u213 u214 u215 u216 u217 u218 u219 u220 u221 u222 u223 u224 u225 u226 u227 u228 u229 u230 u231 u232 u233 u234 u235 u236 u237 u238 u239 u240 u241 u242 u243 u244 u245 u246 u247 u248 u249 u250 u251 u252 u253 u254 u255 u256 u257 u258 u259 u260 u261 u262 u263 u264 u265 u266 u267 u268 u269 u270 u271 u272 u273 u274 u275 u276 u277 u278 u279 u280 u281 u282 : Value} {K : Act → World → Prop} {Q0 : Exit → Act → World → Prop} (e f g h : Int) (i B : Nat) (k x0 : Int) (w : World) (hi : i < 64) (hk : w.cell? ⟨10, i, none⟩ = some (.int .u32 k)) (hw : w.cell? ⟨B, i, none⟩ = some (.int .u32 x0))
    (hK : ∀ (v157 v158 v159 v160 v161 v162 v163 v164 v165 v166 v167 v168 v169 v170 v171 v172 v173 v174 v175 v176 v177 v178 v179 v180 v181 v182 v183 : Value) (m : Nat) (x : Int), x = shaT1 e f g h k x0 → K ⟨#[u0, u1, u2, u3, .pointer (some ⟨B, 0, none⟩), u5, u6, u7, u8, u9, u10, u11, u12, u13, u14, u15, u16, .int .u32 e, .int .u32 f, .int .u32 g, .int .u32 h, .int .i64 (i : Int), u22, u23, u24, u25, u26, .int .u32 x, u28, u29, u30, u31, u32, u33, u34, u35, u36, u37, u38, u39, u40, u41, u42, u43, u44, u45, u46, u47, u48, u49, u50, u51, u52, u53, u54, u55, u56, u57, u58, u59, u60, u61, u62, u63, u64, u65, u66, u67, u68, u69, u70, u71, u72, u73, u74, u75, u76, u77, u78, u79, u80, u81, u82, u83, u84, u85, u86, u87, u88, u89, u90, u91, u92, u93, u94, u95, u96, u97, u98, u99, u100, u101, u102, u103, u104, u105, u106, u107, u108, u109, u110, u111, u112, u113, u114, u115, u116, u117, u118, u119, u120, u121, u122, u123, u124, u125, u126, u127, u128, u129, u130, u131, u132, u133, u134, u135, u136, u137, u138, u139, u140, u141, u142, u143, u144, u145, u146, u147, u148, u149, u150, u151, u152, u153, u154, u155, u156, v157, v158, v159, v160, v161, v162, v163, v164, v165, v166, v167, v168, v169, v170, v171, v172, v173, v174, v175, v176, v177, v178, v179, v180, v181, v182, v183, u184, u185, u186, u187, u188, u189, u190, u191, u192, u193, u194, u195, u196, u197, u198, u199, u200, u201, u202, u203, u204, u205, u206, u207, u208, u209, u210, u211, u212, u213, u214, u215, u216, u217, u218, u219, u220, u221, u222, u223, u224, u225, u226, u227, u228, u229, u230, u231, u232, u233, u234, u235, u236, u237, u238, u239, u240, u241, u242, u243, u244, u245, u246, u247, u248, u249, u250, u251, u252, u253, u254, u255, u256, u257, u258, u259, u260, u261, u262, u263, u264, u265, u266, u267, u268, u269, u270, u271, u272, u273, u274, u275, u276, u277, u278, u279, u280, u281, u282], []⟩ (w.drewN m)) :
    Code.wp Tryz.prog (codeAt Tryz.f115 [1, 1, 0, 0, 0, 1, 0, 1, 0, 1, 0, 0, 1, 1, 0, 0, 1, 1, 0]) (Exit.then K Q0) ⟨#[u0, u1, u2, u3, .pointer (some ⟨B, 0, none⟩), u5, u6, u7, u8, u9, u10, u11, u12, u13, u14, u15, u16, .int .u32 e, .int .u32 f, .int .u32 g, .int .u32 h, .int .i64 (i : Int), u22, u23, u24, u25, u26, u27, u28, u29, u30, u31, u32, u33, u34, u35, u36, u37, u38, u39, u40, u41, u42, u43, u44, u45, u46, u47, u48, u49, u50, u51, u52, u53, u54, u55, u56, u57, u58, u59, u60, u61, u62, u63, u64, u65, u66, u67, u68, u69, u70, u71, u72, u73, u74, u75, u76, u77, u78, u79, u80, u81, u82, u83, u84, u85, u86, u87, u88, u89, u90, u91, u92, u93, u94, u95, u96, u97, u98, u99, u100, u101, u102, u103, u104, u105, u106, u107, u108, u109, u110, u111, u112, u113, u114, u115, u116, u117, u118, u119, u120, u121, u122, u123, u124, u125, u126, u127, u128, u129, u130, u131, u132, u133, u134, u135, u136, u137, u138, u139, u140, u141, u142, u143, u144, u145, u146, u147, u148, u149, u150, u151, u152, u153, u154, u155, u156, u157, u158, u159, u160, u161, u162, u163, u164, u165, u166, u167, u168, u169, u170, u171, u172, u173, u174, u175, u176, u177, u178, u179, u180, u181, u182, u183, u184, u185, u186, u187, u188, u189, u190, u191, u192, u193, u194, u195, u196, u197, u198, u199, u200, u201, u202, u203, u204, u205, u206, u207, u208, u209, u210, u211, u212, u213, u214, u215, u216, u217, u218, u219, u220, u221, u222, u223, u224, u225, u226, u227, u228, u229, u230, u231, u232, u233, u234, u235, u236, u237, u238, u239, u240, u241, u242, u243, u244, u245, u246, u247, u248, u249, u250, u251, u252, u253, u254, u255, u256, u257, u258, u259, u260, u261, u262, u263, u264, u265, u266, u267, u268, u269, u270, u271, u272, u273, u274, u275, u276, u277, u278, u279, u280, u281, u282], []⟩ w := by
  conv => arg 2; whnf
  go_wp2_with fail
  go_quiet ((go_at_call 122; refine rot_quiet _ ?_ _ _ _; unfold rotAt; decide))
  go_wp2
  rfl
set_option maxRecDepth 100000 in
set_option maxHeartbeats 4000000 in
theorem seg16 {u0 u1 u2 u3 u4 u5 u6 u7 u8 u9 u10 u11 u12 u16 u17 u18 u19 u20 u21 u22 u23 u24 u25 u26 u27 u28 u29 u30 u31 u32 u33 u34 u35 u36 u37 u38 u39 u40 u41 u42 u43 u44 u45 u46 u47 u48 u49 u50 u51 u52 u53 u54 u55 u56 u57 u58 u59 u60 u61 u62 u63 u64 u65 u66 u67 u68 u69 u70 u71 u72 u73 u74 u75 u76 u77 u78 u79 u80 u81 u82 u83 u84 u85 u86 u87 u88 u89 u90 u91 u92 u93 u94 u95 u96 u97 u98 u99 u100 u101 u102 u103 u104 u105 u106 u107 u108 u109 u110 u111 u112 u113 u114 u115 u116 u117 u118 u119 u120 u121 u122 u123 u124 u125 u126 u127 u128 u129 u130 u131 u132 u133 u134 u135 u136 u137 u138 u139 u140 u141 u142 u143 u144 u145 u146 u147 u148 u149 u150 u151 u152 u153 u154 u155 u156 u157 u158 u159 u160 u161 u162 u163 u164 u165 u166 u167 u168 u169 u170 u171 u172 u173 u174 u175 u176 u177 u178 u179 u180 u181 u182 u183 u184 u185 u186 u187 u188 u189 u190 u191 u192 u193 u194 u195 u196 u197 u198 u199 u200 u201 u202 u203 u204 u205 u206 u207 u208 u209 u210 u211 u212 u213 u214 u215 u216 u217 u218 u219 u220 u221 u222 u223 u224 u225 u226 u227 u228 u229 u230 u231 u232 u233 u234 u235 u236 u237 u238 u239 u240 u241 u242 u243 u244 u245 u246 u247 u248 u249 u250 u251 u252 u253 u254 u255 u256 u257 u258 u259 u260 u261 u262 u263 u264 u265 u266 u267 u268 u269 u270 u271 u272 u273 u274 u275 u276 u277 u278 u279 u280 u281 u282 : Value} {K : Act → World → Prop} {Q0 : Exit → Act → World → Prop} (a b c : Int) (w : World)
    (hK : ∀ (v184 v185 v186 v187 v188 v189 v190 v191 v192 v193 v194 v195 v196 v197 v198 v199 v200 v201 v202 v203 : Value) (x : Int), x = shaT2 a b c → K ⟨#[u0, u1, u2, u3, u4, u5, u6, u7, u8, u9, u10, u11, u12, .int .u32 a, .int .u32 b, .int .u32 c, u16, u17, u18, u19, u20, u21, u22, u23, u24, u25, u26, u27, .int .u32 x, u29, u30, u31, u32, u33, u34, u35, u36, u37, u38, u39, u40, u41, u42, u43, u44, u45, u46, u47, u48, u49, u50, u51, u52, u53, u54, u55, u56, u57, u58, u59, u60, u61, u62, u63, u64, u65, u66, u67, u68, u69, u70, u71, u72, u73, u74, u75, u76, u77, u78, u79, u80, u81, u82, u83, u84, u85, u86, u87, u88, u89, u90, u91, u92, u93, u94, u95, u96, u97, u98, u99, u100, u101, u102, u103, u104, u105, u106, u107, u108, u109, u110, u111, u112, u113, u114, u115, u116, u117, u118, u119, u120, u121, u122, u123, u124, u125, u126, u127, u128, u129, u130, u131, u132, u133, u134, u135, u136, u137, u138, u139, u140, u141, u142, u143, u144, u145, u146, u147, u148, u149, u150, u151, u152, u153, u154, u155, u156, u157, u158, u159, u160, u161, u162, u163, u164, u165, u166, u167, u168, u169, u170, u171, u172, u173, u174, u175, u176, u177, u178, u179, u180, u181, u182, u183, v184, v185, v186, v187, v188, v189, v190, v191, v192, v193, v194, v195, v196, v197, v198, v199, v200, v201, v202, v203, u204, u205, u206, u207, u208, u209, u210, u211, u212, u213, u214, u215, u216, u217, u218, u219, u220, u221, u222, u223, u224, u225, u226, u227, u228, u229, u230, u231, u232, u233, u234, u235, u236, u237, u238, u239, u240, u241, u242, u243, u244, u245, u246, u247, u248, u249, u250, u251, u252, u253, u254, u255, u256, u257, u258, u259, u260, u261, u262, u263, u264, u265, u266, u267, u268, u269, u270, u271, u272, u273, u274, u275, u276, u277, u278, u279, u280, u281, u282], []⟩ w) :
    Code.wp Tryz.prog (codeAt Tryz.f115 [1, 1, 0, 0, 0, 1, 0, 1, 0, 1, 0, 0, 1, 1, 0, 0, 1, 1, 1, 0]) (Exit.then K Q0) ⟨#[u0, u1, u2, u3, u4, u5, u6, u7, u8, u9, u10, u11, u12, .int .u32 a, .int .u32 b, .int .u32 c, u16, u17, u18, u19, u20, u21, u22, u23, u24, u25, u26, u27, u28, u29, u30, u31, u32, u33, u34, u35, u36, u37, u38, u39, u40, u41, u42, u43, u44, u45, u46, u47, u48, u49, u50, u51, u52, u53, u54, u55, u56, u57, u58, u59, u60, u61, u62, u63, u64, u65, u66, u67, u68, u69, u70, u71, u72, u73, u74, u75, u76, u77, u78, u79, u80, u81, u82, u83, u84, u85, u86, u87, u88, u89, u90, u91, u92, u93, u94, u95, u96, u97, u98, u99, u100, u101, u102, u103, u104, u105, u106, u107, u108, u109, u110, u111, u112, u113, u114, u115, u116, u117, u118, u119, u120, u121, u122, u123, u124, u125, u126, u127, u128, u129, u130, u131, u132, u133, u134, u135, u136, u137, u138, u139, u140, u141, u142, u143, u144, u145, u146, u147, u148, u149, u150, u151, u152, u153, u154, u155, u156, u157, u158, u159, u160, u161, u162, u163, u164, u165, u166, u167, u168, u169, u170, u171, u172, u173, u174, u175, u176, u177, u178, u179, u180, u181, u182, u183, u184, u185, u186, u187, u188, u189, u190, u191, u192, u193, u194, u195, u196, u197, u198, u199, u200, u201, u202, u203, u204, u205, u206, u207, u208, u209, u210, u211, u212, u213, u214, u215, u216, u217, u218, u219, u220, u221, u222, u223, u224, u225, u226, u227, u228, u229, u230, u231, u232, u233, u234, u235, u236, u237, u238, u239, u240, u241, u242, u243, u244, u245, u246, u247, u248, u249, u250, u251, u252, u253, u254, u255, u256, u257, u258, u259, u260, u261, u262, u263, u264, u265, u266, u267, u268, u269, u270, u271, u272, u273, u274, u275, u276, u277, u278, u279, u280, u281, u282], []⟩ w := by
  conv => arg 2; whnf
  go_wp2_with (go_at_call 122; (with_reducible refine (rot_any _ ?_ _ _).mono ?_); (· unfold rotAt; decide); rintro e w' ⟨rfl, rfl⟩)
  rfl

end Go.Proofs.YtfkaldaflnmfiaaGreatDoor
/- The 64 rounds of one block of the package's hash -/
namespace Go.Proofs.YtfkaldaflnmfiaaGreatDoor
set_option linter.unusedSimpArgs false
set_option linter.unusedVariables false
open Go.RowKit

structure St where
  a : Int
  b : Int
  c : Int
  d : Int
  e : Int
  f : Int
  g : Int
  h : Int

def cellsOfW (l : List Int) : Array Value := (l.map (Value.int .u32)).toArray
def wAt (l : List Int) (k : Nat) : Int := l.getD k 0
theorem cellsOfW_at (l : List Int) (k : Nat) (hk : k < l.length) : (cellsOfW l)[k]? = some (.int .u32 (wAt l k)) := by
  simp [cellsOfW, wAt, hk]
theorem cellsOfW_size (l : List Int) : (cellsOfW l).size = l.length := by simp [cellsOfW]
theorem cellsOfW_set (l : List Int) (k : Nat) (x : Int) : (cellsOfW l).setIfInBounds k (.int .u32 x) = cellsOfW (l.set k x) := by
  simp [cellsOfW, List.map_set]
theorem wAt_set (l : List Int) (k : Nat) (x : Int) (hk : k < l.length) : wAt (l.set k x) k = x := by simp [wAt, hk]

/-- The word of place i, of the bytes p and the words before it. -/
def shaWord (p : Nat → Int) (l : List Int) (i : Nat) : Int :=
  if i < 16 then be32 (p (i * 4)) (p (i * 4 + 1)) (p (i * 4 + 2)) (p (i * 4 + 3)) else sched (wAt l (i - 2)) (wAt l (i - 7)) (wAt l (i - 15)) (wAt l (i - 16))
/-- One round. -/
def St.step (s : St) (k x : Int) : St :=
  ⟨(shaT1 s.e s.f s.g s.h k x + shaT2 s.a s.b s.c) % 4294967296, s.a, s.b, s.c, (s.d + shaT1 s.e s.f s.g s.h k x) % 4294967296, s.e, s.f, s.g⟩
/-- The first i rounds. -/
def shaRun (kt : Nat → Int) (p : Nat → Int) (l : List Int) (s : St) : Nat → List Int × St
  | 0 => (l, s)
  | i + 1 => ((shaRun kt p l s i).1.set i (shaWord p (shaRun kt p l s i).1 i), (shaRun kt p l s i).2.step (kt i) (shaWord p (shaRun kt p l s i).1 i))
theorem shaRun_length (kt p : Nat → Int) (l : List Int) (s : St) (i : Nat) : (shaRun kt p l s i).1.length = l.length := by
  induction i with
  | zero => rfl
  | succ i ih => simp [shaRun, ih]

/-- The row of 64 words in block B. -/
def RowW (w : World) (B : Nat) (l : List Int) (wr : World) : Prop := l.length = 64 ∧ Blk wr B (cellsOfW l) 192 ∧ Kp [B] w wr
section
variable {w wr : World} {B : Nat} {l : List Int}
theorem RowW.cell (h : RowW w B l wr) {k : Nat} (hk : k < 64) : wr.cell? ⟨B, k, none⟩ = some (.int .u32 (wAt l k)) := h.2.1.cell (cellsOfW_at l k (by have := h.1; omega))
theorem RowW.free (h : RowW w B l wr) (k : Nat) : wr.frozen? ⟨B, k, none⟩ = false := h.2.1.free k
theorem RowW.old (h : RowW w B l wr) {p : Addr} {v : Value} (hv : w.cell? p = some v) (hp : p.block ≠ B) : wr.cell? p = some v :=
  (h.2.2.cell (World.block_lt_of_cell? w p hv) (by simpa using hp)).trans hv
theorem RowW.drewN (h : RowW w B l wr) (n : Nat) : RowW w B l (wr.drewN n) := ⟨h.1, h.2.1.drewN n, h.2.2.drewN n⟩
theorem RowW.put {w' : World} (h : RowW w B l wr) {k : Nat} {x : Int} (hp : Put wr ⟨B, k, none⟩ (.int .u32 x) w') : RowW w B (l.set k x) w' := by
  obtain ⟨m, rfl⟩ := hp
  refine RowW.drewN ⟨by simpa using h.1, ?_, h.2.2.set (.inl (by simp)) _⟩ m
  have := h.2.1.set k (.int .u32 x)
  rwa [cellsOfW_set] at this
end

def StIs (s : St) (s13 s14 s15 s16 s17 s18 s19 s20 : Value) : Prop :=
  s13 = .int .u32 s.a ∧ s14 = .int .u32 s.b ∧ s15 = .int .u32 s.c ∧ s16 = .int .u32 s.d ∧ s17 = .int .u32 s.e ∧ s18 = .int .u32 s.f ∧ s19 = .int .u32 s.g ∧ s20 = .int .u32 s.h
def Inner (kt p : Nat → Int) (l0 : List Int) (s0 : St) (w : World) (B : Nat) (s13 s14 s15 s16 s17 s18 s19 s20 s80 : Value) (wr : World) : Prop :=
  ∃ i : Nat, i ≤ 64 ∧ s80 = .int .i64 i ∧ StIs (shaRun kt p l0 s0 i).2 s13 s14 s15 s16 s17 s18 s19 s20 ∧ RowW w B (shaRun kt p l0 s0 i).1 wr

set_option maxRecDepth 100000 in
set_option maxHeartbeats 4000000 in
theorem innerBlock {u0 u2 u3 u5 u6 u7 u8 u9 u10 u11 u12 u21 u22 u23 u24 u25 u26 u27 u28 u29 u30 u31 u32 u33 u34 u35 u36 u37 u38 u39 u40 u41 u42 u43 u44 u45 u46 u47 u48 u49 u50 u51 u52 u53 u54 u55 u56 u57 u58 u59 u60 u61 u62 u63 u64 u65 u66 u67 u68 u69 u70 u71 u72 u73 u74 u75 u76 u77 u78 u79 u81 u82 u83 u84 u85 u86 u87 u88 u89 u90 u91 u92 u93 u94 u95 u96 u97 u98 u99 u100 u101 u102 u103 u104 u105 u106 u107 u108 u109 u110 u111 u112 u113 u114 u115 u116 u117 u118 u119 u120 u121 u122 u123 u124 u125 u126 u127 u128 u129 u130 u131 u132 u133 u134 u135 u136 u137 u138 u139 u140 u141 u142 u143 u144 u145 u146 u147 u148 u149 u150 u151 u152 u153 u154 u155 u156 u157 u158 u159 u160 u161 u162 u163 u164 u165 u166 u167 u168 u169 u170 u171 u172 u173 u174 u175 u176 u177 u178 u179 u180 u181 u182 u183 u184 u185 u186 u187 u188 u189 u190 u191 u192 u193 u194 u195 u196 u197 u198 u199 u200 u201 u202 u203 u204 u205 u206 u207 u208 u209 u210 u211 u212 u213 u214 u215 u216 u217 u218 u219 u220 u221 u222 u223 u224 u225 u226 u227 u228 u229 u230 u231 u232 u233 u234 u235 u236 u237 u238 u239 u240 u241 u242 u243 u244 u245 u246 u247 u248 u249 u250 u251 u252 u253 u254 u255 u256 u257 u258 u259 u260 u261 u262 u263 u264 u265 u266 u267 u268 u269 u270 u271 u272 u273 u274 u275 u276 u277 u278 u279 u280 u281 u282 : Value} {K : Act → World → Prop} {Q0 : Exit → Act → World → Prop} (b o m c B r : Nat) (hr : r = 64) (kt p : Nat → Int) (l0 : List Int) (s0 : St) (w : World) (hm : 64 ≤ m) (hmc : m ≤ 9223372036854775807) (hbB : b ≠ B) (h10 : 10 ≠ B) (hl : l0.length = 64) (hB : Blk w B (cellsOfW l0) 192) (hp : ∀ j, j < 64 → w.cell? ⟨b, o + j, none⟩ = some (.int .u8 (p j)) ∧ 0 ≤ p j ∧ p j ≤ 255) (hk : ∀ j, j < 64 → w.cell? ⟨10, j, none⟩ = some (.int .u32 (kt j)))
    (hK : ∀ (v21 v22 v23 v24 v25 v26 v27 v28 v81 v82 v83 v84 v85 v86 v87 v88 v89 v90 v91 v92 v93 v94 v95 v96 v97 v98 v99 v100 v101 v102 v103 v104 v105 v106 v107 v108 v109 v110 v111 v112 v113 v114 v115 v116 v117 v118 v119 v120 v121 v122 v123 v124 v125 v126 v127 v128 v129 v130 v131 v132 v133 v134 v135 v136 v137 v138 v139 v140 v141 v142 v143 v144 v145 v146 v147 v148 v149 v150 v151 v152 v153 v154 v155 v156 v157 v158 v159 v160 v161 v162 v163 v164 v165 v166 v167 v168 v169 v170 v171 v172 v173 v174 v175 v176 v177 v178 v179 v180 v181 v182 v183 v184 v185 v186 v187 v188 v189 v190 v191 v192 v193 v194 v195 v196 v197 v198 v199 v200 v201 v202 v203 v204 v205 v206 v207 v208 v209 v210 v211 v212 v213 v214 v215 v216 : Value) (w' : World), RowW w B (shaRun kt p l0 s0 r).1 w' → K ⟨#[u0, .slice (some ⟨b, o, none⟩) m c, u2, u3, .pointer (some ⟨B, 0, none⟩), u5, u6, u7, u8, u9, u10, u11, u12, .int .u32 (shaRun kt p l0 s0 r).2.a, .int .u32 (shaRun kt p l0 s0 r).2.b, .int .u32 (shaRun kt p l0 s0 r).2.c, .int .u32 (shaRun kt p l0 s0 r).2.d, .int .u32 (shaRun kt p l0 s0 r).2.e, .int .u32 (shaRun kt p l0 s0 r).2.f, .int .u32 (shaRun kt p l0 s0 r).2.g, .int .u32 (shaRun kt p l0 s0 r).2.h, v21, v22, v23, v24, v25, v26, v27, v28, u29, u30, u31, u32, u33, u34, u35, u36, u37, u38, u39, u40, u41, u42, u43, u44, u45, u46, u47, u48, u49, u50, u51, u52, u53, u54, u55, u56, u57, u58, u59, u60, u61, u62, u63, u64, u65, u66, u67, u68, u69, u70, u71, u72, u73, u74, u75, u76, u77, u78, u79, .int .i64 (r : Int), v81, v82, v83, v84, v85, v86, v87, v88, v89, v90, v91, v92, v93, v94, v95, v96, v97, v98, v99, v100, v101, v102, v103, v104, v105, v106, v107, v108, v109, v110, v111, v112, v113, v114, v115, v116, v117, v118, v119, v120, v121, v122, v123, v124, v125, v126, v127, v128, v129, v130, v131, v132, v133, v134, v135, v136, v137, v138, v139, v140, v141, v142, v143, v144, v145, v146, v147, v148, v149, v150, v151, v152, v153, v154, v155, v156, v157, v158, v159, v160, v161, v162, v163, v164, v165, v166, v167, v168, v169, v170, v171, v172, v173, v174, v175, v176, v177, v178, v179, v180, v181, v182, v183, v184, v185, v186, v187, v188, v189, v190, v191, v192, v193, v194, v195, v196, v197, v198, v199, v200, v201, v202, v203, v204, v205, v206, v207, v208, v209, v210, v211, v212, v213, v214, v215, v216, u217, u218, u219, u220, u221, u222, u223, u224, u225, u226, u227, u228, u229, u230, u231, u232, u233, u234, u235, u236, u237, u238, u239, u240, u241, u242, u243, u244, u245, u246, u247, u248, u249, u250, u251, u252, u253, u254, u255, u256, u257, u258, u259, u260, u261, u262, u263, u264, u265, u266, u267, u268, u269, u270, u271, u272, u273, u274, u275, u276, u277, u278, u279, u280, u281, u282], []⟩ w') :
    Code.wp Tryz.prog (codeAt Tryz.f115 [1, 1, 0, 0, 0, 1, 0, 1, 0, 1]) (Exit.then K Q0) ⟨#[u0, .slice (some ⟨b, o, none⟩) m c, u2, u3, .pointer (some ⟨B, 0, none⟩), u5, u6, u7, u8, u9, u10, u11, u12, .int .u32 s0.a, .int .u32 s0.b, .int .u32 s0.c, .int .u32 s0.d, .int .u32 s0.e, .int .u32 s0.f, .int .u32 s0.g, .int .u32 s0.h, u21, u22, u23, u24, u25, u26, u27, u28, u29, u30, u31, u32, u33, u34, u35, u36, u37, u38, u39, u40, u41, u42, u43, u44, u45, u46, u47, u48, u49, u50, u51, u52, u53, u54, u55, u56, u57, u58, u59, u60, u61, u62, u63, u64, u65, u66, u67, u68, u69, u70, u71, u72, u73, u74, u75, u76, u77, u78, u79, .int .i64 0, u81, u82, u83, u84, u85, u86, u87, u88, u89, u90, u91, u92, u93, u94, u95, u96, u97, u98, u99, u100, u101, u102, u103, u104, u105, u106, u107, u108, u109, u110, u111, u112, u113, u114, u115, u116, u117, u118, u119, u120, u121, u122, u123, u124, u125, u126, u127, u128, u129, u130, u131, u132, u133, u134, u135, u136, u137, u138, u139, u140, u141, u142, u143, u144, u145, u146, u147, u148, u149, u150, u151, u152, u153, u154, u155, u156, u157, u158, u159, u160, u161, u162, u163, u164, u165, u166, u167, u168, u169, u170, u171, u172, u173, u174, u175, u176, u177, u178, u179, u180, u181, u182, u183, u184, u185, u186, u187, u188, u189, u190, u191, u192, u193, u194, u195, u196, u197, u198, u199, u200, u201, u202, u203, u204, u205, u206, u207, u208, u209, u210, u211, u212, u213, u214, u215, u216, u217, u218, u219, u220, u221, u222, u223, u224, u225, u226, u227, u228, u229, u230, u231, u232, u233, u234, u235, u236, u237, u238, u239, u240, u241, u242, u243, u244, u245, u246, u247, u248, u249, u250, u251, u252, u253, u254, u255, u256, u257, u258, u259, u260, u261, u262, u263, u264, u265, u266, u267, u268, u269, u270, u271, u272, u273, u274, u275, u276, u277, u278, u279, u280, u281, u282], []⟩ w := by
  conv => arg 2; whnf
  go_wp2_with fail
  go_loopw [13, 14, 15, 16, 17, 18, 19, 20, 80] (fun s13 s14 s15 s16 s17 s18 s19 s20 s80 wr => Inner kt p l0 s0 w B s13 s14 s15 s16 s17 s18 s19 s20 s80 wr) (fun _ _ _ _ _ _ _ _ s80 _ => 64 - (intOf s80).toNat)
  case atStart => exact ⟨0, by omega, rfl, ⟨rfl, rfl, rfl, rfl, rfl, rfl, rfl, rfl⟩, hl, hB, Kp.refl _ _⟩
  case round =>
    obtain ⟨i, hi, rfl, ⟨rfl, rfl, rfl, rfl, rfl, rfl, rfl, rfl⟩, hR⟩ := hrel
    have hstep : shaRun kt p l0 s0 (i + 1) = ((shaRun kt p l0 s0 i).1.set i (shaWord p (shaRun kt p l0 s0 i).1 i), (shaRun kt p l0 s0 i).2.step (kt i) (shaWord p (shaRun kt p l0 s0 i).1 i)) := rfl
    have Hs := Lib.hid hstep
    clear hstep
    by_cases hlt : i < 64
    · obtain ⟨s, es⟩ : ∃ s, (shaRun kt p l0 s0 i).2 = s := ⟨_, rfl⟩
      obtain ⟨l, el⟩ : ∃ l, (shaRun kt p l0 s0 i).1 = l := ⟨_, rfl⟩
      rw [es, el] at Hs
      rw [el] at hR
      rw [es]
      have hw84 : (shaRun kt p l0 s0 (i + 1)).1 = l.set i (shaWord p l i) := by rw [Hs.out]
      have HW := Lib.hid hw84
      have hs84 : (shaRun kt p l0 s0 (i + 1)).2 = s.step (kt i) (shaWord p l i) := by rw [Hs.out]
      have HS := Lib.hid hs84
      clear hw84 hs84 Hs es el
      have HX : Hid (shaWord p l i = if i < 16 then be32 (p (i * 4)) (p (i * 4 + 1)) (p (i * 4 + 2)) (p (i * 4 + 3)) else sched (wAt l (i - 2)) (wAt l (i - 7)) (wAt l (i - 15)) (wAt l (i - 16))) := Lib.hid rfl
      obtain ⟨X, eX⟩ : ∃ X, shaWord p l i = X := ⟨_, rfl⟩
      rw [eX] at HX HW HS
      clear eX
      have hl64 := hR.1
      have hmi : (i : Int) < 64 := by omega
      by_cases h16 : i < 16
      · have e0 := hp (i * 4) (by omega)
        have e1 := hp (i * 4 + 1) (by omega)
        have e2 := hp (i * 4 + 2) (by omega)
        have e3 := hp (i * 4 + 3) (by omega)
        have E := Lib.hid (And.intro e0 (And.intro e1 (And.intro e2 e3)))
        clear e0 e1 e2 e3
        have d16 : decide ((i : Int) < 16) = true := decide_eq_true (by omega)
        go_upto_if 84 with (fail)
        refine segLo i B b o m c (p (i * 4)) (p (i * 4 + 1)) (p (i * 4 + 2)) (p (i * 4 + 3)) _ h16 hm hmc E.out.1.2.1 E.out.1.2.2 E.out.2.1.2.1 E.out.2.1.2.2 E.out.2.2.1.2.1 E.out.2.2.1.2.2 E.out.2.2.2.2.1 E.out.2.2.2.2.2 (hR.old E.out.1.1 hbB) (hR.old E.out.2.1.1 hbB) (hR.old E.out.2.2.1.1 hbB) (hR.old E.out.2.2.2.1 hbB) (hR.free i) _ (hR.cell hlt) ?_
        rintro v22 v23 v24 v25 v26 v85 v86 v87 v88 v89 v90 v91 v92 v93 v94 v95 v96 v97 v98 v99 v100 v101 v102 v103 v104 v105 v106 v107 v108 v109 v110 v111 v112 v113 v114 v115 v116 v117 v118 v119 v120 v121 v122 v123 v124 v125 v126 v127 v128 v129 v130 v131 v132 v133 v134 v135 v136 v137 v138 v139 v140 v141 v142 v143 v144 v145 v146 v147 v148 v149 v150 v151 v152 v153 v154 v155 v156 w' hput
        rw [if_pos h16] at HX
        rw [← HX.out] at hput
        have hR2 := hR.put hput
        have H2 := Lib.hid hR2
        clear hput hR hR2
        go_upto_region 15 with (fail)
        refine seg15 s.e s.f s.g s.h i B (kt i) X _ hlt (H2.out.old (hk i hlt) h10) (by rw [H2.out.cell hlt, wAt_set l i X (by omega)]) ?_
        rintro w157 w158 w159 w160 w161 w162 w163 w164 w165 w166 w167 w168 w169 w170 w171 w172 w173 w174 w175 w176 w177 w178 w179 w180 w181 w182 w183 nd x1 hx1
        have H3 := Lib.hid (H2.out.drewN nd)
        have HX1 := Lib.hid hx1
        clear H2 hx1
        go_upto_region 16 with (fail)
        refine seg16 s.a s.b s.c _ ?_
        rintro w184 w185 w186 w187 w188 w189 w190 w191 w192 w193 w194 w195 w196 w197 w198 w199 w200 w201 w202 w203 x2 hx2
        have HX2 := Lib.hid hx2
        clear hx2
        go_wp2
        go_roundw
        case rel =>
          refine ⟨i + 1, by omega, by go_num, ?_, by rw [HW.out]; exact H3.out⟩
          rw [HS.out]
          unfold St.step
          rw [← HX1.out, ← HX2.out]
          exact ⟨rfl, rfl, rfl, rfl, rfl, rfl, rfl, rfl⟩
        case measure => simp [intOf]; omega
      · have d16 : decide ((i : Int) < 16) = false := decide_eq_false (by omega)
        go_upto_if 84 with (fail)
        refine segHi i B (wAt l (i - 2)) (wAt l (i - 7)) (wAt l (i - 15)) (wAt l (i - 16)) _ hlt (by omega) (hR.cell (by omega)) (hR.cell (by omega)) (hR.cell (by omega)) (hR.cell (by omega)) (hR.free i) _ (hR.cell hlt) ?_
        rintro v22 v23 v24 v25 v26 v85 v86 v87 v88 v89 v90 v91 v92 v93 v94 v95 v96 v97 v98 v99 v100 v101 v102 v103 v104 v105 v106 v107 v108 v109 v110 v111 v112 v113 v114 v115 v116 v117 v118 v119 v120 v121 v122 v123 v124 v125 v126 v127 v128 v129 v130 v131 v132 v133 v134 v135 v136 v137 v138 v139 v140 v141 v142 v143 v144 v145 v146 v147 v148 v149 v150 v151 v152 v153 v154 v155 v156 w' hput
        rw [if_neg h16] at HX
        rw [← HX.out] at hput
        have hR2 := hR.put hput
        have H2 := Lib.hid hR2
        clear hput hR hR2
        go_upto_region 15 with (fail)
        refine seg15 s.e s.f s.g s.h i B (kt i) X _ hlt (H2.out.old (hk i hlt) h10) (by rw [H2.out.cell hlt, wAt_set l i X (by omega)]) ?_
        rintro w157 w158 w159 w160 w161 w162 w163 w164 w165 w166 w167 w168 w169 w170 w171 w172 w173 w174 w175 w176 w177 w178 w179 w180 w181 w182 w183 nd x1 hx1
        have H3 := Lib.hid (H2.out.drewN nd)
        have HX1 := Lib.hid hx1
        clear H2 hx1
        go_upto_region 16 with (fail)
        refine seg16 s.a s.b s.c _ ?_
        rintro w184 w185 w186 w187 w188 w189 w190 w191 w192 w193 w194 w195 w196 w197 w198 w199 w200 w201 w202 w203 x2 hx2
        have HX2 := Lib.hid hx2
        clear hx2
        go_wp2
        go_roundw
        case rel =>
          refine ⟨i + 1, by omega, by go_num, ?_, by rw [HW.out]; exact H3.out⟩
          rw [HS.out]
          unfold St.step
          rw [← HX1.out, ← HX2.out]
          exact ⟨rfl, rfl, rfl, rfl, rfl, rfl, rfl, rfl⟩
        case measure => simp [intOf]; omega
    · have hir : i = r := by omega
      subst hir
      go_wp2
      exact hR

end Go.Proofs.YtfkaldaflnmfiaaGreatDoor
