/- Regions of FnEviMade: what is wanted. Printed by gen/made.py. -/
import Derived.WalkKit
import Derived.WalkSpells
import Derived.WalkLawsBesides
import Derived.Handy
import Derived.Lib.Hide
import Derived.IntWalk
import Derived.Deep.DeepCutAuto
import Derived.Test.YtfkaldaflnmfiaaGreatDoorKM3
namespace Go.Proofs.YtfkaldaflnmfiaaGreatDoor
set_option linter.unusedSimpArgs false
set_option linter.unusedVariables false
open Go Go.RowKit
set_option maxRecDepth 100000
set_option maxHeartbeats 8000000 in
theorem wants_reg {u0 u1 u2 u3 u4 u5 u6 u7 u8 u9 u10 u11 u16 u17 u18 u20 u21 u22 u23 u24 u25 u26 u27 u28 u29 u30 u31 u32 u33 u34 u35 u36 u37 u38 u39 u40 u41 u42 u43 u44 u45 u46 u47 u48 u49 u50 u51 u52 u53 u54 u55 u56 u57 u58 u59 u60 u61 u62 u63 u64 u65 u66 u67 u68 u69 u70 u71 u72 u73 u74 u75 u76 u77 u78 u79 u80 u81 u82 u83 u84 u85 u86 u87 u88 u89 u90 u91 u92 u93 u94 u95 u96 u97 u98 u99 u100 u101 u102 u103 u104 u105 u106 u107 u108 u109 u110 u111 u112 u113 u114 u115 u116 u117 u118 u119 u120 u121 u122 u123 u124 u125 u126 u127 u128 u129 u130 u131 u132 u133 u134 u135 u136 u137 u138 u139 u140 u141 u142 u143 u144 u145 u146 u147 u148 u149 u150 u151 u152 u153 u154 u155 u156 u157 u158 u159 u160 u161 u162 u163 u164 u165 u166 u167 u168 u169 u170 u171 u172 u173 u174 u175 u176 u177 u178 u179 u180 u181 u182 u183 u184 u185 u186 u187 u188 u189 u190 u191 u192 u193 u194 u195 u196 u197 u198 u199 u200 u201 u202 u203 u204 u205 u206 u207 u208 u209 u210 u211 u212 u213 u214 u215 u216 u217 u218 u219 u220 u221 u222 u223 u224 u225 u226 u227 u228 u229 u230 u231 u232 : Value} {K : Act → World → Prop} {Q0 : Exit → Act → World → Prop} (A B : VD) (okA : A.ok) (okB : B.ok) (gA gB : Nat) (ah ap aa as_ bh bp ba bs_ : Option Addr) (nah cah nap cap naa caa nas cas nbh cbh nbp cbp nba cba nbs cbs : Nat) (sm r1 r2 : Bool) (W0 : World) (hgA : Blk W0 gA (voteV A (.slice ah nah cah) (.slice ap nap cap) (.slice aa naa caa) (.slice as_ nas cas)) 35) (hgB : Blk W0 gB (voteV B (.slice bh nbh cbh) (.slice bp nbp cbp) (.slice ba nba cba) (.slice bs_ nbs cbs)) 35) (hA : VoteB W0 A (.slice ah nah cah) (.slice ap nap cap) (.slice aa naa caa) (.slice as_ nas cas)) (hB : VoteB W0 B (.slice bh nbh cbh) (.slice bp nbp cbp) (.slice ba nba cba) (.slice bs_ nbs cbs))
    (hK : ∀ (v190 v191 v192 v193 v194 v195 v196 v197 v198 v199 v200 v201 v202 v203 v204 v205 v206 v207 v208 v209 v210 v211 v212 v213 v214 v215 v216 v217 v218 v219 v220 v221 v222 v223 v224 v225 v226 v227 : Value) (q : Bool) (W : World), Kp [] W0 W → (q = true ↔ A.height = B.height ∧ A.round = B.round ∧ A.typ = B.typ ∧ A.addr = B.addr ∧ sm = false ∧ r1 = true ∧ r2 = true) → K ⟨#[u0, u1, u2, u3, u4, u5, u6, u7, u8, u9, u10, u11, .pointer (some ⟨gA, 0, none⟩), .bool r1, .pointer (some ⟨gB, 0, none⟩), .bool r2, u16, u17, u18, .bool sm, u20, u21, u22, u23, u24, .bool q, u26, u27, u28, u29, u30, u31, u32, u33, u34, u35, u36, u37, u38, u39, u40, u41, u42, u43, u44, u45, u46, u47, u48, u49, u50, u51, u52, u53, u54, u55, u56, u57, u58, u59, u60, u61, u62, u63, u64, u65, u66, u67, u68, u69, u70, u71, u72, u73, u74, u75, u76, u77, u78, u79, u80, u81, u82, u83, u84, u85, u86, u87, u88, u89, u90, u91, u92, u93, u94, u95, u96, u97, u98, u99, u100, u101, u102, u103, u104, u105, u106, u107, u108, u109, u110, u111, u112, u113, u114, u115, u116, u117, u118, u119, u120, u121, u122, u123, u124, u125, u126, u127, u128, u129, u130, u131, u132, u133, u134, u135, u136, u137, u138, u139, u140, u141, u142, u143, u144, u145, u146, u147, u148, u149, u150, u151, u152, u153, u154, u155, u156, u157, u158, u159, u160, u161, u162, u163, u164, u165, u166, u167, u168, u169, u170, u171, u172, u173, u174, u175, u176, u177, u178, u179, u180, u181, u182, u183, u184, u185, u186, u187, u188, u189, v190, v191, v192, v193, v194, v195, v196, v197, v198, v199, v200, v201, v202, v203, v204, v205, v206, v207, v208, v209, v210, v211, v212, v213, v214, v215, v216, v217, v218, v219, v220, v221, v222, v223, v224, v225, v226, v227, u228, u229, u230, u231, u232], []⟩ W) :
    Code.wp Tryz.prog (codeAt Tryz.f4 [1, 1, 1, 1, 1, 1, 1, 1, 1, 1, 1, 1, 1, 1, 1, 1, 1, 0]) (Exit.then K Q0) ⟨#[u0, u1, u2, u3, u4, u5, u6, u7, u8, u9, u10, u11, .pointer (some ⟨gA, 0, none⟩), .bool r1, .pointer (some ⟨gB, 0, none⟩), .bool r2, u16, u17, u18, .bool sm, u20, u21, u22, u23, u24, u25, u26, u27, u28, u29, u30, u31, u32, u33, u34, u35, u36, u37, u38, u39, u40, u41, u42, u43, u44, u45, u46, u47, u48, u49, u50, u51, u52, u53, u54, u55, u56, u57, u58, u59, u60, u61, u62, u63, u64, u65, u66, u67, u68, u69, u70, u71, u72, u73, u74, u75, u76, u77, u78, u79, u80, u81, u82, u83, u84, u85, u86, u87, u88, u89, u90, u91, u92, u93, u94, u95, u96, u97, u98, u99, u100, u101, u102, u103, u104, u105, u106, u107, u108, u109, u110, u111, u112, u113, u114, u115, u116, u117, u118, u119, u120, u121, u122, u123, u124, u125, u126, u127, u128, u129, u130, u131, u132, u133, u134, u135, u136, u137, u138, u139, u140, u141, u142, u143, u144, u145, u146, u147, u148, u149, u150, u151, u152, u153, u154, u155, u156, u157, u158, u159, u160, u161, u162, u163, u164, u165, u166, u167, u168, u169, u170, u171, u172, u173, u174, u175, u176, u177, u178, u179, u180, u181, u182, u183, u184, u185, u186, u187, u188, u189, u190, u191, u192, u193, u194, u195, u196, u197, u198, u199, u200, u201, u202, u203, u204, u205, u206, u207, u208, u209, u210, u211, u212, u213, u214, u215, u216, u217, u218, u219, u220, u221, u222, u223, u224, u225, u226, u227, u228, u229, u230, u231, u232], []⟩ W0 := by
  have a0 : ∀ W, Kp [] W0 W → W.cell? ⟨gA, 0, none⟩ = some (.int .i64 A.typ) := hgA.all 0 rfl
  have a1 : ∀ W, Kp [] W0 W → W.cell? ⟨gA, 1, none⟩ = some (.int .i64 A.height) := hgA.all 1 rfl
  have a2 : ∀ W, Kp [] W0 W → W.cell? ⟨gA, 2, none⟩ = some (.int .i64 A.round) := hgA.all 2 rfl
  have a7 : ∀ W, Kp [] W0 W → W.cell? ⟨gA, 7, none⟩ = some (.slice aa naa caa) := hgA.all 7 rfl
  have b0 : ∀ W, Kp [] W0 W → W.cell? ⟨gB, 0, none⟩ = some (.int .i64 B.typ) := hgB.all 0 rfl
  have b1 : ∀ W, Kp [] W0 W → W.cell? ⟨gB, 1, none⟩ = some (.int .i64 B.height) := hgB.all 1 rfl
  have b2 : ∀ W, Kp [] W0 W → W.cell? ⟨gB, 2, none⟩ = some (.int .i64 B.round) := hgB.all 2 rfl
  have b7 : ∀ W, Kp [] W0 W → W.cell? ⟨gB, 7, none⟩ = some (.slice ba nba cba) := hgB.all 7 rfl
  have hc1 : ∀ W, Kp [] W0 W → (convert 22 9 (.slice aa naa caa)).run Tryz.prog W = .ok (.string (strOfNums A.addr)) W := fun W kW => run_string W (hA.addr.kp kW) 22 Tryz.underlying22
  have hc2 : ∀ W, Kp [] W0 W → (convert 22 9 (.slice ba nba cba)).run Tryz.prog W = .ok (.string (strOfNums B.addr)) W := fun W kW => run_string W (hB.addr.kp kW) 22 Tryz.underlying22
  have sq := strS_beq okA.addr.1 okB.addr.1
  have HK := Lib.hid hK
  clear hgA hgB hA hB okA okB hK
  conv => arg 2; whnf
  by_cases q0 : A.height = B.height
  case neg =>
    have e0 : (A.height == B.height) = false := by rw [beq_eq_false_iff_ne]; exact q0
    have Q0 := Lib.hid q0
    clear q0
    go_wp2_with fail
    exact HK.out _ _ _ _ _ _ _ _ _ _ _ _ _ _ _ _ _ _ _ _ _ _ _ _ _ _ _ _ _ _ _ _ _ _ _ _ _ _ false _ (Kp.refl [] W0) ⟨fun h => absurd h (by decide), fun h => absurd h.1 Q0.out⟩
  have e0 : (A.height == B.height) = true := by rw [beq_iff_eq]; exact q0
  have Q0 := Lib.hid q0
  clear q0
  by_cases q1 : A.round = B.round
  case neg =>
    have e1 : (A.round == B.round) = false := by rw [beq_eq_false_iff_ne]; exact q1
    have Q1 := Lib.hid q1
    clear q1
    go_wp2_with fail
    exact HK.out _ _ _ _ _ _ _ _ _ _ _ _ _ _ _ _ _ _ _ _ _ _ _ _ _ _ _ _ _ _ _ _ _ _ _ _ _ _ false _ (Kp.refl [] W0) ⟨fun h => absurd h (by decide), fun h => absurd h.2.1 Q1.out⟩
  have e1 : (A.round == B.round) = true := by rw [beq_iff_eq]; exact q1
  have Q1 := Lib.hid q1
  clear q1
  by_cases q2 : A.typ = B.typ
  case neg =>
    have e2 : (A.typ == B.typ) = false := by rw [beq_eq_false_iff_ne]; exact q2
    have Q2 := Lib.hid q2
    clear q2
    go_wp2_with fail
    exact HK.out _ _ _ _ _ _ _ _ _ _ _ _ _ _ _ _ _ _ _ _ _ _ _ _ _ _ _ _ _ _ _ _ _ _ _ _ _ _ false _ (Kp.refl [] W0) ⟨fun h => absurd h (by decide), fun h => absurd h.2.2.1 Q2.out⟩
  have e2 : (A.typ == B.typ) = true := by rw [beq_iff_eq]; exact q2
  have Q2 := Lib.hid q2
  clear q2
  by_cases q3 : A.addr = B.addr
  case neg =>
    rw [decide_eq_false q3] at sq
    have Q3 := Lib.hid q3
    clear q3
    go_wp2_with fail
    exact HK.out _ _ _ _ _ _ _ _ _ _ _ _ _ _ _ _ _ _ _ _ _ _ _ _ _ _ _ _ _ _ _ _ _ _ _ _ _ _ false _ (Kp.refl [] W0) ⟨fun h => absurd h (by decide), fun h => absurd h.2.2.2.1 Q3.out⟩
  rw [decide_eq_true q3] at sq
  have Q3 := Lib.hid q3
  clear q3
  by_cases q4 : sm = false
  case neg =>
    obtain rfl : sm = true := by cases sm <;> simp_all
    have Q4 := Lib.hid q4
    clear q4
    go_wp2_with fail
    exact HK.out _ _ _ _ _ _ _ _ _ _ _ _ _ _ _ _ _ _ _ _ _ _ _ _ _ _ _ _ _ _ _ _ _ _ _ _ _ _ false _ (Kp.refl [] W0) ⟨fun h => absurd h (by decide), fun h => absurd h.2.2.2.2.1 Q4.out⟩
  subst q4
  by_cases q5 : r1 = true
  case neg =>
    obtain rfl : r1 = false := by cases r1 <;> simp_all
    have Q5 := Lib.hid q5
    clear q5
    go_wp2_with fail
    exact HK.out _ _ _ _ _ _ _ _ _ _ _ _ _ _ _ _ _ _ _ _ _ _ _ _ _ _ _ _ _ _ _ _ _ _ _ _ _ _ false _ (Kp.refl [] W0) ⟨fun h => absurd h (by decide), fun h => absurd h.2.2.2.2.2.1 Q5.out⟩
  subst q5
  by_cases q6 : r2 = true
  case neg =>
    obtain rfl : r2 = false := by cases r2 <;> simp_all
    have Q6 := Lib.hid q6
    clear q6
    go_wp2_with fail
    exact HK.out _ _ _ _ _ _ _ _ _ _ _ _ _ _ _ _ _ _ _ _ _ _ _ _ _ _ _ _ _ _ _ _ _ _ _ _ _ _ false _ (Kp.refl [] W0) ⟨fun h => absurd h (by decide), fun h => absurd h.2.2.2.2.2.2 Q6.out⟩
  subst q6
  go_wp2_with fail
  exact HK.out _ _ _ _ _ _ _ _ _ _ _ _ _ _ _ _ _ _ _ _ _ _ _ _ _ _ _ _ _ _ _ _ _ _ _ _ _ _ true _ (Kp.refl [] W0) ⟨fun _ => ⟨Q0.out, Q1.out, Q2.out, Q3.out, (by first | rfl | trivial), (by first | rfl | trivial), (by first | rfl | trivial)⟩, fun _ => (by first | rfl | trivial)⟩
end Go.Proofs.YtfkaldaflnmfiaaGreatDoor
