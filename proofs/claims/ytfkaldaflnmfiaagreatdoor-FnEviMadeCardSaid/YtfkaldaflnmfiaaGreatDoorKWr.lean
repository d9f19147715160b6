/- All blocks of a text through the package's hash: the contract of blockGeneric -/
import Derived.Test.YtfkaldaflnmfiaaGreatDoorProg
import Derived.WalkKit
import Derived.WalkSpells
import Derived.WalkLawsBesides
import Derived.Below
import Derived.Handy
import Derived.Deep.QuietTactic
import Derived.BigQuiet
import Derived.LoopTactic
import Derived.Deep.DeepCutAuto
import Derived.Deep.CutBlock
import Derived.StillTailTactics
import Derived.Lib.Hide
import Derived.Test.YtfkaldaflnmfiaaGreatDoorKNat2
import Derived.Test.YtfkaldaflnmfiaaGreatDoorKSha2
import Derived.RegionTactic
import Derived.Deep.RegionHeld3
import Derived.Laws.CopyOwn
namespace Go.Proofs.YtfkaldaflnmfiaaGreatDoor
set_option linter.unusedSimpArgs false
set_option linter.unusedVariables false
open Go.RowKit

def St.plus (s t : St) : St := ⟨(s.a + t.a) % 4294967296, (s.b + t.b) % 4294967296, (s.c + t.c) % 4294967296, (s.d + t.d) % 4294967296, (s.e + t.e) % 4294967296, (s.f + t.f) % 4294967296, (s.g + t.g) % 4294967296, (s.h + t.h) % 4294967296⟩
/-- j blocks of the bytes p, 'rounds' rounds each. -/
def shaBlk (kt : Nat → Int) (rounds : Nat) (p : Nat → Int) (l : List Int) (s : St) : Nat → List Int × St
  | 0 => (l, s)
  | j + 1 => ((shaRun kt (fun i => p (64 * j + i)) (shaBlk kt rounds p l s j).1 (shaBlk kt rounds p l s j).2 rounds).1,
      (shaBlk kt rounds p l s j).2.plus (shaRun kt (fun i => p (64 * j + i)) (shaBlk kt rounds p l s j).1 (shaBlk kt rounds p l s j).2 rounds).2)
theorem RowW.trans {w w1 wr : World} {B : Nat} {l l' : List Int} (h : RowW w B l w1) (h' : RowW w1 B l' wr) : RowW w B l' wr := ⟨h'.1, h'.2.1, h.2.2.trans h'.2.2⟩

def Outer (kt : Nat → Int) (r : Nat) (p : Nat → Int) (l0 : List Int) (s0 : St) (w : World) (B b o m c : Nat) (s1 s5 s6 s7 s8 s9 s10 s11 s12 : Value) (wr : World) : Prop :=
  ∃ (j : Nat) (A : Option Addr), j ≤ m ∧ s1 = .slice A (64 * (m - j)) (c - 64 * j) ∧ (j < m → A = some ⟨b, o + 64 * j, none⟩) ∧ StIs (shaBlk kt r p l0 s0 j).2 s5 s6 s7 s8 s9 s10 s11 s12 ∧ RowW w B (shaBlk kt r p l0 s0 j).1 wr
def lenOf : Value → Nat
  | .slice _ n _ => n
  | _ => 0

set_option maxRecDepth 100000 in
set_option maxHeartbeats 4000000 in
theorem outerBlock {u0 u2 u3 u13 u14 u15 u16 u17 u18 u19 u20 u21 u22 u23 u24 u25 u26 u27 u28 u29 u30 u31 u32 u33 u34 u35 u36 u37 u38 u39 u40 u41 u42 u43 u44 u45 u46 u47 u48 u49 u50 u51 u52 u53 u54 u55 u56 u57 u58 u59 u60 u61 u62 u63 u64 u65 u66 u67 u68 u69 u70 u71 u72 u73 u74 u75 u76 u77 u78 u79 u80 u81 u82 u83 u84 u85 u86 u87 u88 u89 u90 u91 u92 u93 u94 u95 u96 u97 u98 u99 u100 u101 u102 u103 u104 u105 u106 u107 u108 u109 u110 u111 u112 u113 u114 u115 u116 u117 u118 u119 u120 u121 u122 u123 u124 u125 u126 u127 u128 u129 u130 u131 u132 u133 u134 u135 u136 u137 u138 u139 u140 u141 u142 u143 u144 u145 u146 u147 u148 u149 u150 u151 u152 u153 u154 u155 u156 u157 u158 u159 u160 u161 u162 u163 u164 u165 u166 u167 u168 u169 u170 u171 u172 u173 u174 u175 u176 u177 u178 u179 u180 u181 u182 u183 u184 u185 u186 u187 u188 u189 u190 u191 u192 u193 u194 u195 u196 u197 u198 u199 u200 u201 u202 u203 u204 u205 u206 u207 u208 u209 u210 u211 u212 u213 u214 u215 u216 u217 u218 u219 u220 u221 u222 u223 u224 u225 u226 u227 u228 u229 u230 u231 u232 u233 u234 u235 u236 u237 u238 u239 u240 u241 u242 u243 u244 u245 u246 u247 u248 u249 u250 u251 u252 u253 u254 u255 u256 u257 u258 u259 u260 u261 u262 u263 u264 u265 u266 u267 u268 u269 u270 u271 u272 u273 u274 u275 u276 u277 u278 u279 u280 u281 u282 : Value} {K : Act → World → Prop} {Q0 : Exit → Act → World → Prop} (b o m c B r : Nat) (hr : r = 64) (kt p : Nat → Int) (l0 : List Int) (s0 : St) (w : World) (hm : 64 * m ≤ 9223372036854775807) (hmc : 64 * m ≤ c) (hbB : b ≠ B) (h10 : 10 ≠ B) (hl : l0.length = 64) (hB : Blk w B (cellsOfW l0) 192) (hp : ∀ j, j < 64 * m → w.cell? ⟨b, o + j, none⟩ = some (.int .u8 (p j)) ∧ 0 ≤ p j ∧ p j ≤ 255) (hk : ∀ j, j < 64 → w.cell? ⟨10, j, none⟩ = some (.int .u32 (kt j)))
    (hK : ∀ (v1 v13 v14 v15 v16 v17 v18 v19 v20 v21 v22 v23 v24 v25 v26 v27 v28 v69 v70 v71 v72 v73 v74 v75 v76 v77 v78 v79 v80 v81 v82 v83 v84 v85 v86 v87 v88 v89 v90 v91 v92 v93 v94 v95 v96 v97 v98 v99 v100 v101 v102 v103 v104 v105 v106 v107 v108 v109 v110 v111 v112 v113 v114 v115 v116 v117 v118 v119 v120 v121 v122 v123 v124 v125 v126 v127 v128 v129 v130 v131 v132 v133 v134 v135 v136 v137 v138 v139 v140 v141 v142 v143 v144 v145 v146 v147 v148 v149 v150 v151 v152 v153 v154 v155 v156 v157 v158 v159 v160 v161 v162 v163 v164 v165 v166 v167 v168 v169 v170 v171 v172 v173 v174 v175 v176 v177 v178 v179 v180 v181 v182 v183 v184 v185 v186 v187 v188 v189 v190 v191 v192 v193 v194 v195 v196 v197 v198 v199 v200 v201 v202 v203 v204 v205 v206 v207 v208 v209 v210 v211 v212 v213 v214 v215 v216 v217 v218 v219 v220 v221 v222 v223 v224 v225 v226 v227 v228 v229 v230 v231 v232 v233 v234 v235 v236 v237 v238 v239 v240 v241 v242 : Value) (w' : World), RowW w B (shaBlk kt r p l0 s0 m).1 w' → K ⟨#[u0, v1, u2, u3, .pointer (some ⟨B, 0, none⟩), .int .u32 (shaBlk kt r p l0 s0 m).2.a, .int .u32 (shaBlk kt r p l0 s0 m).2.b, .int .u32 (shaBlk kt r p l0 s0 m).2.c, .int .u32 (shaBlk kt r p l0 s0 m).2.d, .int .u32 (shaBlk kt r p l0 s0 m).2.e, .int .u32 (shaBlk kt r p l0 s0 m).2.f, .int .u32 (shaBlk kt r p l0 s0 m).2.g, .int .u32 (shaBlk kt r p l0 s0 m).2.h, v13, v14, v15, v16, v17, v18, v19, v20, v21, v22, v23, v24, v25, v26, v27, v28, u29, u30, u31, u32, u33, u34, u35, u36, u37, u38, u39, u40, u41, u42, u43, u44, u45, u46, u47, u48, u49, u50, u51, u52, u53, u54, u55, u56, u57, u58, u59, u60, u61, u62, u63, u64, u65, u66, u67, u68, v69, v70, v71, v72, v73, v74, v75, v76, v77, v78, v79, v80, v81, v82, v83, v84, v85, v86, v87, v88, v89, v90, v91, v92, v93, v94, v95, v96, v97, v98, v99, v100, v101, v102, v103, v104, v105, v106, v107, v108, v109, v110, v111, v112, v113, v114, v115, v116, v117, v118, v119, v120, v121, v122, v123, v124, v125, v126, v127, v128, v129, v130, v131, v132, v133, v134, v135, v136, v137, v138, v139, v140, v141, v142, v143, v144, v145, v146, v147, v148, v149, v150, v151, v152, v153, v154, v155, v156, v157, v158, v159, v160, v161, v162, v163, v164, v165, v166, v167, v168, v169, v170, v171, v172, v173, v174, v175, v176, v177, v178, v179, v180, v181, v182, v183, v184, v185, v186, v187, v188, v189, v190, v191, v192, v193, v194, v195, v196, v197, v198, v199, v200, v201, v202, v203, v204, v205, v206, v207, v208, v209, v210, v211, v212, v213, v214, v215, v216, v217, v218, v219, v220, v221, v222, v223, v224, v225, v226, v227, v228, v229, v230, v231, v232, v233, v234, v235, v236, v237, v238, v239, v240, v241, v242, u243, u244, u245, u246, u247, u248, u249, u250, u251, u252, u253, u254, u255, u256, u257, u258, u259, u260, u261, u262, u263, u264, u265, u266, u267, u268, u269, u270, u271, u272, u273, u274, u275, u276, u277, u278, u279, u280, u281, u282], []⟩ w') :
    Code.wp Tryz.prog (codeAt Tryz.f115 [1, 1, 0]) (Exit.then K Q0) ⟨#[u0, .slice (some ⟨b, o, none⟩) (64 * m) c, u2, u3, .pointer (some ⟨B, 0, none⟩), .int .u32 s0.a, .int .u32 s0.b, .int .u32 s0.c, .int .u32 s0.d, .int .u32 s0.e, .int .u32 s0.f, .int .u32 s0.g, .int .u32 s0.h, u13, u14, u15, u16, u17, u18, u19, u20, u21, u22, u23, u24, u25, u26, u27, u28, u29, u30, u31, u32, u33, u34, u35, u36, u37, u38, u39, u40, u41, u42, u43, u44, u45, u46, u47, u48, u49, u50, u51, u52, u53, u54, u55, u56, u57, u58, u59, u60, u61, u62, u63, u64, u65, u66, u67, u68, u69, u70, u71, u72, u73, u74, u75, u76, u77, u78, u79, u80, u81, u82, u83, u84, u85, u86, u87, u88, u89, u90, u91, u92, u93, u94, u95, u96, u97, u98, u99, u100, u101, u102, u103, u104, u105, u106, u107, u108, u109, u110, u111, u112, u113, u114, u115, u116, u117, u118, u119, u120, u121, u122, u123, u124, u125, u126, u127, u128, u129, u130, u131, u132, u133, u134, u135, u136, u137, u138, u139, u140, u141, u142, u143, u144, u145, u146, u147, u148, u149, u150, u151, u152, u153, u154, u155, u156, u157, u158, u159, u160, u161, u162, u163, u164, u165, u166, u167, u168, u169, u170, u171, u172, u173, u174, u175, u176, u177, u178, u179, u180, u181, u182, u183, u184, u185, u186, u187, u188, u189, u190, u191, u192, u193, u194, u195, u196, u197, u198, u199, u200, u201, u202, u203, u204, u205, u206, u207, u208, u209, u210, u211, u212, u213, u214, u215, u216, u217, u218, u219, u220, u221, u222, u223, u224, u225, u226, u227, u228, u229, u230, u231, u232, u233, u234, u235, u236, u237, u238, u239, u240, u241, u242, u243, u244, u245, u246, u247, u248, u249, u250, u251, u252, u253, u254, u255, u256, u257, u258, u259, u260, u261, u262, u263, u264, u265, u266, u267, u268, u269, u270, u271, u272, u273, u274, u275, u276, u277, u278, u279, u280, u281, u282], []⟩ w := by
  conv => arg 2; whnf
  go_wp2_with fail
  go_loopw [1, 5, 6, 7, 8, 9, 10, 11, 12] (fun s1 s5 s6 s7 s8 s9 s10 s11 s12 wr => Outer kt r p l0 s0 w B b o m c s1 s5 s6 s7 s8 s9 s10 s11 s12 wr) (fun s1 _ _ _ _ _ _ _ _ _ => lenOf s1)
  case atStart => exact ⟨0, _, Nat.zero_le _, rfl, fun _ => rfl, ⟨rfl, rfl, rfl, rfl, rfl, rfl, rfl, rfl⟩, hl, hB, Kp.refl _ _⟩
  case round =>
    obtain ⟨j, A, hj, rfl, hA, ⟨rfl, rfl, rfl, rfl, rfl, rfl, rfl, rfl⟩, hR⟩ := hrel
    have hstep : shaBlk kt r p l0 s0 (j + 1) = ((shaRun kt (fun i => p (64 * j + i)) (shaBlk kt r p l0 s0 j).1 (shaBlk kt r p l0 s0 j).2 r).1, (shaBlk kt r p l0 s0 j).2.plus (shaRun kt (fun i => p (64 * j + i)) (shaBlk kt r p l0 s0 j).1 (shaBlk kt r p l0 s0 j).2 r).2) := rfl
    have Hs := Lib.hid hstep
    clear hstep
    have HR := Lib.hid hR
    by_cases hlt : j < m
    · obtain rfl := hA hlt
      clear hA hR
      obtain ⟨s, es⟩ : ∃ s, (shaBlk kt r p l0 s0 j).2 = s := ⟨_, rfl⟩
      obtain ⟨l, el⟩ : ∃ l, (shaBlk kt r p l0 s0 j).1 = l := ⟨_, rfl⟩
      rw [es, el] at Hs
      rw [el] at HR
      rw [es]
      clear es el
      have hge : 64 ≤ 64 * (m - j) := by omega
      go_upto_block 2 with fail
      refine innerBlock b (o + 64 * j) (64 * (m - j)) (c - 64 * j) B r hr kt (fun i => p (64 * j + i)) l s _ hge (by omega) hbB h10 HR.out.1 HR.out.2.1 (fun i hi => ⟨HR.out.old (by rw [Nat.add_assoc]; exact (hp (64 * j + i) (by omega)).1) hbB, (hp (64 * j + i) (by omega)).2⟩) (fun i hi => HR.out.old (hk i hi) h10) ?_
      rintro v21 v22 v23 v24 v25 v26 v27 v28 v81 v82 v83 v84 v85 v86 v87 v88 v89 v90 v91 v92 v93 v94 v95 v96 v97 v98 v99 v100 v101 v102 v103 v104 v105 v106 v107 v108 v109 v110 v111 v112 v113 v114 v115 v116 v117 v118 v119 v120 v121 v122 v123 v124 v125 v126 v127 v128 v129 v130 v131 v132 v133 v134 v135 v136 v137 v138 v139 v140 v141 v142 v143 v144 v145 v146 v147 v148 v149 v150 v151 v152 v153 v154 v155 v156 v157 v158 v159 v160 v161 v162 v163 v164 v165 v166 v167 v168 v169 v170 v171 v172 v173 v174 v175 v176 v177 v178 v179 v180 v181 v182 v183 v184 v185 v186 v187 v188 v189 v190 v191 v192 v193 v194 v195 v196 v197 v198 v199 v200 v201 v202 v203 v204 v205 v206 v207 v208 v209 v210 v211 v212 v213 v214 v215 v216 w' hw'
      have H2 := Lib.hid (HR.out.trans hw')
      clear HR hw'
      obtain ⟨t, et⟩ : ∃ t, (shaRun kt (fun i => p (64 * j + i)) l s r).2 = t := ⟨_, rfl⟩
      rw [et]
      rw [et] at Hs
      go_wp2
      go_roundw
      case rel =>
        refine ⟨j + 1, if c - 64 * j = 64 then some ⟨b, o + 64 * j, none⟩ else some ⟨b, o + 64 * j + 64, none⟩, by omega, ?_, ?_, ?_, by rw [Hs.out]; exact H2.out⟩
        · congr 1 <;> omega
        · intro hj1
          rw [if_neg (by omega)]
          rw [Nat.mul_add, Nat.mul_one, Nat.add_assoc]
        · rw [Hs.out]
          exact ⟨rfl, rfl, rfl, rfl, rfl, rfl, rfl, rfl⟩
      case measure => simp only [lenOf]; omega
    · have hjm : j = m := by omega
      subst hjm
      go_wp2
      exact hR

end Go.Proofs.YtfkaldaflnmfiaaGreatDoor
/- The last statement of blockGeneric -/
namespace Go.Proofs.YtfkaldaflnmfiaaGreatDoor
set_option linter.unusedSimpArgs false
set_option linter.unusedVariables false
open Go.RowKit

/-- Eight words into the first eight cells of a block. -/
def put8 (w : World) (g : Nat) (s : St) : World :=
  (((((((w.setCell ⟨g, 0, none⟩ (.int .u32 s.a)).setCell ⟨g, 1, none⟩ (.int .u32 s.b)).setCell ⟨g, 2, none⟩ (.int .u32 s.c)).setCell ⟨g, 3, none⟩ (.int .u32 s.d)).setCell ⟨g, 4, none⟩ (.int .u32 s.e)).setCell ⟨g, 5, none⟩ (.int .u32 s.f)).setCell ⟨g, 6, none⟩ (.int .u32 s.g)).setCell ⟨g, 7, none⟩ (.int .u32 s.h)
def put8cs (cs : Array Value) (s : St) : Array Value :=
  (((((((cs.setIfInBounds 0 (.int .u32 s.a)).setIfInBounds 1 (.int .u32 s.b)).setIfInBounds 2 (.int .u32 s.c)).setIfInBounds 3 (.int .u32 s.d)).setIfInBounds 4 (.int .u32 s.e)).setIfInBounds 5 (.int .u32 s.f)).setIfInBounds 6 (.int .u32 s.g)).setIfInBounds 7 (.int .u32 s.h)
theorem Blk.put8 {w : World} {g : Nat} {cs : Array Value} {t : TypeId} (h : Blk w g cs t) (s : St) : Blk (put8 w g s) g (put8cs cs s) t :=
  (((((((h.set 0 _).set 1 _).set 2 _).set 3 _).set 4 _).set 5 _).set 6 _).set 7 _
theorem Kp.put8 {S : List Nat} {w w1 : World} {g : Nat} (h : Kp S w w1) (hg : g ∈ S) (s : St) : Kp S w (put8 w1 g s) :=
  (((((((h.set (.inl hg) _).set (.inl hg) _).set (.inl hg) _).set (.inl hg) _).set (.inl hg) _).set (.inl hg) _).set (.inl hg) _).set (.inl hg) _

theorem wp_last {P : Program} {c : Code} {Q : Exit → Act → World → Prop} {a : Act} {w : World} (h : c.wp P (Exit.then (Q .normal) Q) a w) : c.wp P Q a w :=
  wp_mono h fun e _ _ he => by cases e <;> exact he

set_option maxRecDepth 100000 in
set_option maxHeartbeats 4000000 in
theorem segTail {u1 u2 u3 u4 u13 u14 u15 u16 u17 u18 u19 u20 u21 u22 u23 u24 u25 u26 u27 u28 u29 u30 u31 u32 u33 u34 u35 u36 u37 u38 u39 u40 u41 u42 u43 u44 u45 u46 u47 u48 u49 u50 u51 u52 u53 u54 u55 u56 u57 u58 u59 u60 u61 u62 u63 u64 u65 u66 u67 u68 u69 u70 u71 u72 u73 u74 u75 u76 u77 u78 u79 u80 u81 u82 u83 u84 u85 u86 u87 u88 u89 u90 u91 u92 u93 u94 u95 u96 u97 u98 u99 u100 u101 u102 u103 u104 u105 u106 u107 u108 u109 u110 u111 u112 u113 u114 u115 u116 u117 u118 u119 u120 u121 u122 u123 u124 u125 u126 u127 u128 u129 u130 u131 u132 u133 u134 u135 u136 u137 u138 u139 u140 u141 u142 u143 u144 u145 u146 u147 u148 u149 u150 u151 u152 u153 u154 u155 u156 u157 u158 u159 u160 u161 u162 u163 u164 u165 u166 u167 u168 u169 u170 u171 u172 u173 u174 u175 u176 u177 u178 u179 u180 u181 u182 u183 u184 u185 u186 u187 u188 u189 u190 u191 u192 u193 u194 u195 u196 u197 u198 u199 u200 u201 u202 u203 u204 u205 u206 u207 u208 u209 u210 u211 u212 u213 u214 u215 u216 u217 u218 u219 u220 u221 u222 u223 u224 u225 u226 u227 u228 u229 u230 u231 u232 u233 u234 u235 u236 u237 u238 u239 u240 u241 u242 u243 u244 u245 u246 u247 u248 u249 u250 u251 u252 u253 u254 u255 u256 u257 u258 u259 u260 u261 u262 u263 u264 u265 u266 u267 u268 u269 u270 u271 u272 u273 u274 u275 u276 u277 u278 u279 u280 u281 u282 : Value} {K : Act → World → Prop} {Q0 : Exit → Act → World → Prop} (g : Nat) (x0 : Int) (x1 : Int) (x2 : Int) (x3 : Int) (x4 : Int) (x5 : Int) (x6 : Int) (x7 : Int) (w : World) (y0 : Value) (c0 : w.cell? ⟨g, 0, none⟩ = some y0) (f0 : w.frozen? ⟨g, 0, none⟩ = false) (y1 : Value) (c1 : w.cell? ⟨g, 1, none⟩ = some y1) (f1 : w.frozen? ⟨g, 1, none⟩ = false) (y2 : Value) (c2 : w.cell? ⟨g, 2, none⟩ = some y2) (f2 : w.frozen? ⟨g, 2, none⟩ = false) (y3 : Value) (c3 : w.cell? ⟨g, 3, none⟩ = some y3) (f3 : w.frozen? ⟨g, 3, none⟩ = false) (y4 : Value) (c4 : w.cell? ⟨g, 4, none⟩ = some y4) (f4 : w.frozen? ⟨g, 4, none⟩ = false) (y5 : Value) (c5 : w.cell? ⟨g, 5, none⟩ = some y5) (f5 : w.frozen? ⟨g, 5, none⟩ = false) (y6 : Value) (c6 : w.cell? ⟨g, 6, none⟩ = some y6) (f6 : w.frozen? ⟨g, 6, none⟩ = false) (y7 : Value) (c7 : w.cell? ⟨g, 7, none⟩ = some y7) (f7 : w.frozen? ⟨g, 7, none⟩ = false) 
    (hK : ∀ (v243 v244 v245 v246 v247 v248 v249 v250 v251 v252 v253 v254 v255 v256 v257 v258 v259 v260 v261 v262 v263 v264 v265 v266 v267 v268 v269 v270 v271 v272 v273 v274 v275 v276 v277 v278 v279 v280 v281 v282 : Value) (w' : World), w' = (put8 w g ⟨x0, x1, x2, x3, x4, x5, x6, x7⟩).drew → K ⟨#[.pointer (some ⟨g, 0, none⟩), u1, u2, u3, u4, .int .u32 x0, .int .u32 x1, .int .u32 x2, .int .u32 x3, .int .u32 x4, .int .u32 x5, .int .u32 x6, .int .u32 x7, u13, u14, u15, u16, u17, u18, u19, u20, u21, u22, u23, u24, u25, u26, u27, u28, u29, u30, u31, u32, u33, u34, u35, u36, u37, u38, u39, u40, u41, u42, u43, u44, u45, u46, u47, u48, u49, u50, u51, u52, u53, u54, u55, u56, u57, u58, u59, u60, u61, u62, u63, u64, u65, u66, u67, u68, u69, u70, u71, u72, u73, u74, u75, u76, u77, u78, u79, u80, u81, u82, u83, u84, u85, u86, u87, u88, u89, u90, u91, u92, u93, u94, u95, u96, u97, u98, u99, u100, u101, u102, u103, u104, u105, u106, u107, u108, u109, u110, u111, u112, u113, u114, u115, u116, u117, u118, u119, u120, u121, u122, u123, u124, u125, u126, u127, u128, u129, u130, u131, u132, u133, u134, u135, u136, u137, u138, u139, u140, u141, u142, u143, u144, u145, u146, u147, u148, u149, u150, u151, u152, u153, u154, u155, u156, u157, u158, u159, u160, u161, u162, u163, u164, u165, u166, u167, u168, u169, u170, u171, u172, u173, u174, u175, u176, u177, u178, u179, u180, u181, u182, u183, u184, u185, u186, u187, u188, u189, u190, u191, u192, u193, u194, u195, u196, u197, u198, u199, u200, u201, u202, u203, u204, u205, u206, u207, u208, u209, u210, u211, u212, u213, u214, u215, u216, u217, u218, u219, u220, u221, u222, u223, u224, u225, u226, u227, u228, u229, u230, u231, u232, u233, u234, u235, u236, u237, u238, u239, u240, u241, u242, v243, v244, v245, v246, v247, v248, v249, v250, v251, v252, v253, v254, v255, v256, v257, v258, v259, v260, v261, v262, v263, v264, v265, v266, v267, v268, v269, v270, v271, v272, v273, v274, v275, v276, v277, v278, v279, v280, v281, v282], []⟩ w') :
    Code.wp Tryz.prog (codeAt Tryz.f115 [1, 1, 1]) (Exit.then K Q0) ⟨#[.pointer (some ⟨g, 0, none⟩), u1, u2, u3, u4, .int .u32 x0, .int .u32 x1, .int .u32 x2, .int .u32 x3, .int .u32 x4, .int .u32 x5, .int .u32 x6, .int .u32 x7, u13, u14, u15, u16, u17, u18, u19, u20, u21, u22, u23, u24, u25, u26, u27, u28, u29, u30, u31, u32, u33, u34, u35, u36, u37, u38, u39, u40, u41, u42, u43, u44, u45, u46, u47, u48, u49, u50, u51, u52, u53, u54, u55, u56, u57, u58, u59, u60, u61, u62, u63, u64, u65, u66, u67, u68, u69, u70, u71, u72, u73, u74, u75, u76, u77, u78, u79, u80, u81, u82, u83, u84, u85, u86, u87, u88, u89, u90, u91, u92, u93, u94, u95, u96, u97, u98, u99, u100, u101, u102, u103, u104, u105, u106, u107, u108, u109, u110, u111, u112, u113, u114, u115, u116, u117, u118, u119, u120, u121, u122, u123, u124, u125, u126, u127, u128, u129, u130, u131, u132, u133, u134, u135, u136, u137, u138, u139, u140, u141, u142, u143, u144, u145, u146, u147, u148, u149, u150, u151, u152, u153, u154, u155, u156, u157, u158, u159, u160, u161, u162, u163, u164, u165, u166, u167, u168, u169, u170, u171, u172, u173, u174, u175, u176, u177, u178, u179, u180, u181, u182, u183, u184, u185, u186, u187, u188, u189, u190, u191, u192, u193, u194, u195, u196, u197, u198, u199, u200, u201, u202, u203, u204, u205, u206, u207, u208, u209, u210, u211, u212, u213, u214, u215, u216, u217, u218, u219, u220, u221, u222, u223, u224, u225, u226, u227, u228, u229, u230, u231, u232, u233, u234, u235, u236, u237, u238, u239, u240, u241, u242, u243, u244, u245, u246, u247, u248, u249, u250, u251, u252, u253, u254, u255, u256, u257, u258, u259, u260, u261, u262, u263, u264, u265, u266, u267, u268, u269, u270, u271, u272, u273, u274, u275, u276, u277, u278, u279, u280, u281, u282], []⟩ w := by
  conv => arg 2; whnf
  refine wp_region_noPanic ?_
  go_region
  exact hK _ _ _ _ _ _ _ _ _ _ _ _ _ _ _ _ _ _ _ _ _ _ _ _ _ _ _ _ _ _ _ _ _ _ _ _ _ _ _ _ _ rfl

end Go.Proofs.YtfkaldaflnmfiaaGreatDoor
/- Contracts of blockGeneric and block of the package's hash -/
namespace Go.Proofs.YtfkaldaflnmfiaaGreatDoor
set_option linter.unusedSimpArgs false
set_option linter.unusedVariables false
open Go.RowKit

def zeroWords : List Int := List.replicate 64 0
/-- The words behind m blocks of the bytes p. -/
def shaBlocks (kt : Nat → Int) (p : Nat → Int) (s : St) (m : Nat) : St := (shaBlk kt 64 p zeroWords s m).2

theorem setIf_ne (cs : Array Value) (i j : Nat) (x : Value) (h : j ≠ i) : (cs.setIfInBounds i x)[j]? = cs[j]? := by
  rw [Array.getElem?_setIfInBounds]
  simp [Ne.symm h]

set_option maxRecDepth 100000 in
set_option maxHeartbeats 4000000 in
theorem blockGeneric_any (g b o m c : Nat) (cs : Array Value) (s0 s1 : St) (kt p : Nat → Int) (w : World) (hg : Blk w g cs 171) (q0 : cs[0]? = some (.int .u32 s0.a)) (q1 : cs[1]? = some (.int .u32 s0.b)) (q2 : cs[2]? = some (.int .u32 s0.c)) (q3 : cs[3]? = some (.int .u32 s0.d)) (q4 : cs[4]? = some (.int .u32 s0.e)) (q5 : cs[5]? = some (.int .u32 s0.f)) (q6 : cs[6]? = some (.int .u32 s0.g)) (q7 : cs[7]? = some (.int .u32 s0.h))
    (h10 : 10 < w.heap.size) (hb : b < w.heap.size) (hm : 64 * m ≤ 9223372036854775807) (hmc : 64 * m ≤ c)
    (hp : ∀ j, j < 64 * m → w.cell? ⟨b, o + j, none⟩ = some (.int .u8 (p j)) ∧ 0 ≤ p j ∧ p j ≤ 255) (hk : ∀ j, j < 64 → w.cell? ⟨10, j, none⟩ = some (.int .u32 (kt j)))
    (hs : (shaBlk kt 64 p zeroWords s0 m).2 = s1) : Calls Tryz.prog 115 #[.pointer (some ⟨g, 0, none⟩), .slice (some ⟨b, o, none⟩) (64 * m) c] w fun e w' => e = .returned (.tuple #[]) ∧ Blk w' g (put8cs cs s1) 171 ∧ Kp [g] w w' := by
  have hgl := hg.lt
  have c0 := hg.cell q0
  have c1 := hg.cell q1
  have c2 := hg.cell q2
  have c3 := hg.cell q3
  have c4 := hg.cell q4
  have c5 := hg.cell q5
  have c6 := hg.cell q6
  have c7 := hg.cell q7
  have HG := Lib.hid hg
  have HP := Lib.hid hp
  have HK := Lib.hid hk
  have HS := Lib.hid hs
  have HQ := Lib.hid (And.intro q0 (And.intro q1 (And.intro q2 (And.intro q3 (And.intro q4 (And.intro q5 (And.intro q6 q7)))))))
  clear hg hp hk hs q0 q1 q2 q3 q4 q5 q6 q7
  go_enter Tryz.func115, Tryz.ntmps115
  go_wp2
  go_quiet (fail)
  go_upto_block 0 with fail
  refine outerBlock b o m c w.heap.size 64 rfl kt p zeroWords s0 _ hm hmc (by omega) (by omega) rfl ((Blk.new w _ 192).drewN nq) (fun j hj => ⟨((Kp.refl [] w).alloc _).cell (p := ⟨b, o + j, none⟩) hb (by simp) |>.trans (HP.out j hj).1, (HP.out j hj).2⟩) (fun j hj => ((Kp.refl [] w).alloc _).cell (p := ⟨10, j, none⟩) h10 (by simp) |>.trans (HK.out j hj)) ?_
  rintro v1 v13 v14 v15 v16 v17 v18 v19 v20 v21 v22 v23 v24 v25 v26 v27 v28 v69 v70 v71 v72 v73 v74 v75 v76 v77 v78 v79 v80 v81 v82 v83 v84 v85 v86 v87 v88 v89 v90 v91 v92 v93 v94 v95 v96 v97 v98 v99 v100 v101 v102 v103 v104 v105 v106 v107 v108 v109 v110 v111 v112 v113 v114 v115 v116 v117 v118 v119 v120 v121 v122 v123 v124 v125 v126 v127 v128 v129 v130 v131 v132 v133 v134 v135 v136 v137 v138 v139 v140 v141 v142 v143 v144 v145 v146 v147 v148 v149 v150 v151 v152 v153 v154 v155 v156 v157 v158 v159 v160 v161 v162 v163 v164 v165 v166 v167 v168 v169 v170 v171 v172 v173 v174 v175 v176 v177 v178 v179 v180 v181 v182 v183 v184 v185 v186 v187 v188 v189 v190 v191 v192 v193 v194 v195 v196 v197 v198 v199 v200 v201 v202 v203 v204 v205 v206 v207 v208 v209 v210 v211 v212 v213 v214 v215 v216 v217 v218 v219 v220 v221 v222 v223 v224 v225 v226 v227 v228 v229 v230 v231 v232 v233 v234 v235 v236 v237 v238 v239 v240 v241 v242 w1 hR
  have hk1 : Kp [] w w1 := (((Kp.refl [] w).alloc _).drewN nq).then hR.2.2 (fun i hi hm => by simp at hm; omega)
  have hg1 := hk1.blk HG.out (by simp)
  rw [HS.out]
  clear hR
  obtain ⟨q0, q1, q2, q3, q4, q5, q6, q7⟩ := HQ.out
  have HK1 := Lib.hid hk1
  have HG1 := Lib.hid hg1
  have d0 := hg1.cell q0
  have d1 := hg1.cell q1
  have d2 := hg1.cell q2
  have d3 := hg1.cell q3
  have d4 := hg1.cell q4
  have d5 := hg1.cell q5
  have d6 := hg1.cell q6
  have d7 := hg1.cell q7
  have f0 := hg1.free 0
  have f1 := hg1.free 1
  have f2 := hg1.free 2
  have f3 := hg1.free 3
  have f4 := hg1.free 4
  have f5 := hg1.free 5
  have f6 := hg1.free 6
  have f7 := hg1.free 7
  clear hk1 hg1 q0 q1 q2 q3 q4 q5 q6 q7
  go_upto_region 35 with fail
  refine wp_last (segTail g s1.a s1.b s1.c s1.d s1.e s1.f s1.g s1.h w1 _ d0 f0 _ d1 f1 _ d2 f2 _ d3 f3 _ d4 f4 _ d5 f5 _ d6 f6 _ d7 f7 ?_)
  rintro t243 t244 t245 t246 t247 t248 t249 t250 t251 t252 t253 t254 t255 t256 t257 t258 t259 t260 t261 t262 t263 t264 t265 t266 t267 t268 t269 t270 t271 t272 t273 t274 t275 t276 t277 t278 t279 t280 t281 t282 w2 rfl
  go_end0
  exact ⟨rfl, (HG1.out.put8 s1).drew, (HK1.out.mono (fun _ _ h => by simp at h)).put8 (by simp) s1 |>.drew⟩

/-- 'block' hands on. -/
theorem block_any (g b o m c : Nat) (cs : Array Value) (s0 s1 : St) (kt p : Nat → Int) (w : World) (hg : Blk w g cs 171) (q0 : cs[0]? = some (.int .u32 s0.a)) (q1 : cs[1]? = some (.int .u32 s0.b)) (q2 : cs[2]? = some (.int .u32 s0.c)) (q3 : cs[3]? = some (.int .u32 s0.d)) (q4 : cs[4]? = some (.int .u32 s0.e)) (q5 : cs[5]? = some (.int .u32 s0.f)) (q6 : cs[6]? = some (.int .u32 s0.g)) (q7 : cs[7]? = some (.int .u32 s0.h))
    (h10 : 10 < w.heap.size) (hb : b < w.heap.size) (hm : 64 * m ≤ 9223372036854775807) (hmc : 64 * m ≤ c)
    (hp : ∀ j, j < 64 * m → w.cell? ⟨b, o + j, none⟩ = some (.int .u8 (p j)) ∧ 0 ≤ p j ∧ p j ≤ 255) (hk : ∀ j, j < 64 → w.cell? ⟨10, j, none⟩ = some (.int .u32 (kt j)))
    (hs : (shaBlk kt 64 p zeroWords s0 m).2 = s1) :
    Calls Tryz.prog 104 #[.pointer (some ⟨g, 0, none⟩), .slice (some ⟨b, o, none⟩) (64 * m) c] w fun e w' => e = .returned (.tuple #[]) ∧ Blk w' g (put8cs cs s1) 171 ∧ Kp [g] w w' := by
  have H := Lib.hid (blockGeneric_any g b o m c cs s0 s1 kt p w hg q0 q1 q2 q3 q4 q5 q6 q7 h10 hb hm hmc hp hk hs)
  clear hg q0 q1 q2 q3 q4 q5 q6 q7 hp hk hs
  go_enter Tryz.func104, Tryz.ntmps104
  go_wp2_with (go_at_call 115; refine H.out.mono ?_; rintro e w' ⟨rfl, hb1, hk1⟩)
  go_end0
  exact ⟨rfl, hb1, hk1⟩

end Go.Proofs.YtfkaldaflnmfiaaGreatDoor
/- The hash's state in memory, and the builtin copy in this proof's words. -/
namespace Go.Proofs.YtfkaldaflnmfiaaGreatDoor
set_option linter.unusedSimpArgs false
set_option linter.unusedVariables false
open Go Go.RowKit

section
variable {P : Program} {w : World} {ops : Array Oper} {rest : List Oper} {o : Oper} {a : Act} {Q : Exit → Act → World → Prop}
theorem Kp.setRow (w : World) (g : Nat) (cs : Array Value) : Kp [g] w (w.setRow g cs) :=
  ⟨rfl, rfl, rfl, by simp [World.setRow], fun k _ hn => setRow_other w g k cs (by simpa using hn)⟩
/-- copy into a block that is known whole. -/
theorem kit_copy (hgd : o.guard = none) (d s : Operand) (dT sT : TypeId)
    (ho : o.op = .call { callee := .builtin .copy, args := #[d, s], argTypes := #[dT, sT] }) (elem : TypeId) (hu : P.underlying dT = some (.slice elem)) (hsz : (P.info? elem).map (·.size) = some 1)
    (g off dLen dCap : Nat) (b boff sLen sCap : Nat) (hd : a.eval d = .slice (some ⟨g, off, none⟩) dLen dCap) (hs : a.eval s = .slice (some ⟨b, boff, none⟩) sLen sCap)
    (cur : List Value) (t : TypeId) (hg : Blk w g cur.toArray t) (cs : List Value) (k : Nat) (hk : cs.length = k) (hn : k = Nat.min sLen dLen)
    (hsrc : ∀ j v, cs[j]? = some v → w.cell? ⟨b, boff + j, none⟩ = some v) (hfit : off + k ≤ cur.length) (h1 : ∀ v ∈ cs, v.oneCell' = true)
    (h : ∀ w', Blk w' g (splice cur off cs).toArray t → Kp [g] w w' → wpList P ops Q rest (a.put o.dst (.int .i64 (k : Int))) w') :
    wpList P ops Q (o :: rest) a w := by
  subst hk
  have hadd : ∀ j, (⟨b, boff, none⟩ : Addr).add j = ⟨b, boff + j, none⟩ := fun j => by unfold Addr.add; split <;> simp_all
  refine wpList_copy_own hgd d s dT sT ho elem hu hsz g off dLen dCap ⟨b, boff, none⟩ sLen sCap hd hs cur.toArray t hg cs hn (fun j v hv => by rw [hadd]; exact hsrc j v hv) (by simpa using hfit) h1 ?_
  exact h _ (by have := setRow_heap w g _ (splice cur off cs).toArray t _ hg; simpa [splice, Blk] using this) (Kp.setRow w g _)
end

/-- The cells of the hash's state. -/
def digL (s : St) (x : List Int) (nx len : Int) : List Value :=
  [.int .u32 s.a, .int .u32 s.b, .int .u32 s.c, .int .u32 s.d, .int .u32 s.e, .int .u32 s.f, .int .u32 s.g, .int .u32 s.h] ++ (x.map (Value.int .u8) ++ [.int .i64 nx, .int .u64 len, .bool false])

section
variable {s : St} {x : List Int} {nx len : Int}
theorem digL_length (hx : x.length = 64) : (digL s x nx len).length = 75 := by simp [digL, hx]
theorem digL_x (hx : x.length = 64) {j : Nat} (hj : j < 64) : (digL s x nx len).toArray[8 + j]? = some (.int .u8 (x.getD j 0)) := by
  have hj' : j < x.length := by omega
  simp only [List.getElem?_toArray, digL]
  rw [List.getElem?_append_right (by simp)]
  simp [hj', List.getElem?_append_left]
theorem digL_nx (hx : x.length = 64) : (digL s x nx len).toArray[72]? = some (.int .i64 nx) := by
  simp only [List.getElem?_toArray, digL]
  rw [List.getElem?_append_right (by simp), List.getElem?_append_right (by simp [hx])]
  simp [hx]
theorem digL_len (hx : x.length = 64) : (digL s x nx len).toArray[73]? = some (.int .u64 len) := by
  simp only [List.getElem?_toArray, digL]
  rw [List.getElem?_append_right (by simp), List.getElem?_append_right (by simp [hx])]
  simp [hx]
theorem digL_is (hx : x.length = 64) : (digL s x nx len).toArray[74]? = some (.bool false) := by
  simp only [List.getElem?_toArray, digL]
  rw [List.getElem?_append_right (by simp), List.getElem?_append_right (by simp [hx])]
  simp [hx]
theorem digL_put8 (s1 : St) : put8cs (digL s x nx len).toArray s1 = (digL s1 x nx len).toArray := by
  simp [put8cs, digL]
theorem digL_setLen (hx : x.length = 64) (v : Int) : (digL s x nx len).toArray.setIfInBounds 73 (.int .u64 v) = (digL s x nx v).toArray := by
  simp only [List.setIfInBounds_toArray, digL]
  rw [List.set_append_right _ _ (by simp), List.set_append_right _ _ (by simp [hx])]
  simp [hx]
theorem digL_setNx (hx : x.length = 64) (v : Int) : (digL s x nx len).toArray.setIfInBounds 72 (.int .i64 v) = (digL s x v len).toArray := by
  simp only [List.setIfInBounds_toArray, digL]
  rw [List.set_append_right _ _ (by simp), List.set_append_right _ _ (by simp [hx])]
  simp [hx]
theorem digL_splice (hx : x.length = 64) (r : Nat) (l : List Int) (h : r + l.length ≤ 64) : splice (digL s x nx len) (8 + r) (l.map (Value.int .u8)) = digL s (splice x r l) nx len := by
  have e : ∀ (A B : List Value), A.length = 8 → splice (A ++ B) (8 + r) (l.map (Value.int .u8)) = A ++ splice B r (l.map (Value.int .u8)) := by
    intro A B hA
    simp only [splice, List.take_append, List.drop_append, hA, List.length_map]
    rw [List.take_of_length_le (by omega), List.drop_of_length_le (l := A) (by omega)]
    have h1 : 8 + r - 8 = r := by omega
    have h2 : 8 + r + l.length - 8 = r + l.length := by omega
    rw [h1, h2]
    simp
  have e2 : ∀ (B C : List Value), B.length = 64 → splice (B ++ C) r (l.map (Value.int .u8)) = splice B r (l.map (Value.int .u8)) ++ C := by
    intro B C hB
    simp only [splice, List.take_append, List.drop_append, hB, List.length_map]
    have h1 : r - 64 = 0 := by omega
    have h2 : r + l.length - 64 = 0 := by omega
    rw [h1, h2]
    simp
  unfold digL
  rw [e _ _ (by simp), e2 _ _ (by simp [hx])]
  simp [splice]
end

end Go.Proofs.YtfkaldaflnmfiaaGreatDoor
/- Contracts of the hash's Write: from an empty buffer; and up to the buffer's end. -/
namespace Go.Proofs.YtfkaldaflnmfiaaGreatDoor
set_option linter.unusedSimpArgs false
set_option linter.unusedVariables false
open Go Go.RowKit

set_option maxRecDepth 100000 in
theorem write_short (g b o c : Nat) (s : St) (x l : List Int) (w : World) (hx : x.length = 64) (hg : Blk w g (digL s x 0 0).toArray 171)
    (h0 : 0 < l.length) (h64 : l.length < 64) (hb : b ≠ g) (hc : l.length ≤ c)
    (hp : ∀ j, j < l.length → w.cell? ⟨b, o + j, none⟩ = some (.int .u8 (l.getD j 0))) :
    Calls Tryz.prog 90 #[.pointer (some ⟨g, 0, none⟩), .slice (some ⟨b, o, none⟩) l.length c] w fun e w' => e = .returned (.tuple #[.int .i64 l.length, .nilIface]) ∧ Blk w' g (digL s (splice x 0 l) l.length l.length).toArray 171 ∧ Kp [g] w w' := by
  have c72 := hg.cell (digL_nx hx)
  have c73 := hg.cell (digL_len hx)
  have f72 := hg.free 72
  have f73 := hg.free 73
  obtain ⟨n, hn⟩ : ∃ n, l.length = n := ⟨_, rfl⟩
  rw [hn] at h0 h64 hc hp ⊢
  have HN := Lib.hid hn
  have HG := Lib.hid hg
  have HP := Lib.hid hp
  have HX := Lib.hid hx
  clear hg hp hn hx
  have hge : ¬ 64 ≤ n := by omega
  go_enter Tryz.func90, Tryz.ntmps90
  have hg2 := HG.out.set 73 (.int .u64 (n : Int))
  rw [digL_setLen HX.out] at hg2
  have HG2 := Lib.hid hg2
  clear hg2
  go_wp2_with (refine kit_copy rfl (.tmp 90) (.tmp 91) 22 22 rfl 5 Tryz.underlying22 ?hz g 8 64 64 b o n c rfl rfl (digL s x 0 n) 171 HG2.out (l.map (Value.int .u8)) n ?hk ?hn ?hs ?hf ?h1 ?_)
  case hz => kernel_rfl
  case hk => rw [List.length_map, HN.out]
  case hn => rw [show n.min 64 = min n 64 from rfl]; omega
  case hs =>
    intro j v hv
    simp only [List.getElem?_map, Option.map_eq_some_iff] at hv
    obtain ⟨y, hy, rfl⟩ := hv
    have hj : j < l.length := (List.getElem?_eq_some_iff.1 hy).1
    rw [World.cell?_setCell_other _ _ _ _ (by intro e; injection e with e1; exact hb e1.symm), HP.out j (by rw [← HN.out]; exact hj)]
    simp [hy]
  case hf => rw [digL_length HX.out]; omega
  case h1 => intro v hv; simp only [List.mem_map] at hv; obtain ⟨y, _, rfl⟩ := hv; rfl
  intro w2 hb2 hk2
  have e8 := digL_splice (s := s) (nx := 0) (len := (n : Int)) HX.out 0 l (by rw [HN.out]; omega)
  rw [Nat.add_zero] at e8
  rw [e8] at hb2
  have hx2 : (splice x 0 l).length = 64 := by rw [length_splice _ _ _ (by rw [HX.out, HN.out]; omega)]; exact HX.out
  have d72 := hb2.cell (digL_nx hx2)
  have g72 := hb2.free 72
  have HB2 := Lib.hid hb2
  have HK2 := Lib.hid hk2
  have HX2 := Lib.hid hx2
  clear e8 hb2 hk2 hx2
  go_wp2
  go_ret2
  refine ⟨rfl, ?_, ?_⟩
  · have := HB2.out.set 72 (.int .i64 (n : Int))
    rwa [digL_setNx HX2.out] at this
  · exact (((Kp.refl [g] w).set (.inl (by simp)) _).trans HK2.out).set (.inl (by simp)) _

set_option maxRecDepth 100000 in
theorem write_long (g b o c m r : Nat) (s s1 : St) (kt : Nat → Int) (x l : List Int) (w : World) (hx : x.length = 64) (hg : Blk w g (digL s x 0 0).toArray 171)
    (hl : l.length = 64 * m + r) (hm : 0 < m) (hr0 : 0 < r) (hr : r < 64) (h64 : 64 * m + r ≤ 65536) (ha : bits BinOp.andNot IntKind.i64 ((64 * m + r : Nat) : Int) 63 = ((64 * m : Nat) : Int)) (hb : b ≠ g) (hbl : b < w.heap.size) (h10 : 10 < w.heap.size) (h10g : 10 ≠ g) (hc : l.length ≤ c)
    (hp : ∀ j, j < l.length → w.cell? ⟨b, o + j, none⟩ = some (.int .u8 (l.getD j 0)) ∧ 0 ≤ l.getD j 0 ∧ l.getD j 0 ≤ 255)
    (hk : ∀ j, j < 64 → w.cell? ⟨10, j, none⟩ = some (.int .u32 (kt j))) (hs : (shaBlk kt 64 (fun j => l.getD j 0) zeroWords s m).2 = s1) :
    Calls Tryz.prog 90 #[.pointer (some ⟨g, 0, none⟩), .slice (some ⟨b, o, none⟩) l.length c] w fun e w' => e = .returned (.tuple #[.int .i64 l.length, .nilIface]) ∧ Blk w' g (digL s1 (splice x 0 (l.drop (64 * m))) r l.length).toArray 171 ∧ Kp [g] w w' := by
  have c72 := hg.cell (digL_nx hx)
  have c73 := hg.cell (digL_len hx)
  have f72 := hg.free 72
  have f73 := hg.free 73
  obtain ⟨n, hn⟩ : ∃ n, l.length = n := ⟨_, rfl⟩
  obtain ⟨M, hM⟩ : ∃ M, 64 * m = M := ⟨_, rfl⟩
  have hnm : n = M + r := by omega
  rw [hn] at hc hp ⊢
  rw [hM] at ha hl h64 ⊢
  rw [← hnm] at ha
  have hg2 := hg.set 73 (.int .u64 (n : Int))
  rw [digL_setLen hx] at hg2
  have k0 : Kp [g] w (w.setCell ⟨g, 73, none⟩ (.int .u64 (n : Int))) := (Kp.refl [g] w).set (.inl (by simp)) _
  have HBK := Lib.hid (block_any g b o m c (digL s x 0 n).toArray s s1 kt (fun j => l.getD j 0) _ hg2 rfl rfl rfl rfl rfl rfl rfl rfl (Nat.lt_of_lt_of_le h10 k0.size) (Nat.lt_of_lt_of_le hbl k0.size) (by omega) (by omega)
    (fun j hj => ⟨(k0.cell (p := ⟨b, o + j, none⟩) hbl (by simpa using hb)).trans (hp j (by omega)).1, (hp j (by omega)).2⟩) (fun j hj => (k0.cell (p := ⟨10, j, none⟩) h10 (by simpa using h10g)).trans (hk j hj)) hs)
  rw [hM] at HBK
  have HN := Lib.hid hn
  have HG := Lib.hid hg
  have HP := Lib.hid hp
  have HX := Lib.hid hx
  have HNM := Lib.hid hnm
  have HKP := Lib.hid k0
  have hge : 64 ≤ n := by omega
  have hle : n ≤ 65536 := by omega
  have hcm : M < c := by omega
  have hnm2 : M < n := by omega
  clear hg hp hn hx hl hk hs hnm hg2 k0 hM
  go_enter Tryz.func90, Tryz.ntmps90
  go_wp2
  refine wp_loop_rounds 1 ?_
  rw [rounds_succ]
  go_wp2_with fail
  refine HBK.out.mono ?_
  rintro e w1 ⟨rfl, hb1, hk1⟩
  rw [digL_put8] at hb1
  have d72 := hb1.cell (digL_nx HX.out)
  have g72 := hb1.free 72
  have HB1 := Lib.hid hb1
  have HK1 := Lib.hid (HKP.out.trans hk1)
  clear hb1 hk1 HBK HG c72 c73 f72 f73
  have hcM : ¬ c = M := by omega
  go_wp2_with (refine kit_copy rfl (.tmp 90) (.tmp 91) 22 22 rfl 5 Tryz.underlying22 ?hz g 8 64 64 b (o + M) (n - M) (c - M) rfl rfl (digL s1 x 0 n) 171 HB1.out ((l.drop M).map (Value.int .u8)) r ?hk ?hn ?hs ?hf ?h1 ?_)
  case hz => kernel_rfl
  case hk => rw [List.length_map, List.length_drop, HN.out, HNM.out]; omega
  case hn => rw [show (n - M).min 64 = min (n - M) 64 from rfl]; have := HNM.out; omega
  case hs =>
    intro j v hv
    simp only [List.getElem?_map, Option.map_eq_some_iff, List.getElem?_drop] at hv
    obtain ⟨y, hy, rfl⟩ := hv
    have hj : M + j < l.length := (List.getElem?_eq_some_iff.1 hy).1
    rw [HK1.out.cell (p := ⟨b, o + M + j, none⟩) hbl (by simpa using hb), Nat.add_assoc, (HP.out (M + j) (by rw [← HN.out]; exact hj)).1]
    simp [hy]
  case hf => rw [digL_length HX.out]; omega
  case h1 => intro v hv; simp only [List.mem_map] at hv; obtain ⟨y, _, rfl⟩ := hv; rfl
  intro w2 hb2 hk2
  have e8 := digL_splice (s := s1) (nx := 0) (len := (n : Int)) HX.out 0 (l.drop M) (by rw [List.length_drop, HN.out]; have := HNM.out; omega)
  rw [List.map_drop] at e8
  rw [Nat.add_zero] at e8
  rw [e8] at hb2
  have hx2 : (splice x 0 (l.drop M)).length = 64 := by rw [length_splice _ _ _ (by rw [HX.out, List.length_drop, HN.out]; have := HNM.out; omega)]; exact HX.out
  have d72' := hb2.cell (digL_nx hx2)
  have g72' := hb2.free 72
  have HB2 := Lib.hid hb2
  have HK2 := Lib.hid (HK1.out.trans hk2)
  have HX2 := Lib.hid hx2
  clear e8 hb2 hk2 hx2 d72 g72
  go_wp2
  go_ret2
  refine ⟨rfl, ?_, ?_⟩
  · have := HB2.out.set 72 (.int .i64 (r : Int))
    rwa [digL_setNx HX2.out] at this
  · exact HK2.out.set (.inl (by simp)) _

set_option maxRecDepth 100000 in
/-- The padding: up to the end of the buffer, one block. -/
theorem write_fill (g b o c r : Nat) (s s1 : St) (kt : Nat → Int) (x l X : List Int) (eX : splice x r l = X) (len : Int) (w : World) (hx : x.length = 64) (hg : Blk w g (digL s x r len).toArray 171)
    (hr0 : 0 < r) (hr : r < 64) (hl : l.length = 64 - r) (hlen : 0 ≤ len) (hlen2 : len ≤ 65536) (hb : b ≠ g) (hbl : b < w.heap.size) (h10 : 10 < w.heap.size) (h10g : 10 ≠ g) (hc : l.length ≤ c)
    (hxr : ∀ j, 0 ≤ X.getD j 0 ∧ X.getD j 0 ≤ 255)
    (hp : ∀ j, j < l.length → w.cell? ⟨b, o + j, none⟩ = some (.int .u8 (l.getD j 0)))
    (hk : ∀ j, j < 64 → w.cell? ⟨10, j, none⟩ = some (.int .u32 (kt j))) (hs : (shaBlk kt 64 (fun j => X.getD j 0) zeroWords s 1).2 = s1) :
    Calls Tryz.prog 90 #[.pointer (some ⟨g, 0, none⟩), .slice (some ⟨b, o, none⟩) l.length c] w fun e w' => e = .returned (.tuple #[.int .i64 l.length, .nilIface]) ∧ (∃ len', Blk w' g (digL s1 X 0 len').toArray 171) ∧ Kp [g] w w' := by
  have c72 := hg.cell (digL_nx hx)
  have c73 := hg.cell (digL_len hx)
  have f72 := hg.free 72
  have f73 := hg.free 73
  obtain ⟨n, hn⟩ : ∃ n, l.length = n := ⟨_, rfl⟩
  rw [hn] at hl hc hp ⊢
  have hlw : IntKind.u64.wrap (len + (n : Int)) = len + n := by simp only [IntKind.wrap, IntKind.bits, IntKind.signed]; simp; omega
  have hg2 := hg.set 73 (.int .u64 (len + n))
  rw [digL_setLen hx] at hg2
  have k0 : Kp [g] w (w.setCell ⟨g, 73, none⟩ (.int .u64 (len + n))) := (Kp.refl [g] w).set (.inl (by simp)) _
  have HG2 := Lib.hid (And.intro hg2 k0)
  have HN := Lib.hid hn
  have HP := Lib.hid hp
  have HX := Lib.hid hx
  have HL := Lib.hid hl
  have HK := Lib.hid hk
  have HS := Lib.hid hs
  have HXR := Lib.hid hxr
  have EX := Lib.hid eX
  have hn0 : 0 < n := by omega
  have hn64 : n < 64 := by omega
  have hrn : r + n = 64 := by omega
  have HRN := Lib.hid hrn
  have hr0' : (0 : Int) < (r : Int) := by omega
  have hr1' : (0 : Int) ≤ (r : Int) := by omega
  have hr2' : (r : Int) ≤ 64 := by omega
  have hr3' : ¬ 64 = r := by omega
  have hn0' : ¬ n = 0 := by omega
  clear hg hp hn hx hl hk hs hrn hg2 k0 hxr eX
  go_enter Tryz.func90, Tryz.ntmps90
  go_upto_region 4 with fail
  clear c72 c73 f72 f73
  generalize hwq : w.setCell ⟨g, 73, none⟩ (.int .u64 (len + n)) = wq
  rw [hwq] at HG2
  clear hwq hlw
  have d72 := HG2.out.1.cell (digL_nx HX.out)
  refine wp_region_still_tail 9 (by kernel_rfl) (by kernel_rfl) ?_
  simp only [List.take_succ_cons, List.take_zero, List.drop_succ_cons, List.drop_zero]
  repeat still_step
  refine wpStill_nil ?_
  refine kit_copy rfl (.tmp 31) (.tmp 32) 22 22 rfl 5 Tryz.underlying22 ?hz g (8 + r) (64 - r) (64 - r) b o n c rfl rfl (digL s x r (len + n)) 171 HG2.out.1.drew (l.map (Value.int .u8)) n ?hk ?hn ?hs ?hf ?h1 ?_
  case hz => kernel_rfl
  case hk => rw [List.length_map, HN.out]
  case hn => rw [show n.min (64 - r) = min n (64 - r) from rfl]; have := HRN.out; omega
  case hs =>
    intro j v hv
    simp only [List.getElem?_map, Option.map_eq_some_iff] at hv
    obtain ⟨y, hy, rfl⟩ := hv
    have hj : j < l.length := (List.getElem?_eq_some_iff.1 hy).1
    show wq.cell? ⟨b, o + j, none⟩ = _
    rw [HG2.out.2.cell (p := ⟨b, o + j, none⟩) hbl (by simpa using hb), HP.out j (by rw [← HN.out]; exact hj)]
    simp [hy]
  case hf => rw [digL_length HX.out]; have := HRN.out; omega
  case h1 => intro v hv; simp only [List.mem_map] at hv; obtain ⟨y, _, rfl⟩ := hv; rfl
  intro w2 hb2 hk2
  rw [digL_splice HX.out r l (by rw [HN.out, HRN.out]; omega)] at hb2
  have hx2 : (splice x r l).length = 64 := by rw [length_splice _ _ _ (by rw [HX.out, HN.out, HRN.out]; omega)]; exact HX.out
  have e72 := hb2.cell (digL_nx hx2)
  have g72 := hb2.free 72
  have k2 : Kp [g] w w2 := (HG2.out.2.drew).trans hk2
  have hb3 := hb2.set 72 (.int .i64 64)
  rw [digL_setNx hx2] at hb3
  have k3 : Kp [g] w (w2.setCell ⟨g, 72, none⟩ (.int .i64 64)) := k2.set (.inl (by simp)) _
  rw [EX.out] at hx2 hb2 hb3
  have HBK := Lib.hid (block_any g g 8 1 64 (digL s X 64 (len + n)).toArray s s1 kt (fun j => X.getD j 0) _ hb3 rfl rfl rfl rfl rfl rfl rfl rfl (Nat.lt_of_lt_of_le h10 k3.size) hb3.lt (by omega) (by omega)
    (fun j hj => ⟨hb3.cell (digL_x hx2 (by omega)), HXR.out j⟩) (fun j hj => (k3.cell (p := ⟨10, j, none⟩) h10 (by simpa using h10g)).trans (HK.out j hj)) HS.out)
  have HX2 := Lib.hid hx2
  have HB2 := Lib.hid hb2
  have HK3 := Lib.hid k3
  have hrw : (r : Int) + (n : Int) = 64 := by have := HRN.out; omega
  clear hx2 hb2 k2 hb3 k3 hk2 d72
  rw [Nat.mul_one] at HBK
  go_wp2_with fail
  refine HBK.out.mono ?_
  rintro e w3 ⟨rfl, hb3, hk3⟩
  rw [digL_put8] at hb3
  have j72 := hb3.cell (digL_nx HX2.out)
  have i72 := hb3.free 72
  have HB3 := Lib.hid hb3
  have HK4 := Lib.hid (HK3.out.trans hk3)
  clear hb3 hk3 HBK e72 g72
  go_wp2
  all_goals
    go_ret2
    refine ⟨rfl, ⟨len + n, ?_⟩, ?_⟩
    · have := HB3.out.set 72 (.int .i64 0)
      rwa [digL_setNx HX2.out] at this
    · exact HK4.out.set (.inl (by simp)) _

end Go.Proofs.YtfkaldaflnmfiaaGreatDoor
