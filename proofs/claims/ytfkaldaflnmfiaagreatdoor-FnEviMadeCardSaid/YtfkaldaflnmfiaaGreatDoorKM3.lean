/- The plain law of FnEviMade: no program in sight. -/
import Derived.Test.YtfkaldaflnmfiaaGreatDoorKDu
import Derived.Test.YtfkaldaflnmfiaaGreatDoorKGu
import Derived.Test.YtfkaldaflnmfiaaGreatDoorKDb
import Derived.WalkKit
import Derived.WalkSpells
import Derived.WalkLawsBesides
import Derived.Handy
import Derived.Lib.Hide
import Derived.IntWalk
import Derived.Deep.DeepCutAuto
import Derived.Test.YtfkaldaflnmfiaaGreatDoorKSt
namespace Go.Proofs.YtfkaldaflnmfiaaGreatDoor
set_option linter.unusedSimpArgs false
set_option linter.unusedVariables false
open Go Go.RowKit

/-- Votes for one block. -/
def SameB (A B : VD) : Prop := A.hash = B.hash ∧ A.total = B.total ∧ A.parts = B.parts
theorem SameB.symm {A B : VD} (h : SameB A B) : SameB B A := ⟨h.1.symm, h.2.1.symm, h.2.2.symm⟩

/-! ### Keys -/
theorem keyV_bs {A : VD} (h : A.ok) : Bs (keyV A) := keyL_bs h.hash.1 h.parts.1 h.total (by have := h.parts.2; omega)
theorem keyV_eq {A B : VD} (okA : A.ok) (okB : B.ok) (lA : Lens A) (lB : Lens B) : cmpB (keyV A) (keyV B) = 0 ↔ SameB A B := by
  rw [cmpB_zero (keyV_bs okA) (keyV_bs okB)]
  exact keyL_eq lA lB okA.total okB.total
theorem turned_rev {A B X Y : VD} (h : Turned A B X Y) : cmpB (keyV Y) (keyV X) ≠ -1 := by
  rcases h with ⟨rfl, rfl, h⟩ | ⟨rfl, rfl, h⟩
  · rw [cmpB_rev, h]
    decide
  · exact h
theorem turned_fwd {A B X Y : VD} (okA : A.ok) (okB : B.ok) (lA : Lens A) (lB : Lens B) (h : Turned A B X Y) : cmpB (keyV X) (keyV Y) = -1 ↔ ¬ SameB A B := by
  rw [← keyV_eq okA okB lA lB]
  rcases h with ⟨rfl, rfl, h⟩ | ⟨rfl, rfl, h⟩
  · rw [h]
    simp
  · rw [cmpB_rev]
    rcases cmpB_three (keyV Y) (keyV X) with h1 | h1 | h1
    · exact absurd h1 h
    · rw [h1]; simp
    · rw [h1]; simp
theorem turned_same {A B X Y X' Y' : VD} (okA : A.ok) (okB : B.ok) (lA : Lens A) (lB : Lens B) (hn : ¬ SameB A B) (h : Turned A B X Y) (h' : Turned B A X' Y') : X' = X ∧ Y' = Y := by
  rw [← keyV_eq okA okB lA lB] at hn
  have hr := cmpB_rev (keyV A) (keyV B)
  rcases h with ⟨rfl, rfl, h⟩ | ⟨rfl, rfl, h⟩
  · rcases h' with ⟨rfl, rfl, h'⟩ | ⟨rfl, rfl, h'⟩
    · rw [h, h'] at hr
      exact absurd hr (by decide)
    · exact ⟨rfl, rfl⟩
  · rcases h' with ⟨rfl, rfl, h'⟩ | ⟨rfl, rfl, h'⟩
    · exact ⟨rfl, rfl⟩
    · rcases cmpB_three (keyV X') (keyV Y') with h1 | h1 | h1
      · exact absurd h1 h
      · exact absurd h1 hn
      · rw [h1] at hr
        exact absurd hr h'

/-! ### The set and the seats -/
section
variable {kt : Nat → Int} {P : List Int} {n : Nat} {Lk : List (List Int × Int)} {Q : List Sp}
theorem lk_uniq (hten : Ten kt) (hn : n ≤ 7) (hL : Lk.Perm (KP P n)) {V V' : List Int × Int} (hV : V ∈ Lk) (hV' : V' ∈ Lk) (h : addr kt V.1 = addr kt V'.1) : V = V' := by
  obtain ⟨j, hj, rfl⟩ := KP_mem (hL.mem_iff.1 hV)
  obtain ⟨j', hj', rfl⟩ := KP_mem (hL.mem_iff.1 hV')
  have e := hten j j' (by omega) (by omega) (by omega) (by omega) h
  obtain rfl : j = j' := by omega
  rfl
theorem lk_seat (hL : Lk.Perm (KP P n)) (hQ : (Q.map Sp.ap).Perm (((KP P n).map (spOf kt)).map Sp.ap)) {V : List Int × Int} (hV : V ∈ Lk) : ∃ S ∈ Q, S.a = addr kt V.1 := by
  have h12 : Sp.ap (spOf kt V) ∈ Q.map Sp.ap := hQ.mem_iff.2 (List.mem_map_of_mem (List.mem_map_of_mem (hL.mem_iff.1 hV)))
  obtain ⟨S, hS, eS⟩ := List.mem_map.1 h12
  exact ⟨S, hS, congrArg Prod.fst eS⟩
theorem seat_lk (hL : Lk.Perm (KP P n)) (hQ : (Q.map Sp.ap).Perm (((KP P n).map (spOf kt)).map Sp.ap)) {S : Sp} (hS : S ∈ Q) : ∃ V ∈ Lk, addr kt V.1 = S.a ∧ V.2 = S.pow := by
  have h1 : S.ap ∈ ((KP P n).map (spOf kt)).map Sp.ap := hQ.mem_iff.1 (List.mem_map_of_mem hS)
  obtain ⟨U, hU, e1⟩ := List.mem_map.1 h1
  obtain ⟨d, hd, rfl⟩ := List.mem_map.1 hU
  exact ⟨d, hL.mem_iff.2 hd, congrArg Prod.fst e1, congrArg Prod.snd e1⟩
theorem found_law (hten : Ten kt) (hn : n ≤ 7) (hL : Lk.Perm (KP P n)) (hQ : (Q.map Sp.ap).Perm (((KP P n).map (spOf kt)).map Sp.ap)) {a : List Int} {V : List Int × Int} (hV : V ∈ Lk) (ha : addr kt V.1 = a) {r : Int} (hf : FoundS Q a r) : ∃ (i : Nat) (S : Sp), r = i ∧ Q[i]? = some S ∧ S.a = a ∧ S.pow = V.2 := by
  rcases hf with ⟨_, hno⟩ | ⟨i, S, hi, hS, hSa⟩
  · obtain ⟨S, hS, e⟩ := lk_seat hL hQ hV
    exact absurd (e.trans ha) (hno S hS)
  · refine ⟨i, S, hi, hS, hSa, ?_⟩
    obtain ⟨V', hV', e1, e2⟩ := seat_lk hL hQ (List.mem_of_getElem? hS)
    have e3 := lk_uniq hten hn hL hV hV' (ha.trans (hSa.symm.trans e1.symm))
    rw [← e2, e3]
theorem none_law (hL : Lk.Perm (KP P n)) (hQ : (Q.map Sp.ap).Perm (((KP P n).map (spOf kt)).map Sp.ap)) {a : List Int} (hno : ∀ V ∈ Lk, addr kt V.1 ≠ a) {r : Int} (hf : FoundS Q a r) : r = -1 := by
  rcases hf with ⟨h, _⟩ | ⟨i, S, hi, hS, hSa⟩
  · exact h
  · obtain ⟨V', hV', e1, _⟩ := seat_lk hL hQ (List.mem_of_getElem? hS)
    exact absurd (e1.trans hSa) (hno V' hV')
theorem sum_law (hL : Lk.Perm (KP P n)) (hQ : (Q.map Sp.ap).Perm (((KP P n).map (spOf kt)).map Sp.ap)) : (Lk.map Prod.snd).sum = powS Q := by
  have h1 := (hQ.map Prod.snd)
  have h2 := hL.map Prod.snd
  rw [List.map_map, List.map_map, List.map_map] at h1
  have e1 : Q.map (Prod.snd ∘ Sp.ap) = Q.map Sp.pow := rfl
  have e2 : (KP P n).map (Prod.snd ∘ (Sp.ap ∘ spOf kt)) = (KP P n).map Prod.snd := rfl
  unfold powS
  rw [← e1, sum_perm h1, sum_perm h2]
  rfl
/-- What the evidence proves does not hang on the order of the votes. -/
theorem guilty_swap {L : List (List Int × Int)} {A B : VD} {x y : Int} (h : Guilty kt L A B x y) : Guilty kt L B A x y := by
  obtain ⟨V, hV, ha, h1, h2, h3, h4, h5, h6, h7, h8, h9⟩ := h
  exact ⟨V, hV, ha.trans h4, h1.symm, h2.symm, h3.symm, h4.symm, fun h => h5 (SameB.symm h), h6, h7, h9, h8⟩
/-- The evidence that is made proves just what the votes prove. -/
theorem made_law (hten : Ten kt) (hn : n ≤ 7) (hL : Lk.Perm (KP P n)) (hQ : (Q.map Sp.ap).Perm (((KP P n).map (spOf kt)).map Sp.ap)) {x y : Sd} (hx : x.ok) (hy : y.ok) {sg1 sg2 : List Int} {r1 r2 : Bool} (hr1 : r1 = true ↔ sgn kt (keyN x.from) (sb (x.vd kt sg1)) = sg1) (hr2 : r2 = true ↔ sgn kt (keyN y.from) (sb (y.vd kt sg2)) = sg2) {V : List Int × Int} (hV : V ∈ Lk) (ha : addr kt V.1 = (x.vd kt sg1).addr) {r : Int} (hf : FoundS Q (x.vd kt sg1).addr r) {X Y : VD} (ht : Turned (x.vd kt sg1) (y.vd kt sg2) X Y) :
    ((x.vd kt sg1).height = (y.vd kt sg2).height ∧ (x.vd kt sg1).round = (y.vd kt sg2).round ∧ (x.vd kt sg1).typ = (y.vd kt sg2).typ ∧ (x.vd kt sg1).addr = (y.vd kt sg2).addr ∧ ¬ SameB (x.vd kt sg1) (y.vd kt sg2) ∧ r1 = true ∧ r2 = true) ↔ Guilty kt Lk X Y (Lk.map Prod.snd).sum V.2 := by
  have hg := guilty_law hten hn hL hQ hx hy hr1 hr2 (power := V.2) (total := (Lk.map Prod.snd).sum) hf
  obtain ⟨i, S, h1, h2, h3, h4⟩ := found_law hten hn hL hQ hV ha hf
  have hXY : Guilty kt Lk X Y (Lk.map Prod.snd).sum V.2 ↔ Guilty kt Lk (x.vd kt sg1) (y.vd kt sg2) (Lk.map Prod.snd).sum V.2 := by
    rcases ht with ⟨rfl, rfl, _⟩ | ⟨rfl, rfl, _⟩
    · exact Iff.rfl
    · exact ⟨guilty_swap, guilty_swap⟩
  rw [hXY, ← hg]
  constructor
  · intro h
    exact ⟨⟨i, S, h1, h2, h4⟩, (sum_law hL hQ).symm, h⟩
  · intro h
    exact h.2.2
end
/-- A vote that is made is fit. -/
theorem Sd.fit {kt : Nat → Int} {x : Sd} (h : x.ok) {sg : List Int} (hs : sg.length = 32) : (x.vd kt sg).fit := by
  have a0 := h.ty
  have a1 := h.he
  have a2 := h.ro
  have a4 := h.wh
  refine ⟨?_, ?_, ?_, ?_, ?_, ?_, hs⟩
  · show (1 + x.ty % 2 = 1 ∨ 1 + x.ty % 2 = 2)
    omega
  · show 0 < 1 + x.he % 3
    omega
  · show 0 ≤ x.ro % 3
    omega
  · show Whole (idH x.bl).length (idT x.bl) (idP x.bl).length
    unfold idH idT idP Whole
    have := h.bl
    split
    · exact .inl ⟨rfl, rfl, rfl⟩
    · refine .inr ⟨by simp, by omega, by simp⟩
  · exact addr_length kt _
  · show 0 ≤ x.wh % 10
    omega
end Go.Proofs.YtfkaldaflnmfiaaGreatDoor
/- Regions of FnEviMade: the evidence with its votes exchanged; which evidence is valid. Printed by gen/made.py. -/
namespace Go.Proofs.YtfkaldaflnmfiaaGreatDoor
set_option linter.unusedSimpArgs false
set_option linter.unusedVariables false
open Go Go.RowKit
set_option maxRecDepth 100000
set_option maxHeartbeats 8000000 in
theorem turn_reg {u0 u1 u2 u3 u4 u5 u6 u7 u8 u9 u10 u11 u12 u13 u14 u15 u17 u18 u19 u20 u21 u22 u23 u24 u25 u26 u27 u28 u29 u30 u31 u32 u33 u34 u35 u36 u37 u38 u39 u40 u41 u42 u43 u44 u45 u46 u47 u48 u49 u50 u51 u52 u53 u54 u55 u56 u57 u58 u59 u60 u61 u62 u63 u64 u65 u66 u67 u68 u69 u70 u71 u72 u73 u74 u75 u76 u77 u78 u79 u80 u81 u82 u83 u84 u85 u86 u87 u88 u89 u90 u91 u92 u93 u94 u95 u96 u97 u98 u99 u100 u101 u102 u103 u104 u105 u106 u107 u108 u109 u110 u111 u112 u113 u114 u115 u116 u117 u118 u119 u120 u121 u122 u123 u124 u125 u126 u127 u128 u129 u130 u131 u132 u133 u134 u135 u136 u137 u138 u139 u140 u141 u142 u143 u144 u145 u146 u147 u148 u149 u150 u151 u152 u153 u154 u155 u156 u157 u158 u159 u160 u161 u162 u163 u164 u165 u166 u167 u168 u169 u170 u171 u172 u173 u174 u175 u176 u177 u178 u179 u180 u181 u182 u183 u184 u185 u186 u187 u188 u189 u190 u191 u192 u193 u194 u195 u196 u197 u198 u199 u200 u201 u202 u203 u204 u205 u206 u207 u208 u209 u210 u211 u212 u213 u214 u215 u216 u217 u218 u219 u220 u221 u222 u223 u224 u225 u226 u227 u228 u229 u230 u231 u232 : Value} {K : Act → World → Prop} {Q0 : Exit → Act → World → Prop} (X Y : VD) (gE : Nat) (xh xp xa xs_ yh yp ya ys_ : Option Addr) (nxh cxh nxp cxp nxa cxa nxs cxs nyh cyh nyp cyp nya cya nys cys : Nat) (tot pw tm : Int) (W0 : World) (hgE : Blk W0 gE (eviV X Y (.slice xh nxh cxh) (.slice xp nxp cxp) (.slice xa nxa cxa) (.slice xs_ nxs cxs) (.slice yh nyh cyh) (.slice yp nyp cyp) (.slice ya nya cya) (.slice ys_ nys cys) tot pw tm) 39)
    (hK : ∀ (v161 v162 v163 v164 v165 v166 v167 v168 v169 v170 v171 : Value) (gT : Nat) (W : World), Kp [] W0 W → Blk W gT (eviV Y X (.slice yh nyh cyh) (.slice yp nyp cyp) (.slice ya nya cya) (.slice ys_ nys cys) (.slice xh nxh cxh) (.slice xp nxp cxp) (.slice xa nxa cxa) (.slice xs_ nxs cxs) tot pw tm) 39 → K ⟨#[u0, u1, u2, u3, u4, u5, u6, u7, u8, u9, u10, u11, u12, u13, u14, u15, .pointer (some ⟨gE, 0, none⟩), u17, u18, u19, u20, u21, u22, .pointer (some ⟨gT, 0, none⟩), u24, u25, u26, u27, u28, u29, u30, u31, u32, u33, u34, u35, u36, u37, u38, u39, u40, u41, u42, u43, u44, u45, u46, u47, u48, u49, u50, u51, u52, u53, u54, u55, u56, u57, u58, u59, u60, u61, u62, u63, u64, u65, u66, u67, u68, u69, u70, u71, u72, u73, u74, u75, u76, u77, u78, u79, u80, u81, u82, u83, u84, u85, u86, u87, u88, u89, u90, u91, u92, u93, u94, u95, u96, u97, u98, u99, u100, u101, u102, u103, u104, u105, u106, u107, u108, u109, u110, u111, u112, u113, u114, u115, u116, u117, u118, u119, u120, u121, u122, u123, u124, u125, u126, u127, u128, u129, u130, u131, u132, u133, u134, u135, u136, u137, u138, u139, u140, u141, u142, u143, u144, u145, u146, u147, u148, u149, u150, u151, u152, u153, u154, u155, u156, u157, u158, u159, u160, v161, v162, v163, v164, v165, v166, v167, v168, v169, v170, v171, u172, u173, u174, u175, u176, u177, u178, u179, u180, u181, u182, u183, u184, u185, u186, u187, u188, u189, u190, u191, u192, u193, u194, u195, u196, u197, u198, u199, u200, u201, u202, u203, u204, u205, u206, u207, u208, u209, u210, u211, u212, u213, u214, u215, u216, u217, u218, u219, u220, u221, u222, u223, u224, u225, u226, u227, u228, u229, u230, u231, u232], []⟩ W) :
    Code.wp Tryz.prog (codeAt Tryz.f4 [1, 1, 1, 1, 1, 1, 1, 1, 1, 1, 1, 1, 1, 1, 0]) (Exit.then K Q0) ⟨#[u0, u1, u2, u3, u4, u5, u6, u7, u8, u9, u10, u11, u12, u13, u14, u15, .pointer (some ⟨gE, 0, none⟩), u17, u18, u19, u20, u21, u22, u23, u24, u25, u26, u27, u28, u29, u30, u31, u32, u33, u34, u35, u36, u37, u38, u39, u40, u41, u42, u43, u44, u45, u46, u47, u48, u49, u50, u51, u52, u53, u54, u55, u56, u57, u58, u59, u60, u61, u62, u63, u64, u65, u66, u67, u68, u69, u70, u71, u72, u73, u74, u75, u76, u77, u78, u79, u80, u81, u82, u83, u84, u85, u86, u87, u88, u89, u90, u91, u92, u93, u94, u95, u96, u97, u98, u99, u100, u101, u102, u103, u104, u105, u106, u107, u108, u109, u110, u111, u112, u113, u114, u115, u116, u117, u118, u119, u120, u121, u122, u123, u124, u125, u126, u127, u128, u129, u130, u131, u132, u133, u134, u135, u136, u137, u138, u139, u140, u141, u142, u143, u144, u145, u146, u147, u148, u149, u150, u151, u152, u153, u154, u155, u156, u157, u158, u159, u160, u161, u162, u163, u164, u165, u166, u167, u168, u169, u170, u171, u172, u173, u174, u175, u176, u177, u178, u179, u180, u181, u182, u183, u184, u185, u186, u187, u188, u189, u190, u191, u192, u193, u194, u195, u196, u197, u198, u199, u200, u201, u202, u203, u204, u205, u206, u207, u208, u209, u210, u211, u212, u213, u214, u215, u216, u217, u218, u219, u220, u221, u222, u223, u224, u225, u226, u227, u228, u229, u230, u231, u232], []⟩ W0 := by
  have c0 : ∀ W, Kp [] W0 W → W.cell? ⟨gE, 0, none⟩ = some (.int .i64 X.typ) := hgE.all 0 rfl
  have c1 : ∀ W, Kp [] W0 W → W.cell? ⟨gE, 1, none⟩ = some (.int .i64 X.height) := hgE.all 1 rfl
  have c2 : ∀ W, Kp [] W0 W → W.cell? ⟨gE, 2, none⟩ = some (.int .i64 X.round) := hgE.all 2 rfl
  have c3 : ∀ W, Kp [] W0 W → W.cell? ⟨gE, 3, none⟩ = some (.slice xh nxh cxh) := hgE.all 3 rfl
  have c4 : ∀ W, Kp [] W0 W → W.cell? ⟨gE, 4, none⟩ = some (.int .i64 X.total) := hgE.all 4 rfl
  have c5 : ∀ W, Kp [] W0 W → W.cell? ⟨gE, 5, none⟩ = some (.slice xp nxp cxp) := hgE.all 5 rfl
  have c6 : ∀ W, Kp [] W0 W → W.cell? ⟨gE, 6, none⟩ = some (.int .i64 X.time) := hgE.all 6 rfl
  have c7 : ∀ W, Kp [] W0 W → W.cell? ⟨gE, 7, none⟩ = some (.slice xa nxa cxa) := hgE.all 7 rfl
  have c8 : ∀ W, Kp [] W0 W → W.cell? ⟨gE, 8, none⟩ = some (.int .i64 X.index) := hgE.all 8 rfl
  have c9 : ∀ W, Kp [] W0 W → W.cell? ⟨gE, 9, none⟩ = some (.slice xs_ nxs cxs) := hgE.all 9 rfl
  have c10 : ∀ W, Kp [] W0 W → W.cell? ⟨gE, 10, none⟩ = some (.slice none 0 0) := hgE.all 10 rfl
  have c11 : ∀ W, Kp [] W0 W → W.cell? ⟨gE, 11, none⟩ = some (.slice none 0 0) := hgE.all 11 rfl
  have c12 : ∀ W, Kp [] W0 W → W.cell? ⟨gE, 12, none⟩ = some (.int .i64 Y.typ) := hgE.all 12 rfl
  have c13 : ∀ W, Kp [] W0 W → W.cell? ⟨gE, 13, none⟩ = some (.int .i64 Y.height) := hgE.all 13 rfl
  have c14 : ∀ W, Kp [] W0 W → W.cell? ⟨gE, 14, none⟩ = some (.int .i64 Y.round) := hgE.all 14 rfl
  have c15 : ∀ W, Kp [] W0 W → W.cell? ⟨gE, 15, none⟩ = some (.slice yh nyh cyh) := hgE.all 15 rfl
  have c16 : ∀ W, Kp [] W0 W → W.cell? ⟨gE, 16, none⟩ = some (.int .i64 Y.total) := hgE.all 16 rfl
  have c17 : ∀ W, Kp [] W0 W → W.cell? ⟨gE, 17, none⟩ = some (.slice yp nyp cyp) := hgE.all 17 rfl
  have c18 : ∀ W, Kp [] W0 W → W.cell? ⟨gE, 18, none⟩ = some (.int .i64 Y.time) := hgE.all 18 rfl
  have c19 : ∀ W, Kp [] W0 W → W.cell? ⟨gE, 19, none⟩ = some (.slice ya nya cya) := hgE.all 19 rfl
  have c20 : ∀ W, Kp [] W0 W → W.cell? ⟨gE, 20, none⟩ = some (.int .i64 Y.index) := hgE.all 20 rfl
  have c21 : ∀ W, Kp [] W0 W → W.cell? ⟨gE, 21, none⟩ = some (.slice ys_ nys cys) := hgE.all 21 rfl
  have c22 : ∀ W, Kp [] W0 W → W.cell? ⟨gE, 22, none⟩ = some (.slice none 0 0) := hgE.all 22 rfl
  have c23 : ∀ W, Kp [] W0 W → W.cell? ⟨gE, 23, none⟩ = some (.slice none 0 0) := hgE.all 23 rfl
  have c24 : ∀ W, Kp [] W0 W → W.cell? ⟨gE, 24, none⟩ = some (.int .i64 tot) := hgE.all 24 rfl
  have c25 : ∀ W, Kp [] W0 W → W.cell? ⟨gE, 25, none⟩ = some (.int .i64 pw) := hgE.all 25 rfl
  have c26 : ∀ W, Kp [] W0 W → W.cell? ⟨gE, 26, none⟩ = some (.int .i64 tm) := hgE.all 26 rfl
  have HK := Lib.hid hK
  clear hgE hK
  conv => arg 2; whnf
  go_wp2_with (first
    | (refine kit_build rfl 39 #[(0, .tmp 162), (1, .tmp 164), (2, .tmp 166), (3, .tmp 168), (4, .tmp 170)] rfl _ rfl (eviV Y X (.slice yh nyh cyh) (.slice yp nyp cyp) (.slice ya nya cya) (.slice ys_ nys cys) (.slice xh nxh cxh) (.slice xp nxp cxp) (.slice xa nxa cxa) (.slice xs_ nxs cxs) tot pw tm) (by kernel_rfl) ?_)
    | (refine kit_store_last rfl 39 _ _ rfl rfl W0.heap.size (eviV Y X (.slice yh nyh cyh) (.slice yp nyp cyp) (.slice ya nya cya) (.slice ys_ nys cys) (.slice xh nxh cxh) (.slice xp nxp cxp) (.slice xa nxa cxa) (.slice xs_ nxs cxs) tot pw tm) eviZ rfl rfl rfl hi39 rfl (evi_one _ _ _ _ _ _ _ _ _ _ _ _ _ _ _ _ _ _ _ _ _ _ _ _ _ _ _ _ _) ?_))
  exact HK.out _ _ _ _ _ _ _ _ _ _ _ _ _ ((Kp.refl [] W0).alloc _) (Blk.new W0 _ 39)
set_option maxHeartbeats 8000000 in
theorem valid_reg {u0 u1 u2 u3 u4 u5 u6 u7 u8 u9 u10 u11 u12 u13 u14 u15 u17 u18 u20 u21 u22 u25 u26 u27 u28 u29 u30 u31 u32 u33 u34 u35 u36 u37 u38 u39 u40 u41 u42 u43 u44 u45 u46 u47 u48 u49 u50 u51 u52 u53 u54 u55 u56 u57 u58 u59 u60 u61 u62 u63 u64 u65 u66 u67 u68 u69 u70 u71 u72 u73 u74 u75 u76 u77 u78 u79 u80 u81 u82 u83 u84 u85 u86 u87 u88 u89 u90 u91 u92 u93 u94 u95 u96 u97 u98 u99 u100 u101 u102 u103 u104 u105 u106 u107 u108 u109 u110 u111 u112 u113 u114 u115 u116 u117 u118 u119 u120 u121 u122 u123 u124 u125 u126 u127 u128 u129 u130 u131 u132 u133 u134 u135 u136 u137 u138 u139 u140 u141 u142 u143 u144 u145 u146 u147 u148 u149 u150 u151 u152 u153 u154 u155 u156 u157 u158 u159 u160 u161 u162 u163 u164 u165 u166 u167 u168 u169 u170 u171 u172 u173 u174 u175 u176 u177 u178 u179 u180 u181 u182 u183 u184 u185 u186 u187 u188 u189 u190 u191 u192 u193 u194 u195 u196 u197 u198 u199 u200 u201 u202 u203 u204 u205 u206 u207 u208 u209 u210 u211 u212 u213 u214 u215 u216 u217 u218 u219 u220 u221 u222 u223 u224 u225 u226 u227 u228 u229 u230 u231 u232 : Value} {K : Act → World → Prop} {Q0 : Exit → Act → World → Prop} (A B X Y : VD) (okA : A.ok) (okB : B.ok) (okX : X.ok) (okY : Y.ok) (fX : X.fit) (fY : Y.fit) (gE gT : Nat) (xh xp xa xs_ yh yp ya ys_ : Option Addr) (nxh cxh nxp cxp nxa cxa nxs cxs nyh cyh nyp cyp nya cya nys cys : Nat) (tot pw tm : Int) (W0 : World) (hgE : Blk W0 gE (eviV X Y (.slice xh nxh cxh) (.slice xp nxp cxp) (.slice xa nxa cxa) (.slice xs_ nxs cxs) (.slice yh nyh cyh) (.slice yp nyp cyp) (.slice ya nya cya) (.slice ys_ nys cys) tot pw tm) 39) (hgT : Blk W0 gT (eviV Y X (.slice yh nyh cyh) (.slice yp nyp cyp) (.slice ya nya cya) (.slice ys_ nys cys) (.slice xh nxh cxh) (.slice xp nxp cxp) (.slice xa nxa cxa) (.slice xs_ nxs cxs) tot pw tm) 39) (hX : VoteB W0 X (.slice xh nxh cxh) (.slice xp nxp cxp) (.slice xa nxa cxa) (.slice xs_ nxs cxs)) (hY : VoteB W0 Y (.slice yh nyh cyh) (.slice yp nyp cyp) (.slice ya nya cya) (.slice ys_ nys cys)) (sm : Bool) (lA : Lens A) (lB : Lens B) (ht : Turned A B X Y) (hsm : sm = true ↔ SameB A B)
    (hK : ∀ (v178 v179 v180 v181 v182 v183 v184 v185 v186 v187 v188 : Value)  (W : World), Kp [] W0 W → K ⟨#[u0, u1, u2, u3, u4, u5, u6, u7, u8, u9, u10, u11, u12, u13, u14, u15, .pointer (some ⟨gE, 0, none⟩), u17, u18, .bool sm, u20, u21, u22, .pointer (some ⟨gT, 0, none⟩), .bool true, u25, u26, u27, u28, u29, u30, u31, u32, u33, u34, u35, u36, u37, u38, u39, u40, u41, u42, u43, u44, u45, u46, u47, u48, u49, u50, u51, u52, u53, u54, u55, u56, u57, u58, u59, u60, u61, u62, u63, u64, u65, u66, u67, u68, u69, u70, u71, u72, u73, u74, u75, u76, u77, u78, u79, u80, u81, u82, u83, u84, u85, u86, u87, u88, u89, u90, u91, u92, u93, u94, u95, u96, u97, u98, u99, u100, u101, u102, u103, u104, u105, u106, u107, u108, u109, u110, u111, u112, u113, u114, u115, u116, u117, u118, u119, u120, u121, u122, u123, u124, u125, u126, u127, u128, u129, u130, u131, u132, u133, u134, u135, u136, u137, u138, u139, u140, u141, u142, u143, u144, u145, u146, u147, u148, u149, u150, u151, u152, u153, u154, u155, u156, u157, u158, u159, u160, u161, u162, u163, u164, u165, u166, u167, u168, u169, u170, u171, u172, u173, u174, u175, u176, u177, v178, v179, v180, v181, v182, v183, v184, v185, v186, v187, v188, .bool false, u190, u191, u192, u193, u194, u195, u196, u197, u198, u199, u200, u201, u202, u203, u204, u205, u206, u207, u208, u209, u210, u211, u212, u213, u214, u215, u216, u217, u218, u219, u220, u221, u222, u223, u224, u225, u226, u227, u228, u229, u230, u231, u232], []⟩ W) :
    Code.wp Tryz.prog (codeAt Tryz.f4 [1, 1, 1, 1, 1, 1, 1, 1, 1, 1, 1, 1, 1, 1, 1, 1, 0, 0]) (Exit.then K Q0) ⟨#[u0, u1, u2, u3, u4, u5, u6, u7, u8, u9, u10, u11, u12, u13, u14, u15, .pointer (some ⟨gE, 0, none⟩), u17, u18, .bool sm, u20, u21, u22, .pointer (some ⟨gT, 0, none⟩), .bool true, u25, u26, u27, u28, u29, u30, u31, u32, u33, u34, u35, u36, u37, u38, u39, u40, u41, u42, u43, u44, u45, u46, u47, u48, u49, u50, u51, u52, u53, u54, u55, u56, u57, u58, u59, u60, u61, u62, u63, u64, u65, u66, u67, u68, u69, u70, u71, u72, u73, u74, u75, u76, u77, u78, u79, u80, u81, u82, u83, u84, u85, u86, u87, u88, u89, u90, u91, u92, u93, u94, u95, u96, u97, u98, u99, u100, u101, u102, u103, u104, u105, u106, u107, u108, u109, u110, u111, u112, u113, u114, u115, u116, u117, u118, u119, u120, u121, u122, u123, u124, u125, u126, u127, u128, u129, u130, u131, u132, u133, u134, u135, u136, u137, u138, u139, u140, u141, u142, u143, u144, u145, u146, u147, u148, u149, u150, u151, u152, u153, u154, u155, u156, u157, u158, u159, u160, u161, u162, u163, u164, u165, u166, u167, u168, u169, u170, u171, u172, u173, u174, u175, u176, u177, u178, u179, u180, u181, u182, u183, u184, u185, u186, u187, u188, u189, u190, u191, u192, u193, u194, u195, u196, u197, u198, u199, u200, u201, u202, u203, u204, u205, u206, u207, u208, u209, u210, u211, u212, u213, u214, u215, u216, u217, u218, u219, u220, u221, u222, u223, u224, u225, u226, u227, u228, u229, u230, u231, u232], []⟩ W0 := by
  have HV := Lib.hid (fun (W : World) (k : Kp [] W0 W) => evValid_any X Y okX okY fX fY (.slice xh nxh cxh) (.slice xp nxp cxp) (.slice xa nxa cxa) (.slice xs_ nxs cxs) (.slice yh nyh cyh) (.slice yp nyp cyp) (.slice ya nya cya) (.slice ys_ nys cys) tot pw tm W (hX.kp k) (hY.kp k))
  have HW := Lib.hid (fun (W : World) (k : Kp [] W0 W) => evValid_any Y X okY okX fY fX (.slice yh nyh cyh) (.slice yp nyp cyp) (.slice ya nya cya) (.slice ys_ nys cys) (.slice xh nxh cxh) (.slice xp nxp cxp) (.slice xa nxa cxa) (.slice xs_ nxs cxs) tot pw tm W (hY.kp k) (hX.kp k))
  have hf := turned_fwd okA okB lA lB ht
  have hr := turned_rev ht
  have H := Lib.hid (And.intro hgE (And.intro hgT (And.intro hf (And.intro hr hsm))))
  have HK := Lib.hid hK
  clear hgE hgT hf hr hsm hK hX hY ht
  conv => arg 2; whnf
  go_wp2_with (refine kit_load rfl 39 (.tmp 16) rfl _ rfl gE rfl (eviV X Y (.slice xh nxh cxh) (.slice xp nxp cxp) (.slice xa nxa cxa) (.slice xs_ nxs cxs) (.slice yh nyh cyh) (.slice yp nyp cyp) (.slice ya nya cya) (.slice ys_ nys cys) tot pw tm) 39 H.out.1 _ Tryz.underlying39 rfl hi39 ?_)
  refine (HV.out W0 (Kp.refl [] W0)).mono ?_
  rintro e w1 ⟨r, rfl, hr, k1⟩
  have hrs : r = !sm := by
    have h1 := H.out.2.2.2.2
    have h2 := hr.trans H.out.2.2.1
    cases r <;> cases sm
    · exact absurd (h2.2 (fun h => absurd (h1.2 h) (by decide))) (by decide)
    · rfl
    · rfl
    · exact absurd (h1.1 rfl) (h2.1 rfl)
  subst hrs
  clear hr
  have K1 := Lib.hid k1
  clear k1
  cases sm with
  | true =>
    go_wp2_with (refine kit_load_w (by kernel_rfl) 39 (.tmp 23) rfl gT rfl (eviV Y X (.slice yh nyh cyh) (.slice yp nyp cyp) (.slice ya nya cya) (.slice ys_ nys cys) (.slice xh nxh cxh) (.slice xp nxp cxp) (.slice xa nxa cxa) (.slice xs_ nxs cxs) tot pw tm) 39 (K1.out.blk H.out.2.1 (by simp)) _ Tryz.underlying39 rfl hi39 ?_)
    refine (HW.out w1 K1.out).mono ?_
    rintro e w2 ⟨r, rfl, hr, k2⟩
    obtain rfl : r = false := by
      cases r
      · rfl
      · exact absurd (hr.1 rfl) H.out.2.2.2.1
    have K2 := Lib.hid (K1.out.trans k2)
    clear k2 hr
    go_wp2_with fail
    exact HK.out _ _ _ _ _ _ _ _ _ _ _ _ K2.out
  | false =>
    go_wp2_with (refine kit_load_w (by kernel_rfl) 39 (.tmp 23) rfl gT rfl (eviV Y X (.slice yh nyh cyh) (.slice yp nyp cyp) (.slice ya nya cya) (.slice ys_ nys cys) (.slice xh nxh cxh) (.slice xp nxp cxp) (.slice xa nxa cxa) (.slice xs_ nxs cxs) tot pw tm) 39 (K1.out.blk H.out.2.1 (by simp)) _ Tryz.underlying39 rfl hi39 ?_)
    refine (HW.out w1 K1.out).mono ?_
    rintro e w2 ⟨r, rfl, hr, k2⟩
    obtain rfl : r = false := by
      cases r
      · rfl
      · exact absurd (hr.1 rfl) H.out.2.2.2.1
    have K2 := Lib.hid (K1.out.trans k2)
    clear k2 hr
    go_wp2_with fail
    exact HK.out _ _ _ _ _ _ _ _ _ _ _ _ K2.out
end Go.Proofs.YtfkaldaflnmfiaaGreatDoor
