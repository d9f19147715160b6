/- A region of FnEviMade: are the powers and the time right. Printed by gen/made.py. -/
import Derived.WalkKit
import Derived.WalkSpells
import Derived.WalkLawsBesides
import Derived.Handy
import Derived.Lib.Hide
import Derived.IntWalk
import Derived.Deep.DeepCutAuto
import Derived.Test.YtfkaldaflnmfiaaGreatDoorKM5
namespace Go.Proofs.YtfkaldaflnmfiaaGreatDoor
set_option linter.unusedSimpArgs false
set_option linter.unusedVariables false
open Go Go.RowKit
set_option maxRecDepth 100000
set_option maxHeartbeats 40000000 in
theorem right_true {u0 u1 u2 u4 u5 u6 u7 u8 u9 u11 u13 u15 u17 u19 u21 u22 u23 u24 u25 u26 u27 u28 u29 u30 u31 u32 u33 u34 u35 u36 u37 u38 u39 u40 u41 u42 u43 u44 u45 u46 u47 u48 u49 u50 u51 u52 u53 u54 u55 u56 u57 u58 u59 u60 u61 u62 u63 u64 u65 u66 u67 u68 u69 u70 u71 u72 u73 u74 u75 u76 u77 u78 u79 u80 u81 u82 u83 u84 u85 u86 u87 u88 u89 u90 u91 u92 u93 u94 u95 u96 u97 u98 u99 u100 u101 u102 u103 u104 u105 u106 u107 u108 u109 u110 u111 u112 u113 u114 u115 u116 u117 u118 u119 u120 u121 u122 u123 u124 u125 u126 u127 u128 u129 u130 u131 u132 u133 u134 u135 u136 u137 u138 u139 u140 u141 u142 u143 u144 u145 u146 u147 u148 u149 u150 u151 u152 u153 u154 u155 u156 u157 u158 u159 u160 u161 u162 u163 u164 u165 u166 u167 u168 u169 u170 u171 u172 u173 u174 u175 u176 u177 u178 u179 u180 u181 u182 u183 u184 u185 u186 u187 u188 u189 u190 u191 u192 u193 u194 u195 u196 u197 u198 u199 u200 u201 u202 u203 u204 u205 u206 u207 u208 u209 u210 u211 u212 u213 u214 u215 u216 u217 u218 u219 u220 u221 u222 u223 u224 u225 u226 u227 u228 u229 u230 u231 u232 : Value} {K : Act → World → Prop} {Q0 : Exit → Act → World → Prop} (A B X Y : VD) (okA : A.ok) (okB : B.ok) (okX : X.ok) (okY : Y.ok) (gA gB gE : Nat) (ah ap aa as_ bh bp ba bs_ xh xp xa xs_ yh yp ya ys_ : Option Addr) (nah cah nap cap naa caa nas cas nbh cbh nbp cbp nba cba nbs cbs nxh cxh nxp cxp nxa cxa nxs cxs nyh cyh nyp cyp nya cya nys cys : Nat) (tot pw tm : Int) (W0 : World) (hgA : Blk W0 gA (voteV A (.slice ah nah cah) (.slice ap nap cap) (.slice aa naa caa) (.slice as_ nas cas)) 35) (hgB : Blk W0 gB (voteV B (.slice bh nbh cbh) (.slice bp nbp cbp) (.slice ba nba cba) (.slice bs_ nbs cbs)) 35) (hgE : Blk W0 gE (eviV X Y (.slice xh nxh cxh) (.slice xp nxp cxp) (.slice xa nxa cxa) (.slice xs_ nxs cxs) (.slice yh nyh cyh) (.slice yp nyp cyp) (.slice ya nya cya) (.slice ys_ nys cys) tot pw tm) 39) (hA : VoteB W0 A (.slice ah nah cah) (.slice ap nap cap) (.slice aa naa caa) (.slice as_ nas cas)) (hB : VoteB W0 B (.slice bh nbh cbh) (.slice bp nbp cbp) (.slice ba nba cba) (.slice bs_ nbs cbs)) (hX : VoteB W0 X (.slice xh nxh cxh) (.slice xp nxp cxp) (.slice xa nxa cxa) (.slice xs_ nxs cxs)) (hY : VoteB W0 Y (.slice yh nyh cyh) (.slice yp nyp cyp) (.slice ya nya cya) (.slice ys_ nys cys)) (b2 n c2 i : Nat) (Q : List Sp) (Sx : Sp) (hQ : SpAt W0 b2 Q) (hn : n = Q.length) (hn1 : n ≤ 1000) (hok : SpOk Q) (hi : Q[i]? = some Sx) (hpw : Sx.pow = pw) (htot : powS Q = tot) (htm : 0 ≤ tm ∧ tm ≤ 4294967295)
    (hK : ∀ (v94 v95 v96 v97 v98 v99 v100 v101 v102 v103 v104 v105 v106 v107 v108 v109 v110 v111 v112 v113 v114 v115 v116 v117 v118 v119 v120 v121 v122 v123 v124 v125 v126 v127 v128 v129 v130 v131 : Value)  (W : World), Kp [] W0 W → K ⟨#[u0, u1, u2, .int .u32 tm, u4, u5, u6, u7, u8, u9, .slice (some ⟨b2, 0, none⟩) n c2, u11, .pointer (some ⟨gA, 0, none⟩), u13, .pointer (some ⟨gB, 0, none⟩), u15, .pointer (some ⟨gE, 0, none⟩), u17, .int .i64 (i : Int), u19, .bool true, u21, u22, u23, u24, u25, u26, u27, u28, u29, u30, u31, u32, u33, u34, u35, u36, u37, u38, u39, u40, u41, u42, u43, u44, u45, u46, u47, u48, u49, u50, u51, u52, u53, u54, u55, u56, u57, u58, u59, u60, u61, u62, u63, u64, u65, u66, u67, u68, u69, u70, u71, u72, u73, u74, u75, u76, u77, u78, u79, u80, u81, u82, u83, u84, u85, u86, u87, u88, u89, u90, u91, u92, u93, v94, v95, v96, v97, v98, v99, v100, v101, v102, v103, v104, v105, v106, v107, v108, v109, v110, v111, v112, v113, v114, v115, v116, v117, v118, v119, v120, v121, v122, v123, v124, v125, v126, v127, v128, v129, v130, v131, .bool false, u133, u134, u135, u136, u137, u138, u139, u140, u141, u142, u143, u144, u145, u146, u147, u148, u149, u150, u151, u152, u153, u154, u155, u156, u157, u158, u159, u160, u161, u162, u163, u164, u165, u166, u167, u168, u169, u170, u171, u172, u173, u174, u175, u176, u177, u178, u179, u180, u181, u182, u183, u184, u185, u186, u187, u188, u189, u190, u191, u192, u193, u194, u195, u196, u197, u198, u199, u200, u201, u202, u203, u204, u205, u206, u207, u208, u209, u210, u211, u212, u213, u214, u215, u216, u217, u218, u219, u220, u221, u222, u223, u224, u225, u226, u227, u228, u229, u230, u231, u232], []⟩ W) :
    Code.wp Tryz.prog (codeAt Tryz.f4 [1, 1, 1, 1, 1, 1, 1, 1, 1, 1, 1, 1, 0, 0]) (Exit.then K Q0) ⟨#[u0, u1, u2, .int .u32 tm, u4, u5, u6, u7, u8, u9, .slice (some ⟨b2, 0, none⟩) n c2, u11, .pointer (some ⟨gA, 0, none⟩), u13, .pointer (some ⟨gB, 0, none⟩), u15, .pointer (some ⟨gE, 0, none⟩), u17, .int .i64 (i : Int), u19, .bool true, u21, u22, u23, u24, u25, u26, u27, u28, u29, u30, u31, u32, u33, u34, u35, u36, u37, u38, u39, u40, u41, u42, u43, u44, u45, u46, u47, u48, u49, u50, u51, u52, u53, u54, u55, u56, u57, u58, u59, u60, u61, u62, u63, u64, u65, u66, u67, u68, u69, u70, u71, u72, u73, u74, u75, u76, u77, u78, u79, u80, u81, u82, u83, u84, u85, u86, u87, u88, u89, u90, u91, u92, u93, u94, u95, u96, u97, u98, u99, u100, u101, u102, u103, u104, u105, u106, u107, u108, u109, u110, u111, u112, u113, u114, u115, u116, u117, u118, u119, u120, u121, u122, u123, u124, u125, u126, u127, u128, u129, u130, u131, u132, u133, u134, u135, u136, u137, u138, u139, u140, u141, u142, u143, u144, u145, u146, u147, u148, u149, u150, u151, u152, u153, u154, u155, u156, u157, u158, u159, u160, u161, u162, u163, u164, u165, u166, u167, u168, u169, u170, u171, u172, u173, u174, u175, u176, u177, u178, u179, u180, u181, u182, u183, u184, u185, u186, u187, u188, u189, u190, u191, u192, u193, u194, u195, u196, u197, u198, u199, u200, u201, u202, u203, u204, u205, u206, u207, u208, u209, u210, u211, u212, u213, u214, u215, u216, u217, u218, u219, u220, u221, u222, u223, u224, u225, u226, u227, u228, u229, u230, u231, u232], []⟩ W0 := by
  have hil : i < n := by rw [hn]; exact (List.getElem?_eq_some_iff.1 hi).1
  have z0 : (0 : Int) ≤ (i : Int) := by omega
  have z1 : (i : Int) < (n : Int) := by omega
  have hcS : ∀ W, SpAt W b2 Q → W.cell? ⟨b2, i * 3 + 1, none⟩ = some (.int .i64 pw) := by
    intro W hW
    have h1 := (hW i Sx hi).2.1
    rw [hpw] at h1
    exact h1
  have hwr : IntKind.i64.wrap tm = tm := IntWalk.i64_in _ (by omega)
  have HS := Lib.hid (fun (W : World) (k : Kp [] W0 W) => And.intro (k.blk hgE (by simp)) (And.intro (k.blk hgA (by simp)) (And.intro (k.blk hgB (by simp)) (hQ.kp k))))
  have HT := Lib.hid (fun (W : World) (k : Kp [] W0 W) => total_any b2 c2 n Q W (hQ.kp k) hn hn1 hok)
  have HTOT := Lib.hid htot
  have np : (pw != pw) = false := bne_self_eq_false pw
  have nt : (tot != tot) = false := bne_self_eq_false tot
  have nm : (tm != tm) = false := bne_self_eq_false tm
  have H := Lib.hid (And.intro okA (And.intro okB (And.intro okX (And.intro okY (And.intro hgA (And.intro hgB (And.intro hgE (And.intro hA (And.intro hB (And.intro hX hY))))))))))
  have HK := Lib.hid hK
  clear okA okB okX okY hgA hgB hgE hA hB hX hY
  clear hK hQ hn hok hi hpw htot htm
  have hS0 : (fun W => Blk W gE (eviV X Y (.slice xh nxh cxh) (.slice xp nxp cxp) (.slice xa nxa cxa) (.slice xs_ nxs cxs) (.slice yh nyh cyh) (.slice yp nyp cyp) (.slice ya nya cya) (.slice ys_ nys cys) tot pw tm) 39 ∧ Blk W gA (voteV A (.slice ah nah cah) (.slice ap nap cap) (.slice aa naa caa) (.slice as_ nas cas)) 35 ∧ Blk W gB (voteV B (.slice bh nbh cbh) (.slice bp nbp cbp) (.slice ba nba cba) (.slice bs_ nbs cbs)) 35 ∧ SpAt W b2 Q) W0.drew := HS.out _ ((Kp.refl [] W0).drew)
  conv => arg 2; whnf
  dsimp only
  refine wp_region_noPanic ?_
  refine wp_region_last (fun W => Blk W gE (eviV X Y (.slice xh nxh cxh) (.slice xp nxp cxp) (.slice xa nxa cxa) (.slice xs_ nxs cxs) (.slice yh nyh cyh) (.slice yp nyp cyp) (.slice ya nya cya) (.slice ys_ nys cys) tot pw tm) 39 ∧ Blk W gA (voteV A (.slice ah nah cah) (.slice ap nap cap) (.slice aa naa caa) (.slice as_ nas cas)) 35 ∧ Blk W gB (voteV B (.slice bh nbh cbh) (.slice bp nbp cbp) (.slice ba nba cba) (.slice bs_ nbs cbs)) 35 ∧ SpAt W b2 Q) (by kernel_rfl) ?_
  refine wpAnyL_takeD 94 (i := 0) (v := _) rfl rfl (by kernel_rfl) (by kernel_rfl) (by kernel_rfl) (fun _ _ _ h => h) (Or.inl ⟨by kernel_rfl, fun W hSW => by go_simp; try with_reducible rfl⟩) hS0 ?_
  simp only [List.setIfInBounds_toArray, List.set_cons_zero, List.set_cons_succ]
  refine wpAnyL_takeD 95 (i := 1) (v := _) rfl rfl (by kernel_rfl) (by kernel_rfl) (by kernel_rfl) (fun _ _ _ h => h) (Or.inl ⟨by kernel_rfl, fun W hSW => by go_simp; try with_reducible rfl⟩) hS0 ?_
  simp only [List.setIfInBounds_toArray, List.set_cons_zero, List.set_cons_succ]
  refine wpAnyL_takeD 96 (i := 2) (v := _) rfl rfl (by kernel_rfl) (by kernel_rfl) (by kernel_rfl) (fun _ _ _ h => h) (Or.inl ⟨by kernel_rfl, fun W hSW => by go_simp; try with_reducible rfl⟩) hS0 ?_
  simp only [List.setIfInBounds_toArray, List.set_cons_zero, List.set_cons_succ]
  refine wpAnyL_takeD 97 (i := 3) (v := undef) rfl rfl (by kernel_rfl) (by kernel_rfl) (by kernel_rfl) (fun _ _ _ h => h) (Or.inr ⟨by kernel_rfl, rfl⟩) hS0 ?_
  simp only [List.setIfInBounds_toArray, List.set_cons_zero, List.set_cons_succ]
  refine wpAnyL_takeD 98 (i := 4) (v := undef) rfl rfl (by kernel_rfl) (by kernel_rfl) (by kernel_rfl) (fun _ _ _ h => h) (Or.inr ⟨by kernel_rfl, rfl⟩) hS0 ?_
  simp only [List.setIfInBounds_toArray, List.set_cons_zero, List.set_cons_succ]
  refine wpAnyL_takeD 99 (i := 5) (v := undef) rfl rfl (by kernel_rfl) (by kernel_rfl) (by kernel_rfl) (fun _ _ _ h => h) (Or.inr ⟨by kernel_rfl, rfl⟩) hS0 ?_
  simp only [List.setIfInBounds_toArray, List.set_cons_zero, List.set_cons_succ]
  refine wpAnyL_skipD 100 (i := 6) (by kernel_rfl) rfl rfl (by kernel_rfl) hS0 ?_
  simp only [List.setIfInBounds_toArray, List.set_cons_zero, List.set_cons_succ]
  refine wpAnyL_takeD 101 (i := 7) (v := undef) rfl rfl (by kernel_rfl) (by kernel_rfl) (by kernel_rfl) (fun _ _ _ h => h) (Or.inr ⟨by kernel_rfl, rfl⟩) hS0 ?_
  simp only [List.setIfInBounds_toArray, List.set_cons_zero, List.set_cons_succ]
  refine wpAnyL_takeD 102 (i := 8) (v := undef) rfl rfl (by kernel_rfl) (by kernel_rfl) (by kernel_rfl) (fun _ _ _ h => h) (Or.inr ⟨by kernel_rfl, rfl⟩) hS0 ?_
  simp only [List.setIfInBounds_toArray, List.set_cons_zero, List.set_cons_succ]
  refine wpAnyL_takeD 103 (i := 9) (v := undef) rfl rfl (by kernel_rfl) (by kernel_rfl) (by kernel_rfl) (fun _ _ _ h => h) (Or.inr ⟨by kernel_rfl, rfl⟩) hS0 ?_
  simp only [List.setIfInBounds_toArray, List.set_cons_zero, List.set_cons_succ]
  refine wpAnyL_takeD 104 (i := 10) (v := undef) rfl rfl (by kernel_rfl) (by kernel_rfl) (by kernel_rfl) (fun _ _ _ h => h) (Or.inr ⟨by kernel_rfl, rfl⟩) hS0 ?_
  simp only [List.setIfInBounds_toArray, List.set_cons_zero, List.set_cons_succ]
  refine wpAnyL_skipD 105 (i := 11) (by kernel_rfl) rfl rfl (by kernel_rfl) hS0 ?_
  simp only [List.setIfInBounds_toArray, List.set_cons_zero, List.set_cons_succ]
  refine wpAnyL_takeD 106 (i := 12) (v := undef) rfl rfl (by kernel_rfl) (by kernel_rfl) (by kernel_rfl) (fun _ _ _ h => h) (Or.inr ⟨by kernel_rfl, rfl⟩) hS0 ?_
  simp only [List.setIfInBounds_toArray, List.set_cons_zero, List.set_cons_succ]
  refine wpAnyL_takeD 107 (i := 13) (v := undef) rfl rfl (by kernel_rfl) (by kernel_rfl) (by kernel_rfl) (fun _ _ _ h => h) (Or.inr ⟨by kernel_rfl, rfl⟩) hS0 ?_
  simp only [List.setIfInBounds_toArray, List.set_cons_zero, List.set_cons_succ]
  refine wpAnyL_takeD 108 (i := 14) (v := .bool false) rfl rfl (by kernel_rfl) (by kernel_rfl) (by kernel_rfl) (fun _ _ _ h => h) (Or.inl ⟨by kernel_rfl, fun W hSW => by go_simp; try with_reducible rfl⟩) hS0 ?_
  simp only [List.setIfInBounds_toArray, List.set_cons_zero, List.set_cons_succ]
  refine wpAnyL_takeD 109 (i := 15) (v := _) rfl rfl (by kernel_rfl) (by kernel_rfl) (by kernel_rfl) (fun _ _ _ h => h) (Or.inl ⟨by kernel_rfl, fun W hSW => by go_simp; try with_reducible rfl⟩) hS0 ?_
  simp only [List.setIfInBounds_toArray, List.set_cons_zero, List.set_cons_succ]
  refine wpAnyL_takeD 110 (i := 16) (v := _) rfl rfl (by kernel_rfl) (by kernel_rfl) (by kernel_rfl) (fun _ _ _ h => h) (Or.inl ⟨by kernel_rfl, fun W hSW => by go_simp; try with_reducible rfl⟩) hS0 ?_
  simp only [List.setIfInBounds_toArray, List.set_cons_zero, List.set_cons_succ]
  refine wpAnyL_takeD 111 (i := 17) (v := .int .i64 pw) rfl rfl (by kernel_rfl) (by kernel_rfl) (by kernel_rfl) (fun _ _ _ h => h) (Or.inl ⟨by kernel_rfl, fun W hSW => by have c0 : W.cell? ⟨gE, 25, none⟩ = some (.int .i64 pw) := hSW.1.cell rfl; go_simp; try with_reducible rfl⟩) hS0 ?_
  simp only [List.setIfInBounds_toArray, List.set_cons_zero, List.set_cons_succ]
  refine wpAnyL_takeD 112 (i := 18) (v := _) rfl rfl (by kernel_rfl) (by kernel_rfl) (by kernel_rfl) (fun _ _ _ h => h) (Or.inl ⟨by kernel_rfl, fun W hSW => by go_simp; try with_reducible rfl⟩) hS0 ?_
  simp only [List.setIfInBounds_toArray, List.set_cons_zero, List.set_cons_succ]
  refine wpAnyL_takeD 113 (i := 19) (v := _) rfl rfl (by kernel_rfl) (by kernel_rfl) (by kernel_rfl) (fun _ _ _ h => h) (Or.inl ⟨by kernel_rfl, fun W hSW => by go_simp; try with_reducible rfl⟩) hS0 ?_
  simp only [List.setIfInBounds_toArray, List.set_cons_zero, List.set_cons_succ]
  refine wpAnyL_takeD 114 (i := 20) (v := .pointer (some ⟨b2, i * 3, none⟩)) rfl rfl (by kernel_rfl) (by kernel_rfl) (by kernel_rfl) (fun _ _ _ h => h) (Or.inl ⟨by kernel_rfl, fun W hSW => by go_simp; try with_reducible rfl⟩) hS0 ?_
  simp only [List.setIfInBounds_toArray, List.set_cons_zero, List.set_cons_succ]
  refine wpAnyL_takeD 115 (i := 21) (v := .pointer (some ⟨b2, i * 3 + 1, none⟩)) rfl rfl (by kernel_rfl) (by kernel_rfl) (by kernel_rfl) (fun _ _ _ h => h) (Or.inl ⟨by kernel_rfl, fun W hSW => by go_simp; try with_reducible rfl⟩) hS0 ?_
  simp only [List.setIfInBounds_toArray, List.set_cons_zero, List.set_cons_succ]
  refine wpAnyL_takeD 116 (i := 22) (v := .int .i64 pw) rfl rfl (by kernel_rfl) (by kernel_rfl) (by kernel_rfl) (fun _ _ _ h => h) (Or.inl ⟨by kernel_rfl, fun W hSW => by have c0 := hcS W hSW.2.2.2; go_simp; try with_reducible rfl⟩) hS0 ?_
  simp only [List.setIfInBounds_toArray, List.set_cons_zero, List.set_cons_succ]
  refine wpAnyL_takeD 117 (i := 23) (v := .bool false) rfl rfl (by kernel_rfl) (by kernel_rfl) (by kernel_rfl) (fun _ _ _ h => h) (Or.inl ⟨by kernel_rfl, fun W hSW => by go_simp; try with_reducible rfl⟩) hS0 ?_
  simp only [List.setIfInBounds_toArray, List.set_cons_zero, List.set_cons_succ]
  refine wpAnyL_takeD 118 (i := 24) (v := .bool false) rfl rfl (by kernel_rfl) (by kernel_rfl) (by kernel_rfl) (fun _ _ _ h => h) (Or.inl ⟨by kernel_rfl, fun W hSW => by go_simp; try with_reducible rfl⟩) hS0 ?_
  simp only [List.setIfInBounds_toArray, List.set_cons_zero, List.set_cons_succ]
  refine wpAnyL_takeD 119 (i := 25) (v := _) rfl rfl (by kernel_rfl) (by kernel_rfl) (by kernel_rfl) (fun _ _ _ h => h) (Or.inl ⟨by kernel_rfl, fun W hSW => by go_simp; try with_reducible rfl⟩) hS0 ?_
  simp only [List.setIfInBounds_toArray, List.set_cons_zero, List.set_cons_succ]
  refine wpAnyL_takeD 120 (i := 26) (v := _) rfl rfl (by kernel_rfl) (by kernel_rfl) (by kernel_rfl) (fun _ _ _ h => h) (Or.inl ⟨by kernel_rfl, fun W hSW => by go_simp; try with_reducible rfl⟩) hS0 ?_
  simp only [List.setIfInBounds_toArray, List.set_cons_zero, List.set_cons_succ]
  refine wpAnyL_takeD 121 (i := 27) (v := .int .i64 tot) rfl rfl (by kernel_rfl) (by kernel_rfl) (by kernel_rfl) (fun _ _ _ h => h) (Or.inl ⟨by kernel_rfl, fun W hSW => by have c0 : W.cell? ⟨gE, 24, none⟩ = some (.int .i64 tot) := hSW.1.cell rfl; go_simp; try with_reducible rfl⟩) hS0 ?_
  simp only [List.setIfInBounds_toArray, List.set_cons_zero, List.set_cons_succ]
  refine wpAnyL_takeD 122 (i := 28) (v := _) rfl rfl (by kernel_rfl) (by kernel_rfl) (by kernel_rfl) (fun _ _ _ h => h) (Or.inl ⟨by kernel_rfl, fun W hSW => by go_simp; try with_reducible rfl⟩) hS0 ?_
  simp only [List.setIfInBounds_toArray, List.set_cons_zero, List.set_cons_succ]
  refine wpAnyL_one (i := 29) (by kernel_rfl) rfl (fun K' hK' => ?_)
  go_simp
  refine (HT.out W0.drew (Kp.refl [] W0).drew).mono ?_
  rintro e W9 ⟨rfl, hk0⟩
  rw [HTOT.out]
  have K9 := Lib.hid (((Kp.refl [] W0).drew).trans hk0)
  clear hk0
  go_wp2_with fail
  have hS0 := HS.out _ K9.out
  refine hK'.out _ _ hS0 ?_
  clear hK' K'
  try simp only [Act.put, List.setIfInBounds_toArray, List.set_cons_zero, List.set_cons_succ]
  refine wpAnyL_takeD 124 (i := 30) (v := .bool false) rfl rfl (by kernel_rfl) (by kernel_rfl) (by kernel_rfl) (fun _ _ _ h => h) (Or.inl ⟨by kernel_rfl, fun W hSW => by go_simp; try with_reducible rfl⟩) hS0 ?_
  simp only [List.setIfInBounds_toArray, List.set_cons_zero, List.set_cons_succ]
  refine wpAnyL_takeD 125 (i := 31) (v := .bool false) rfl rfl (by kernel_rfl) (by kernel_rfl) (by kernel_rfl) (fun _ _ _ h => h) (Or.inl ⟨by kernel_rfl, fun W hSW => by go_simp; try with_reducible rfl⟩) hS0 ?_
  simp only [List.setIfInBounds_toArray, List.set_cons_zero, List.set_cons_succ]
  refine wpAnyL_takeD 126 (i := 32) (v := _) rfl rfl (by kernel_rfl) (by kernel_rfl) (by kernel_rfl) (fun _ _ _ h => h) (Or.inl ⟨by kernel_rfl, fun W hSW => by go_simp; try with_reducible rfl⟩) hS0 ?_
  simp only [List.setIfInBounds_toArray, List.set_cons_zero, List.set_cons_succ]
  refine wpAnyL_takeD 127 (i := 33) (v := _) rfl rfl (by kernel_rfl) (by kernel_rfl) (by kernel_rfl) (fun _ _ _ h => h) (Or.inl ⟨by kernel_rfl, fun W hSW => by go_simp; try with_reducible rfl⟩) hS0 ?_
  simp only [List.setIfInBounds_toArray, List.set_cons_zero, List.set_cons_succ]
  refine wpAnyL_takeD 128 (i := 34) (v := .int .i64 tm) rfl rfl (by kernel_rfl) (by kernel_rfl) (by kernel_rfl) (fun _ _ _ h => h) (Or.inl ⟨by kernel_rfl, fun W hSW => by have c0 : W.cell? ⟨gE, 26, none⟩ = some (.int .i64 tm) := hSW.1.cell rfl; go_simp; try with_reducible rfl⟩) hS0 ?_
  simp only [List.setIfInBounds_toArray, List.set_cons_zero, List.set_cons_succ]
  refine wpAnyL_takeD 129 (i := 35) (v := _) rfl rfl (by kernel_rfl) (by kernel_rfl) (by kernel_rfl) (fun _ _ _ h => h) (Or.inl ⟨by kernel_rfl, fun W hSW => by go_simp; try with_reducible rfl⟩) hS0 ?_
  simp only [List.setIfInBounds_toArray, List.set_cons_zero, List.set_cons_succ]
  refine wpAnyL_takeD 130 (i := 36) (v := .int .i64 tm) rfl rfl (by kernel_rfl) (by kernel_rfl) (by kernel_rfl) (fun _ _ _ h => h) (Or.inl ⟨by kernel_rfl, fun W hSW => by go_simp; try with_reducible rfl⟩) hS0 ?_
  simp only [List.setIfInBounds_toArray, List.set_cons_zero, List.set_cons_succ]
  refine wpAnyL_takeD 131 (i := 37) (v := .bool false) rfl rfl (by kernel_rfl) (by kernel_rfl) (by kernel_rfl) (fun _ _ _ h => h) (Or.inl ⟨by kernel_rfl, fun W hSW => by go_simp; try with_reducible rfl⟩) hS0 ?_
  simp only [List.setIfInBounds_toArray, List.set_cons_zero, List.set_cons_succ]
  refine wpAnyL_takeD 132 (i := 38) (v := .bool false) rfl rfl (by kernel_rfl) (by kernel_rfl) (by kernel_rfl) (fun _ _ _ h => h) (Or.inl ⟨by kernel_rfl, fun W hSW => by go_simp; try with_reducible rfl⟩) hS0 ?_
  simp only [List.setIfInBounds_toArray, List.set_cons_zero, List.set_cons_succ]
  refine ⟨by kernel_rfl, NoPanic.normal ?_⟩
  exact HK.out _ _ _ _ _ _ _ _ _ _ _ _ _ _ _ _ _ _ _ _ _ _ _ _ _ _ _ _ _ _ _ _ _ _ _ _ _ _ _ K9.out
end Go.Proofs.YtfkaldaflnmfiaaGreatDoor
