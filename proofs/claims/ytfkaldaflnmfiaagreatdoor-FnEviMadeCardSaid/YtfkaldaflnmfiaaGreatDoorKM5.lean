/- A region of FnEviMade: is the evidence that of the votes. Printed by gen/made.py. -/
import Derived.WalkKit
import Derived.WalkSpells
import Derived.WalkLawsBesides
import Derived.Handy
import Derived.Lib.Hide
import Derived.IntWalk
import Derived.Deep.DeepCutAuto
import Derived.Test.YtfkaldaflnmfiaaGreatDoorKPv
import Derived.Test.YtfkaldaflnmfiaaGreatDoorKM3
import Derived.Test.YtfkaldaflnmfiaaGreatDoorKSm
namespace Go.Proofs.YtfkaldaflnmfiaaGreatDoor
set_option linter.unusedSimpArgs false
set_option linter.unusedVariables false
open Go Go.RowKit
set_option maxRecDepth 100000

theorem wpAnyL_skip {P : Program} {ops : Array Oper} {Q : Exit → Act → World → Prop} {md : Region.Mode} {S : World → Prop} {i : Nat} {oi : Oper} {fuel : Nat} {listed : Array Bool} {a : Act} {w : World} (hr : Region.ready md ops listed = [i]) (hi : ops[i]? = some oi)
    (hw : Region.wanted oi (yielded ops a.tmps) = false) (hS : S w) (h : wpAnyL P md ops Q S fuel (listed.setIfInBounds i true) (a.put oi.dst undef) w) : wpAnyL P md ops Q S (fuel + 1) listed a w :=
  wpAnyL_one hr hi (fun K' hK => by
    rw [if_neg (by rw [hw]; decide)]
    exact hK.out _ _ hS h)
theorem wpAnyL_takeD {P : Program} {ops : Array Oper} {Q : Exit → Act → World → Prop} {md : Region.Mode} {S : World → Prop} {i : Nat} (d : Nat) {oi : Oper} {v : Value} {fuel : Nat} {listed : Array Bool} {ts : Array Value} {w : World} (hi : ops[i]? = some oi) (hd : oi.dst = some d)
    (hs : Region.noSelect ops = true) (hf : Region.free md ops listed i = true) (hr : (Region.ready md ops listed).contains i = true)
    (hQ : ∀ c a w, Q (.panic c) (a.put oi.dst v) w → Q (.panic c) a w) (hy : YieldsIf P ops S oi v ⟨ts, []⟩) (hS : S w)
    (h : wpAnyL P md ops Q S fuel (listed.setIfInBounds i true) ⟨ts.setIfInBounds d v, []⟩ w) : wpAnyL P md ops Q S (fuel + 1) listed ⟨ts, []⟩ w := by
  refine wpAnyL_take hi hs hf hr hQ hy hS ?_
  rw [hd]
  exact h
theorem wpAnyL_skipD {P : Program} {ops : Array Oper} {Q : Exit → Act → World → Prop} {md : Region.Mode} {S : World → Prop} {i : Nat} (d : Nat) {oi : Oper} {fuel : Nat} {listed : Array Bool} {ts : Array Value} {w : World} (hr : Region.ready md ops listed = [i]) (hi : ops[i]? = some oi) (hd : oi.dst = some d)
    (hw : Region.wanted oi (yielded ops ts) = false) (hS : S w) (h : wpAnyL P md ops Q S fuel (listed.setIfInBounds i true) ⟨ts.setIfInBounds d undef, []⟩ w) : wpAnyL P md ops Q S (fuel + 1) listed ⟨ts, []⟩ w := by
  refine wpAnyL_skip hr hi hw hS ?_
  rw [hd]
  exact h
set_option maxHeartbeats 8000000 in
theorem first_reg {u0 u1 u2 u3 u4 u5 u6 u7 u8 u9 u10 u11 u13 u15 u17 u18 u19 u20 u21 u22 u23 u24 u25 u26 u27 u28 u29 u30 u31 u32 u33 u34 u35 u36 u37 u38 u39 u40 u41 u42 u43 u44 u45 u46 u47 u48 u49 u50 u51 u52 u53 u54 u55 u56 u57 u58 u59 u60 u61 u62 u63 u64 u65 u66 u67 u68 u69 u70 u71 u72 u73 u74 u75 u76 u77 u78 u79 u80 u81 u82 u83 u84 u85 u86 u87 u88 u89 u90 u91 u92 u93 u94 u95 u96 u97 u98 u99 u100 u101 u102 u103 u104 u105 u106 u107 u108 u109 u110 u111 u112 u113 u114 u115 u116 u117 u118 u119 u120 u121 u122 u123 u124 u125 u126 u127 u128 u129 u130 u131 u132 u133 u134 u135 u136 u137 u138 u139 u140 u141 u142 u143 u144 u145 u146 u147 u148 u149 u150 u151 u152 u153 u154 u155 u156 u157 u158 u159 u160 u161 u162 u163 u164 u165 u166 u167 u168 u169 u170 u171 u172 u173 u174 u175 u176 u177 u178 u179 u180 u181 u182 u183 u184 u185 u186 u187 u188 u189 u190 u191 u192 u193 u194 u195 u196 u197 u198 u199 u200 u201 u202 u203 u204 u205 u206 u207 u208 u209 u210 u211 u212 u213 u214 u215 u216 u217 u218 u219 u220 u221 u222 u223 u224 u225 u226 u227 u228 u229 u230 u231 u232 : Value} {K : Act → World → Prop} {Q0 : Exit → Act → World → Prop} (A B X Y : VD) (okA : A.ok) (okB : B.ok) (okX : X.ok) (okY : Y.ok) (gA gB gE : Nat) (ah ap aa as_ bh bp ba bs_ xh xp xa xs_ yh yp ya ys_ : Option Addr) (nah cah nap cap naa caa nas cas nbh cbh nbp cbp nba cba nbs cbs nxh cxh nxp cxp nxa cxa nxs cxs nyh cyh nyp cyp nya cya nys cys : Nat) (tot pw tm : Int) (W0 : World) (hgA : Blk W0 gA (voteV A (.slice ah nah cah) (.slice ap nap cap) (.slice aa naa caa) (.slice as_ nas cas)) 35) (hgB : Blk W0 gB (voteV B (.slice bh nbh cbh) (.slice bp nbp cbp) (.slice ba nba cba) (.slice bs_ nbs cbs)) 35) (hgE : Blk W0 gE (eviV X Y (.slice xh nxh cxh) (.slice xp nxp cxp) (.slice xa nxa cxa) (.slice xs_ nxs cxs) (.slice yh nyh cyh) (.slice yp nyp cyp) (.slice ya nya cya) (.slice ys_ nys cys) tot pw tm) 39) (hA : VoteB W0 A (.slice ah nah cah) (.slice ap nap cap) (.slice aa naa caa) (.slice as_ nas cas)) (hB : VoteB W0 B (.slice bh nbh cbh) (.slice bp nbp cbp) (.slice ba nba cba) (.slice bs_ nbs cbs)) (hX : VoteB W0 X (.slice xh nxh cxh) (.slice xp nxp cxp) (.slice xa nxa cxa) (.slice xs_ nxs cxs)) (hY : VoteB W0 Y (.slice yh nyh cyh) (.slice yp nyp cyp) (.slice ya nya cya) (.slice ys_ nys cys))
    (hK : ∀ (v84 v85 v86 v87 v88 v89 v90 v91 v92 v93 : Value) (q : Bool) (W : World), Kp [] W0 W → (q = true ↔ Same1 X A ∧ Same1 Y B) → K ⟨#[u0, u1, u2, u3, u4, u5, u6, u7, u8, u9, u10, u11, .pointer (some ⟨gA, 0, none⟩), u13, .pointer (some ⟨gB, 0, none⟩), u15, .pointer (some ⟨gE, 0, none⟩), u17, u18, u19, .bool q, u21, u22, u23, u24, u25, u26, u27, u28, u29, u30, u31, u32, u33, u34, u35, u36, u37, u38, u39, u40, u41, u42, u43, u44, u45, u46, u47, u48, u49, u50, u51, u52, u53, u54, u55, u56, u57, u58, u59, u60, u61, u62, u63, u64, u65, u66, u67, u68, u69, u70, u71, u72, u73, u74, u75, u76, u77, u78, u79, u80, u81, u82, u83, v84, v85, v86, v87, v88, v89, v90, v91, v92, v93, u94, u95, u96, u97, u98, u99, u100, u101, u102, u103, u104, u105, u106, u107, u108, u109, u110, u111, u112, u113, u114, u115, u116, u117, u118, u119, u120, u121, u122, u123, u124, u125, u126, u127, u128, u129, u130, u131, u132, u133, u134, u135, u136, u137, u138, u139, u140, u141, u142, u143, u144, u145, u146, u147, u148, u149, u150, u151, u152, u153, u154, u155, u156, u157, u158, u159, u160, u161, u162, u163, u164, u165, u166, u167, u168, u169, u170, u171, u172, u173, u174, u175, u176, u177, u178, u179, u180, u181, u182, u183, u184, u185, u186, u187, u188, u189, u190, u191, u192, u193, u194, u195, u196, u197, u198, u199, u200, u201, u202, u203, u204, u205, u206, u207, u208, u209, u210, u211, u212, u213, u214, u215, u216, u217, u218, u219, u220, u221, u222, u223, u224, u225, u226, u227, u228, u229, u230, u231, u232], []⟩ W) :
    Code.wp Tryz.prog (codeAt Tryz.f4 [1, 1, 1, 1, 1, 1, 1, 1, 1, 1, 1, 0]) (Exit.then K Q0) ⟨#[u0, u1, u2, u3, u4, u5, u6, u7, u8, u9, u10, u11, .pointer (some ⟨gA, 0, none⟩), u13, .pointer (some ⟨gB, 0, none⟩), u15, .pointer (some ⟨gE, 0, none⟩), u17, u18, u19, u20, u21, u22, u23, u24, u25, u26, u27, u28, u29, u30, u31, u32, u33, u34, u35, u36, u37, u38, u39, u40, u41, u42, u43, u44, u45, u46, u47, u48, u49, u50, u51, u52, u53, u54, u55, u56, u57, u58, u59, u60, u61, u62, u63, u64, u65, u66, u67, u68, u69, u70, u71, u72, u73, u74, u75, u76, u77, u78, u79, u80, u81, u82, u83, u84, u85, u86, u87, u88, u89, u90, u91, u92, u93, u94, u95, u96, u97, u98, u99, u100, u101, u102, u103, u104, u105, u106, u107, u108, u109, u110, u111, u112, u113, u114, u115, u116, u117, u118, u119, u120, u121, u122, u123, u124, u125, u126, u127, u128, u129, u130, u131, u132, u133, u134, u135, u136, u137, u138, u139, u140, u141, u142, u143, u144, u145, u146, u147, u148, u149, u150, u151, u152, u153, u154, u155, u156, u157, u158, u159, u160, u161, u162, u163, u164, u165, u166, u167, u168, u169, u170, u171, u172, u173, u174, u175, u176, u177, u178, u179, u180, u181, u182, u183, u184, u185, u186, u187, u188, u189, u190, u191, u192, u193, u194, u195, u196, u197, u198, u199, u200, u201, u202, u203, u204, u205, u206, u207, u208, u209, u210, u211, u212, u213, u214, u215, u216, u217, u218, u219, u220, u221, u222, u223, u224, u225, u226, u227, u228, u229, u230, u231, u232], []⟩ W0 := by
  have c0 : ∀ W, Kp [] W0 W → W.cell? ⟨gE, 0, none⟩ = some (.int .i64 X.typ) := hgE.all 0 rfl
  have c1 : ∀ W, Kp [] W0 W → W.cell? ⟨gE, 1, none⟩ = some (.int .i64 X.height) := hgE.all 1 rfl
  have c2 : ∀ W, Kp [] W0 W → W.cell? ⟨gE, 2, none⟩ = some (.int .i64 X.round) := hgE.all 2 rfl
  have c3 : ∀ W, Kp [] W0 W → W.cell? ⟨gE, 3, none⟩ = some (.slice xh nxh cxh) := hgE.all 3 rfl
  have c4 : ∀ W, Kp [] W0 W → W.cell? ⟨gE, 4, none⟩ = some (.int .i64 X.total) := hgE.all 4 rfl
  have c5 : ∀ W, Kp [] W0 W → W.cell? ⟨gE, 5, none⟩ = some (.slice xp nxp cxp) := hgE.all 5 rfl
  have c6 : ∀ W, Kp [] W0 W → W.cell? ⟨gE, 6, none⟩ = some (.int .i64 X.time) := hgE.all 6 rfl
  have c7 : ∀ W, Kp [] W0 W → W.cell? ⟨gE, 7, none⟩ = some (.slice xa nxa cxa) := hgE.all 7 rfl
  have c8 : ∀ W, Kp [] W0 W → W.cell? ⟨gE, 8, none⟩ = some (.int .i64 X.index) := hgE.all 8 rfl
  have c9 : ∀ W, Kp [] W0 W → W.cell? ⟨gE, 9, none⟩ = some (.slice xs_ nxs cxs) := hgE.all 9 rfl
  have c10 : ∀ W, Kp [] W0 W → W.cell? ⟨gE, 10, none⟩ = some (.slice none 0 0) := hgE.all 10 rfl
  have c11 : ∀ W, Kp [] W0 W → W.cell? ⟨gE, 11, none⟩ = some (.slice none 0 0) := hgE.all 11 rfl
  have c12 : ∀ W, Kp [] W0 W → W.cell? ⟨gE, 12, none⟩ = some (.int .i64 Y.typ) := hgE.all 12 rfl
  have c13 : ∀ W, Kp [] W0 W → W.cell? ⟨gE, 13, none⟩ = some (.int .i64 Y.height) := hgE.all 13 rfl
  have c14 : ∀ W, Kp [] W0 W → W.cell? ⟨gE, 14, none⟩ = some (.int .i64 Y.round) := hgE.all 14 rfl
  have c15 : ∀ W, Kp [] W0 W → W.cell? ⟨gE, 15, none⟩ = some (.slice yh nyh cyh) := hgE.all 15 rfl
  have c16 : ∀ W, Kp [] W0 W → W.cell? ⟨gE, 16, none⟩ = some (.int .i64 Y.total) := hgE.all 16 rfl
  have c17 : ∀ W, Kp [] W0 W → W.cell? ⟨gE, 17, none⟩ = some (.slice yp nyp cyp) := hgE.all 17 rfl
  have c18 : ∀ W, Kp [] W0 W → W.cell? ⟨gE, 18, none⟩ = some (.int .i64 Y.time) := hgE.all 18 rfl
  have c19 : ∀ W, Kp [] W0 W → W.cell? ⟨gE, 19, none⟩ = some (.slice ya nya cya) := hgE.all 19 rfl
  have c20 : ∀ W, Kp [] W0 W → W.cell? ⟨gE, 20, none⟩ = some (.int .i64 Y.index) := hgE.all 20 rfl
  have c21 : ∀ W, Kp [] W0 W → W.cell? ⟨gE, 21, none⟩ = some (.slice ys_ nys cys) := hgE.all 21 rfl
  have c22 : ∀ W, Kp [] W0 W → W.cell? ⟨gE, 22, none⟩ = some (.slice none 0 0) := hgE.all 22 rfl
  have c23 : ∀ W, Kp [] W0 W → W.cell? ⟨gE, 23, none⟩ = some (.slice none 0 0) := hgE.all 23 rfl
  have H := Lib.hid (And.intro okA (And.intro okB (And.intro okX (And.intro okY (And.intro hgA (And.intro hgB (And.intro hgE (And.intro hA (And.intro hB (And.intro hX hY))))))))))
  have HK := Lib.hid hK
  clear okA okB okX okY hgA hgB hgE hA hB hX hY
  clear hK
  conv => arg 2; whnf
  go_wp2_with (refine kit_load rfl 35 (.tmp 12) rfl _ rfl gA rfl (voteV A (.slice ah nah cah) (.slice ap nap cap) (.slice aa naa caa) (.slice as_ nas cas)) 35 ((Kp.refl [] W0).blk H.out.2.2.2.2.1 (by simp)) _ Tryz.underlying35 rfl hi35 ?_)
  refine (poll_any X A H.out.2.2.1 H.out.1 (.slice xh nxh cxh) (.slice xp nxp cxp) (.slice xa nxa cxa) (.slice xs_ nxs cxs) (.slice ah nah cah) (.slice ap nap cap) (.slice aa naa caa) (.slice as_ nas cas) W0 (H.out.2.2.2.2.2.2.2.2.2.1.kp (Kp.refl [] W0)) (H.out.2.2.2.2.2.2.2.1.kp (Kp.refl [] W0))).mono ?_
  rintro e w1 ⟨r, rfl, hr, k1⟩
  have HR := Lib.hid hr
  clear hr
  cases r with
  | false =>
    go_wp2_with fail
    exact HK.out _ _ _ _ _ _ _ _ _ _ false _ k1 ⟨fun h => absurd h (by decide), fun h => absurd (HR.out.2 h.1) (by decide)⟩
  | true =>
    go_wp2_with (refine kit_load_w (by kernel_rfl) 35 (.tmp 14) rfl gB rfl (voteV B (.slice bh nbh cbh) (.slice bp nbp cbp) (.slice ba nba cba) (.slice bs_ nbs cbs)) 35 ((k1).blk H.out.2.2.2.2.2.1 (by simp)) _ Tryz.underlying35 rfl hi35 ?_)
    refine (poll_any Y B H.out.2.2.2.1 H.out.2.1 (.slice yh nyh cyh) (.slice yp nyp cyp) (.slice ya nya cya) (.slice ys_ nys cys) (.slice bh nbh cbh) (.slice bp nbp cbp) (.slice ba nba cba) (.slice bs_ nbs cbs) w1 (H.out.2.2.2.2.2.2.2.2.2.2.kp (k1)) (H.out.2.2.2.2.2.2.2.2.1.kp (k1))).mono ?_
    rintro e w2 ⟨r2, rfl, hr2, k2⟩
    have HR2 := Lib.hid hr2
    clear hr2
    go_wp2_with fail
    exact HK.out _ _ _ _ _ _ _ _ _ _ r2 _ (k1.trans k2) ⟨fun h => ⟨HR.out.1 (by first | rfl | trivial), HR2.out.1 h⟩, fun h => HR2.out.2 h.2⟩
end Go.Proofs.YtfkaldaflnmfiaaGreatDoor
/- A region of FnEviMade: are the powers and the time right. Printed by gen/made.py. -/
namespace Go.Proofs.YtfkaldaflnmfiaaGreatDoor
set_option linter.unusedSimpArgs false
set_option linter.unusedVariables false
open Go Go.RowKit
set_option maxRecDepth 100000
set_option maxHeartbeats 40000000 in
theorem right_false {u0 u1 u2 u4 u5 u6 u7 u8 u9 u11 u13 u15 u17 u19 u21 u22 u23 u24 u25 u26 u27 u28 u29 u30 u31 u32 u33 u34 u35 u36 u37 u38 u39 u40 u41 u42 u43 u44 u45 u46 u47 u48 u49 u50 u51 u52 u53 u54 u55 u56 u57 u58 u59 u60 u61 u62 u63 u64 u65 u66 u67 u68 u69 u70 u71 u72 u73 u74 u75 u76 u77 u78 u79 u80 u81 u82 u83 u84 u85 u86 u87 u88 u89 u90 u91 u92 u93 u94 u95 u96 u97 u98 u99 u100 u101 u102 u103 u104 u105 u106 u107 u108 u109 u110 u111 u112 u113 u114 u115 u116 u117 u118 u119 u120 u121 u122 u123 u124 u125 u126 u127 u128 u129 u130 u131 u132 u133 u134 u135 u136 u137 u138 u139 u140 u141 u142 u143 u144 u145 u146 u147 u148 u149 u150 u151 u152 u153 u154 u155 u156 u157 u158 u159 u160 u161 u162 u163 u164 u165 u166 u167 u168 u169 u170 u171 u172 u173 u174 u175 u176 u177 u178 u179 u180 u181 u182 u183 u184 u185 u186 u187 u188 u189 u190 u191 u192 u193 u194 u195 u196 u197 u198 u199 u200 u201 u202 u203 u204 u205 u206 u207 u208 u209 u210 u211 u212 u213 u214 u215 u216 u217 u218 u219 u220 u221 u222 u223 u224 u225 u226 u227 u228 u229 u230 u231 u232 : Value} {K : Act → World → Prop} {Q0 : Exit → Act → World → Prop} (X Y : VD) (okX : X.ok) (okY : Y.ok) (gA gB gE : Nat) (ah ap aa as_ bh bp ba bs_ xh xp xa xs_ yh yp ya ys_ : Option Addr) (nah cah nap cap naa caa nas cas nbh cbh nbp cbp nba cba nbs cbs nxh cxh nxp cxp nxa cxa nxs cxs nyh cyh nyp cyp nya cya nys cys : Nat) (tot pw tm : Int) (W0 : World) (hgA : Blk W0 gA (voteV Y (.slice ah nah cah) (.slice ap nap cap) (.slice aa naa caa) (.slice as_ nas cas)) 35) (hgB : Blk W0 gB (voteV X (.slice bh nbh cbh) (.slice bp nbp cbp) (.slice ba nba cba) (.slice bs_ nbs cbs)) 35) (hgE : Blk W0 gE (eviV X Y (.slice xh nxh cxh) (.slice xp nxp cxp) (.slice xa nxa cxa) (.slice xs_ nxs cxs) (.slice yh nyh cyh) (.slice yp nyp cyp) (.slice ya nya cya) (.slice ys_ nys cys) tot pw tm) 39) (hA : VoteB W0 Y (.slice ah nah cah) (.slice ap nap cap) (.slice aa naa caa) (.slice as_ nas cas)) (hB : VoteB W0 X (.slice bh nbh cbh) (.slice bp nbp cbp) (.slice ba nba cba) (.slice bs_ nbs cbs)) (hX : VoteB W0 X (.slice xh nxh cxh) (.slice xp nxp cxp) (.slice xa nxa cxa) (.slice xs_ nxs cxs)) (hY : VoteB W0 Y (.slice yh nyh cyh) (.slice yp nyp cyp) (.slice ya nya cya) (.slice ys_ nys cys)) (b2 n c2 i : Nat) (Q : List Sp) (Sx : Sp) (hQ : SpAt W0 b2 Q) (hn : n = Q.length) (hn1 : n ≤ 1000) (hok : SpOk Q) (hi : Q[i]? = some Sx) (hpw : Sx.pow = pw) (htot : powS Q = tot) (htm : 0 ≤ tm ∧ tm ≤ 4294967295)
    (hK : ∀ (v94 v95 v96 v97 v98 v99 v100 v101 v102 v103 v104 v105 v106 v107 v108 v109 v110 v111 v112 v113 v114 v115 v116 v117 v118 v119 v120 v121 v122 v123 v124 v125 v126 v127 v128 v129 v130 v131 : Value)  (W : World), Kp [] W0 W → K ⟨#[u0, u1, u2, .int .u32 tm, u4, u5, u6, u7, u8, u9, .slice (some ⟨b2, 0, none⟩) n c2, u11, .pointer (some ⟨gA, 0, none⟩), u13, .pointer (some ⟨gB, 0, none⟩), u15, .pointer (some ⟨gE, 0, none⟩), u17, .int .i64 (i : Int), u19, .bool false, u21, u22, u23, u24, u25, u26, u27, u28, u29, u30, u31, u32, u33, u34, u35, u36, u37, u38, u39, u40, u41, u42, u43, u44, u45, u46, u47, u48, u49, u50, u51, u52, u53, u54, u55, u56, u57, u58, u59, u60, u61, u62, u63, u64, u65, u66, u67, u68, u69, u70, u71, u72, u73, u74, u75, u76, u77, u78, u79, u80, u81, u82, u83, u84, u85, u86, u87, u88, u89, u90, u91, u92, u93, v94, v95, v96, v97, v98, v99, v100, v101, v102, v103, v104, v105, v106, v107, v108, v109, v110, v111, v112, v113, v114, v115, v116, v117, v118, v119, v120, v121, v122, v123, v124, v125, v126, v127, v128, v129, v130, v131, .bool false, u133, u134, u135, u136, u137, u138, u139, u140, u141, u142, u143, u144, u145, u146, u147, u148, u149, u150, u151, u152, u153, u154, u155, u156, u157, u158, u159, u160, u161, u162, u163, u164, u165, u166, u167, u168, u169, u170, u171, u172, u173, u174, u175, u176, u177, u178, u179, u180, u181, u182, u183, u184, u185, u186, u187, u188, u189, u190, u191, u192, u193, u194, u195, u196, u197, u198, u199, u200, u201, u202, u203, u204, u205, u206, u207, u208, u209, u210, u211, u212, u213, u214, u215, u216, u217, u218, u219, u220, u221, u222, u223, u224, u225, u226, u227, u228, u229, u230, u231, u232], []⟩ W) :
    Code.wp Tryz.prog (codeAt Tryz.f4 [1, 1, 1, 1, 1, 1, 1, 1, 1, 1, 1, 1, 0, 0]) (Exit.then K Q0) ⟨#[u0, u1, u2, .int .u32 tm, u4, u5, u6, u7, u8, u9, .slice (some ⟨b2, 0, none⟩) n c2, u11, .pointer (some ⟨gA, 0, none⟩), u13, .pointer (some ⟨gB, 0, none⟩), u15, .pointer (some ⟨gE, 0, none⟩), u17, .int .i64 (i : Int), u19, .bool false, u21, u22, u23, u24, u25, u26, u27, u28, u29, u30, u31, u32, u33, u34, u35, u36, u37, u38, u39, u40, u41, u42, u43, u44, u45, u46, u47, u48, u49, u50, u51, u52, u53, u54, u55, u56, u57, u58, u59, u60, u61, u62, u63, u64, u65, u66, u67, u68, u69, u70, u71, u72, u73, u74, u75, u76, u77, u78, u79, u80, u81, u82, u83, u84, u85, u86, u87, u88, u89, u90, u91, u92, u93, u94, u95, u96, u97, u98, u99, u100, u101, u102, u103, u104, u105, u106, u107, u108, u109, u110, u111, u112, u113, u114, u115, u116, u117, u118, u119, u120, u121, u122, u123, u124, u125, u126, u127, u128, u129, u130, u131, u132, u133, u134, u135, u136, u137, u138, u139, u140, u141, u142, u143, u144, u145, u146, u147, u148, u149, u150, u151, u152, u153, u154, u155, u156, u157, u158, u159, u160, u161, u162, u163, u164, u165, u166, u167, u168, u169, u170, u171, u172, u173, u174, u175, u176, u177, u178, u179, u180, u181, u182, u183, u184, u185, u186, u187, u188, u189, u190, u191, u192, u193, u194, u195, u196, u197, u198, u199, u200, u201, u202, u203, u204, u205, u206, u207, u208, u209, u210, u211, u212, u213, u214, u215, u216, u217, u218, u219, u220, u221, u222, u223, u224, u225, u226, u227, u228, u229, u230, u231, u232], []⟩ W0 := by
  have hil : i < n := by rw [hn]; exact (List.getElem?_eq_some_iff.1 hi).1
  have z0 : (0 : Int) ≤ (i : Int) := by omega
  have z1 : (i : Int) < (n : Int) := by omega
  have hcS : ∀ W, SpAt W b2 Q → W.cell? ⟨b2, i * 3 + 1, none⟩ = some (.int .i64 pw) := by
    intro W hW
    have h1 := (hW i Sx hi).2.1
    rw [hpw] at h1
    exact h1
  have hwr : IntKind.i64.wrap tm = tm := IntWalk.i64_in _ (by omega)
  have HS := Lib.hid (fun (W : World) (k : Kp [] W0 W) => And.intro (k.blk hgE (by simp)) (And.intro (k.blk hgA (by simp)) (And.intro (k.blk hgB (by simp)) (hQ.kp k))))
  have HT := Lib.hid (fun (W : World) (k : Kp [] W0 W) => total_any b2 c2 n Q W (hQ.kp k) hn hn1 hok)
  have HTOT := Lib.hid htot
  have np : (pw != pw) = false := bne_self_eq_false pw
  have nt : (tot != tot) = false := bne_self_eq_false tot
  have nm : (tm != tm) = false := bne_self_eq_false tm
  have H := Lib.hid (And.intro okY (And.intro okX (And.intro okX (And.intro okY (And.intro hgA (And.intro hgB (And.intro hgE (And.intro hA (And.intro hB (And.intro hX hY))))))))))
  have HK := Lib.hid hK
  clear okX okY hgA hgB hgE hA hB hX hY
  clear hK hQ hn hok hi hpw htot htm
  have hS0 : (fun W => Blk W gE (eviV X Y (.slice xh nxh cxh) (.slice xp nxp cxp) (.slice xa nxa cxa) (.slice xs_ nxs cxs) (.slice yh nyh cyh) (.slice yp nyp cyp) (.slice ya nya cya) (.slice ys_ nys cys) tot pw tm) 39 ∧ Blk W gA (voteV Y (.slice ah nah cah) (.slice ap nap cap) (.slice aa naa caa) (.slice as_ nas cas)) 35 ∧ Blk W gB (voteV X (.slice bh nbh cbh) (.slice bp nbp cbp) (.slice ba nba cba) (.slice bs_ nbs cbs)) 35 ∧ SpAt W b2 Q) W0.drew := HS.out _ ((Kp.refl [] W0).drew)
  conv => arg 2; whnf
  dsimp only
  refine wp_region_noPanic ?_
  refine wp_region_last (fun W => Blk W gE (eviV X Y (.slice xh nxh cxh) (.slice xp nxp cxp) (.slice xa nxa cxa) (.slice xs_ nxs cxs) (.slice yh nyh cyh) (.slice yp nyp cyp) (.slice ya nya cya) (.slice ys_ nys cys) tot pw tm) 39 ∧ Blk W gA (voteV Y (.slice ah nah cah) (.slice ap nap cap) (.slice aa naa caa) (.slice as_ nas cas)) 35 ∧ Blk W gB (voteV X (.slice bh nbh cbh) (.slice bp nbp cbp) (.slice ba nba cba) (.slice bs_ nbs cbs)) 35 ∧ SpAt W b2 Q) (by kernel_rfl) ?_
  refine wpAnyL_takeD 94 (i := 0) (v := _) rfl rfl (by kernel_rfl) (by kernel_rfl) (by kernel_rfl) (fun _ _ _ h => h) (Or.inl ⟨by kernel_rfl, fun W hSW => by go_simp; try with_reducible rfl⟩) hS0 ?_
  simp only [List.setIfInBounds_toArray, List.set_cons_zero, List.set_cons_succ]
  refine wpAnyL_takeD 95 (i := 1) (v := _) rfl rfl (by kernel_rfl) (by kernel_rfl) (by kernel_rfl) (fun _ _ _ h => h) (Or.inl ⟨by kernel_rfl, fun W hSW => by go_simp; try with_reducible rfl⟩) hS0 ?_
  simp only [List.setIfInBounds_toArray, List.set_cons_zero, List.set_cons_succ]
  refine wpAnyL_takeD 96 (i := 2) (v := _) rfl rfl (by kernel_rfl) (by kernel_rfl) (by kernel_rfl) (fun _ _ _ h => h) (Or.inl ⟨by kernel_rfl, fun W hSW => by go_simp; try with_reducible rfl⟩) hS0 ?_
  simp only [List.setIfInBounds_toArray, List.set_cons_zero, List.set_cons_succ]
  refine wpAnyL_takeD 97 (i := 3) (v := _) rfl rfl (by kernel_rfl) (by kernel_rfl) (by kernel_rfl) (fun _ _ _ h => h) (Or.inl ⟨by kernel_rfl, fun W hSW => by go_simp; try with_reducible rfl⟩) hS0 ?_
  simp only [List.setIfInBounds_toArray, List.set_cons_zero, List.set_cons_succ]
  refine wpAnyL_takeD 98 (i := 4) (v := .agg #[.int .i64 X.typ, .int .i64 X.height, .int .i64 X.round, .slice xh nxh cxh, .int .i64 X.total, .slice xp nxp cxp, .int .i64 X.time, .slice xa nxa cxa, .int .i64 X.index, .slice xs_ nxs cxs, .slice none 0 0, .slice none 0 0]) rfl rfl (by kernel_rfl) (by kernel_rfl) (by kernel_rfl) (fun _ _ _ h => h) (Or.inl ⟨by kernel_rfl, fun W hSW => by have c0 : W.cell? ⟨gE, 0, none⟩ = some (.int .i64 X.typ) := hSW.1.cell rfl; have c1 : W.cell? ⟨gE, 1, none⟩ = some (.int .i64 X.height) := hSW.1.cell rfl; have c2 : W.cell? ⟨gE, 2, none⟩ = some (.int .i64 X.round) := hSW.1.cell rfl; have c3 : W.cell? ⟨gE, 3, none⟩ = some (.slice xh nxh cxh) := hSW.1.cell rfl; have c4 : W.cell? ⟨gE, 4, none⟩ = some (.int .i64 X.total) := hSW.1.cell rfl; have c5 : W.cell? ⟨gE, 5, none⟩ = some (.slice xp nxp cxp) := hSW.1.cell rfl; have c6 : W.cell? ⟨gE, 6, none⟩ = some (.int .i64 X.time) := hSW.1.cell rfl; have c7 : W.cell? ⟨gE, 7, none⟩ = some (.slice xa nxa cxa) := hSW.1.cell rfl; have c8 : W.cell? ⟨gE, 8, none⟩ = some (.int .i64 X.index) := hSW.1.cell rfl; have c9 : W.cell? ⟨gE, 9, none⟩ = some (.slice xs_ nxs cxs) := hSW.1.cell rfl; have c10 : W.cell? ⟨gE, 10, none⟩ = some (.slice none 0 0) := hSW.1.cell rfl; have c11 : W.cell? ⟨gE, 11, none⟩ = some (.slice none 0 0) := hSW.1.cell rfl; go_simp; try with_reducible rfl⟩) hS0 ?_
  simp only [List.setIfInBounds_toArray, List.set_cons_zero, List.set_cons_succ]
  refine wpAnyL_takeD 99 (i := 5) (v := .agg (voteV X (.slice bh nbh cbh) (.slice bp nbp cbp) (.slice ba nba cba) (.slice bs_ nbs cbs))) rfl rfl (by kernel_rfl) (by kernel_rfl) (by kernel_rfl) (fun _ _ _ h => h) (Or.inl ⟨by kernel_rfl, fun W hSW => by exact exec_load _ _ 35 (.tmp 14) rfl gB rfl (voteV X (.slice bh nbh cbh) (.slice bp nbp cbp) (.slice ba nba cba) (.slice bs_ nbs cbs)) 35 _ W hSW.2.2.1 Tryz.underlying35 rfl hi35⟩) hS0 ?_
  simp only [List.setIfInBounds_toArray, List.set_cons_zero, List.set_cons_succ]
  refine wpAnyL_one (i := 6) (by kernel_rfl) rfl (fun K' hK' => ?_)
  go_simp
  refine (poll_any X X H.out.2.2.1 H.out.2.1 (.slice xh nxh cxh) (.slice xp nxp cxp) (.slice xa nxa cxa) (.slice xs_ nxs cxs) (.slice bh nbh cbh) (.slice bp nbp cbp) (.slice ba nba cba) (.slice bs_ nbs cbs) W0.drew (H.out.2.2.2.2.2.2.2.2.2.1.kp ((Kp.refl [] W0).drew)) (H.out.2.2.2.2.2.2.2.2.1.kp ((Kp.refl [] W0).drew))).mono ?_
  rintro e W1 ⟨r, rfl, hr, hk0⟩
  obtain rfl : r = true := hr.2 (same1_refl _)
  have K1 := Lib.hid (((Kp.refl [] W0).drew).trans hk0)
  clear hr hk0
  go_wp2_with fail
  have hS0 := HS.out _ K1.out
  refine hK'.out _ _ hS0 ?_
  clear hK' K'
  try simp only [Act.put, List.setIfInBounds_toArray, List.set_cons_zero, List.set_cons_succ]
  refine wpAnyL_takeD 101 (i := 7) (v := _) rfl rfl (by kernel_rfl) (by kernel_rfl) (by kernel_rfl) (fun _ _ _ h => h) (Or.inl ⟨by kernel_rfl, fun W hSW => by go_simp; try with_reducible rfl⟩) hS0 ?_
  simp only [List.setIfInBounds_toArray, List.set_cons_zero, List.set_cons_succ]
  refine wpAnyL_takeD 102 (i := 8) (v := _) rfl rfl (by kernel_rfl) (by kernel_rfl) (by kernel_rfl) (fun _ _ _ h => h) (Or.inl ⟨by kernel_rfl, fun W hSW => by go_simp; try with_reducible rfl⟩) hS0 ?_
  simp only [List.setIfInBounds_toArray, List.set_cons_zero, List.set_cons_succ]
  refine wpAnyL_takeD 103 (i := 9) (v := .agg #[.int .i64 Y.typ, .int .i64 Y.height, .int .i64 Y.round, .slice yh nyh cyh, .int .i64 Y.total, .slice yp nyp cyp, .int .i64 Y.time, .slice ya nya cya, .int .i64 Y.index, .slice ys_ nys cys, .slice none 0 0, .slice none 0 0]) rfl rfl (by kernel_rfl) (by kernel_rfl) (by kernel_rfl) (fun _ _ _ h => h) (Or.inl ⟨by kernel_rfl, fun W hSW => by have c0 : W.cell? ⟨gE, 12, none⟩ = some (.int .i64 Y.typ) := hSW.1.cell rfl; have c1 : W.cell? ⟨gE, 13, none⟩ = some (.int .i64 Y.height) := hSW.1.cell rfl; have c2 : W.cell? ⟨gE, 14, none⟩ = some (.int .i64 Y.round) := hSW.1.cell rfl; have c3 : W.cell? ⟨gE, 15, none⟩ = some (.slice yh nyh cyh) := hSW.1.cell rfl; have c4 : W.cell? ⟨gE, 16, none⟩ = some (.int .i64 Y.total) := hSW.1.cell rfl; have c5 : W.cell? ⟨gE, 17, none⟩ = some (.slice yp nyp cyp) := hSW.1.cell rfl; have c6 : W.cell? ⟨gE, 18, none⟩ = some (.int .i64 Y.time) := hSW.1.cell rfl; have c7 : W.cell? ⟨gE, 19, none⟩ = some (.slice ya nya cya) := hSW.1.cell rfl; have c8 : W.cell? ⟨gE, 20, none⟩ = some (.int .i64 Y.index) := hSW.1.cell rfl; have c9 : W.cell? ⟨gE, 21, none⟩ = some (.slice ys_ nys cys) := hSW.1.cell rfl; have c10 : W.cell? ⟨gE, 22, none⟩ = some (.slice none 0 0) := hSW.1.cell rfl; have c11 : W.cell? ⟨gE, 23, none⟩ = some (.slice none 0 0) := hSW.1.cell rfl; go_simp; try with_reducible rfl⟩) hS0 ?_
  simp only [List.setIfInBounds_toArray, List.set_cons_zero, List.set_cons_succ]
  refine wpAnyL_takeD 104 (i := 10) (v := .agg (voteV Y (.slice ah nah cah) (.slice ap nap cap) (.slice aa naa caa) (.slice as_ nas cas))) rfl rfl (by kernel_rfl) (by kernel_rfl) (by kernel_rfl) (fun _ _ _ h => h) (Or.inl ⟨by kernel_rfl, fun W hSW => by exact exec_load _ _ 35 (.tmp 12) rfl gA rfl (voteV Y (.slice ah nah cah) (.slice ap nap cap) (.slice aa naa caa) (.slice as_ nas cas)) 35 _ W hSW.2.1 Tryz.underlying35 rfl hi35⟩) hS0 ?_
  simp only [List.setIfInBounds_toArray, List.set_cons_zero, List.set_cons_succ]
  refine wpAnyL_one (i := 11) (by kernel_rfl) rfl (fun K' hK' => ?_)
  go_simp
  refine (poll_any Y Y H.out.2.2.2.1 H.out.1 (.slice yh nyh cyh) (.slice yp nyp cyp) (.slice ya nya cya) (.slice ys_ nys cys) (.slice ah nah cah) (.slice ap nap cap) (.slice aa naa caa) (.slice as_ nas cas) W1 (H.out.2.2.2.2.2.2.2.2.2.2.kp (K1.out)) (H.out.2.2.2.2.2.2.2.1.kp (K1.out))).mono ?_
  rintro e W2 ⟨r, rfl, hr, hk0⟩
  obtain rfl : r = true := hr.2 (same1_refl _)
  have K2 := Lib.hid ((K1.out).trans hk0)
  clear hr hk0
  go_wp2_with fail
  have hS0 := HS.out _ K2.out
  refine hK'.out _ _ hS0 ?_
  clear hK' K'
  try simp only [Act.put, List.setIfInBounds_toArray, List.set_cons_zero, List.set_cons_succ]
  refine wpAnyL_takeD 106 (i := 12) (v := .bool true) rfl rfl (by kernel_rfl) (by kernel_rfl) (by kernel_rfl) (fun _ _ _ h => h) (Or.inl ⟨by kernel_rfl, fun W hSW => by go_simp; try with_reducible rfl⟩) hS0 ?_
  simp only [List.setIfInBounds_toArray, List.set_cons_zero, List.set_cons_succ]
  refine wpAnyL_takeD 107 (i := 13) (v := .bool false) rfl rfl (by kernel_rfl) (by kernel_rfl) (by kernel_rfl) (fun _ _ _ h => h) (Or.inl ⟨by kernel_rfl, fun W hSW => by go_simp; try with_reducible rfl⟩) hS0 ?_
  simp only [List.setIfInBounds_toArray, List.set_cons_zero, List.set_cons_succ]
  refine wpAnyL_takeD 108 (i := 14) (v := .bool false) rfl rfl (by kernel_rfl) (by kernel_rfl) (by kernel_rfl) (fun _ _ _ h => h) (Or.inl ⟨by kernel_rfl, fun W hSW => by go_simp; try with_reducible rfl⟩) hS0 ?_
  simp only [List.setIfInBounds_toArray, List.set_cons_zero, List.set_cons_succ]
  refine wpAnyL_takeD 109 (i := 15) (v := _) rfl rfl (by kernel_rfl) (by kernel_rfl) (by kernel_rfl) (fun _ _ _ h => h) (Or.inl ⟨by kernel_rfl, fun W hSW => by go_simp; try with_reducible rfl⟩) hS0 ?_
  simp only [List.setIfInBounds_toArray, List.set_cons_zero, List.set_cons_succ]
  refine wpAnyL_takeD 110 (i := 16) (v := _) rfl rfl (by kernel_rfl) (by kernel_rfl) (by kernel_rfl) (fun _ _ _ h => h) (Or.inl ⟨by kernel_rfl, fun W hSW => by go_simp; try with_reducible rfl⟩) hS0 ?_
  simp only [List.setIfInBounds_toArray, List.set_cons_zero, List.set_cons_succ]
  refine wpAnyL_takeD 111 (i := 17) (v := .int .i64 pw) rfl rfl (by kernel_rfl) (by kernel_rfl) (by kernel_rfl) (fun _ _ _ h => h) (Or.inl ⟨by kernel_rfl, fun W hSW => by have c0 : W.cell? ⟨gE, 25, none⟩ = some (.int .i64 pw) := hSW.1.cell rfl; go_simp; try with_reducible rfl⟩) hS0 ?_
  simp only [List.setIfInBounds_toArray, List.set_cons_zero, List.set_cons_succ]
  refine wpAnyL_takeD 112 (i := 18) (v := _) rfl rfl (by kernel_rfl) (by kernel_rfl) (by kernel_rfl) (fun _ _ _ h => h) (Or.inl ⟨by kernel_rfl, fun W hSW => by go_simp; try with_reducible rfl⟩) hS0 ?_
  simp only [List.setIfInBounds_toArray, List.set_cons_zero, List.set_cons_succ]
  refine wpAnyL_takeD 113 (i := 19) (v := _) rfl rfl (by kernel_rfl) (by kernel_rfl) (by kernel_rfl) (fun _ _ _ h => h) (Or.inl ⟨by kernel_rfl, fun W hSW => by go_simp; try with_reducible rfl⟩) hS0 ?_
  simp only [List.setIfInBounds_toArray, List.set_cons_zero, List.set_cons_succ]
  refine wpAnyL_takeD 114 (i := 20) (v := .pointer (some ⟨b2, i * 3, none⟩)) rfl rfl (by kernel_rfl) (by kernel_rfl) (by kernel_rfl) (fun _ _ _ h => h) (Or.inl ⟨by kernel_rfl, fun W hSW => by go_simp; try with_reducible rfl⟩) hS0 ?_
  simp only [List.setIfInBounds_toArray, List.set_cons_zero, List.set_cons_succ]
  refine wpAnyL_takeD 115 (i := 21) (v := .pointer (some ⟨b2, i * 3 + 1, none⟩)) rfl rfl (by kernel_rfl) (by kernel_rfl) (by kernel_rfl) (fun _ _ _ h => h) (Or.inl ⟨by kernel_rfl, fun W hSW => by go_simp; try with_reducible rfl⟩) hS0 ?_
  simp only [List.setIfInBounds_toArray, List.set_cons_zero, List.set_cons_succ]
  refine wpAnyL_takeD 116 (i := 22) (v := .int .i64 pw) rfl rfl (by kernel_rfl) (by kernel_rfl) (by kernel_rfl) (fun _ _ _ h => h) (Or.inl ⟨by kernel_rfl, fun W hSW => by have c0 := hcS W hSW.2.2.2; go_simp; try with_reducible rfl⟩) hS0 ?_
  simp only [List.setIfInBounds_toArray, List.set_cons_zero, List.set_cons_succ]
  refine wpAnyL_takeD 117 (i := 23) (v := .bool false) rfl rfl (by kernel_rfl) (by kernel_rfl) (by kernel_rfl) (fun _ _ _ h => h) (Or.inl ⟨by kernel_rfl, fun W hSW => by go_simp; try with_reducible rfl⟩) hS0 ?_
  simp only [List.setIfInBounds_toArray, List.set_cons_zero, List.set_cons_succ]
  refine wpAnyL_takeD 118 (i := 24) (v := .bool false) rfl rfl (by kernel_rfl) (by kernel_rfl) (by kernel_rfl) (fun _ _ _ h => h) (Or.inl ⟨by kernel_rfl, fun W hSW => by go_simp; try with_reducible rfl⟩) hS0 ?_
  simp only [List.setIfInBounds_toArray, List.set_cons_zero, List.set_cons_succ]
  refine wpAnyL_takeD 119 (i := 25) (v := _) rfl rfl (by kernel_rfl) (by kernel_rfl) (by kernel_rfl) (fun _ _ _ h => h) (Or.inl ⟨by kernel_rfl, fun W hSW => by go_simp; try with_reducible rfl⟩) hS0 ?_
  simp only [List.setIfInBounds_toArray, List.set_cons_zero, List.set_cons_succ]
  refine wpAnyL_takeD 120 (i := 26) (v := _) rfl rfl (by kernel_rfl) (by kernel_rfl) (by kernel_rfl) (fun _ _ _ h => h) (Or.inl ⟨by kernel_rfl, fun W hSW => by go_simp; try with_reducible rfl⟩) hS0 ?_
  simp only [List.setIfInBounds_toArray, List.set_cons_zero, List.set_cons_succ]
  refine wpAnyL_takeD 121 (i := 27) (v := .int .i64 tot) rfl rfl (by kernel_rfl) (by kernel_rfl) (by kernel_rfl) (fun _ _ _ h => h) (Or.inl ⟨by kernel_rfl, fun W hSW => by have c0 : W.cell? ⟨gE, 24, none⟩ = some (.int .i64 tot) := hSW.1.cell rfl; go_simp; try with_reducible rfl⟩) hS0 ?_
  simp only [List.setIfInBounds_toArray, List.set_cons_zero, List.set_cons_succ]
  refine wpAnyL_takeD 122 (i := 28) (v := _) rfl rfl (by kernel_rfl) (by kernel_rfl) (by kernel_rfl) (fun _ _ _ h => h) (Or.inl ⟨by kernel_rfl, fun W hSW => by go_simp; try with_reducible rfl⟩) hS0 ?_
  simp only [List.setIfInBounds_toArray, List.set_cons_zero, List.set_cons_succ]
  refine wpAnyL_one (i := 29) (by kernel_rfl) rfl (fun K' hK' => ?_)
  go_simp
  refine (HT.out W2 K2.out).mono ?_
  rintro e W9 ⟨rfl, hk0⟩
  rw [HTOT.out]
  have K9 := Lib.hid ((K2.out).trans hk0)
  clear hk0
  go_wp2_with fail
  have hS0 := HS.out _ K9.out
  refine hK'.out _ _ hS0 ?_
  clear hK' K'
  try simp only [Act.put, List.setIfInBounds_toArray, List.set_cons_zero, List.set_cons_succ]
  refine wpAnyL_takeD 124 (i := 30) (v := .bool false) rfl rfl (by kernel_rfl) (by kernel_rfl) (by kernel_rfl) (fun _ _ _ h => h) (Or.inl ⟨by kernel_rfl, fun W hSW => by go_simp; try with_reducible rfl⟩) hS0 ?_
  simp only [List.setIfInBounds_toArray, List.set_cons_zero, List.set_cons_succ]
  refine wpAnyL_takeD 125 (i := 31) (v := .bool false) rfl rfl (by kernel_rfl) (by kernel_rfl) (by kernel_rfl) (fun _ _ _ h => h) (Or.inl ⟨by kernel_rfl, fun W hSW => by go_simp; try with_reducible rfl⟩) hS0 ?_
  simp only [List.setIfInBounds_toArray, List.set_cons_zero, List.set_cons_succ]
  refine wpAnyL_takeD 126 (i := 32) (v := _) rfl rfl (by kernel_rfl) (by kernel_rfl) (by kernel_rfl) (fun _ _ _ h => h) (Or.inl ⟨by kernel_rfl, fun W hSW => by go_simp; try with_reducible rfl⟩) hS0 ?_
  simp only [List.setIfInBounds_toArray, List.set_cons_zero, List.set_cons_succ]
  refine wpAnyL_takeD 127 (i := 33) (v := _) rfl rfl (by kernel_rfl) (by kernel_rfl) (by kernel_rfl) (fun _ _ _ h => h) (Or.inl ⟨by kernel_rfl, fun W hSW => by go_simp; try with_reducible rfl⟩) hS0 ?_
  simp only [List.setIfInBounds_toArray, List.set_cons_zero, List.set_cons_succ]
  refine wpAnyL_takeD 128 (i := 34) (v := .int .i64 tm) rfl rfl (by kernel_rfl) (by kernel_rfl) (by kernel_rfl) (fun _ _ _ h => h) (Or.inl ⟨by kernel_rfl, fun W hSW => by have c0 : W.cell? ⟨gE, 26, none⟩ = some (.int .i64 tm) := hSW.1.cell rfl; go_simp; try with_reducible rfl⟩) hS0 ?_
  simp only [List.setIfInBounds_toArray, List.set_cons_zero, List.set_cons_succ]
  refine wpAnyL_takeD 129 (i := 35) (v := _) rfl rfl (by kernel_rfl) (by kernel_rfl) (by kernel_rfl) (fun _ _ _ h => h) (Or.inl ⟨by kernel_rfl, fun W hSW => by go_simp; try with_reducible rfl⟩) hS0 ?_
  simp only [List.setIfInBounds_toArray, List.set_cons_zero, List.set_cons_succ]
  refine wpAnyL_takeD 130 (i := 36) (v := .int .i64 tm) rfl rfl (by kernel_rfl) (by kernel_rfl) (by kernel_rfl) (fun _ _ _ h => h) (Or.inl ⟨by kernel_rfl, fun W hSW => by go_simp; try with_reducible rfl⟩) hS0 ?_
  simp only [List.setIfInBounds_toArray, List.set_cons_zero, List.set_cons_succ]
  refine wpAnyL_takeD 131 (i := 37) (v := .bool false) rfl rfl (by kernel_rfl) (by kernel_rfl) (by kernel_rfl) (fun _ _ _ h => h) (Or.inl ⟨by kernel_rfl, fun W hSW => by go_simp; try with_reducible rfl⟩) hS0 ?_
  simp only [List.setIfInBounds_toArray, List.set_cons_zero, List.set_cons_succ]
  refine wpAnyL_takeD 132 (i := 38) (v := .bool false) rfl rfl (by kernel_rfl) (by kernel_rfl) (by kernel_rfl) (fun _ _ _ h => h) (Or.inl ⟨by kernel_rfl, fun W hSW => by go_simp; try with_reducible rfl⟩) hS0 ?_
  simp only [List.setIfInBounds_toArray, List.set_cons_zero, List.set_cons_succ]
  refine ⟨by kernel_rfl, NoPanic.normal ?_⟩
  exact HK.out _ _ _ _ _ _ _ _ _ _ _ _ _ _ _ _ _ _ _ _ _ _ _ _ _ _ _ _ _ _ _ _ _ _ _ _ _ _ _ K9.out
end Go.Proofs.YtfkaldaflnmfiaaGreatDoor
