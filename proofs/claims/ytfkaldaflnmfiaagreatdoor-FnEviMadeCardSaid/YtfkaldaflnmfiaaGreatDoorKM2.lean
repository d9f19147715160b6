/- Regions of FnEviMade: the evidence of the votes exchanged is the same. Printed by gen/made.py. -/
import Derived.WalkKit
import Derived.WalkSpells
import Derived.WalkLawsBesides
import Derived.Handy
import Derived.Lib.Hide
import Derived.IntWalk
import Derived.Deep.DeepCutAuto
import Derived.Test.YtfkaldaflnmfiaaGreatDoorKSm
import Derived.Test.YtfkaldaflnmfiaaGreatDoorKM3
namespace Go.Proofs.YtfkaldaflnmfiaaGreatDoor
set_option linter.unusedSimpArgs false
set_option linter.unusedVariables false
open Go Go.RowKit
set_option maxRecDepth 100000
set_option maxHeartbeats 8000000 in
theorem swap_reg {u0 u1 u2 u4 u5 u6 u7 u8 u10 u11 u13 u15 u17 u18 u20 u21 u22 u23 u24 u25 u26 u27 u28 u29 u30 u31 u32 u33 u34 u35 u36 u37 u38 u39 u40 u41 u42 u43 u44 u45 u46 u47 u48 u49 u50 u51 u52 u53 u54 u55 u56 u57 u58 u59 u60 u61 u62 u63 u64 u65 u66 u67 u68 u69 u70 u71 u72 u73 u74 u75 u76 u77 u78 u79 u80 u81 u82 u83 u84 u85 u86 u87 u88 u89 u90 u91 u92 u93 u94 u95 u96 u97 u98 u99 u100 u101 u102 u103 u104 u105 u106 u107 u108 u109 u110 u111 u112 u113 u114 u115 u116 u117 u118 u119 u120 u121 u122 u123 u124 u125 u126 u127 u128 u129 u130 u131 u132 u133 u134 u135 u136 u137 u138 u139 u140 u141 u142 u143 u144 u145 u146 u147 u148 u149 u150 u151 u152 u153 u154 u155 u156 u157 u158 u159 u160 u161 u162 u163 u164 u165 u166 u167 u168 u169 u170 u171 u172 u173 u174 u175 u176 u177 u178 u179 u180 u181 u182 u183 u184 u185 u186 u187 u188 u189 u190 u191 u192 u193 u194 u195 u196 u197 u198 u199 u200 u201 u202 u203 u204 u205 u206 u207 u208 u209 u210 u211 u212 u213 u214 u215 u216 u217 u218 u219 u220 u221 u222 u223 u224 u225 u226 u227 u228 u229 u230 u231 u232 : Value} {K K2 : Act → World → Prop} {Q0 Q1 : Exit → Act → World → Prop} (hK2 : ∀ a w, Code.wp Tryz.prog (codeAt Tryz.f4 [1, 1, 1, 1, 1, 1, 1, 1, 1, 1, 1, 1, 1, 0, 1]) (Exit.then K Q0) a w → K2 a w) (kt : Nat → Int) (P : List Int) (hten : Ten kt) (A B X Y : VD) (okA : A.ok) (okB : B.ok) (okX : X.ok) (okY : Y.ok) (gA gB gE : Nat) (ah ap aa as_ bh bp ba bs_ xh xp xa xs_ yh yp ya ys_ : Option Addr) (nah cah nap cap naa caa nas cas nbh cbh nbp cbp nba cba nbs cbs nxh cxh nxp cxp nxa cxa nxs cxs nyh cyh nyp cyp nya cya nys cys : Nat) (tot pw tm : Int) (W0 : World) (hgA : Blk W0 gA (voteV A (.slice ah nah cah) (.slice ap nap cap) (.slice aa naa caa) (.slice as_ nas cas)) 35) (hgB : Blk W0 gB (voteV B (.slice bh nbh cbh) (.slice bp nbp cbp) (.slice ba nba cba) (.slice bs_ nbs cbs)) 35) (hgE : Blk W0 gE (eviV X Y (.slice xh nxh cxh) (.slice xp nxp cxp) (.slice xa nxa cxa) (.slice xs_ nxs cxs) (.slice yh nyh cyh) (.slice yp nyp cyp) (.slice ya nya cya) (.slice ys_ nys cys) tot pw tm) 39) (hA : VoteB W0 A (.slice ah nah cah) (.slice ap nap cap) (.slice aa naa caa) (.slice as_ nas cas)) (hB : VoteB W0 B (.slice bh nbh cbh) (.slice bp nbp cbp) (.slice ba nba cba) (.slice bs_ nbs cbs)) (hX : VoteB W0 X (.slice xh nxh cxh) (.slice xp nxp cxp) (.slice xa nxa cxa) (.slice xs_ nxs cxs)) (hY : VoteB W0 Y (.slice yh nyh cyh) (.slice yp nyp cyp) (.slice ya nya cya) (.slice ys_ nys cys)) (g9 n : Nat) (v : Value) (pi : Int) (sm : Bool) (Ls : List Sea) (V : List Int × Int) (h9 : Blk W0 g9 #[v, .int .i64 pi] 27) (hL : SeaR W0 v Ls) (hn : n = Ls.length) (hn0 : 0 < n) (hn1 : n ≤ 7) (hp : ∀ S ∈ Ls, 1 ≤ S.pow ∧ S.pow ≤ 1000) (hkp : (Ls.map Sea.kp2).Perm (KP P n)) (hpi : -1 ≤ pi ∧ pi < n) (hT : Tab kt W0) (hV : V ∈ Ls.map Sea.kp2) (hVa : addr kt V.1 = A.addr) (htot : ((Ls.map Sea.kp2).map Prod.snd).sum = tot) (hpw : V.2 = pw) (htm : 0 ≤ tm ∧ tm ≤ 4294967295) (lA : Lens A) (lB : Lens B) (ht : Turned A B X Y) (hsm : sm = true ↔ SameB A B)
    (hK : ∀ (v21 v22 v133 v134 v135 v136 v137 v138 v139 v140 v141 v142 v143 v144 v145 v146 v147 v148 v149 v150 v151 v152 v153 v154 v155 v156 v157 v158 v159 v160 : Value)  (W : World), Kp [] W0 W → K ⟨#[u0, u1, u2, .int .u32 tm, u4, u5, u6, u7, u8, .pointer (some ⟨g9, 0, none⟩), u10, u11, .pointer (some ⟨gA, 0, none⟩), u13, .pointer (some ⟨gB, 0, none⟩), u15, .pointer (some ⟨gE, 0, none⟩), u17, u18, .bool sm, u20, v21, v22, u23, u24, u25, u26, u27, u28, u29, u30, u31, u32, u33, u34, u35, u36, u37, u38, u39, u40, u41, u42, u43, u44, u45, u46, u47, u48, u49, u50, u51, u52, u53, u54, u55, u56, u57, u58, u59, u60, u61, u62, u63, u64, u65, u66, u67, u68, u69, u70, u71, u72, u73, u74, u75, u76, u77, u78, u79, u80, u81, u82, u83, u84, u85, u86, u87, u88, u89, u90, u91, u92, u93, u94, u95, u96, u97, u98, u99, u100, u101, u102, u103, u104, u105, u106, u107, u108, u109, u110, u111, u112, u113, u114, u115, u116, u117, u118, u119, u120, u121, u122, u123, u124, u125, u126, u127, u128, u129, u130, u131, u132, v133, v134, v135, v136, v137, v138, v139, v140, v141, v142, v143, v144, v145, v146, v147, v148, v149, v150, v151, v152, v153, v154, v155, v156, v157, v158, v159, v160, u161, u162, u163, u164, u165, u166, u167, u168, u169, u170, u171, u172, u173, u174, u175, u176, u177, u178, u179, u180, u181, u182, u183, u184, u185, u186, u187, u188, u189, u190, u191, u192, u193, u194, u195, u196, u197, u198, u199, u200, u201, u202, u203, u204, u205, u206, u207, u208, u209, u210, u211, u212, u213, u214, u215, u216, u217, u218, u219, u220, u221, u222, u223, u224, u225, u226, u227, u228, u229, u230, u231, u232], []⟩ W) :
    Code.wp Tryz.prog (codeAt Tryz.f4 [1, 1, 1, 1, 1, 1, 1, 1, 1, 1, 1, 1, 1, 0, 0]) (Exit.then K2 Q1) ⟨#[u0, u1, u2, .int .u32 tm, u4, u5, u6, u7, u8, .pointer (some ⟨g9, 0, none⟩), u10, u11, .pointer (some ⟨gA, 0, none⟩), u13, .pointer (some ⟨gB, 0, none⟩), u15, .pointer (some ⟨gE, 0, none⟩), u17, u18, .bool sm, u20, u21, u22, u23, u24, u25, u26, u27, u28, u29, u30, u31, u32, u33, u34, u35, u36, u37, u38, u39, u40, u41, u42, u43, u44, u45, u46, u47, u48, u49, u50, u51, u52, u53, u54, u55, u56, u57, u58, u59, u60, u61, u62, u63, u64, u65, u66, u67, u68, u69, u70, u71, u72, u73, u74, u75, u76, u77, u78, u79, u80, u81, u82, u83, u84, u85, u86, u87, u88, u89, u90, u91, u92, u93, u94, u95, u96, u97, u98, u99, u100, u101, u102, u103, u104, u105, u106, u107, u108, u109, u110, u111, u112, u113, u114, u115, u116, u117, u118, u119, u120, u121, u122, u123, u124, u125, u126, u127, u128, u129, u130, u131, u132, u133, u134, u135, u136, u137, u138, u139, u140, u141, u142, u143, u144, u145, u146, u147, u148, u149, u150, u151, u152, u153, u154, u155, u156, u157, u158, u159, u160, u161, u162, u163, u164, u165, u166, u167, u168, u169, u170, u171, u172, u173, u174, u175, u176, u177, u178, u179, u180, u181, u182, u183, u184, u185, u186, u187, u188, u189, u190, u191, u192, u193, u194, u195, u196, u197, u198, u199, u200, u201, u202, u203, u204, u205, u206, u207, u208, u209, u210, u211, u212, u213, u214, u215, u216, u217, u218, u219, u220, u221, u222, u223, u224, u225, u226, u227, u228, u229, u230, u231, u232], []⟩ W0 := by
  have hwr : IntKind.i64.wrap tm = tm := IntWalk.i64_in _ (by omega)
  have a7 : ∀ W, Kp [] W0 W → W.cell? ⟨gA, 7, none⟩ = some (.slice aa naa caa) := hgA.all 7 rfl
  have b7 : ∀ W, Kp [] W0 W → W.cell? ⟨gB, 7, none⟩ = some (.slice ba nba cba) := hgB.all 7 rfl
  have hc1 : ∀ W, Kp [] W0 W → (convert 22 9 (.slice aa naa caa)).run Tryz.prog W = .ok (.string (strOfNums A.addr)) W := fun W kW => run_string W (hA.addr.kp kW) 22 Tryz.underlying22
  have hc2 : ∀ W, Kp [] W0 W → (convert 22 9 (.slice ba nba cba)).run Tryz.prog W = .ok (.string (strOfNums B.addr)) W := fun W kW => run_string W (hB.addr.kp kW) 22 Tryz.underlying22
  have sq := strS_beq okA.addr.1 okB.addr.1
  have HD := Lib.hid (fun (W : World) (k : Kp [] W0 W) => dupl_any kt B A okB okA (.slice bh nbh cbh) (.slice bp nbp cbp) (.slice ba nba cba) (.slice bs_ nbs cbs) (.slice ah nah cah) (.slice ap nap cap) (.slice aa naa caa) (.slice as_ nas cas) tm pi v n Ls W (hB.kp k) (hA.kp k) (hL.kp k) hn hn0 (by omega) hp hpi (hT.kp k))
  have H2 := Lib.hid (And.intro hten (And.intro hkp (And.intro hV (And.intro hVa (And.intro htot (And.intro hpw (And.intro lA (And.intro lB (And.intro ht (And.intro hsm h9))))))))))
  have H := Lib.hid (And.intro okA (And.intro okB (And.intro okX (And.intro okY (And.intro hgA (And.intro hgB (And.intro hgE (And.intro hA (And.intro hB (And.intro hX hY))))))))))
  have HK := Lib.hid hK
  have HK2 := Lib.hid hK2
  clear okA okB okX okY hgA hgB hgE hA hB hX hY
  clear hK hK2 hten hkp hV hVa htot hpw lA lB ht hsm h9 hL hp hpi hT hn
  conv => arg 2; whnf
  by_cases had : A.addr = B.addr
  case neg =>
    rw [decide_eq_false had] at sq
    clear had
    go_wp2_with fail
    refine HK2.out _ _ ?_
    conv => arg 2; whnf
    go_wp2_with fail
    exact HK.out _ _ _ _ _ _ _ _ _ _ _ _ _ _ _ _ _ _ _ _ _ _ _ _ _ _ _ _ _ _ _ (Kp.refl [] W0)
  case pos =>
    rw [decide_eq_true had] at sq
    have HAD := Lib.hid had
    clear had
    cases sm with
    | true =>
      go_wp2_with fail
      refine HK2.out _ _ ?_
      conv => arg 2; whnf
      go_wp2_with fail
      exact HK.out _ _ _ _ _ _ _ _ _ _ _ _ _ _ _ _ _ _ _ _ _ _ _ _ _ _ _ _ _ _ _ (Kp.refl [] W0)
    | false =>
      have hns : ¬ SameB A B := fun h => absurd (H2.out.2.2.2.2.2.2.2.2.2.1.2 h) (by decide)
      have HNS := Lib.hid hns
      clear hns
      go_wp2_with fail
      refine HK2.out _ _ ?_
      conv => arg 2; whnf
      go_wp2_with (first
        | (refine kit_load rfl 35 (.tmp 14) rfl _ rfl gB rfl (voteV B (.slice bh nbh cbh) (.slice bp nbp cbp) (.slice ba nba cba) (.slice bs_ nbs cbs)) 35 ((Kp.refl [] W0).blk H.out.2.2.2.2.2.1 (by simp)) _ Tryz.underlying35 rfl hi35 ?_)
        | (refine kit_load rfl 35 (.tmp 12) rfl _ rfl gA rfl (voteV A (.slice ah nah cah) (.slice ap nap cap) (.slice aa naa caa) (.slice as_ nas cas)) 35 ((Kp.refl [] W0).blk H.out.2.2.2.2.1 (by simp)) _ Tryz.underlying35 rfl hi35 ?_)
        | (refine kit_load rfl 27 (.tmp 9) rfl _ rfl g9 rfl #[v, .int .i64 pi] 27 ((Kp.refl [] W0).blk H2.out.2.2.2.2.2.2.2.2.2.2 (by simp)) _ Tryz.underlying27 rfl hi27 ?_))
      refine (HD.out W0 (Kp.refl [] W0)).mono ?_
      rintro e w1 ⟨hd, k1⟩
      rcases hd with ⟨V2, X2, Y2, z1, z2, z3, z4, z5, z6, z7, z8, hV2, hV2a, ht2, hX2, hY2, rfl⟩ | ⟨hno, rfl⟩
      case inr => exact absurd (H2.out.2.2.2.1.trans HAD.out) (hno V H2.out.2.2.1)
      obtain rfl : V = V2 := lk_uniq H2.out.1 (by omega) H2.out.2.1 H2.out.2.2.1 hV2 (H2.out.2.2.2.1.trans (HAD.out.trans hV2a.symm))
      obtain ⟨rfl, rfl⟩ := turned_same H.out.1 H.out.2.1 H2.out.2.2.2.2.2.2.1 H2.out.2.2.2.2.2.2.2.1 HNS.out H2.out.2.2.2.2.2.2.2.2.1 ht2
      rw [H2.out.2.2.2.2.1, H2.out.2.2.2.2.2.1]
      obtain ⟨q0, nq0, cq0, rfl⟩ := hX2.hash.form
      obtain ⟨q1, nq1, cq1, rfl⟩ := hX2.parts.form
      obtain ⟨q2, nq2, cq2, rfl⟩ := hX2.addr.form
      obtain ⟨q3, nq3, cq3, rfl⟩ := hX2.sig.form
      obtain ⟨q4, nq4, cq4, rfl⟩ := hY2.hash.form
      obtain ⟨q5, nq5, cq5, rfl⟩ := hY2.parts.form
      obtain ⟨q6, nq6, cq6, rfl⟩ := hY2.addr.form
      obtain ⟨q7, nq7, cq7, rfl⟩ := hY2.sig.form
      have H3 := Lib.hid (And.intro k1 (And.intro hX2 hY2))
      clear k1 hX2 hY2 hV2 hV2a ht2
      go_wp2_with (first
        | (refine kit_store_last rfl 39 _ _ rfl rfl w1.heap.size (eviV X2 Y2 (.slice q0 nq0 cq0) (.slice q1 nq1 cq1) (.slice q2 nq2 cq2) (.slice q3 nq3 cq3) (.slice q4 nq4 cq4) (.slice q5 nq5 cq5) (.slice q6 nq6 cq6) (.slice q7 nq7 cq7) tot pw tm) eviZ rfl rfl rfl hi39 rfl (evi_one _ _ _ _ _ _ _ _ _ _ _ _ _ _ _ _ _ _ _ _ _ _ _ _ _ _ _ _ _) ?_
           have k4 : Kp [] W0 (w1.alloc (.cells (eviV X2 Y2 (.slice q0 nq0 cq0) (.slice q1 nq1 cq1) (.slice q2 nq2 cq2) (.slice q3 nq3 cq3) (.slice q4 nq4 cq4) (.slice q5 nq5 cq5) (.slice q6 nq6 cq6) (.slice q7 nq7 cq7) tot pw tm) 39)) := H3.out.1.alloc _
           have k14 : Kp [] w1 (w1.alloc (.cells (eviV X2 Y2 (.slice q0 nq0 cq0) (.slice q1 nq1 cq1) (.slice q2 nq2 cq2) (.slice q3 nq3 cq3) (.slice q4 nq4 cq4) (.slice q5 nq5 cq5) (.slice q6 nq6 cq6) (.slice q7 nq7 cq7) tot pw tm) 39)) := (Kp.refl [] w1).alloc _
           have hb4 := Blk.new w1 (eviV X2 Y2 (.slice q0 nq0 cq0) (.slice q1 nq1 cq1) (.slice q2 nq2 cq2) (.slice q3 nq3 cq3) (.slice q4 nq4 cq4) (.slice q5 nq5 cq5) (.slice q6 nq6 cq6) (.slice q7 nq7 cq7) tot pw tm) 39
           generalize w1.alloc (.cells (eviV X2 Y2 (.slice q0 nq0 cq0) (.slice q1 nq1 cq1) (.slice q2 nq2 cq2) (.slice q3 nq3 cq3) (.slice q4 nq4 cq4) (.slice q5 nq5 cq5) (.slice q6 nq6 cq6) (.slice q7 nq7 cq7) tot pw tm) 39) = w4 at *
           obtain ⟨g4, eg4⟩ : ∃ g, g = w1.heap.size := ⟨_, rfl⟩
           rw [← eg4] at hb4 ⊢
           have H4 := Lib.hid (And.intro k4 (And.intro hb4 k14))
           clear k4 k14 hb4 eg4)
        | (refine kit_load_w (by kernel_rfl) 39 (.tmp 16) rfl gE rfl (eviV X2 Y2 (.slice xh nxh cxh) (.slice xp nxp cxp) (.slice xa nxa cxa) (.slice xs_ nxs cxs) (.slice yh nyh cyh) (.slice yp nyp cyp) (.slice ya nya cya) (.slice ys_ nys cys) tot pw tm) 39 ((H4.out.1).blk H.out.2.2.2.2.2.2.1 (by simp)) _ Tryz.underlying39 rfl hi39 ?_)
        | (refine kit_load_w (by kernel_rfl) 39 (.tmp 21) rfl g4 rfl (eviV X2 Y2 (.slice q0 nq0 cq0) (.slice q1 nq1 cq1) (.slice q2 nq2 cq2) (.slice q3 nq3 cq3) (.slice q4 nq4 cq4) (.slice q5 nq5 cq5) (.slice q6 nq6 cq6) (.slice q7 nq7 cq7) tot pw tm) 39 H4.out.2.1 _ Tryz.underlying39 rfl hi39 ?_))
      refine (eviSame_true X2 Y2 H.out.2.2.1 H.out.2.2.2.1 (.slice xh nxh cxh) (.slice xp nxp cxp) (.slice xa nxa cxa) (.slice xs_ nxs cxs) (.slice yh nyh cyh) (.slice yp nyp cyp) (.slice ya nya cya) (.slice ys_ nys cys) (.slice q0 nq0 cq0) (.slice q1 nq1 cq1) (.slice q2 nq2 cq2) (.slice q3 nq3 cq3) (.slice q4 nq4 cq4) (.slice q5 nq5 cq5) (.slice q6 nq6 cq6) (.slice q7 nq7 cq7) tot pw tm w4 (H.out.2.2.2.2.2.2.2.2.2.1.kp H4.out.1) (H.out.2.2.2.2.2.2.2.2.2.2.kp H4.out.1) (H3.out.2.1.kp H4.out.2.2) (H3.out.2.2.kp H4.out.2.2)).mono ?_
      rintro e w5 ⟨rfl, k5⟩
      have K5 := Lib.hid (H4.out.1.trans k5)
      clear k5
      go_wp2_with fail
      exact HK.out _ _ _ _ _ _ _ _ _ _ _ _ _ _ _ _ _ _ _ _ _ _ _ _ _ _ _ _ _ _ _ K5.out
end Go.Proofs.YtfkaldaflnmfiaaGreatDoor
