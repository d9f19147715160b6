/- What FnEviGuilty wants. -/
import Derived.WalkKit
import Derived.WalkSpells
import Derived.WalkLawsBesides
import Derived.Handy
import Derived.Lib.Hide
import Derived.IntWalk
import Derived.LoopTactic
import Derived.Deep.QuietTactic
import Derived.Deep.RegionWith
import Derived.Deep.RegionHeld3
import Derived.BigRegion
import Derived.BigQuiet
import Derived.Test.YtfkaldaflnmfiaaGreatDoorKSt
import Derived.Deep.DeepCutAuto
namespace Go.Proofs.YtfkaldaflnmfiaaGreatDoor
set_option linter.unusedSimpArgs false
set_option linter.unusedVariables false
open Go Go.RowKit


set_option maxHeartbeats 8000000 in
set_option maxRecDepth 100000 in
theorem want_reg {u0 u1 u2 u5 u6 u7 u8 u9 u10 u11 u13 u18 u20 u21 u22 u23 u24 u25 u26 u27 u28 u29 u30 u31 u32 u33 u34 u35 u36 u37 u38 u39 u40 u41 u42 u43 u44 u45 u46 u47 u48 u49 u50 u51 u52 u53 u54 u55 u56 u57 u58 u59 u60 u61 u62 u63 u64 u65 u66 u67 u68 u69 u70 u71 u72 u73 u74 u75 u76 u77 u78 u79 u80 u81 u82 u83 u84 u85 u86 u87 u88 u89 u90 u91 u92 u93 u94 u95 u96 u97 u98 u99 u100 u101 u102 u103 u104 u105 u106 u107 u108 u109 u110 u111 u112 u113 u114 u115 u116 u117 u118 u119 u120 u121 u122 u123 u124 u125 u126 u127 u128 u129 u130 u131 : Value} {K : Act → World → Prop} {Q0 : Exit → Act → World → Prop} (A B : VD) (okA : A.ok) (okB : B.ok) (power total r : Int) (r1 r2 : Bool) (b2 n c2 g4 g6 : Nat) (ah1 ap1 aa1 az1 ah2 ap2 aa2 az2 : Option Addr) (nh1 ch1 np1 cp1 na1 ca1 ns1 cs1 nh2 ch2 np2 cp2 na2 ca2 ns2 cs2 : Nat) (Q : List Sp) (W0 : World)
    (hq : SpAt W0 b2 Q) (hql : n = Q.length) (hn1 : n ≤ 1000) (hok : SpOk Q) (hf : FoundS Q A.addr r) (hg4 : Blk W0 g4 (voteV A (.slice ah1 nh1 ch1) (.slice ap1 np1 cp1) (.slice aa1 na1 ca1) (.slice az1 ns1 cs1)) 35) (hg6 : Blk W0 g6 (voteV B (.slice ah2 nh2 ch2) (.slice ap2 np2 cp2) (.slice aa2 na2 ca2) (.slice az2 ns2 cs2)) 35) (hA : VoteB W0 A (.slice ah1 nh1 ch1) (.slice ap1 np1 cp1) (.slice aa1 na1 ca1) (.slice az1 ns1 cs1)) (hB : VoteB W0 B (.slice ah2 nh2 ch2) (.slice ap2 np2 cp2) (.slice aa2 na2 ca2) (.slice az2 ns2 cs2))
    (hK : ∀ (v63 v64 v65 v66 v67 v68 v69 v70 v71 v72 v73 v74 v75 v76 v77 v78 v79 v80 v81 v82 v83 v84 v85 v86 v87 v88 v89 v90 v91 v92 v93 v94 v95 v96 v97 v98 v99 v100 v101 v102 v103 v104 v105 v106 v107 v108 v109 v110 v111 v112 v113 v114 v115 v116 v117 v118 v119 v120 v121 v122 v123 : Value) (q : Bool) (W : World), Kp [] W0 W → (q = true ↔ ((∃ (i : Nat) (S : Sp), r = i ∧ Q[i]? = some S ∧ S.pow = power) ∧ powS Q = total ∧ A.height = B.height ∧ A.round = B.round ∧ A.typ = B.typ ∧ A.addr = B.addr ∧ ¬ (A.hash = B.hash ∧ A.total = B.total ∧ A.parts = B.parts) ∧ r1 = true ∧ r2 = true)) → K ⟨#[u0, u1, u2, .int .i64 power, .int .i64 total, u5, u6, u7, u8, u9, u10, u11, .slice (some ⟨b2, 0, none⟩) n c2, u13, .pointer (some ⟨g4, 0, none⟩), .bool r1, .pointer (some ⟨g6, 0, none⟩), .bool r2, u18, .int .i64 r, .bool q, u21, u22, u23, u24, u25, u26, u27, u28, u29, u30, u31, u32, u33, u34, u35, u36, u37, u38, u39, u40, u41, u42, u43, u44, u45, u46, u47, u48, u49, u50, u51, u52, u53, u54, u55, u56, u57, u58, u59, u60, u61, u62, v63, v64, v65, v66, v67, v68, v69, v70, v71, v72, v73, v74, v75, v76, v77, v78, v79, v80, v81, v82, v83, v84, v85, v86, v87, v88, v89, v90, v91, v92, v93, v94, v95, v96, v97, v98, v99, v100, v101, v102, v103, v104, v105, v106, v107, v108, v109, v110, v111, v112, v113, v114, v115, v116, v117, v118, v119, v120, v121, v122, v123, u124, u125, u126, u127, u128, u129, u130, u131], []⟩ W) :
    Code.wp Tryz.prog (codeAt Tryz.f3 [1, 1, 1, 1, 1, 1, 1, 1, 0]) (Exit.then K Q0) ⟨#[u0, u1, u2, .int .i64 power, .int .i64 total, u5, u6, u7, u8, u9, u10, u11, .slice (some ⟨b2, 0, none⟩) n c2, u13, .pointer (some ⟨g4, 0, none⟩), .bool r1, .pointer (some ⟨g6, 0, none⟩), .bool r2, u18, .int .i64 r, u20, u21, u22, u23, u24, u25, u26, u27, u28, u29, u30, u31, u32, u33, u34, u35, u36, u37, u38, u39, u40, u41, u42, u43, u44, u45, u46, u47, u48, u49, u50, u51, u52, u53, u54, u55, u56, u57, u58, u59, u60, u61, u62, u63, u64, u65, u66, u67, u68, u69, u70, u71, u72, u73, u74, u75, u76, u77, u78, u79, u80, u81, u82, u83, u84, u85, u86, u87, u88, u89, u90, u91, u92, u93, u94, u95, u96, u97, u98, u99, u100, u101, u102, u103, u104, u105, u106, u107, u108, u109, u110, u111, u112, u113, u114, u115, u116, u117, u118, u119, u120, u121, u122, u123, u124, u125, u126, u127, u128, u129, u130, u131], []⟩ W0 := by
  have g4c0 : ∀ W, Kp [] W0 W → W.cell? ⟨g4, 0, none⟩ = some (.int .i64 A.typ) := hg4.all 0 rfl
  have g4c1 : ∀ W, Kp [] W0 W → W.cell? ⟨g4, 1, none⟩ = some (.int .i64 A.height) := hg4.all 1 rfl
  have g4c2 : ∀ W, Kp [] W0 W → W.cell? ⟨g4, 2, none⟩ = some (.int .i64 A.round) := hg4.all 2 rfl
  have g4c3 : ∀ W, Kp [] W0 W → W.cell? ⟨g4, 3, none⟩ = some (.slice ah1 nh1 ch1) := hg4.all 3 rfl
  have g4c4 : ∀ W, Kp [] W0 W → W.cell? ⟨g4, 4, none⟩ = some (.int .i64 A.total) := hg4.all 4 rfl
  have g4c5 : ∀ W, Kp [] W0 W → W.cell? ⟨g4, 5, none⟩ = some (.slice ap1 np1 cp1) := hg4.all 5 rfl
  have g4c7 : ∀ W, Kp [] W0 W → W.cell? ⟨g4, 7, none⟩ = some (.slice aa1 na1 ca1) := hg4.all 7 rfl
  have g6c0 : ∀ W, Kp [] W0 W → W.cell? ⟨g6, 0, none⟩ = some (.int .i64 B.typ) := hg6.all 0 rfl
  have g6c1 : ∀ W, Kp [] W0 W → W.cell? ⟨g6, 1, none⟩ = some (.int .i64 B.height) := hg6.all 1 rfl
  have g6c2 : ∀ W, Kp [] W0 W → W.cell? ⟨g6, 2, none⟩ = some (.int .i64 B.round) := hg6.all 2 rfl
  have g6c3 : ∀ W, Kp [] W0 W → W.cell? ⟨g6, 3, none⟩ = some (.slice ah2 nh2 ch2) := hg6.all 3 rfl
  have g6c4 : ∀ W, Kp [] W0 W → W.cell? ⟨g6, 4, none⟩ = some (.int .i64 B.total) := hg6.all 4 rfl
  have g6c5 : ∀ W, Kp [] W0 W → W.cell? ⟨g6, 5, none⟩ = some (.slice ap2 np2 cp2) := hg6.all 5 rfl
  have g6c7 : ∀ W, Kp [] W0 W → W.cell? ⟨g6, 7, none⟩ = some (.slice aa2 na2 ca2) := hg6.all 7 rfl
  have hc1 : ∀ W, Kp [] W0 W → (convert 22 9 (.slice aa1 na1 ca1)).run Tryz.prog W = .ok (.string (strOfNums A.addr)) W := fun W kW => run_string W (hA.addr.kp kW) 22 Tryz.underlying22
  have hc2 : ∀ W, Kp [] W0 W → (convert 22 9 (.slice aa2 na2 ca2)).run Tryz.prog W = .ok (.string (strOfNums B.addr)) W := fun W kW => run_string W (hB.addr.kp kW) 22 Tryz.underlying22
  have sq := strS_beq okA.addr.1 okB.addr.1
  have hK2 : ∀ (v63 v64 v65 v66 v67 v68 v69 v70 v71 v72 v73 v74 v75 v76 v77 v78 v79 v80 v81 v82 v83 v84 v85 v86 v87 v88 v89 v90 v91 v92 v93 v94 v95 v96 v97 v98 v99 v100 v101 v102 v103 v104 v105 v106 v107 v108 v109 v110 v111 v112 v113 v114 v115 v116 v117 v118 v119 v120 v121 v122 v123 : Value) (q : Bool) (W : World), Kp [] W0 W → (q = true ↔ ((∃ (i : Nat) (S : Sp), r = i ∧ Q[i]? = some S ∧ S.pow = power) ∧ powS Q = total ∧ A.height = B.height ∧ A.round = B.round ∧ A.typ = B.typ ∧ A.addr = B.addr ∧ ¬ (A.hash = B.hash ∧ A.total = B.total ∧ A.parts = B.parts) ∧ r1 = true ∧ r2 = true)) → K ⟨#[u0, u1, u2, .int .i64 power, .int .i64 total, u5, u6, u7, u8, u9, u10, u11, .slice (some ⟨b2, 0, none⟩) n c2, u13, .pointer (some ⟨g4, 0, none⟩), .bool r1, .pointer (some ⟨g6, 0, none⟩), .bool r2, u18, .int .i64 r, .bool q, u21, u22, u23, u24, u25, u26, u27, u28, u29, u30, u31, u32, u33, u34, u35, u36, u37, u38, u39, u40, u41, u42, u43, u44, u45, u46, u47, u48, u49, u50, u51, u52, u53, u54, u55, u56, u57, u58, u59, u60, u61, u62, v63, v64, v65, v66, v67, v68, v69, v70, v71, v72, v73, v74, v75, v76, v77, v78, v79, v80, v81, v82, v83, v84, v85, v86, v87, v88, v89, v90, v91, v92, v93, v94, v95, v96, v97, v98, v99, v100, v101, v102, v103, v104, v105, v106, v107, v108, v109, v110, v111, v112, v113, v114, v115, v116, v117, v118, v119, v120, v121, v122, v123, u124, u125, u126, u127, u128, u129, u130, u131], []⟩ W := hK
  have H := Lib.hid (And.intro hq (And.intro hql (And.intro hok (And.intro hA (And.intro hB (And.intro okA okB))))))
  have HK := Lib.hid hK2
  clear hq hql hok hg4 hg6 hA hB okA okB hK hK2
  have harm : ∀ W, Kp [] W0 W → Calls Tryz.prog 9 #[.slice (some ⟨b2, 0, none⟩) n c2] W fun e w' => e = .returned (.int .i64 (powS Q)) ∧ Kp [] W w' := fun W k => total_any b2 c2 n Q W (H.out.1.kp k) H.out.2.1 hn1 H.out.2.2.1
  have HARM := Lib.hid harm
  have hid : ∀ W, Kp [] W0 W → Calls Tryz.prog 10 #[.agg #[.slice ah1 nh1 ch1, .int .i64 A.total, .slice ap1 np1 cp1], .agg #[.slice ah2 nh2 ch2, .int .i64 B.total, .slice ap2 np2 cp2]] W fun e w' => e = .returned (.bool (decide (A.hash = B.hash ∧ A.total = B.total ∧ A.parts = B.parts))) ∧ Kp [] W w' := fun W k => sameID_any A.total B.total _ _ _ _ A.hash B.hash A.parts B.parts W (H.out.2.2.2.1.hash.kp k) (H.out.2.2.2.2.1.hash.kp k) (H.out.2.2.2.1.parts.kp k) (H.out.2.2.2.2.1.parts.kp k) H.out.2.2.2.2.2.1.hash.1 H.out.2.2.2.2.2.2.hash.1 H.out.2.2.2.2.2.1.parts.1 H.out.2.2.2.2.2.2.parts.1
  have HID := Lib.hid hid
  clear harm hid
  conv => arg 2; whnf
  rcases hf with ⟨rfl, hno⟩ | ⟨i, S, rfl, hSi, hSa⟩
  · clear hno
    go_wp2_with fail
    exact HK.out _ _ _ _ _ _ _ _ _ _ _ _ _ _ _ _ _ _ _ _ _ _ _ _ _ _ _ _ _ _ _ _ _ _ _ _ _ _ _ _ _ _ _ _ _ _ _ _ _ _ _ _ _ _ _ _ _ _ _ _ _ false _ (Kp.refl _ _) ⟨fun h => absurd h (by decide), fun h => by obtain ⟨⟨i, S, e, _⟩, _⟩ := h; omega⟩
  · have hil : i < n := by rw [H.out.2.1]; exact (List.getElem?_eq_some_iff.1 hSi).1
    have z0 : (0 : Int) ≤ (i : Int) := by omega
    have z1 : (i : Int) < (n : Int) := by omega
    have cS : ∀ W, Kp [] W0 W → W.cell? ⟨b2, i * 3 + 1, none⟩ = some (.int .i64 S.pow) := fun W kW => cell_kp (H.out.1 i S hSi).2.1 kW
    have HSi := Lib.hid hSi
    have hun : ∀ (j : Nat) (T : Sp), (i : Int) = j ∧ Q[j]? = some T ∧ T.pow = power → S.pow = power := by
      rintro j T ⟨e, h1, h2⟩
      obtain rfl : i = j := by omega
      rw [HSi.out] at h1
      injection h1 with h1
      rw [h1]
      exact h2
    have HUN := Lib.hid hun
    clear hSi hSa hun
    by_cases c2 : S.pow = power
    case' neg =>
      have bc2 : (S.pow == power) = false := by rw [beq_eq_false_iff_ne]; exact c2
      have C := Lib.hid c2
      clear c2
      have E8 := Lib.hid (Eq.refl (decide (A.hash = B.hash ∧ A.total = B.total ∧ A.parts = B.parts)))
      go_wp2_with (first
        | (go_at_call 9; refine (HARM.out W0 (Kp.refl _ _)).mono ?_; rintro e w9 ⟨rfl, k9⟩)
        | (go_at_call 10; refine (HID.out w9 k9).mono ?_; rintro e w10 ⟨rfl, k10⟩; rw [E8.out]))
      exact HK.out _ _ _ _ _ _ _ _ _ _ _ _ _ _ _ _ _ _ _ _ _ _ _ _ _ _ _ _ _ _ _ _ _ _ _ _ _ _ _ _ _ _ _ _ _ _ _ _ _ _ _ _ _ _ _ _ _ _ _ _ _ false _ (Kp.refl _ _) ⟨fun h => absurd h (by decide), fun h => absurd (by obtain ⟨⟨j, T, h1⟩, _⟩ := h; exact HUN.out j T h1) C.out⟩
    have bc2 : (S.pow == power) = true := by rw [c2]; exact beq_self_eq_true _
    have Pc2 := Lib.hid c2
    clear c2
    by_cases c3 : powS Q = total
    case' neg =>
      have bc3 : (powS Q == total) = false := by rw [beq_eq_false_iff_ne]; exact c3
      have C := Lib.hid c3
      clear c3
      have E8 := Lib.hid (Eq.refl (decide (A.hash = B.hash ∧ A.total = B.total ∧ A.parts = B.parts)))
      go_wp2_with (first
        | (go_at_call 9; refine (HARM.out W0 (Kp.refl _ _)).mono ?_; rintro e w9 ⟨rfl, k9⟩)
        | (go_at_call 10; refine (HID.out w9 k9).mono ?_; rintro e w10 ⟨rfl, k10⟩; rw [E8.out]))
      exact HK.out _ _ _ _ _ _ _ _ _ _ _ _ _ _ _ _ _ _ _ _ _ _ _ _ _ _ _ _ _ _ _ _ _ _ _ _ _ _ _ _ _ _ _ _ _ _ _ _ _ _ _ _ _ _ _ _ _ _ _ _ _ false _ k9 ⟨fun h => absurd h (by decide), fun h => absurd h.2.1 C.out⟩
    have bc3 : (powS Q == total) = true := by rw [c3]; exact beq_self_eq_true _
    have Pc3 := Lib.hid c3
    clear c3
    by_cases c4 : A.height = B.height
    case' neg =>
      have bc4 : (A.height == B.height) = false := by rw [beq_eq_false_iff_ne]; exact c4
      have C := Lib.hid c4
      clear c4
      have E8 := Lib.hid (Eq.refl (decide (A.hash = B.hash ∧ A.total = B.total ∧ A.parts = B.parts)))
      go_wp2_with (first
        | (go_at_call 9; refine (HARM.out W0 (Kp.refl _ _)).mono ?_; rintro e w9 ⟨rfl, k9⟩)
        | (go_at_call 10; refine (HID.out w9 k9).mono ?_; rintro e w10 ⟨rfl, k10⟩; rw [E8.out]))
      exact HK.out _ _ _ _ _ _ _ _ _ _ _ _ _ _ _ _ _ _ _ _ _ _ _ _ _ _ _ _ _ _ _ _ _ _ _ _ _ _ _ _ _ _ _ _ _ _ _ _ _ _ _ _ _ _ _ _ _ _ _ _ _ false _ k9 ⟨fun h => absurd h (by decide), fun h => absurd h.2.2.1 C.out⟩
    have bc4 : (A.height == B.height) = true := by rw [c4]; exact beq_self_eq_true _
    have Pc4 := Lib.hid c4
    clear c4
    by_cases c5 : A.round = B.round
    case' neg =>
      have bc5 : (A.round == B.round) = false := by rw [beq_eq_false_iff_ne]; exact c5
      have C := Lib.hid c5
      clear c5
      have E8 := Lib.hid (Eq.refl (decide (A.hash = B.hash ∧ A.total = B.total ∧ A.parts = B.parts)))
      go_wp2_with (first
        | (go_at_call 9; refine (HARM.out W0 (Kp.refl _ _)).mono ?_; rintro e w9 ⟨rfl, k9⟩)
        | (go_at_call 10; refine (HID.out w9 k9).mono ?_; rintro e w10 ⟨rfl, k10⟩; rw [E8.out]))
      exact HK.out _ _ _ _ _ _ _ _ _ _ _ _ _ _ _ _ _ _ _ _ _ _ _ _ _ _ _ _ _ _ _ _ _ _ _ _ _ _ _ _ _ _ _ _ _ _ _ _ _ _ _ _ _ _ _ _ _ _ _ _ _ false _ k9 ⟨fun h => absurd h (by decide), fun h => absurd h.2.2.2.1 C.out⟩
    have bc5 : (A.round == B.round) = true := by rw [c5]; exact beq_self_eq_true _
    have Pc5 := Lib.hid c5
    clear c5
    by_cases c6 : A.typ = B.typ
    case' neg =>
      have bc6 : (A.typ == B.typ) = false := by rw [beq_eq_false_iff_ne]; exact c6
      have C := Lib.hid c6
      clear c6
      have E8 := Lib.hid (Eq.refl (decide (A.hash = B.hash ∧ A.total = B.total ∧ A.parts = B.parts)))
      go_wp2_with (first
        | (go_at_call 9; refine (HARM.out W0 (Kp.refl _ _)).mono ?_; rintro e w9 ⟨rfl, k9⟩)
        | (go_at_call 10; refine (HID.out w9 k9).mono ?_; rintro e w10 ⟨rfl, k10⟩; rw [E8.out]))
      exact HK.out _ _ _ _ _ _ _ _ _ _ _ _ _ _ _ _ _ _ _ _ _ _ _ _ _ _ _ _ _ _ _ _ _ _ _ _ _ _ _ _ _ _ _ _ _ _ _ _ _ _ _ _ _ _ _ _ _ _ _ _ _ false _ k9 ⟨fun h => absurd h (by decide), fun h => absurd h.2.2.2.2.1 C.out⟩
    have bc6 : (A.typ == B.typ) = true := by rw [c6]; exact beq_self_eq_true _
    have Pc6 := Lib.hid c6
    clear c6
    by_cases c7 : A.addr = B.addr
    case' neg =>
      rw [decide_eq_false c7] at sq
      have C := Lib.hid c7
      clear c7
      have E8 := Lib.hid (Eq.refl (decide (A.hash = B.hash ∧ A.total = B.total ∧ A.parts = B.parts)))
      go_wp2_with (first
        | (go_at_call 9; refine (HARM.out W0 (Kp.refl _ _)).mono ?_; rintro e w9 ⟨rfl, k9⟩)
        | (go_at_call 10; refine (HID.out w9 k9).mono ?_; rintro e w10 ⟨rfl, k10⟩; rw [E8.out]))
      exact HK.out _ _ _ _ _ _ _ _ _ _ _ _ _ _ _ _ _ _ _ _ _ _ _ _ _ _ _ _ _ _ _ _ _ _ _ _ _ _ _ _ _ _ _ _ _ _ _ _ _ _ _ _ _ _ _ _ _ _ _ _ _ false _ k9 ⟨fun h => absurd h (by decide), fun h => absurd h.2.2.2.2.2.1 C.out⟩
    rw [decide_eq_true c7] at sq
    have Pc7 := Lib.hid c7
    clear c7
    by_cases c8 : ¬ (A.hash = B.hash ∧ A.total = B.total ∧ A.parts = B.parts)
    case' neg =>
      have E8 := Lib.hid (decide_eq_true (Classical.not_not.1 c8))
      have C := Lib.hid c8
      clear c8
      go_wp2_with (first
        | (go_at_call 9; refine (HARM.out W0 (Kp.refl _ _)).mono ?_; rintro e w9 ⟨rfl, k9⟩)
        | (go_at_call 10; refine (HID.out w9 k9).mono ?_; rintro e w10 ⟨rfl, k10⟩; rw [E8.out]))
      exact HK.out _ _ _ _ _ _ _ _ _ _ _ _ _ _ _ _ _ _ _ _ _ _ _ _ _ _ _ _ _ _ _ _ _ _ _ _ _ _ _ _ _ _ _ _ _ _ _ _ _ _ _ _ _ _ _ _ _ _ _ _ _ false _ (k9.trans k10) ⟨fun h => absurd h (by decide), fun h => absurd h.2.2.2.2.2.2.1 C.out⟩
    have E8 := Lib.hid (decide_eq_false c8)
    have Pc8 := Lib.hid c8
    clear c8
    by_cases c9 : r1 = true
    case' neg =>
      have hv : r1 = false := by cases r1 <;> simp_all
      subst hv
      have C := Lib.hid (show ¬ (false = true) by decide)
      clear c9
      go_wp2_with (first
        | (go_at_call 9; refine (HARM.out W0 (Kp.refl _ _)).mono ?_; rintro e w9 ⟨rfl, k9⟩)
        | (go_at_call 10; refine (HID.out w9 k9).mono ?_; rintro e w10 ⟨rfl, k10⟩; rw [E8.out]))
      exact HK.out _ _ _ _ _ _ _ _ _ _ _ _ _ _ _ _ _ _ _ _ _ _ _ _ _ _ _ _ _ _ _ _ _ _ _ _ _ _ _ _ _ _ _ _ _ _ _ _ _ _ _ _ _ _ _ _ _ _ _ _ _ false _ (k9.trans k10) ⟨fun h => absurd h (by decide), fun h => absurd h.2.2.2.2.2.2.2.1 C.out⟩
    subst c9
    have Pc9 := Lib.hid (rfl : true = true)
    by_cases c10 : r2 = true
    case' neg =>
      have hv : r2 = false := by cases r2 <;> simp_all
      subst hv
      have C := Lib.hid (show ¬ (false = true) by decide)
      clear c10
      go_wp2_with (first
        | (go_at_call 9; refine (HARM.out W0 (Kp.refl _ _)).mono ?_; rintro e w9 ⟨rfl, k9⟩)
        | (go_at_call 10; refine (HID.out w9 k9).mono ?_; rintro e w10 ⟨rfl, k10⟩; rw [E8.out]))
      exact HK.out _ _ _ _ _ _ _ _ _ _ _ _ _ _ _ _ _ _ _ _ _ _ _ _ _ _ _ _ _ _ _ _ _ _ _ _ _ _ _ _ _ _ _ _ _ _ _ _ _ _ _ _ _ _ _ _ _ _ _ _ _ false _ (k9.trans k10) ⟨fun h => absurd h (by decide), fun h => absurd h.2.2.2.2.2.2.2.2 C.out⟩
    subst c10
    have Pc10 := Lib.hid (rfl : true = true)
    go_wp2_with (first
      | (go_at_call 9; refine (HARM.out W0 (Kp.refl _ _)).mono ?_; rintro e w9 ⟨rfl, k9⟩)
      | (go_at_call 10; refine (HID.out w9 k9).mono ?_; rintro e w10 ⟨rfl, k10⟩; rw [E8.out]))
    exact HK.out _ _ _ _ _ _ _ _ _ _ _ _ _ _ _ _ _ _ _ _ _ _ _ _ _ _ _ _ _ _ _ _ _ _ _ _ _ _ _ _ _ _ _ _ _ _ _ _ _ _ _ _ _ _ _ _ _ _ _ _ _ true _ (k9.trans k10) ⟨fun _ => ⟨⟨i, S, rfl, HSi.out, Pc2.out⟩, Pc3.out, Pc4.out, Pc5.out, Pc6.out, Pc7.out, Pc8.out, (by first | rfl | trivial), (by first | rfl | trivial)⟩, fun _ => (by first | rfl | trivial)⟩
end Go.Proofs.YtfkaldaflnmfiaaGreatDoor
/- The contract of FnEviGuilty. -/
namespace Go.Proofs.YtfkaldaflnmfiaaGreatDoor
set_option linter.unusedSimpArgs false
set_option linter.unusedVariables false
open Go Go.RowKit


theorem hi24 : (Tryz.prog.info? 24).map (·.size) = some 8 := by kernel_rfl
theorem eviSet_none (pa : Option Addr) (n c : Nat) (w : World) (h : n = 0 ∨ 7 < n) :
    Calls Tryz.prog 5 #[.slice pa n c] w fun e w' => e = .returned (.tuple #[.agg #[.slice none 0 0, .int .i64 0], .slice none 0 0, .bool false]) ∧ Kp [] w w' := by
  have hb : Blk (w.alloc (.cells #[.slice none 0 0, .int .i64 0] 27)) w.heap.size #[.slice none 0 0, .int .i64 0] 27 := Blk.new w _ 27
  have HB := Lib.hid hb
  clear hb
  go_enter Tryz.func5, Tryz.ntmps5
  by_cases h0 : n = 0
  · subst h0
    go_wp2_with fail
    refine bodyPost_ret (v := .tuple #[.agg #[.slice none 0 0, .int .i64 0], .slice none 0 0, .bool false]) ?_ ?_ ?_
    · exact results_row_tmp2 rfl _ _ w.heap.size 27 #[.slice none 0 0, .int .i64 0] (0, 0) _ _ _ rfl rfl rfl HB.out Tryz.underlying27 rfl hi27
    · rfl
    exact ⟨rfl, (Kp.refl [] w).alloc _⟩
  · have h1 : 7 < n := by omega
    have q1 : decide ((n : Int) < 1) = false := decide_eq_false (by omega)
    have q2 : decide ((7 : Int) < (n : Int)) = true := decide_eq_true (by omega)
    clear h h0
    go_wp2_with fail
    refine bodyPost_ret (v := .tuple #[.agg #[.slice none 0 0, .int .i64 0], .slice none 0 0, .bool false]) ?_ ?_ ?_
    · exact results_row_tmp2 rfl _ _ w.heap.size 27 #[.slice none 0 0, .int .i64 0] (0, 0) _ _ _ rfl rfl rfl HB.out Tryz.underlying27 rfl hi27
    · rfl
    exact ⟨rfl, (Kp.refl [] w).alloc _⟩

theorem sum_perm {l l' : List Int} (h : l.Perm l') : l.sum = l'.sum := by
  induction h with
  | nil => rfl
  | cons x _ ih => simp [ih]
  | swap x y l => simp only [List.sum_cons]; omega
  | trans _ _ ih1 ih2 => exact ih1.trans ih2
theorem KP_mem {P : List Int} {n : Nat} {d : List Int × Int} (h : d ∈ KP P n) : ∃ j : Nat, j < n ∧ d = (keyN j, 1 + P.getD j 0) := by
  simp only [KP, List.mem_map, List.mem_range] at h
  obtain ⟨j, hj, rfl⟩ := h
  exact ⟨j, hj, rfl⟩
theorem seas_apart {kt : Nat → Int} (hten : Ten kt) {P : List Int} {n : Nat} (hn : n ≤ 7) {Ls : List Sea} (h : (Ls.map Sea.kp2).Perm (KP P n)) : (Ls.map fun S => addr kt S.key).Nodup := by
  have h1 : ((Ls.map Sea.kp2).map fun d => addr kt d.1).Nodup := (h.map fun d : List Int × Int => addr kt d.1).nodup_iff.2 (KP_nodup hten P hn)
  rw [List.map_map] at h1
  exact h1
theorem seas_pow {P : List Int} (hb : Bs P) {n : Nat} {Ls : List Sea} (h : (Ls.map Sea.kp2).Perm (KP P n)) : ∀ S ∈ Ls, 1 ≤ S.pow ∧ S.pow ≤ 1000 := by
  intro S hS
  have h1 : S.kp2 ∈ KP P n := h.mem_iff.1 (List.mem_map_of_mem hS)
  exact KP_pow hb _ h1
theorem spok_of {kt : Nat → Int} {P : List Int} (hb : Bs P) {n : Nat} {Q : List Sp} (h : (Q.map Sp.ap).Perm (((KP P n).map (spOf kt)).map Sp.ap)) : SpOk Q := by
  intro S hS
  have h1 : S.ap ∈ ((KP P n).map (spOf kt)).map Sp.ap := h.mem_iff.1 (List.mem_map_of_mem hS)
  obtain ⟨U, hU, e⟩ := List.mem_map.1 h1
  obtain ⟨d, hd, rfl⟩ := List.mem_map.1 hU
  have e1 : addr kt d.1 = S.a := congrArg Prod.fst e
  have e2 : d.2 = S.pow := congrArg Prod.snd e
  rw [← e1, ← e2]
  exact ⟨addr_bs _ _, KP_pow hb d hd⟩
/-- What is wanted is that the evidence proves the validator faulty. -/
theorem guilty_law {kt : Nat → Int} (hten : Ten kt) {P : List Int} {n : Nat} (hn : n ≤ 7) {Lk : List (List Int × Int)} {Q : List Sp} (hL : Lk.Perm (KP P n)) (hQ : (Q.map Sp.ap).Perm (((KP P n).map (spOf kt)).map Sp.ap)) {x y : Sd} (hx : x.ok) (hy : y.ok) {sg1 sg2 : List Int} {r1 r2 : Bool} (hr1 : r1 = true ↔ sgn kt (keyN x.from) (sb (x.vd kt sg1)) = sg1) (hr2 : r2 = true ↔ sgn kt (keyN y.from) (sb (y.vd kt sg2)) = sg2) {power total r : Int} (hf : FoundS Q (x.vd kt sg1).addr r) :
    ((∃ (i : Nat) (S : Sp), r = i ∧ Q[i]? = some S ∧ S.pow = power) ∧ powS Q = total ∧ (x.vd kt sg1).height = (y.vd kt sg2).height ∧ (x.vd kt sg1).round = (y.vd kt sg2).round ∧ (x.vd kt sg1).typ = (y.vd kt sg2).typ ∧ (x.vd kt sg1).addr = (y.vd kt sg2).addr ∧ ¬ ((x.vd kt sg1).hash = (y.vd kt sg2).hash ∧ (x.vd kt sg1).total = (y.vd kt sg2).total ∧ (x.vd kt sg1).parts = (y.vd kt sg2).parts) ∧ r1 = true ∧ r2 = true) ↔ Guilty kt Lk (x.vd kt sg1) (y.vd kt sg2) total power := by
  have hs : powS Q = (Lk.map Prod.snd).sum := by
    have h1 := (hQ.map Prod.snd)
    have h2 := hL.map Prod.snd
    rw [List.map_map, List.map_map, List.map_map] at h1
    have e1 : Q.map (Prod.snd ∘ Sp.ap) = Q.map Sp.pow := rfl
    have e2 : (KP P n).map (Prod.snd ∘ (Sp.ap ∘ spOf kt)) = (KP P n).map Prod.snd := rfl
    unfold powS
    rw [← e1, sum_perm h1, sum_perm h2]
    rfl
  have hb1 := Sd.from_bd hx
  have hb2 := Sd.from_bd hy
  have key : ∀ S ∈ Q, S.a = (x.vd kt sg1).addr → (keyN x.from, S.pow) ∈ Lk := by
    intro S hS e
    have h1 : S.ap ∈ ((KP P n).map (spOf kt)).map Sp.ap := hQ.mem_iff.1 (List.mem_map_of_mem hS)
    obtain ⟨U, hU, e1⟩ := List.mem_map.1 h1
    obtain ⟨d, hd, rfl⟩ := List.mem_map.1 hU
    obtain ⟨j, hj, rfl⟩ := KP_mem hd
    have e2 : addr kt (keyN j) = S.a := congrArg Prod.fst e1
    have e3 : (1 + P.getD j 0 : Int) = S.pow := congrArg Prod.snd e1
    have e4 := hten j x.from (by omega) (by omega) hb1.1 hb1.2 (e2.trans e)
    rw [← e4, ← e3]
    exact hL.mem_iff.2 hd
  constructor
  · rintro ⟨⟨i, S, hi, hSi, hp⟩, ht, h4, h5, h6, h7, h8, h9, h10⟩
    rcases hf with ⟨hr, _⟩ | ⟨j, T, hj, hT, hTa⟩
    · omega
    · obtain rfl : i = j := by omega
      rw [hT] at hSi
      injection hSi with hSi
      subst hSi
      have hxy : addr kt (keyN x.from) = addr kt (keyN y.from) := h7
      have e5 := hten x.from y.from hb1.1 hb1.2 hb2.1 hb2.2 hxy
      refine ⟨(keyN x.from, T.pow), key T (List.mem_of_getElem? hT) hTa, rfl, h4, h5, h6, h7, h8, hp, by rw [← hs]; exact ht, hr1.1 h9, ?_⟩
      have h11 := hr2.1 h10
      rw [← e5] at h11
      exact h11
  · rintro ⟨V, hV, ha, h4, h5, h6, h7, h8, hp, ht, h9, h10⟩
    have hV2 := hL.mem_iff.1 hV
    obtain ⟨j, hj, rfl⟩ := KP_mem hV2
    have e4 := hten j x.from (by omega) (by omega) hb1.1 hb1.2 ha
    have hxy : addr kt (keyN x.from) = addr kt (keyN y.from) := h7
    have e5 := hten x.from y.from hb1.1 hb1.2 hb2.1 hb2.2 hxy
    have h12 : Sp.ap (spOf kt (keyN j, 1 + P.getD j 0)) ∈ Q.map Sp.ap := hQ.mem_iff.2 (List.mem_map_of_mem (List.mem_map_of_mem hV2))
    obtain ⟨S, hS, eS⟩ := List.mem_map.1 h12
    have eS1 : S.a = addr kt (keyN j) := congrArg Prod.fst eS
    rcases hf with ⟨_, hno⟩ | ⟨i, T, hi, hT, hTa⟩
    · exact absurd (eS1.trans ha) (hno S hS)
    · have hm := key T (List.mem_of_getElem? hT) hTa
      have hm2 := hL.mem_iff.1 hm
      obtain ⟨j', hj', e'⟩ := KP_mem hm2
      have e6 : keyN x.from = keyN j' := congrArg Prod.fst e'
      have e7 : T.pow = 1 + P.getD j' 0 := congrArg Prod.snd e'
      have e8 : x.from = j' := by simpa [keyN] using e6
      have e9 : j' = j := by omega
      subst e9
      refine ⟨⟨i, T, hi, hT, e7.trans hp⟩, hs.trans ht, h4, h5, h6, h7, h8, hr1.2 ?_, hr2.2 ?_⟩
      · rw [← e4]; exact h9
      · rw [← e5, ← e4]; exact h10

set_option maxHeartbeats 4000000 in
set_option maxRecDepth 100000 in
theorem guilty_any (kt : Nat → Int) (pa : Option Addr) (n c : Nat) (P : List Int) (x y : Sd) (power total : Int) (w : World) (hP : 0 < n → Byt w (.slice pa n c) P) (hn : n = P.length) (hb : Bs P) (hx : x.ok) (hy : y.ok) (hten : Ten kt) (hE : Errs w) (hT : Tab kt w) :
    Calls Tryz.prog 3 #[.slice pa n c, .agg x.cells, .agg y.cells, .int .i64 power, .int .i64 total] w fun e w' => e = .returned (.bool true) ∧ Kp [] w w' := by
  have H := Lib.hid (And.intro hP (And.intro hn (And.intro hb (And.intro hx (And.intro hy (And.intro hten (And.intro hE hT)))))))
  clear hP hn hb hx hy hten hE hT
  go_enter Tryz.func3, Tryz.ntmps3
  by_cases hbig : 2147483647 < n
  · have q1 : decide ((2147483647 : Int) < (n : Int)) = true := decide_eq_true (by omega)
    clear hbig
    go_wp2_with fail
    go_ret
    exact ⟨rfl, ((Kp.refl [] w).alloc _).alloc _⟩
  · have q1 : decide ((2147483647 : Int) < (n : Int)) = false := decide_eq_false (by omega)
    clear hbig
    by_cases hs : n = 0 ∨ 7 < n
    · have HS := Lib.hid hs
      clear hs
      go_wp2_with fail
      refine (eviSet_none pa n c _ HS.out).mono ?_
      rintro e w1 ⟨rfl, k1⟩
      have K1 := Lib.hid ((((Kp.refl [] w).alloc (.cells x.cells 24)).alloc (.cells y.cells 24)).trans k1)
      clear k1
      rcases HS.out with h0 | h7
      · subst h0
        go_wp2_with fail
        go_ret
        exact ⟨rfl, K1.out.alloc _⟩
      · have q2 : decide ((n : Int) < 1) = false := decide_eq_false (by omega)
        have q3 : decide ((7 : Int) < (n : Int)) = true := decide_eq_true (by omega)
        go_wp2_with fail
        go_ret
        exact ⟨rfl, K1.out.alloc _⟩
    · have hn0 : 0 < n := by omega
      have hn1 : n ≤ 7 := by omega
      clear hs
      go_wp2_with fail
      have k0 := ((Kp.refl [] w).alloc (.cells x.cells 24)).alloc (.cells y.cells 24)
      have hgx := (Blk.new w x.cells 24).alloc (.cells y.cells 24)
      have hgy := Blk.new (w.alloc (.cells x.cells 24)) y.cells 24
      rw [show (w.alloc (.cells x.cells 24)).heap.size = w.heap.size + 1 by simp] at hgy
      generalize (w.alloc (.cells x.cells 24)).alloc (.cells y.cells 24) = w0 at *
      obtain ⟨gx, egx⟩ : ∃ g, g = w.heap.size := ⟨_, rfl⟩
      rw [← egx] at hgx hgy ⊢
      have H0 := Lib.hid (And.intro k0 (And.intro hgx hgy))
      clear k0 hgx hgy egx
      refine (eviSet_any kt pa n c P w0 ((H.out.1 hn0).kp H0.out.1) H.out.2.1 hn0 hn1 H.out.2.2.1 H.out.2.2.2.2.2.1 (H.out.2.2.2.2.2.2.2.kp H0.out.1)).mono ?_
      rintro e w1 ⟨v, pi, Ls, b2, c2, Q, rfl, hv, hkp, hq, hql, hqp, p0, p1, k1⟩
      obtain ⟨vb, vc, rfl, hva⟩ := hv
      have hl : Ls.length = n := by
        have := hkp.length_eq
        simpa [KP_length] using this
      rw [hl]
      have H1 := Lib.hid (And.intro hva (And.intro hkp (And.intro hl (And.intro hq (And.intro hql (And.intro hqp (And.intro p0 (And.intro p1 k1))))))))
      clear hva hkp hq hql hqp k1 hl p0 p1
      unfold spS
      have k2 := H1.out.2.2.2.2.2.2.2.2.alloc (.cells #[.slice (some ⟨vb, 0, none⟩) n vc, .int .i64 pi] 27)
      have hb2 := Blk.new w1 #[.slice (some ⟨vb, 0, none⟩) n vc, .int .i64 pi] 27
      have hv2 := H1.out.1.kp ((Kp.refl [] w1).alloc (.cells #[.slice (some ⟨vb, 0, none⟩) n vc, .int .i64 pi] 27))
      have hq2 := H1.out.2.2.2.1.kp ((Kp.refl [] w1).alloc (.cells #[.slice (some ⟨vb, 0, none⟩) n vc, .int .i64 pi] 27))
      have H2 := Lib.hid (And.intro k2 (And.intro hb2 (And.intro hv2 hq2)))
      clear k2 hb2 hv2 hq2
      go_wp2_with (refine kit_load rfl 24 (.tmp 6) rfl _ rfl gx rfl x.cells 24 (H2.out.1.blk H0.out.2.1 (by simp)) _ Tryz.underlying24 rfl hi24 ?_)
      generalize w1.alloc (.cells #[.slice (some ⟨vb, 0, none⟩) n vc, .int .i64 pi] 27) = w2 at *
      obtain ⟨g2, eg2⟩ : ∃ g, g = w1.heap.size := ⟨_, rfl⟩
      rw [← eg2] at H2 ⊢
      clear eg2
      refine (eviVote_any kt x H.out.2.2.2.1 w2 (H.out.2.2.2.2.2.2.2.kp (H0.out.1.trans H2.out.1))).mono ?_
      rintro e w3 ⟨vh1, vp1, va1, vs1, sg1, r1, rfl, bs1, l1, hV1, hr1, hs1, k3⟩
      obtain ⟨ah1, nh1, ch1, rfl⟩ := hV1.hash.form
      obtain ⟨ap1, np1, cp1, rfl⟩ := hV1.parts.form
      obtain ⟨aa1, na1, ca1, rfl⟩ := hV1.addr.form
      obtain ⟨az1, ns1, cs1, rfl⟩ := hV1.sig.form
      have H3 := Lib.hid (And.intro bs1 (And.intro l1 (And.intro hV1 (And.intro hr1 k3))))
      clear bs1 l1 hV1 hr1 hs1 k3
      go_wp2_with (first
        | (refine kit_store_last rfl 35 _ _ rfl rfl w3.heap.size (voteV (x.vd kt sg1) (.slice ah1 nh1 ch1) (.slice ap1 np1 cp1) (.slice aa1 na1 ca1) (.slice az1 ns1 cs1)) voteZ rfl rfl rfl hi35 rfl (vote_one _ _ _ _ _ _ _ _ _ _ _ _ _) ?_
           have k4 := (H2.out.1.trans H3.out.2.2.2.2).alloc (.cells (voteV (x.vd kt sg1) (.slice ah1 nh1 ch1) (.slice ap1 np1 cp1) (.slice aa1 na1 ca1) (.slice az1 ns1 cs1)) 35)
           have k24 := H3.out.2.2.2.2.alloc (.cells (voteV (x.vd kt sg1) (.slice ah1 nh1 ch1) (.slice ap1 np1 cp1) (.slice aa1 na1 ca1) (.slice az1 ns1 cs1)) 35)
           have hb4 := Blk.new w3 (voteV (x.vd kt sg1) (.slice ah1 nh1 ch1) (.slice ap1 np1 cp1) (.slice aa1 na1 ca1) (.slice az1 ns1 cs1)) 35
           have hV4 := H3.out.2.2.1.kp ((Kp.refl [] w3).alloc (.cells (voteV (x.vd kt sg1) (.slice ah1 nh1 ch1) (.slice ap1 np1 cp1) (.slice aa1 na1 ca1) (.slice az1 ns1 cs1)) 35))
           generalize w3.alloc (.cells (voteV (x.vd kt sg1) (.slice ah1 nh1 ch1) (.slice ap1 np1 cp1) (.slice aa1 na1 ca1) (.slice az1 ns1 cs1)) 35) = w4 at *
           obtain ⟨g4, eg4⟩ : ∃ g, g = w3.heap.size := ⟨_, rfl⟩
           rw [← eg4] at hb4 ⊢
           have H4 := Lib.hid (And.intro k4 (And.intro hb4 (And.intro hV4 k24)))
           clear k4 hb4 hV4 eg4 k24)
        | (refine kit_load rfl 24 (.tmp 7) rfl _ rfl (gx + 1) rfl y.cells 24 (H4.out.1.blk H0.out.2.2 (by simp)) _ Tryz.underlying24 rfl hi24 ?_))
      refine (eviVote_any kt y H.out.2.2.2.2.1 w4 (H.out.2.2.2.2.2.2.2.kp (H0.out.1.trans H4.out.1))).mono ?_
      rintro e w5 ⟨vh2, vp2, va2, vs2, sg2, r2, rfl, bs2, l2, hV2, hr2, hs2, k5⟩
      obtain ⟨ah2, nh2, ch2, rfl⟩ := hV2.hash.form
      obtain ⟨ap2, np2, cp2, rfl⟩ := hV2.parts.form
      obtain ⟨aa2, na2, ca2, rfl⟩ := hV2.addr.form
      obtain ⟨az2, ns2, cs2, rfl⟩ := hV2.sig.form
      have H5 := Lib.hid (And.intro bs2 (And.intro l2 (And.intro hV2 (And.intro hr2 k5))))
      clear bs2 l2 hV2 hr2 hs2 k5
      go_wp2_with (first
        | (refine kit_store_last rfl 35 _ _ rfl rfl w5.heap.size (voteV (y.vd kt sg2) (.slice ah2 nh2 ch2) (.slice ap2 np2 cp2) (.slice aa2 na2 ca2) (.slice az2 ns2 cs2)) voteZ rfl rfl rfl hi35 rfl (vote_one _ _ _ _ _ _ _ _ _ _ _ _ _) ?_
           have k6 := H5.out.2.2.2.2.alloc (.cells (voteV (y.vd kt sg2) (.slice ah2 nh2 ch2) (.slice ap2 np2 cp2) (.slice aa2 na2 ca2) (.slice az2 ns2 cs2)) 35)
           have hb6 := Blk.new w5 (voteV (y.vd kt sg2) (.slice ah2 nh2 ch2) (.slice ap2 np2 cp2) (.slice aa2 na2 ca2) (.slice az2 ns2 cs2)) 35
           have hV6 := H5.out.2.2.1.kp ((Kp.refl [] w5).alloc (.cells (voteV (y.vd kt sg2) (.slice ah2 nh2 ch2) (.slice ap2 np2 cp2) (.slice aa2 na2 ca2) (.slice az2 ns2 cs2)) 35))
           generalize w5.alloc (.cells (voteV (y.vd kt sg2) (.slice ah2 nh2 ch2) (.slice ap2 np2 cp2) (.slice aa2 na2 ca2) (.slice az2 ns2 cs2)) 35) = w6 at *
           obtain ⟨g6, eg6⟩ : ∃ g, g = w5.heap.size := ⟨_, rfl⟩
           rw [← eg6] at hb6 ⊢
           have H6 := Lib.hid (And.intro (k6.blk H4.out.2.1 (by simp)) (And.intro hb6 (And.intro hV6 k6)))
           clear k6 hb6 hV6 eg6)
        | (refine kit_load rfl 35 (.tmp 14) rfl _ rfl g4 rfl (voteV (x.vd kt sg1) (.slice ah1 nh1 ch1) (.slice ap1 np1 cp1) (.slice aa1 na1 ca1) (.slice az1 ns1 cs1)) 35 H6.out.1 _ Tryz.underlying35 rfl hi35 ?_)
        | (refine kit_load rfl 35 (.tmp 16) rfl _ rfl g6 rfl (voteV (y.vd kt sg2) (.slice ah2 nh2 ch2) (.slice ap2 np2 cp2) (.slice aa2 na2 ca2) (.slice az2 ns2 cs2)) 35 H6.out.2.1 _ Tryz.underlying35 rfl hi35 ?_)
        | (refine kit_build rfl 39 #[(0, .tmp 53), (1, .tmp 54), (2, .tmp 55), (3, .tmp 56), (4, .const (.int .i64 5))] rfl _ rfl (eviV (x.vd kt sg1) (y.vd kt sg2) (.slice ah1 nh1 ch1) (.slice ap1 np1 cp1) (.slice aa1 na1 ca1) (.slice az1 ns1 cs1) (.slice ah2 nh2 ch2) (.slice ap2 np2 cp2) (.slice aa2 na2 ca2) (.slice az2 ns2 cs2) total power 5) (by kernel_rfl) ?_)
        | (refine kit_store_last rfl 39 _ _ rfl rfl w6.heap.size (eviV (x.vd kt sg1) (y.vd kt sg2) (.slice ah1 nh1 ch1) (.slice ap1 np1 cp1) (.slice aa1 na1 ca1) (.slice az1 ns1 cs1) (.slice ah2 nh2 ch2) (.slice ap2 np2 cp2) (.slice aa2 na2 ca2) (.slice az2 ns2 cs2) total power 5) eviZ rfl rfl rfl hi39 rfl (evi_one _ _ _ _ _ _ _ _ _ _ _ _ _ _ _ _ _ _ _ _ _ _ _ _ _ _ _ _ _) ?_
           have k7 : Kp [] w6 (w6.alloc (.cells (eviV (x.vd kt sg1) (y.vd kt sg2) (.slice ah1 nh1 ch1) (.slice ap1 np1 cp1) (.slice aa1 na1 ca1) (.slice az1 ns1 cs1) (.slice ah2 nh2 ch2) (.slice ap2 np2 cp2) (.slice aa2 na2 ca2) (.slice az2 ns2 cs2) total power 5) 39)) := (Kp.refl [] w6).alloc _
           have hb7 := Blk.new w6 (eviV (x.vd kt sg1) (y.vd kt sg2) (.slice ah1 nh1 ch1) (.slice ap1 np1 cp1) (.slice aa1 na1 ca1) (.slice az1 ns1 cs1) (.slice ah2 nh2 ch2) (.slice ap2 np2 cp2) (.slice aa2 na2 ca2) (.slice az2 ns2 cs2) total power 5) 39
           generalize w6.alloc (.cells (eviV (x.vd kt sg1) (y.vd kt sg2) (.slice ah1 nh1 ch1) (.slice ap1 np1 cp1) (.slice aa1 na1 ca1) (.slice az1 ns1 cs1) (.slice ah2 nh2 ch2) (.slice ap2 np2 cp2) (.slice aa2 na2 ca2) (.slice az2 ns2 cs2) total power 5) 39) = w7 at *
           obtain ⟨g7, eg7⟩ : ∃ g, g = w6.heap.size := ⟨_, rfl⟩
           rw [← eg7] at hb7 ⊢
           have h4c : ∀ W, Kp [] w7 W → W.cell? ⟨g4, 7, none⟩ = some (.slice aa1 na1 ca1) := (k7.blk H6.out.1 (by simp)).all 7 rfl
           have hcv : ∀ W, Kp [] w7 W → (convert 22 9 (.slice aa1 na1 ca1)).run Tryz.prog W = .ok (.string (strOfNums (x.vd kt sg1).addr)) W := fun W kW => run_string W ((H4.out.2.2.1.kp (H6.out.2.2.2.trans (k7.trans kW))).addr) 22 Tryz.underlying22
           have H7 := Lib.hid (And.intro (k7.blk H6.out.1 (by simp)) (And.intro (k7.blk H6.out.2.1 (by simp)) (And.intro hb7 (And.intro k7 (And.intro h4c hcv)))))
           clear k7 hb7 eg7))
      have hqok : SpOk Q := spok_of H.out.2.2.1 H1.out.2.2.2.2.2.1
      have HQ := Lib.hid hqok
      clear hqok
      have okA := Sd.vd_ok (kt := kt) H.out.2.2.2.1 H3.out.1 (by rw [H3.out.2.1]; omega)
      have okB := Sd.vd_ok (kt := kt) H.out.2.2.2.2.1 H5.out.1 (by rw [H5.out.2.1]; omega)
      have HAB := Lib.hid (And.intro okA okB)
      clear okA okB
      have kw7 : Kp [] w w7 := H0.out.1.trans (H4.out.1.trans (H6.out.2.2.2.trans H7.out.2.2.2.1))
      have k27 : Kp [] w2 w7 := H4.out.2.2.2.trans (H6.out.2.2.2.trans H7.out.2.2.2.1)
      have HW := Lib.hid (And.intro kw7 k27)
      clear kw7 k27 h4c hcv
      refine (find_any b2 c2 n Q (x.vd kt sg1).addr w7 (H2.out.2.2.2.kp HW.out.2) H1.out.2.2.2.2.1.symm (by omega) (fun S hS => (HQ.out S hS).1) HAB.out.1.addr.1).mono ?_
      rintro e w8 ⟨⟨r, rfl, hf⟩, k8⟩
      have hlaw := guilty_law H.out.2.2.2.2.2.1 hn1 H1.out.2.1 H1.out.2.2.2.2.2.1 H.out.2.2.2.1 H.out.2.2.2.2.1 H3.out.2.2.2.1 H5.out.2.2.2.1 (power := power) (total := total) hf
      have H8 := Lib.hid (And.intro hf (And.intro k8 hlaw))
      clear hf k8 hlaw
      go_upto_region 10 with fail
      refine want_reg (x.vd kt sg1) (y.vd kt sg2) HAB.out.1 HAB.out.2 power total r r1 r2 b2 n c2 g4 g6 _ _ _ _ _ _ _ _ _ _ _ _ _ _ _ _ _ _ _ _ _ _ _ _ Q w8 (H2.out.2.2.2.kp (HW.out.2.trans H8.out.2.1)) H1.out.2.2.2.2.1.symm (by omega) HQ.out H8.out.1 (H8.out.2.1.blk H7.out.1 (by simp)) (H8.out.2.1.blk H7.out.2.1 (by simp)) (H4.out.2.2.1.kp ((H6.out.2.2.2.trans H7.out.2.2.2.1).trans H8.out.2.1)) (H6.out.2.2.1.kp (H7.out.2.2.2.1.trans H8.out.2.1)) ?_
      intro v63 v64 v65 v66 v67 v68 v69 v70 v71 v72 v73 v74 v75 v76 v77 v78 v79 v80 v81 v82 v83 v84 v85 v86 v87 v88 v89 v90 v91 v92 v93 v94 v95 v96 v97 v98 v99 v100 v101 v102 v103 v104 v105 v106 v107 v108 v109 v110 v111 v112 v113 v114 v115 v116 v117 v118 v119 v120 v121 v122 v123 q w9 k9 hq
      have H9 := Lib.hid (And.intro (H8.out.2.1.trans k9) (hq.trans H8.out.2.2))
      clear k9 hq
      dsimp only
      have hp : ∀ S ∈ Ls, 1 ≤ S.pow ∧ S.pow ≤ 1000 := seas_pow H.out.2.2.1 H1.out.2.1
      have ha : (Ls.map fun S => addr kt S.key).Nodup := seas_apart H.out.2.2.2.2.2.1 hn1 H1.out.2.1
      have HPA := Lib.hid (And.intro hp ha)
      clear hp ha
      go_wp2_with (first
        | (refine kit_load rfl 39 (.tmp 18) rfl _ rfl g7 rfl (eviV (x.vd kt sg1) (y.vd kt sg2) (.slice ah1 nh1 ch1) (.slice ap1 np1 cp1) (.slice aa1 na1 ca1) (.slice az1 ns1 cs1) (.slice ah2 nh2 ch2) (.slice ap2 np2 cp2) (.slice aa2 na2 ca2) (.slice az2 ns2 cs2) total power 5) 39 (H9.out.1.blk H7.out.2.2.1 (by simp)) _ Tryz.underlying39 rfl hi39 ?_)
        | (refine kit_load rfl 27 (.tmp 11) rfl _ rfl g2 rfl #[.slice (some ⟨vb, 0, none⟩) n vc, .int .i64 pi] 27 ((HW.out.2.trans H9.out.1).blk H2.out.2.1 (by simp)) _ Tryz.underlying27 rfl hi27 ?_))
      have kw9 : Kp [] w w9 := HW.out.1.trans H9.out.1
      refine (verE_any kt _ _ HAB.out.1 HAB.out.2 (Sd.lens kt _ _) (Sd.lens kt _ _) _ _ _ _ _ _ _ _ total power 5 pi _ n Ls w9 (H4.out.2.2.1.kp ((H6.out.2.2.2.trans H7.out.2.2.2.1).trans H9.out.1)) (H6.out.2.2.1.kp (H7.out.2.2.2.1.trans H9.out.1)) ⟨vb, vc, by rw [H1.out.2.2.1], H2.out.2.2.1.kp (HW.out.2.trans H9.out.1)⟩ H1.out.2.2.1.symm hn0 (by omega) HPA.out.1 HPA.out.2 ⟨H1.out.2.2.2.2.2.2.1, H1.out.2.2.2.2.2.2.2.1⟩ (H.out.2.2.2.2.2.2.1.kp kw9) (H.out.2.2.2.2.2.2.2.kp kw9)).mono ?_
      rintro e w10 ⟨r3, rfl, hr3, k10⟩
      obtain rfl : r3 = q := by
        have h1 := hr3.trans H9.out.2.symm
        cases r3 <;> cases q <;> simp_all
      have HK10 := Lib.hid (kw9.trans k10)
      have hqq : (r3 == r3) = true := beq_self_eq_true r3
      clear hr3 k10 kw9
      go_wp2_with fail
      refine (stands_any kt w10 H.out.2.2.2.2.2.1 (H.out.2.2.2.2.2.2.1.kp HK10.out) (H.out.2.2.2.2.2.2.2.kp HK10.out)).mono ?_
      rintro e w11 ⟨rfl, k11⟩
      have HK11 := Lib.hid (HK10.out.trans k11)
      clear k11
      go_wp2_with fail
      go_ret
      exact ⟨rfl, HK11.out⟩
end Go.Proofs.YtfkaldaflnmfiaaGreatDoor
