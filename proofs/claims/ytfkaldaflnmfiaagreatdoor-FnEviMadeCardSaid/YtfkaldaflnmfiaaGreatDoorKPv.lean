/- The contract of PollSameVote. Printed by gen/poll.py. -/
import Derived.WalkKit
import Derived.WalkSpells
import Derived.WalkLawsBesides
import Derived.Handy
import Derived.Lib.Hide
import Derived.IntWalk
import Derived.Deep.DeepCutAuto
import Derived.Test.YtfkaldaflnmfiaaGreatDoorKPs
import Derived.Test.YtfkaldaflnmfiaaGreatDoorKFw
namespace Go.Proofs.YtfkaldaflnmfiaaGreatDoor
set_option linter.unusedSimpArgs false
set_option linter.unusedVariables false
open Go Go.RowKit
set_option maxRecDepth 100000
/-- Two votes are one to a poll. -/
def Same1 (A B : VD) : Prop := A.typ = B.typ ∧ A.height = B.height ∧ A.round = B.round ∧ (A.hash = B.hash ∧ A.total = B.total ∧ A.parts = B.parts) ∧ A.time = B.time ∧ A.addr = B.addr ∧ A.index = B.index ∧ A.sig = B.sig
set_option maxHeartbeats 8000000 in
theorem poll_any (A B : VD) (okA : A.ok) (okB : B.ok) (vah vap vaa vas vbh vbp vba vbs : Value) (w : World) (hA : VoteB w A vah vap vaa vas) (hB : VoteB w B vbh vbp vba vbs) :
    Calls Tryz.prog 13 #[.agg (voteV A vah vap vaa vas), .agg (voteV B vbh vbp vba vbs)] w fun e w' => ∃ r : Bool, e = .returned (.bool r) ∧ (r = true ↔ Same1 A B) ∧ Kp [] w w' := by
  have H := Lib.hid (And.intro okA (And.intro okB (And.intro hA hB)))
  obtain ⟨aah, anh, ach, rfl⟩ := hA.hash.form
  obtain ⟨aap, anp, acp, rfl⟩ := hA.parts.form
  obtain ⟨aaa, ana, aca, rfl⟩ := hA.addr.form
  obtain ⟨aaz, ans, acs, rfl⟩ := hA.sig.form
  obtain ⟨bah, bnh, bch, rfl⟩ := hB.hash.form
  obtain ⟨bap, bnp, bcp, rfl⟩ := hB.parts.form
  obtain ⟨baa, bna, bca, rfl⟩ := hB.addr.form
  obtain ⟨baz, bns, bcs, rfl⟩ := hB.sig.form
  clear okA okB hA hB
  go_enter Tryz.func13, Tryz.ntmps13
  go_upto_region 1 with fail
  have hp := (Blk.new w (voteV A (.slice aah anh ach) (.slice aap anp acp) (.slice aaa ana aca) (.slice aaz ans acs)) 35).alloc (.cells (voteV B (.slice bah bnh bch) (.slice bap bnp bcp) (.slice baa bna bca) (.slice baz bns bcs)) 35)
  have hq := Blk.new (w.alloc (.cells (voteV A (.slice aah anh ach) (.slice aap anp acp) (.slice aaa ana aca) (.slice aaz ans acs)) 35)) (voteV B (.slice bah bnh bch) (.slice bap bnp bcp) (.slice baa bna bca) (.slice baz bns bcs)) 35
  have k0 := ((Kp.refl [] w).alloc (.cells (voteV A (.slice aah anh ach) (.slice aap anp acp) (.slice aaa ana aca) (.slice aaz ans acs)) 35)).alloc (.cells (voteV B (.slice bah bnh bch) (.slice bap bnp bcp) (.slice baa bna bca) (.slice baz bns bcs)) 35)
  rw [show (w.alloc (.cells (voteV A (.slice aah anh ach) (.slice aap anp acp) (.slice aaa ana aca) (.slice aaz ans acs)) 35)).heap.size = w.heap.size + 1 by simp] at hq
  generalize (w.alloc (.cells (voteV A (.slice aah anh ach) (.slice aap anp acp) (.slice aaa ana aca) (.slice aaz ans acs)) 35)).alloc (.cells (voteV B (.slice bah bnh bch) (.slice bap bnp bcp) (.slice baa bna bca) (.slice baz bns bcs)) 35) = w1 at *
  obtain ⟨p, ep⟩ : ∃ p, p = w.heap.size := ⟨_, rfl⟩
  rw [← ep] at hp hq ⊢
  have K0 := Lib.hid k0
  clear k0 ep
  have c0 : ∀ W, Kp [] w1 W → W.cell? ⟨p, 0, none⟩ = some (.int .i64 A.typ) := hp.all 0 rfl
  have c1 : ∀ W, Kp [] w1 W → W.cell? ⟨p, 1, none⟩ = some (.int .i64 A.height) := hp.all 1 rfl
  have c2 : ∀ W, Kp [] w1 W → W.cell? ⟨p, 2, none⟩ = some (.int .i64 A.round) := hp.all 2 rfl
  have c3 : ∀ W, Kp [] w1 W → W.cell? ⟨p, 3, none⟩ = some (.slice aah anh ach) := hp.all 3 rfl
  have c4 : ∀ W, Kp [] w1 W → W.cell? ⟨p, 4, none⟩ = some (.int .i64 A.total) := hp.all 4 rfl
  have c5 : ∀ W, Kp [] w1 W → W.cell? ⟨p, 5, none⟩ = some (.slice aap anp acp) := hp.all 5 rfl
  have c6 : ∀ W, Kp [] w1 W → W.cell? ⟨p, 6, none⟩ = some (.int .i64 A.time) := hp.all 6 rfl
  have c7 : ∀ W, Kp [] w1 W → W.cell? ⟨p, 7, none⟩ = some (.slice aaa ana aca) := hp.all 7 rfl
  have c8 : ∀ W, Kp [] w1 W → W.cell? ⟨p, 8, none⟩ = some (.int .i64 A.index) := hp.all 8 rfl
  have c9 : ∀ W, Kp [] w1 W → W.cell? ⟨p, 9, none⟩ = some (.slice aaz ans acs) := hp.all 9 rfl
  have c10 : ∀ W, Kp [] w1 W → W.cell? ⟨p, 10, none⟩ = some (.slice none 0 0) := hp.all 10 rfl
  have c11 : ∀ W, Kp [] w1 W → W.cell? ⟨p, 11, none⟩ = some (.slice none 0 0) := hp.all 11 rfl
  have d0 : ∀ W, Kp [] w1 W → W.cell? ⟨p + 1, 0, none⟩ = some (.int .i64 B.typ) := hq.all 0 rfl
  have d1 : ∀ W, Kp [] w1 W → W.cell? ⟨p + 1, 1, none⟩ = some (.int .i64 B.height) := hq.all 1 rfl
  have d2 : ∀ W, Kp [] w1 W → W.cell? ⟨p + 1, 2, none⟩ = some (.int .i64 B.round) := hq.all 2 rfl
  have d3 : ∀ W, Kp [] w1 W → W.cell? ⟨p + 1, 3, none⟩ = some (.slice bah bnh bch) := hq.all 3 rfl
  have d4 : ∀ W, Kp [] w1 W → W.cell? ⟨p + 1, 4, none⟩ = some (.int .i64 B.total) := hq.all 4 rfl
  have d5 : ∀ W, Kp [] w1 W → W.cell? ⟨p + 1, 5, none⟩ = some (.slice bap bnp bcp) := hq.all 5 rfl
  have d6 : ∀ W, Kp [] w1 W → W.cell? ⟨p + 1, 6, none⟩ = some (.int .i64 B.time) := hq.all 6 rfl
  have d7 : ∀ W, Kp [] w1 W → W.cell? ⟨p + 1, 7, none⟩ = some (.slice baa bna bca) := hq.all 7 rfl
  have d8 : ∀ W, Kp [] w1 W → W.cell? ⟨p + 1, 8, none⟩ = some (.int .i64 B.index) := hq.all 8 rfl
  have d9 : ∀ W, Kp [] w1 W → W.cell? ⟨p + 1, 9, none⟩ = some (.slice baz bns bcs) := hq.all 9 rfl
  have d10 : ∀ W, Kp [] w1 W → W.cell? ⟨p + 1, 10, none⟩ = some (.slice none 0 0) := hq.all 10 rfl
  have d11 : ∀ W, Kp [] w1 W → W.cell? ⟨p + 1, 11, none⟩ = some (.slice none 0 0) := hq.all 11 rfl
  have ra : ∀ W, Kp [] w1 W → (convert 22 9 (.slice aaa ana aca)).run Tryz.prog W = .ok (.string (strOfNums A.addr)) W := fun W k => run_string W (H.out.2.2.1.addr.kp (K0.out.trans k)) 22 Tryz.underlying22
  have rz : ∀ W, Kp [] w1 W → (convert 22 9 (.slice aaz ans acs)).run Tryz.prog W = .ok (.string (strOfNums A.sig)) W := fun W k => run_string W (H.out.2.2.1.sig.kp (K0.out.trans k)) 22 Tryz.underlying22
  have rn : ∀ W, Kp [] w1 W → (convert 22 9 (.slice none 0 0)).run Tryz.prog W = .ok (.string (strOfNums [])) W := fun W k => run_string W (l := []) (.inl ⟨rfl, rfl⟩) 22 Tryz.underlying22
  have sa : ∀ W, Kp [] w1 W → (convert 22 9 (.slice baa bna bca)).run Tryz.prog W = .ok (.string (strOfNums B.addr)) W := fun W k => run_string W (H.out.2.2.2.addr.kp (K0.out.trans k)) 22 Tryz.underlying22
  have sz : ∀ W, Kp [] w1 W → (convert 22 9 (.slice baz bns bcs)).run Tryz.prog W = .ok (.string (strOfNums B.sig)) W := fun W k => run_string W (H.out.2.2.2.sig.kp (K0.out.trans k)) 22 Tryz.underlying22
  clear hp hq
  by_cases q0 : A.typ = B.typ
  case neg =>
    have e0 : (A.typ == B.typ) = false := by rw [beq_eq_false_iff_ne]; exact q0
    have Q0 := Lib.hid q0
    clear q0
    go_wp2_with fail
    go_ret
    exact ⟨_, rfl, ⟨fun h => absurd h (by decide), fun h => absurd h.1 Q0.out⟩, K0.out⟩
  have e0 : (A.typ == B.typ) = true := by rw [beq_iff_eq]; exact q0
  have Q0 := Lib.hid q0
  clear q0
  by_cases q1 : A.height = B.height
  case neg =>
    have e1 : (A.height == B.height) = false := by rw [beq_eq_false_iff_ne]; exact q1
    have Q1 := Lib.hid q1
    clear q1
    go_wp2_with fail
    go_ret
    exact ⟨_, rfl, ⟨fun h => absurd h (by decide), fun h => absurd h.2.1 Q1.out⟩, K0.out⟩
  have e1 : (A.height == B.height) = true := by rw [beq_iff_eq]; exact q1
  have Q1 := Lib.hid q1
  clear q1
  by_cases q2 : A.round = B.round
  case neg =>
    have e2 : (A.round == B.round) = false := by rw [beq_eq_false_iff_ne]; exact q2
    have Q2 := Lib.hid q2
    clear q2
    go_wp2_with fail
    go_ret
    exact ⟨_, rfl, ⟨fun h => absurd h (by decide), fun h => absurd h.2.2.1 Q2.out⟩, K0.out⟩
  have e2 : (A.round == B.round) = true := by rw [beq_iff_eq]; exact q2
  have Q2 := Lib.hid q2
  clear q2
  by_cases q3 : A.hash = B.hash ∧ A.total = B.total ∧ A.parts = B.parts
  case neg =>
    have e3 : decide (A.hash = B.hash ∧ A.total = B.total ∧ A.parts = B.parts) = false := decide_eq_false q3
    have Q3 := Lib.hid q3
    clear q3
    go_wp2_with fail
    refine (sameID_any A.total B.total _ _ _ _ A.hash B.hash A.parts B.parts w1 (H.out.2.2.1.hash.kp K0.out) (H.out.2.2.2.hash.kp K0.out) (H.out.2.2.1.parts.kp K0.out) (H.out.2.2.2.parts.kp K0.out) H.out.1.hash.1 H.out.2.1.hash.1 H.out.1.parts.1 H.out.2.1.parts.1).mono ?_
    rintro e w2 ⟨rfl, k2⟩
    rw [e3]
    go_wp2_with fail
    go_ret
    exact ⟨_, rfl, ⟨fun h => absurd h (by decide), fun h => absurd h.2.2.2.1 Q3.out⟩, K0.out.trans k2⟩
  have e3 : decide (A.hash = B.hash ∧ A.total = B.total ∧ A.parts = B.parts) = true := decide_eq_true q3
  have Q3 := Lib.hid q3
  clear q3
  by_cases q4 : A.time = B.time
  case neg =>
    have e4 : (A.time == B.time) = false := by rw [beq_eq_false_iff_ne]; exact q4
    have Q4 := Lib.hid q4
    clear q4
    go_wp2_with fail
    refine (sameID_any A.total B.total _ _ _ _ A.hash B.hash A.parts B.parts w1 (H.out.2.2.1.hash.kp K0.out) (H.out.2.2.2.hash.kp K0.out) (H.out.2.2.1.parts.kp K0.out) (H.out.2.2.2.parts.kp K0.out) H.out.1.hash.1 H.out.2.1.hash.1 H.out.1.parts.1 H.out.2.1.parts.1).mono ?_
    rintro e w2 ⟨rfl, k2⟩
    rw [e3]
    go_wp2_with fail
    go_ret
    exact ⟨_, rfl, ⟨fun h => absurd h (by decide), fun h => absurd h.2.2.2.2.1 Q4.out⟩, K0.out.trans k2⟩
  have e4 : (A.time == B.time) = true := by rw [beq_iff_eq]; exact q4
  have Q4 := Lib.hid q4
  clear q4
  by_cases q5 : A.addr = B.addr
  case neg =>
    have e5 : ((strOfNums A.addr).toList == (strOfNums B.addr).toList) = false := (strS_beq H.out.1.addr.1 H.out.2.1.addr.1).trans (decide_eq_false q5)
    have Q5 := Lib.hid q5
    clear q5
    go_wp2_with fail
    refine (sameID_any A.total B.total _ _ _ _ A.hash B.hash A.parts B.parts w1 (H.out.2.2.1.hash.kp K0.out) (H.out.2.2.2.hash.kp K0.out) (H.out.2.2.1.parts.kp K0.out) (H.out.2.2.2.parts.kp K0.out) H.out.1.hash.1 H.out.2.1.hash.1 H.out.1.parts.1 H.out.2.1.parts.1).mono ?_
    rintro e w2 ⟨rfl, k2⟩
    rw [e3]
    go_wp2_with fail
    go_ret
    exact ⟨_, rfl, ⟨fun h => absurd h (by decide), fun h => absurd h.2.2.2.2.2.1 Q5.out⟩, K0.out.trans k2⟩
  have e5 : ((strOfNums A.addr).toList == (strOfNums B.addr).toList) = true := (strS_beq H.out.1.addr.1 H.out.2.1.addr.1).trans (decide_eq_true q5)
  have Q5 := Lib.hid q5
  clear q5
  by_cases q6 : A.index = B.index
  case neg =>
    have e6 : (A.index == B.index) = false := by rw [beq_eq_false_iff_ne]; exact q6
    have Q6 := Lib.hid q6
    clear q6
    go_wp2_with fail
    refine (sameID_any A.total B.total _ _ _ _ A.hash B.hash A.parts B.parts w1 (H.out.2.2.1.hash.kp K0.out) (H.out.2.2.2.hash.kp K0.out) (H.out.2.2.1.parts.kp K0.out) (H.out.2.2.2.parts.kp K0.out) H.out.1.hash.1 H.out.2.1.hash.1 H.out.1.parts.1 H.out.2.1.parts.1).mono ?_
    rintro e w2 ⟨rfl, k2⟩
    rw [e3]
    go_wp2_with fail
    go_ret
    exact ⟨_, rfl, ⟨fun h => absurd h (by decide), fun h => absurd h.2.2.2.2.2.2.1 Q6.out⟩, K0.out.trans k2⟩
  have e6 : (A.index == B.index) = true := by rw [beq_iff_eq]; exact q6
  have Q6 := Lib.hid q6
  clear q6
  by_cases q7 : A.sig = B.sig
  case neg =>
    have e7 : ((strOfNums A.sig).toList == (strOfNums B.sig).toList) = false := (strS_beq H.out.1.sig.1 H.out.2.1.sig.1).trans (decide_eq_false q7)
    have Q7 := Lib.hid q7
    clear q7
    go_wp2_with fail
    refine (sameID_any A.total B.total _ _ _ _ A.hash B.hash A.parts B.parts w1 (H.out.2.2.1.hash.kp K0.out) (H.out.2.2.2.hash.kp K0.out) (H.out.2.2.1.parts.kp K0.out) (H.out.2.2.2.parts.kp K0.out) H.out.1.hash.1 H.out.2.1.hash.1 H.out.1.parts.1 H.out.2.1.parts.1).mono ?_
    rintro e w2 ⟨rfl, k2⟩
    rw [e3]
    go_wp2_with fail
    go_ret
    exact ⟨_, rfl, ⟨fun h => absurd h (by decide), fun h => absurd h.2.2.2.2.2.2.2 Q7.out⟩, K0.out.trans k2⟩
  have e7 : ((strOfNums A.sig).toList == (strOfNums B.sig).toList) = true := (strS_beq H.out.1.sig.1 H.out.2.1.sig.1).trans (decide_eq_true q7)
  have Q7 := Lib.hid q7
  clear q7
  go_wp2_with fail
  refine (sameID_any A.total B.total _ _ _ _ A.hash B.hash A.parts B.parts w1 (H.out.2.2.1.hash.kp K0.out) (H.out.2.2.2.hash.kp K0.out) (H.out.2.2.1.parts.kp K0.out) (H.out.2.2.2.parts.kp K0.out) H.out.1.hash.1 H.out.2.1.hash.1 H.out.1.parts.1 H.out.2.1.parts.1).mono ?_
  rintro e w2 ⟨rfl, k2⟩
  rw [e3]
  go_wp2_with fail
  go_ret
  exact ⟨_, rfl, ⟨fun _ => ⟨Q0.out, Q1.out, Q2.out, Q3.out, Q4.out, Q5.out, Q6.out, Q7.out⟩, fun _ => (by first | rfl | trivial)⟩, K0.out.trans k2⟩
end Go.Proofs.YtfkaldaflnmfiaaGreatDoor
