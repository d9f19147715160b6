/- The contract of VoteValid: true at a vote that is as the law makes it. -/
import Derived.WalkKit
import Derived.WalkSpells
import Derived.WalkLawsBesides
import Derived.Handy
import Derived.Lib.Hide
import Derived.IntWalk
import Derived.Deep.DeepCutAuto
import Derived.Test.YtfkaldaflnmfiaaGreatDoorKVb
import Derived.Test.YtfkaldaflnmfiaaGreatDoorKOrd
namespace Go.Proofs.YtfkaldaflnmfiaaGreatDoor
set_option linter.unusedSimpArgs false
set_option linter.unusedVariables false
open Go Go.RowKit
set_option maxRecDepth 100000

theorem voteOk_any (V : VD) (hV : V.ok) (h : V.fit) (vh vp va vs : Value) (w : World) (hB : VoteB w V vh vp va vs) :
    Calls Tryz.prog 15 #[.agg (voteV V vh vp va vs)] w fun e w' => e = .returned (.bool true) ∧ Kp [] w w' := by
  have H := Lib.hid (And.intro hV (And.intro h hB))
  obtain ⟨ah, nh, ch, rfl⟩ := hB.hash.form
  obtain ⟨ap, np, cp, rfl⟩ := hB.parts.form
  obtain ⟨aa, na, ca, rfl⟩ := hB.addr.form
  obtain ⟨az, ns, cs, rfl⟩ := hB.sig.form
  clear hV h hB
  have hb := Blk.new w (voteV V (.slice ah nh ch) (.slice ap np cp) (.slice aa na ca) (.slice az ns cs)) 35
  have k0 := (Kp.refl [] w).alloc (.cells (voteV V (.slice ah nh ch) (.slice ap np cp) (.slice aa na ca) (.slice az ns cs)) 35)
  have H0 := Lib.hid (And.intro hb k0)
  clear hb k0
  go_enter Tryz.func15, Tryz.ntmps15
  go_upto_region 1 with fail
  generalize w.alloc (.cells (voteV V (.slice ah nh ch) (.slice ap np cp) (.slice aa na ca) (.slice az ns cs)) 35) = wA at *
  obtain ⟨p, ep⟩ : ∃ p, p = w.heap.size := ⟨_, rfl⟩
  rw [← ep] at H0 ⊢
  clear ep
  have c0 : wA.cell? ⟨p, 0, none⟩ = some (.int .i64 V.typ) := H0.out.1.cell rfl
  have c1 : wA.cell? ⟨p, 1, none⟩ = some (.int .i64 V.height) := H0.out.1.cell rfl
  have c2 : wA.cell? ⟨p, 2, none⟩ = some (.int .i64 V.round) := H0.out.1.cell rfl
  have c3 : wA.cell? ⟨p, 3, none⟩ = some (.slice ah nh ch) := H0.out.1.cell rfl
  have c4 : wA.cell? ⟨p, 4, none⟩ = some (.int .i64 V.total) := H0.out.1.cell rfl
  have c5 : wA.cell? ⟨p, 5, none⟩ = some (.slice ap np cp) := H0.out.1.cell rfl
  have c6 : wA.cell? ⟨p, 6, none⟩ = some (.int .i64 V.time) := H0.out.1.cell rfl
  have c7 : wA.cell? ⟨p, 7, none⟩ = some (.slice aa na ca) := H0.out.1.cell rfl
  have c8 : wA.cell? ⟨p, 8, none⟩ = some (.int .i64 V.index) := H0.out.1.cell rfl
  have c9 : wA.cell? ⟨p, 9, none⟩ = some (.slice az ns cs) := H0.out.1.cell rfl
  have c10 : wA.cell? ⟨p, 10, none⟩ = some (.slice none 0 0) := H0.out.1.cell rfl
  have c11 : wA.cell? ⟨p, 11, none⟩ = some (.slice none 0 0) := H0.out.1.cell rfl
  go_wp2_with fail
  clear c0 c1 c2 c3 c4 c5 c6 c7 c8 c9 c10 c11
  refine (toVote_any V H.out.1 (.slice ah nh ch) (.slice ap np cp) (.slice aa na ca) (.slice az ns cs) wA (H.out.2.2.kp H0.out.2)).mono ?_
  rintro e w1 ⟨g, rfl, hg, hb, k1⟩
  have H1 := Lib.hid (And.intro hb (H0.out.2.trans k1))
  clear hb k1
  go_wp2_with fail
  refine (voteValid_any V H.out.2.1 g _ _ _ _ w1 H1.out.1 (H.out.2.2.kp H1.out.2)).mono ?_
  rintro e w2 ⟨rfl, k2⟩
  go_wp2_with fail
  go_ret
  exact ⟨rfl, H1.out.2.trans k2⟩
end Go.Proofs.YtfkaldaflnmfiaaGreatDoor
/- The contracts of fromID and fromVote. -/
namespace Go.Proofs.YtfkaldaflnmfiaaGreatDoor
set_option linter.unusedSimpArgs false
set_option linter.unusedVariables false
open Go Go.RowKit
set_option maxRecDepth 100000

theorem fromID_any (t : Int) (ah ap : Option Addr) (nh ch np cp : Nat) (w : World) (h0 : 0 ≤ t) (h1 : t ≤ 1000) :
    Calls Tryz.prog 47 #[.agg #[.slice ah nh ch, .int .u32 t, .slice ap np cp]] w fun e w' => e = .returned (.agg #[.slice ah nh ch, .int .i64 t, .slice ap np cp]) ∧ Kp [] w w' := by
  have q := IntWalk.i64_in t (by omega)
  go_enter Tryz.func47, Tryz.ntmps47
  go_wp2
  go_returns
  refine ⟨rfl, ?_⟩
  exact ((Kp.refl [] w).alloc _).alloc _
end Go.Proofs.YtfkaldaflnmfiaaGreatDoor
