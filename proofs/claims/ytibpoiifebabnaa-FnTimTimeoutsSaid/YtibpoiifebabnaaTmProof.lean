/- The durations of a round's timeouts are those of round 0 and so much more for each round: the law answers true at every input. Conditions: none. -/
import Derived.Test.YtibpoiifebabnaaRows
import Derived.Test.YtibpoiifebabnaaTmLaw
import Derived.WalkKit
import Derived.ProofKit
import Derived.OpenShut
import Derived.ShutString
import Derived.ChangeOld
import Derived.Below
import Derived.Carry
import Derived.SizedLaws
namespace Go.Proofs.Ytibpoiifebabnaa.fnTimTimeouts
open Go.ChangeShapes Go.WideShapes Go.ChangeAt Go.RowKit
open Go.ChangeMaps (open_string shut_string)
set_option linter.unusedVariables false
theorem own : ownKnob Try.prog.godebug = none := by kernel_rfl
theorem cells22 : Try.prog.cellsOf 22 = 7 := by kernel_rfl
theorem cells2 : Try.prog.cellsOf 2 = 1 := by kernel_rfl

/-- The array of seven numbers, opened. -/
theorem open_seven {H : Type} {enc : TypeId × Value → H} {W : World} {v0 : Value} {d0 : DataW H} {p0 : List MemPlace} {base : Nat} (hok : Value.okWide Try.prog W .any base 22 v0)
    (h0 : DataW.Trod enc Try.prog W 0 (fun _ => true) true 22 v0 d0 p0) :
    ∃ n0 n1 n2 n3 n4 n5 n6 : Int, v0 = tmSeven n0 n1 n2 n3 n4 n5 n6 ∧ p0 = [] := by
  simp only [Value.okWide, Try.underlying22] at hok
  obtain ⟨cs, rfl, hsz, _⟩ := hok
  rw [cells22] at hsz
  obtain ⟨fuel, hf⟩ := h0
  obtain ⟨xs, m, rfl, hx, _, hl, he⟩ := DataW.trod_array Try.underlying22 hf
  obtain ⟨c0, c1, c2, c3, c4, c5, c6, rfl⟩ : ∃ c0 c1 c2 c3 c4 c5 c6, cs = #[c0, c1, c2, c3, c4, c5, c6] := by
    obtain ⟨l⟩ := cs
    match l, hsz with
    | [c0, c1, c2, c3, c4, c5, c6], _ => exact ⟨c0, c1, c2, c3, c4, c5, c6, rfl⟩
  obtain ⟨x0, x1, x2, x3, x4, x5, x6, rfl⟩ : ∃ x0 x1 x2 x3 x4 x5 x6, xs = [x0, x1, x2, x3, x4, x5, x6] := by
    match xs, hl with
    | [x0, x1, x2, x3, x4, x5, x6], _ => exact ⟨x0, x1, x2, x3, x4, x5, x6, rfl⟩
  have g0 := he 0 (by omega)
  have g1 := he 1 (by omega)
  have g2 := he 2 (by omega)
  have g3 := he 3 (by omega)
  have g4 := he 4 (by omega)
  have g5 := he 5 (by omega)
  have g6 := he 6 (by omega)
  simp only [cells2, Value.cells] at g0 g1 g2 g3 g4 g5 g6
  obtain ⟨a0, e0, y0, _⟩ := DataW.trod_int Try.underlying2 g0
  obtain ⟨a1, e1, y1, _⟩ := DataW.trod_int Try.underlying2 g1
  obtain ⟨a2, e2, y2, _⟩ := DataW.trod_int Try.underlying2 g2
  obtain ⟨a3, e3, y3, _⟩ := DataW.trod_int Try.underlying2 g3
  obtain ⟨a4, e4, y4, _⟩ := DataW.trod_int Try.underlying2 g4
  obtain ⟨a5, e5, y5, _⟩ := DataW.trod_int Try.underlying2 g5
  obtain ⟨a6, e6, y6, _⟩ := DataW.trod_int Try.underlying2 g6
  simp at e0 e1 e2 e3 e4 e5 e6
  subst e0 e1 e2 e3 e4 e5 e6 y0 y1 y2 y3 y4 y5 y6
  refine ⟨a0, a1, a2, a3, a4, a5, a6, rfl, ?_⟩
  simp only [Prod.mk.injEq] at hx
  rw [hx.2]
  rfl

set_option maxRecDepth 100000 in
theorem lifted (os : Os) (started : os.Started) (H : Type) (enc : TypeId × Value → H) :
    ReturnsInHanded {} Try.checked os 3 .any (Rows.fnTimTimeoutsSpec.pre6 enc Try.prog Try.f3 Rows.fnTimTimeoutsRow.domain false) (Rows.fnTimTimeoutsSpec.post enc Try.prog Try.f3 false true false false) := by
  refine returnsInHanded_of_change_sized (C := Try.checked) own started (by kernel_rfl) Try.func3
    (ChangeSpec.witness6 (enc := enc) (C := Try.checked) false ⟨#[], #[.agg #[.int .i64 0, .int .i64 0, .int .i64 0, .int .i64 0, .int .i64 0, .int .i64 0, .int .i64 0], .int .i64 0], []⟩ 8 (by kernel_rfl) (by kernel_rfl) (by kernel_rfl) (by kernel_rfl)) ?_
  intro W base args ds gs before hval0 hW hcnd hsz0 _
  have hsz : (DataW.weightsEach Try.prog (Try.f3.params.toList ++ Rows.fnTimTimeoutsSpec.plain.varTypes Try.prog) (ds ++ gs)).all (· ≤ reachBytes) = true := hsz0
  have hval : ∀ (j : Nat) t v, Try.f3.params[j]? = some t → args[j]? = some v → Value.okWide Try.prog W .any base t v := hval0
  have hW' := hW
  obtain ⟨p, q, hA0, hV, rfl, hfz, hnd⟩ := hW
  have hA : DataW.TrodAll enc Try.prog W 0 (fun _ => true) true Try.f3.params.toList args.toList ds p := hA0
  rw [Try.params3] at hA hval hsz
  obtain ⟨v0, vs0, d0, ds0, p0, q0, hargs, rfl, rfl, h0, r0⟩ := trodAll_cons hA
  obtain ⟨v1, vs1, d1, ds1, p1, q1, rfl, rfl, rfl, h1, r1⟩ := trodAll_cons r0
  obtain ⟨rfl, rfl, rfl⟩ := trodAll_nil r1
  obtain rfl : args = #[v0, v1] := by cases args; simp_all
  obtain ⟨rfl, rfl⟩ := trodVars_none hV
  have ok0 := hval 0 22 v0 rfl rfl
  obtain ⟨a1, rfl, rfl, rfl, w1⟩ := open_int Try.underlying3 (hval 1 3 v1 rfl rfl) h1
  obtain ⟨n0, n1, n2, n3, n4, n5, n6, rfl, rfl⟩ := open_seven ok0 h0
  clear hA0 hval0 hsz0 hsz
  refine (tmLaw n0 n1 n2 n3 n4 n5 n6 a1 W).mono fun e W' ⟨he, bel⟩ => ?_
  subst he
  have k0 := bel.trod (by kernel_rfl) (by kernel_rfl) (by decide +kernel) h0 (by simp)
  exact ⟨_, rfl, _, _, _, [], _, [], hW', trodAll_mk1 (shut_bool Try.underlying4 _), (trodAll_cons_mk k0 (trodAll_cons_mk (shut_int Try.underlying3 w1) trodAll_mk0)), rfl, bel.frame _, fun h => by cases h⟩
theorem over : Rows.fnTimTimeoutsRow.holds Try.pinned (OpenSpec.ofChange Rows.fnTimTimeoutsSpec) :=
  OpenClaim.holds_of_wide 3 Try.f3 rfl rfl rfl rfl rfl rfl rfl ⟨rfl, rfl, rfl, rfl, rfl⟩ rfl rfl rfl rfl rfl (by kernel_rfl) Try.func3 (by kernel_rfl)
    (of_decide_eq_true (by kernel_rfl)) (by unfold Func.isWrapper; first | (rw [if_pos (by decide +kernel)]; kernel_rfl) | (rw [if_neg (by decide +kernel)]; exact ⟨rfl, rfl⟩))
    (fun os started H enc _ => lifted os started H enc)
theorem proved : Rows.FnTimTimeoutsSaid := over
#print axioms proved
end Go.Proofs.Ytibpoiifebabnaa.fnTimTimeouts
namespace Go.Proofs.Ytibpoiifebabnaa
/-- The row, under a short name, for the claim. -/
theorem fnTimTimeouts_holds : Rows.FnTimTimeoutsSaid := fnTimTimeouts.proved
end Go.Proofs.Ytibpoiifebabnaa
