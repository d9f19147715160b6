/- Proved: the tied card of FnEviMade, which says that at every input the law answers true and its arguments read as they did. Conditions: those of the row alone, that the listed variables of the package start as the text of the program lays them (tied to the pruned copy of the program). This text: the row, the arguments opened, the card. -/
import Derived.Test.YtfkaldaflnmfiaaGreatDoorRows
import Derived.WalkKit
import Derived.ProofKit
import Derived.OpenShut
import Derived.Below
import Derived.Carry
import Derived.Lay
import Derived.LaidMore
import Derived.LaidLaws
import Derived.SizedLaws
import Derived.Stop.Joined
import Derived.Test.YtfkaldaflnmfiaaGreatDoorKFm
import Derived.Test.YtfkaldaflnmfiaaGreatDoorKRow
import Derived.Test.YtfkaldaflnmfiaaGreatDoorTie
import Derived.Test.YtfkaldaflnmfiaaGreatDoorCards
import Derived.SevenTiedAt
namespace Go.Proofs.YtfkaldaflnmfiaaGreatDoor
set_option linter.unusedSimpArgs false
set_option linter.unusedVariables false
open Go.ChangeShapes Go.WideShapes Go.ChangeAt Go.RowKit
theorem wf_u32 {n : Int} (h : (Lit.int .u32 n).wf = true) : 0 ≤ n ∧ n ≤ 4294967295 := by
  simpa [Lit.wf, IntKind.min, IntKind.max, IntKind.signed, IntKind.bits] using h
theorem of_laidM {W : World} (h : laidMetH Tryz.prog Rows.fnEviMadeRow.laid W) : Tab ktN W ∧ Errs W := by
  rw [MakeChecks.laidMetH_plain _ _ _ (by kernel_rfl)] at h
  obtain ⟨ps, h, _, _⟩ := h
  obtain ⟨hT, _, h⟩ := laid_tab h
  obtain ⟨h6, _, h⟩ := laid_err 6 h (by kernel_rfl) (by kernel_rfl)
  obtain ⟨_, _, h⟩ := laid_err 7 h (by kernel_rfl) (by kernel_rfl)
  obtain ⟨_, _, h⟩ := laid_err 9 h (by kernel_rfl) (by kernel_rfl)
  obtain ⟨h0, _, h⟩ := laid_err 0 h (by kernel_rfl) (by kernel_rfl)
  obtain ⟨h1, _, h⟩ := laid_err 1 h (by kernel_rfl) (by kernel_rfl)
  obtain ⟨h2, _, h⟩ := laid_err 2 h (by kernel_rfl) (by kernel_rfl)
  obtain ⟨h3, _, h⟩ := laid_err 3 h (by kernel_rfl) (by kernel_rfl)
  obtain ⟨h4, _, h⟩ := laid_err 4 h (by kernel_rfl) (by kernel_rfl)
  obtain ⟨h5, _, _⟩ := laid_err 5 h (by kernel_rfl) (by kernel_rfl)
  exact ⟨hT, ⟨h0, h1, h2, h3, h4, h5, h6⟩⟩

set_option maxRecDepth 100000 in
theorem liftedM (os : Os) (started : os.Started) (H : Type) (enc : TypeId × Value → H) :
    ReturnsInHanded {} Tryz.checked os 4 .any (fun w args => (Rows.fnEviMadeSpec.pre enc Tryz.prog Tryz.f4 [] false w args ∧ laidMetH Tryz.prog Rows.fnEviMadeRow.laid w) ∧ sizedMet enc Tryz.prog Tryz.f4 (OpenSpec.ofChange Rows.fnEviMadeSpec) false w args)
      (Rows.fnEviMadeSpec.post enc Tryz.prog Tryz.f4 false true false false) := by
  refine returnsInHanded_of_change_and (C := Tryz.checked) (X := fun w _ => laidMetH Tryz.prog Rows.fnEviMadeRow.laid w) (fun _ _ _ hh h => h.of_heap hh) own started (by kernel_rfl) Tryz.func4
    (ChangeSpec.witness_shaped (enc := enc) (C := Tryz.checked) (os := os) (X := fun w _ => laidMetH Tryz.prog Rows.fnEviMadeRow.laid w) false (World.laidAll Tryz.prog os Rows.fnEviMadeRow.laid)
      #[.slice none 0 0, .agg #[.int .u8 0, .int .u8 0, .int .u8 0, .int .u8 0, .int .u8 0, .int .u8 0, .int .u8 0, .int .u8 0], .agg #[.int .u8 0, .int .u8 0, .int .u8 0, .int .u8 0, .int .u8 0, .int .u8 0, .int .u8 0, .int .u8 0], .int .u32 0] 8 (World.laidAll_os _ _ _)
      (World.shaped_of_ZipB (by kernel_rfl) (by kernel_rfl)) (by kernel_rfl) (by kernel_rfl) (by kernel_rfl)
      (by rw [MakeChecks.laidMetH_plain _ _ _ (by kernel_rfl)]; exact laidMet_laidAll _ (by kernel_rfl) (by kernel_rfl))) ?_
  intro W base args ds gs before hval0 hW _ _ hL _
  have hval : ∀ (j : Nat) t v, Tryz.f4.params[j]? = some t → args[j]? = some v → Value.okWide Tryz.prog W .any base t v := hval0
  have hW' := hW
  obtain ⟨p, q, hA0, hV, rfl, _, _⟩ := hW
  have hA : DataW.TrodAll enc Tryz.prog W 0 (fun _ => true) true Tryz.f4.params.toList args.toList ds p := hA0
  rw [Tryz.params4] at hA hval
  obtain ⟨v0, vs0, d0, ds0, p0, q0, hargs, rfl, rfl, h0, r0⟩ := trodAll_cons hA
  obtain ⟨v1, vs1, d1, ds1, p1, q1, rfl, rfl, rfl, h1, r1⟩ := trodAll_cons r0
  obtain ⟨v2, vs2, d2, ds2, p2, q2, rfl, rfl, rfl, h2, r2⟩ := trodAll_cons r1
  obtain ⟨v3, vs3, d3, ds3, p3, q3, rfl, rfl, rfl, h3, r3⟩ := trodAll_cons r2
  obtain ⟨rfl, rfl, rfl⟩ := trodAll_nil r3
  obtain rfl : args = #[v0, v1, v2, v3] := by cases args; simp_all
  obtain ⟨rfl, rfl⟩ := trodVars_none hV
  have ok0 := hval 0 22 v0 rfl rfl
  have ok1 := hval 1 24 v1 rfl rfl
  have ok2 := hval 2 24 v2 rfl rfl
  obtain ⟨tm, rfl, rfl, rfl, w3⟩ := open_int Tryz.underlying47 (hval 3 47 v3 rfl rfl) h3
  obtain ⟨x, hx, rfl, rfl⟩ := open_sd ok1 h1
  obtain ⟨y, hy, rfl, rfl⟩ := open_sd ok2 h2
  obtain ⟨a, n, c, P, rfl, hn, hb, hP⟩ := open_pows h0 (okWide_slice Tryz.underlying22 ok0)
  have hp0 : ∀ x ∈ p0, x.block < W.heap.size := fun x hx => hW'.lt x (by simp [hx])
  obtain ⟨hT, hE⟩ := of_laidM hL
  clear hA0 hval0
  refine (made_any ktN a n c P x y tm W hP hn hb hx hy (wf_u32 w3) ten hE hT).mono fun e W' ⟨he, k⟩ => ?_
  subst he
  have bel := k.below
  have k0 := bel.trod (by kernel_rfl) (by kernel_rfl) (by decide +kernel) h0 hp0
  have k1 := bel.trod (by kernel_rfl) (by kernel_rfl) (by decide +kernel) h1 (by simp)
  have k2 := bel.trod (by kernel_rfl) (by kernel_rfl) (by decide +kernel) h2 (by simp)
  exact ⟨_, rfl, _, _, _, [], _, [], hW', trodAll_mk1 (shut_bool Tryz.underlying4 _), (trodAll_cons_mk k0 (trodAll_cons_mk k1 (trodAll_cons_mk k2 (trodAll_cons_mk (shut_int Tryz.underlying47 w3) trodAll_mk0)))), rfl, bel.frame _, fun h => by cases h⟩
theorem made_row : Rows.FnEviMadeSaid :=
  OpenClaim.holds_of_wide 4 Tryz.f4 rfl rfl rfl rfl rfl rfl rfl ⟨rfl, rfl, rfl, rfl, rfl⟩ rfl rfl rfl rfl rfl (by kernel_rfl) Tryz.func4 (by kernel_rfl)
    (of_decide_eq_true (by kernel_rfl)) (by unfold Func.isWrapper; first | (rw [if_pos (by decide +kernel)]; kernel_rfl) | (rw [if_neg (by decide +kernel)]; exact ⟨rfl, rfl⟩))
    (fun os started H enc _ => liftedM os started H enc)
#print axioms made_row
end Go.Proofs.YtfkaldaflnmfiaaGreatDoor
/- The tied card of FnEviMade: the row, and the tie that is given. -/
namespace Go.Proofs.YtfkaldaflnmfiaaGreatDoor
set_option linter.unusedSimpArgs false
set_option linter.unusedVariables false
open Go
theorem fnEviMade_holds : Rows.FnEviMadeCardSaid :=
  Claim7.holds_tied_plain_at .later [] [.data, .sentinel, .sentinel, .sentinel, .sentinel, .sentinel, .sentinel, .sentinel, .sentinel, .sentinel] true (true, "b97b56036eccc54cb707fb2fe7ad094b7b613a8b3f0866c17adff10b8b7cc7de") false
    made_row (fun _ h => by cases h) (by kernel_rfl) (fun _ h => by cases h) fnEviMade_row_tie rfl ⟨rfl, rfl⟩ (by kernel_rfl) rfl
    (fun f fn hf hfn => by
      obtain rfl : f = 4 := Option.some.inj ((show Tryz.prog.funcNamed "pub-witenagemot/laws.FnEviMade" = some 4 by kernel_rfl).symm.trans hf) |>.symm
      obtain rfl : fn = Tryz.f4 := (Option.some.inj (Tryz.func4.symm.trans hfn)).symm
      exact ⟨by kernel_rfl, fun j t ht => by
        rw [Tryz.params4] at ht
        have hm : t ∈ [22, 24, 24, 47] := by simpa using Array.mem_of_getElem? ht
        have hall : ([22, 24, 24, 47].all fun u => !Tryz.prog.wantsStandIn u) = true := by kernel_rfl
        exact (show Tryz.prog.wantsStandIn t = false by simpa using List.all_eq_true.1 hall t hm)⟩)
    (by kernel_rfl)
#print axioms fnEviMade_holds
end Go.Proofs.YtfkaldaflnmfiaaGreatDoor
