/- The row of FnEviGuilty: what the variables hold, the arguments opened, the walk, the arguments read again. -/
import Derived.Test.YtfkaldaflnmfiaaGreatDoorRows
import Derived.WalkKit
import Derived.ProofKit
import Derived.OpenShut
import Derived.Below
import Derived.Carry
import Derived.Lay
import Derived.LaidMore
import Derived.LaidLaws
import Derived.SizedLaws
import Derived.Stop.Joined
import Derived.Test.YtfkaldaflnmfiaaGreatDoorKGu
import Derived.Test.YtfkaldaflnmfiaaGreatDoorKTen
namespace Go.Proofs.YtfkaldaflnmfiaaGreatDoor
set_option linter.unusedSimpArgs false
set_option linter.unusedVariables false
open Go.ChangeShapes Go.WideShapes Go.ChangeAt Go.RowKit
theorem own : ownKnob Tryz.prog.godebug = none := by kernel_rfl
theorem cells5 : Tryz.prog.cellsOf 5 = 1 := by kernel_rfl
theorem cells24 : Tryz.prog.cellsOf 24 = 8 := by kernel_rfl

/-! ### What the listed variables hold -/
/-- A variable that reads as an error holds an interface value that is not nil. -/
theorem var_iface {W : World} {n nm : String} {d : DataW Unit} {g : Nat} {cs : Array Value} {fuel : Nat} {p : List MemPlace} (hg : Tryz.prog.globalNamed n = some g) (hv : W.var? Tryz.prog n = some cs)
    (h : DataW.trod (fun _ => ()) Tryz.prog W 0 (fun _ => true) false fuel 67 cs.toList = some (.iface nm d, p)) : ErrV W g := by
  obtain ⟨_, u, v, e, _, _⟩ := iface_of_trod Tryz.underlying67 h
  refine ⟨u, v, ?_⟩
  rw [World.var?_cell hg hv 0, Array.eq_one_of_toList e]
  rfl
/-- One listed error. -/
theorem laid_err {W : World} {n nm : String} {d : DataW Unit} {r : List (String × DataW Unit)} {ps : List MemPlace} (g : Nat) (h : DataW.LaidVars Tryz.prog W ((n, .iface nm d) :: r) ps)
    (hg : Tryz.prog.globalNamed n = some g) (ht : (Tryz.prog.globals[g]?).map (·.type) = some 67) : ErrV W g ∧ ∃ q, DataW.LaidVars Tryz.prog W r q := by
  obtain ⟨g0, t0, cs0, f0, p0, q0, hg0, ht0, hv0, hd0, hr, _⟩ := h
  obtain rfl := Option.some.inj (hg.symm.trans hg0)
  obtain rfl := Option.some.inj (ht.symm.trans ht0)
  exact ⟨var_iface hg0 hv0 hd0, q0, hr⟩
/-- The constants of the sum. -/
theorem laid_tab {W : World} {r : List (String × DataW Unit)} {ps : List MemPlace} (h : DataW.LaidVars Tryz.prog W (("pub-witenagemot/pub/sha256._K", Rows.laid_pub_witenagemot_pub_sha256_K) :: r) ps) :
    Tab ktN W ∧ ∃ q, DataW.LaidVars Tryz.prog W r q := by
  obtain ⟨g, t, cs, f0, p0, q0, hg, ht, hv, hd, hr, _⟩ := h
  obtain rfl := Option.some.inj ((show Tryz.prog.globalNamed "pub-witenagemot/pub/sha256._K" = some 10 by kernel_rfl).symm.trans hg)
  obtain rfl := Option.some.inj ((show (Tryz.prog.globals[10]?).map (·.type) = some 192 by kernel_rfl).symm.trans ht)
  obtain ⟨xs, m, _, ex, _, hl, hel⟩ := DataW.trod_array Tryz.underlying192 hd
  have hlen : ktL.length = 64 := by decide
  have e3 : (xs.map (·.1)) = ktL.map fun n => .lit (.int .u32 n) := (DataW.agg.inj (Prod.mk.inj ex).1).symm
  have hc : ∀ j, j < 64 → W.cell? ⟨10, j, none⟩ = some (.int .u32 (ktN j)) := by
    intro j hj
    have c47 : Tryz.prog.cellsOf 47 = 1 := by kernel_rfl
    have hE := hel j hj
    rw [c47, Nat.mul_one, List.getElem?_eq_getElem (by omega)] at hE
    obtain ⟨z, e1, e2, _⟩ := DataW.trod_int Tryz.underlying47 hE
    have e4 : (xs.map (·.1))[j]? = (ktL.map fun n => (DataW.lit (.int .u32 n) : DataW Unit))[j]? := by rw [e3]
    rw [List.getElem?_map, List.getElem?_map, List.getElem?_eq_getElem (by omega : j < xs.length), List.getElem?_eq_getElem (by omega : j < ktL.length), e2] at e4
    have hz : z = ktN j := by
      simp only [Option.map_some, Option.some.injEq, DataW.lit.injEq, Lit.int.injEq, true_and] at e4
      rw [e4, ktN, List.getD, List.getElem?_eq_getElem (by omega : j < ktL.length)]; rfl
    rw [World.var?_cell hg hv j, ← hz]
    have : cs.toList[j]? = some (.int .u32 z) := by
      have h0 : ((cs.toList.drop j).take 1)[0]? = some (.int .u32 z) := by rw [e1]; rfl
      simpa using h0
    simpa using this
  exact ⟨⟨World.block_lt_of_cell? W _ (hc 0 (by omega)), hc⟩, q0, hr⟩
theorem of_laid {W : World} (h : laidMetH Tryz.prog Rows.fnEviGuiltyRow.laid W) : Tab ktN W ∧ Errs W := by
  rw [MakeChecks.laidMetH_plain _ _ _ (by kernel_rfl)] at h
  obtain ⟨ps, h, _, _⟩ := h
  obtain ⟨hT, _, h⟩ := laid_tab h
  obtain ⟨h6, _, h⟩ := laid_err 6 h (by kernel_rfl) (by kernel_rfl)
  obtain ⟨_, _, h⟩ := laid_err 9 h (by kernel_rfl) (by kernel_rfl)
  obtain ⟨h0, _, h⟩ := laid_err 0 h (by kernel_rfl) (by kernel_rfl)
  obtain ⟨h1, _, h⟩ := laid_err 1 h (by kernel_rfl) (by kernel_rfl)
  obtain ⟨h2, _, h⟩ := laid_err 2 h (by kernel_rfl) (by kernel_rfl)
  obtain ⟨h3, _, h⟩ := laid_err 3 h (by kernel_rfl) (by kernel_rfl)
  obtain ⟨h4, _, h⟩ := laid_err 4 h (by kernel_rfl) (by kernel_rfl)
  obtain ⟨h5, _, _⟩ := laid_err 5 h (by kernel_rfl) (by kernel_rfl)
  exact ⟨hT, ⟨h0, h1, h2, h3, h4, h5, h6⟩⟩

/-! ### The arguments -/
theorem wf_u8 {n : Int} (h : (Lit.int .u8 n).wf = true) : 0 ≤ n ∧ n ≤ 255 := by
  simpa [Lit.wf, IntKind.min, IntKind.max, IntKind.signed, IntKind.bits] using h
theorem list8 {α : Type} {xs : List α} (h : xs.length = 8) : ∃ x0 x1 x2 x3 x4 x5 x6 x7, xs = [x0, x1, x2, x3, x4, x5, x6, x7] := by
  match xs, h with
  | [x0, x1, x2, x3, x4, x5, x6, x7], _ => exact ⟨x0, x1, x2, x3, x4, x5, x6, x7, rfl⟩
theorem array8 {α : Type} {cs : Array α} (h : cs.size = 8) : ∃ c0 c1 c2 c3 c4 c5 c6 c7, cs = #[c0, c1, c2, c3, c4, c5, c6, c7] := by
  obtain ⟨l⟩ := cs
  obtain ⟨x0, x1, x2, x3, x4, x5, x6, x7, rfl⟩ := list8 (xs := l) (by simpa using h)
  exact ⟨x0, x1, x2, x3, x4, x5, x6, x7, rfl⟩
set_option maxRecDepth 100000 in
/-- A vote as it is said, opened. -/
theorem open_sd {H : Type} {enc : TypeId × Value → H} {W : World} {v0 : Value} {d0 : DataW H} {p0 : List MemPlace} {base : Nat} (hok : Value.okWide Tryz.prog W .any base 24 v0)
    (h0 : DataW.Trod enc Tryz.prog W 0 (fun _ => true) true 24 v0 d0 p0) : ∃ x : Sd, x.ok ∧ v0 = .agg x.cells ∧ p0 = [] := by
  simp only [Value.okWide, Tryz.underlying24] at hok
  obtain ⟨cs, rfl, hsz, _⟩ := hok
  rw [cells24] at hsz
  obtain ⟨fuel, hf⟩ := h0
  obtain ⟨xs, m, rfl, hx, _, hl, he⟩ := DataW.trod_struct Tryz.underlying24 hf
  obtain ⟨c0, c1, c2, c3, c4, c5, c6, c7, rfl⟩ := array8 hsz
  obtain ⟨x0, x1, x2, x3, x4, x5, x6, x7, rfl⟩ := list8 hl
  have g0 : DataW.trod enc Tryz.prog W 0 (fun _ => true) true m 5 (([c0, c1, c2, c3, c4, c5, c6, c7].drop 0).take (Tryz.prog.cellsOf 5)) = some x0 := he 0 _ rfl
  have g1 : DataW.trod enc Tryz.prog W 0 (fun _ => true) true m 5 (([c0, c1, c2, c3, c4, c5, c6, c7].drop 1).take (Tryz.prog.cellsOf 5)) = some x1 := he 1 _ rfl
  have g2 : DataW.trod enc Tryz.prog W 0 (fun _ => true) true m 5 (([c0, c1, c2, c3, c4, c5, c6, c7].drop 2).take (Tryz.prog.cellsOf 5)) = some x2 := he 2 _ rfl
  have g3 : DataW.trod enc Tryz.prog W 0 (fun _ => true) true m 5 (([c0, c1, c2, c3, c4, c5, c6, c7].drop 3).take (Tryz.prog.cellsOf 5)) = some x3 := he 3 _ rfl
  have g4 : DataW.trod enc Tryz.prog W 0 (fun _ => true) true m 5 (([c0, c1, c2, c3, c4, c5, c6, c7].drop 4).take (Tryz.prog.cellsOf 5)) = some x4 := he 4 _ rfl
  have g5 : DataW.trod enc Tryz.prog W 0 (fun _ => true) true m 5 (([c0, c1, c2, c3, c4, c5, c6, c7].drop 5).take (Tryz.prog.cellsOf 5)) = some x5 := he 5 _ rfl
  have g6 : DataW.trod enc Tryz.prog W 0 (fun _ => true) true m 5 (([c0, c1, c2, c3, c4, c5, c6, c7].drop 6).take (Tryz.prog.cellsOf 5)) = some x6 := he 6 _ rfl
  have g7 : DataW.trod enc Tryz.prog W 0 (fun _ => true) true m 5 (([c0, c1, c2, c3, c4, c5, c6, c7].drop 7).take (Tryz.prog.cellsOf 5)) = some x7 := he 7 _ rfl
  simp only [cells5] at g0 g1 g2 g3 g4 g5 g6 g7
  obtain ⟨a0, e0, y0, b0⟩ := DataW.trod_int Tryz.underlying5 g0
  obtain ⟨a1, e1, y1, b1⟩ := DataW.trod_int Tryz.underlying5 g1
  obtain ⟨a2, e2, y2, b2⟩ := DataW.trod_int Tryz.underlying5 g2
  obtain ⟨a3, e3, y3, b3⟩ := DataW.trod_int Tryz.underlying5 g3
  obtain ⟨a4, e4, y4, b4⟩ := DataW.trod_int Tryz.underlying5 g4
  obtain ⟨a5, e5, y5, b5⟩ := DataW.trod_int Tryz.underlying5 g5
  obtain ⟨a6, e6, y6, b6⟩ := DataW.trod_int Tryz.underlying5 g6
  obtain ⟨a7, e7, y7, b7⟩ := DataW.trod_int Tryz.underlying5 g7
  simp at e0 e1 e2 e3 e4 e5 e6 e7
  subst e0 e1 e2 e3 e4 e5 e6 e7 y0 y1 y2 y3 y4 y5 y6 y7
  refine ⟨⟨a0, a1, a2, a3, a4, a5, a6, a7⟩, ⟨wf_u8 b0, wf_u8 b1, wf_u8 b2, wf_u8 b3, wf_u8 b4, wf_u8 b5, wf_u8 b6, wf_u8 b7⟩, rfl, ?_⟩
  simp only [Prod.mk.injEq] at hx
  rw [hx.2]
  rfl
/-- The powers, opened. -/
theorem open_pows {H : Type} {enc : TypeId × Value → H} {W : World} {v0 : Value} {d0 : DataW H} {p0 : List MemPlace} (h0 : DataW.Trod enc Tryz.prog W 0 (fun _ => true) true 22 v0 d0 p0) (hc : ∃ a n c, v0 = Value.slice a n c) :
    ∃ a n c P, v0 = .slice a n c ∧ n = List.length P ∧ Bs P ∧ (0 < n → Byt W (.slice a n c) P) := by
  obtain ⟨a, n, c, rfl⟩ := hc
  obtain ⟨fuel, hf⟩ := h0
  rcases open_ints Tryz.underlying22 Tryz.underlying5 cells5 hf with ⟨h1, h2⟩ | ⟨a', n', c', zs, h1, _, hn, hm, hl, hx, hcell, hwf⟩
  · simp [Value.cells] at h1
    obtain ⟨rfl, rfl, rfl⟩ := h1
    simp only [Prod.mk.injEq] at h2
    obtain ⟨_, rfl⟩ := h2
    exact ⟨none, 0, 0, [], rfl, rfl, Bs.nil, fun h => by omega⟩
  · simp [Value.cells] at h1
    obtain ⟨rfl, rfl, rfl⟩ := h1
    simp only [if_true] at hl
    simp only [Prod.mk.injEq] at hx
    obtain ⟨_, rfl⟩ := hx
    refine ⟨some a', n, c, zs.take n, rfl, by simp; omega, fun y hy => wf_u8 (hwf y (List.mem_of_mem_take hy)), fun h => ?_⟩
    · obtain ⟨b, o, rfl, hp⟩ := ints_at hcell (by omega)
      refine .inr ⟨b, o, c, by simp; omega, by simp; omega, World.block_lt_of_cell? W _ (hp 0 (by omega)), fun j hj => ?_⟩
      have hj' : j < n := by simp at hj; omega
      rw [hp j (by omega)]
      simp [List.getElem?_take, hj']

set_option maxRecDepth 100000 in
theorem lifted (os : Os) (started : os.Started) (H : Type) (enc : TypeId × Value → H) :
    ReturnsInHanded {} Tryz.checked os 3 .any (fun w args => (Rows.fnEviGuiltySpec.pre enc Tryz.prog Tryz.f3 [] false w args ∧ laidMetH Tryz.prog Rows.fnEviGuiltyRow.laid w) ∧ sizedMet enc Tryz.prog Tryz.f3 (OpenSpec.ofChange Rows.fnEviGuiltySpec) false w args)
      (Rows.fnEviGuiltySpec.post enc Tryz.prog Tryz.f3 false true false false) := by
  refine returnsInHanded_of_change_and (C := Tryz.checked) (X := fun w _ => laidMetH Tryz.prog Rows.fnEviGuiltyRow.laid w) (fun _ _ _ hh h => h.of_heap hh) own started (by kernel_rfl) Tryz.func3
    (ChangeSpec.witness_shaped (enc := enc) (C := Tryz.checked) (os := os) (X := fun w _ => laidMetH Tryz.prog Rows.fnEviGuiltyRow.laid w) false (World.laidAll Tryz.prog os Rows.fnEviGuiltyRow.laid)
      #[.slice none 0 0, .agg #[.int .u8 0, .int .u8 0, .int .u8 0, .int .u8 0, .int .u8 0, .int .u8 0, .int .u8 0, .int .u8 0], .agg #[.int .u8 0, .int .u8 0, .int .u8 0, .int .u8 0, .int .u8 0, .int .u8 0, .int .u8 0, .int .u8 0], .int .i64 0, .int .i64 0] 8 (World.laidAll_os _ _ _)
      (World.shaped_of_ZipB (by kernel_rfl) (by kernel_rfl)) (by kernel_rfl) (by kernel_rfl) (by kernel_rfl)
      (by rw [MakeChecks.laidMetH_plain _ _ _ (by kernel_rfl)]; exact laidMet_laidAll _ (by kernel_rfl) (by kernel_rfl))) ?_
  intro W base args ds gs before hval0 hW _ _ hL _
  have hval : ∀ (j : Nat) t v, Tryz.f3.params[j]? = some t → args[j]? = some v → Value.okWide Tryz.prog W .any base t v := hval0
  have hW' := hW
  obtain ⟨p, q, hA0, hV, rfl, _, _⟩ := hW
  have hA : DataW.TrodAll enc Tryz.prog W 0 (fun _ => true) true Tryz.f3.params.toList args.toList ds p := hA0
  rw [Tryz.params3] at hA hval
  obtain ⟨v0, vs0, d0, ds0, p0, q0, hargs, rfl, rfl, h0, r0⟩ := trodAll_cons hA
  obtain ⟨v1, vs1, d1, ds1, p1, q1, rfl, rfl, rfl, h1, r1⟩ := trodAll_cons r0
  obtain ⟨v2, vs2, d2, ds2, p2, q2, rfl, rfl, rfl, h2, r2⟩ := trodAll_cons r1
  obtain ⟨v3, vs3, d3, ds3, p3, q3, rfl, rfl, rfl, h3, r3⟩ := trodAll_cons r2
  obtain ⟨v4, vs4, d4, ds4, p4, q4, rfl, rfl, rfl, h4, r4⟩ := trodAll_cons r3
  obtain ⟨rfl, rfl, rfl⟩ := trodAll_nil r4
  obtain rfl : args = #[v0, v1, v2, v3, v4] := by cases args; simp_all
  obtain ⟨rfl, rfl⟩ := trodVars_none hV
  have ok0 := hval 0 22 v0 rfl rfl
  have ok1 := hval 1 24 v1 rfl rfl
  have ok2 := hval 2 24 v2 rfl rfl
  obtain ⟨pw, rfl, rfl, rfl, w3⟩ := open_int Tryz.underlying2 (hval 3 2 v3 rfl rfl) h3
  obtain ⟨tt, rfl, rfl, rfl, w4⟩ := open_int Tryz.underlying2 (hval 4 2 v4 rfl rfl) h4
  obtain ⟨x, hx, rfl, rfl⟩ := open_sd ok1 h1
  obtain ⟨y, hy, rfl, rfl⟩ := open_sd ok2 h2
  obtain ⟨a, n, c, P, rfl, hn, hb, hP⟩ := open_pows h0 (okWide_slice Tryz.underlying22 ok0)
  have hp0 : ∀ x ∈ p0, x.block < W.heap.size := fun x hx => hW'.lt x (by simp [hx])
  obtain ⟨hT, hE⟩ := of_laid hL
  clear hA0 hval0
  refine (guilty_any ktN a n c P x y pw tt W hP hn hb hx hy ten hE hT).mono fun e W' ⟨he, k⟩ => ?_
  subst he
  have bel := k.below
  have k0 := bel.trod (by kernel_rfl) (by kernel_rfl) (by decide +kernel) h0 hp0
  have k1 := bel.trod (by kernel_rfl) (by kernel_rfl) (by decide +kernel) h1 (by simp)
  have k2 := bel.trod (by kernel_rfl) (by kernel_rfl) (by decide +kernel) h2 (by simp)
  exact ⟨_, rfl, _, _, _, [], _, [], hW', trodAll_mk1 (shut_bool Tryz.underlying4 _), (trodAll_cons_mk k0 (trodAll_cons_mk k1 (trodAll_cons_mk k2 (trodAll_cons_mk (shut_int Tryz.underlying2 w3) (trodAll_cons_mk (shut_int Tryz.underlying2 w4) trodAll_mk0))))), rfl, bel.frame _, fun h => by cases h⟩
theorem guilty_row : Rows.FnEviGuiltySaid :=
  OpenClaim.holds_of_wide 3 Tryz.f3 rfl rfl rfl rfl rfl rfl rfl ⟨rfl, rfl, rfl, rfl, rfl⟩ rfl rfl rfl rfl rfl (by kernel_rfl) Tryz.func3 (by kernel_rfl)
    (of_decide_eq_true (by kernel_rfl)) (by unfold Func.isWrapper; first | (rw [if_pos (by decide +kernel)]; kernel_rfl) | (rw [if_neg (by decide +kernel)]; exact ⟨rfl, rfl⟩))
    (fun os started H enc _ => lifted os started H enc)
#print axioms guilty_row
end Go.Proofs.YtfkaldaflnmfiaaGreatDoor
