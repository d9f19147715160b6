/- The contract of fromVote. Printed by gen/fromvote.py. -/
import Derived.WalkKit
import Derived.WalkSpells
import Derived.WalkLawsBesides
import Derived.Handy
import Derived.Lib.Hide
import Derived.IntWalk
import Derived.Deep.DeepCutAuto
import Derived.Test.YtfkaldaflnmfiaaGreatDoorKFv
import Derived.Test.YtfkaldaflnmfiaaGreatDoorKVo
namespace Go.Proofs.YtfkaldaflnmfiaaGreatDoor
set_option linter.unusedSimpArgs false
set_option linter.unusedVariables false
open Go Go.RowKit
set_option maxRecDepth 100000

theorem exec_build {P : Program} (a : Act) (o : Oper) (t : TypeId) (parts : Array (Nat × Operand)) (ho : o.op = .build t parts) (cells : Array Value) (W : World)
    (hf : P.built t (parts.map fun (i, x) => (i, a.eval x)).toList = some cells) : (execOp a.eval o).run P W = .ok (.value (.agg cells)) W := by
  unfold execOp
  simp only [ho, Sem.run_bind, run_build W t _ cells hf, Result.andThen_ok]
  rfl
set_option maxHeartbeats 4000000 in
theorem fromVote_any (V : VD) (hV : V.ok) (g : Nat) (vh vp va vs : Value) (w : World) (hg : Blk w g (voteC V vh vp va vs) 105) (hB : VoteB w V vh vp va vs) :
    Calls Tryz.prog 28 #[.pointer (some ⟨g, 0, none⟩)] w fun e w' => e = .returned (.agg (voteV V vh vp va vs)) ∧ Kp [] w w' := by
  have w1 : IntKind.i64.wrap V.typ = V.typ := IntWalk.i64_in _ (by have := hV.typ; omega)
  have w2 : IntKind.i64.wrap V.round = V.round := IntWalk.i64_in _ (by have := hV.round; omega)
  have w3 : IntKind.i64.wrap V.index = V.index := IntWalk.i64_in _ (by have := hV.index; omega)
  have HV := Lib.hid hV
  obtain ⟨ah, nh, ch, rfl⟩ := hB.hash.form
  obtain ⟨ap, np, cp, rfl⟩ := hB.parts.form
  obtain ⟨aa, na, ca, rfl⟩ := hB.addr.form
  obtain ⟨az, ns, cs, rfl⟩ := hB.sig.form
  have HG := Lib.hid hg
  have hlt := hg.lt
  clear hV hB hg
  go_enter Tryz.func28, Tryz.ntmps28
  go_wp2_with fail
  have hr := Blk.new w voteZ 35
  have k0 := (Kp.refl [] w).alloc (.cells voteZ 35)
  unfold voteZ at hr k0
  generalize w.alloc (.cells #[.int .i64 0, .int .i64 0, .int .i64 0, .slice none 0 0, .int .i64 0, .slice none 0 0, .int .i64 0, .slice none 0 0, .int .i64 0, .slice none 0 0, .slice none 0 0, .slice none 0 0] 35) = wA at *
  obtain ⟨r, er⟩ : ∃ r, r = w.heap.size := ⟨_, rfl⟩
  rw [← er] at hr ⊢
  have hS0 := (k0.drew).blk HG.out (by simp)
  have HK := Lib.hid (And.intro k0 (And.intro hr er))
  clear k0 hr er hlt

  refine wp_region_noPanic ?_
  refine wp_region_last (fun W => Blk W g (voteC V (.slice ah nh ch) (.slice ap np cp) (.slice aa na ca) (.slice az ns cs)) 105) (by kernel_rfl) ?_
  refine wpAnyL_take (i := 0) (v := _) rfl (by kernel_rfl) (by kernel_rfl) (by kernel_rfl) (fun _ _ _ h => h) (Or.inl ⟨by rfl, fun W hSW => by go_simp; try with_reducible rfl⟩) hS0 ?_
  try simp only [Act.put, List.setIfInBounds_toArray, List.set_cons_zero, List.set_cons_succ]
  refine wpAnyL_take (i := 1) (v := _) rfl (by kernel_rfl) (by kernel_rfl) (by kernel_rfl) (fun _ _ _ h => h) (Or.inl ⟨by rfl, fun W hSW => by go_simp; try with_reducible rfl⟩) hS0 ?_
  try simp only [Act.put, List.setIfInBounds_toArray, List.set_cons_zero, List.set_cons_succ]
  refine wpAnyL_take (i := 2) (v := _) rfl (by kernel_rfl) (by kernel_rfl) (by kernel_rfl) (fun _ _ _ h => h) (Or.inl ⟨by rfl, fun W hSW => by go_simp; try with_reducible rfl⟩) hS0 ?_
  try simp only [Act.put, List.setIfInBounds_toArray, List.set_cons_zero, List.set_cons_succ]
  refine wpAnyL_take (i := 3) (v := .int .i32 V.typ) rfl (by kernel_rfl) (by kernel_rfl) (by kernel_rfl) (fun _ _ _ h => h) (Or.inl ⟨by rfl, fun W hSW => by have c0 : W.cell? ⟨g, 0, none⟩ = some (.int .i32 V.typ) := hSW.cell rfl; go_simp; try with_reducible rfl⟩) hS0 ?_
  try simp only [Act.put, List.setIfInBounds_toArray, List.set_cons_zero, List.set_cons_succ]
  refine wpAnyL_take (i := 4) (v := .int .i64 V.typ) rfl (by kernel_rfl) (by kernel_rfl) (by kernel_rfl) (fun _ _ _ h => h) (Or.inl ⟨by rfl, fun W hSW => by have q := w1; go_simp; try with_reducible rfl⟩) hS0 ?_
  try simp only [Act.put, List.setIfInBounds_toArray, List.set_cons_zero, List.set_cons_succ]
  refine wpAnyL_take (i := 5) (v := _) rfl (by kernel_rfl) (by kernel_rfl) (by kernel_rfl) (fun _ _ _ h => h) (Or.inl ⟨by rfl, fun W hSW => by go_simp; try with_reducible rfl⟩) hS0 ?_
  try simp only [Act.put, List.setIfInBounds_toArray, List.set_cons_zero, List.set_cons_succ]
  refine wpAnyL_take (i := 6) (v := _) rfl (by kernel_rfl) (by kernel_rfl) (by kernel_rfl) (fun _ _ _ h => h) (Or.inl ⟨by rfl, fun W hSW => by go_simp; try with_reducible rfl⟩) hS0 ?_
  try simp only [Act.put, List.setIfInBounds_toArray, List.set_cons_zero, List.set_cons_succ]
  refine wpAnyL_take (i := 7) (v := _) rfl (by kernel_rfl) (by kernel_rfl) (by kernel_rfl) (fun _ _ _ h => h) (Or.inl ⟨by rfl, fun W hSW => by go_simp; try with_reducible rfl⟩) hS0 ?_
  try simp only [Act.put, List.setIfInBounds_toArray, List.set_cons_zero, List.set_cons_succ]
  refine wpAnyL_take (i := 8) (v := .int .i64 V.height) rfl (by kernel_rfl) (by kernel_rfl) (by kernel_rfl) (fun _ _ _ h => h) (Or.inl ⟨by rfl, fun W hSW => by have c1 : W.cell? ⟨g, 1, none⟩ = some (.int .i64 V.height) := hSW.cell rfl; go_simp; try with_reducible rfl⟩) hS0 ?_
  try simp only [Act.put, List.setIfInBounds_toArray, List.set_cons_zero, List.set_cons_succ]
  refine wpAnyL_take (i := 9) (v := _) rfl (by kernel_rfl) (by kernel_rfl) (by kernel_rfl) (fun _ _ _ h => h) (Or.inl ⟨by rfl, fun W hSW => by go_simp; try with_reducible rfl⟩) hS0 ?_
  try simp only [Act.put, List.setIfInBounds_toArray, List.set_cons_zero, List.set_cons_succ]
  refine wpAnyL_take (i := 10) (v := _) rfl (by kernel_rfl) (by kernel_rfl) (by kernel_rfl) (fun _ _ _ h => h) (Or.inl ⟨by rfl, fun W hSW => by go_simp; try with_reducible rfl⟩) hS0 ?_
  try simp only [Act.put, List.setIfInBounds_toArray, List.set_cons_zero, List.set_cons_succ]
  refine wpAnyL_take (i := 11) (v := _) rfl (by kernel_rfl) (by kernel_rfl) (by kernel_rfl) (fun _ _ _ h => h) (Or.inl ⟨by rfl, fun W hSW => by go_simp; try with_reducible rfl⟩) hS0 ?_
  try simp only [Act.put, List.setIfInBounds_toArray, List.set_cons_zero, List.set_cons_succ]
  refine wpAnyL_take (i := 12) (v := .int .i32 V.round) rfl (by kernel_rfl) (by kernel_rfl) (by kernel_rfl) (fun _ _ _ h => h) (Or.inl ⟨by rfl, fun W hSW => by have c2 : W.cell? ⟨g, 2, none⟩ = some (.int .i32 V.round) := hSW.cell rfl; go_simp; try with_reducible rfl⟩) hS0 ?_
  try simp only [Act.put, List.setIfInBounds_toArray, List.set_cons_zero, List.set_cons_succ]
  refine wpAnyL_take (i := 13) (v := .int .i64 V.round) rfl (by kernel_rfl) (by kernel_rfl) (by kernel_rfl) (fun _ _ _ h => h) (Or.inl ⟨by rfl, fun W hSW => by have q := w2; go_simp; try with_reducible rfl⟩) hS0 ?_
  try simp only [Act.put, List.setIfInBounds_toArray, List.set_cons_zero, List.set_cons_succ]
  refine wpAnyL_take (i := 14) (v := _) rfl (by kernel_rfl) (by kernel_rfl) (by kernel_rfl) (fun _ _ _ h => h) (Or.inl ⟨by rfl, fun W hSW => by go_simp; try with_reducible rfl⟩) hS0 ?_
  try simp only [Act.put, List.setIfInBounds_toArray, List.set_cons_zero, List.set_cons_succ]
  refine wpAnyL_take (i := 15) (v := _) rfl (by kernel_rfl) (by kernel_rfl) (by kernel_rfl) (fun _ _ _ h => h) (Or.inl ⟨by rfl, fun W hSW => by go_simp; try with_reducible rfl⟩) hS0 ?_
  try simp only [Act.put, List.setIfInBounds_toArray, List.set_cons_zero, List.set_cons_succ]
  refine wpAnyL_take (i := 16) (v := _) rfl (by kernel_rfl) (by kernel_rfl) (by kernel_rfl) (fun _ _ _ h => h) (Or.inl ⟨by rfl, fun W hSW => by go_simp; try with_reducible rfl⟩) hS0 ?_
  try simp only [Act.put, List.setIfInBounds_toArray, List.set_cons_zero, List.set_cons_succ]
  refine wpAnyL_take (i := 17) (v := .agg #[.slice ah nh ch, .int .u32 V.total, .slice ap np cp]) rfl (by kernel_rfl) (by kernel_rfl) (by kernel_rfl) (fun _ _ _ h => h) (Or.inl ⟨by rfl, fun W hSW => by have c3 : W.cell? ⟨g, 3, none⟩ = some (.slice ah nh ch) := hSW.cell rfl; have c4 : W.cell? ⟨g, 4, none⟩ = some (.int .u32 V.total) := hSW.cell rfl; have c5 : W.cell? ⟨g, 5, none⟩ = some (.slice ap np cp) := hSW.cell rfl; go_simp; try with_reducible rfl⟩) hS0 ?_
  try simp only [Act.put, List.setIfInBounds_toArray, List.set_cons_zero, List.set_cons_succ]
  refine wpAnyL_take (i := 19) (v := _) rfl (by kernel_rfl) (by kernel_rfl) (by kernel_rfl) (fun _ _ _ h => h) (Or.inl ⟨by rfl, fun W hSW => by go_simp; try with_reducible rfl⟩) hS0 ?_
  try simp only [Act.put, List.setIfInBounds_toArray, List.set_cons_zero, List.set_cons_succ]
  refine wpAnyL_take (i := 20) (v := _) rfl (by kernel_rfl) (by kernel_rfl) (by kernel_rfl) (fun _ _ _ h => h) (Or.inl ⟨by rfl, fun W hSW => by go_simp; try with_reducible rfl⟩) hS0 ?_
  try simp only [Act.put, List.setIfInBounds_toArray, List.set_cons_zero, List.set_cons_succ]
  refine wpAnyL_take (i := 21) (v := _) rfl (by kernel_rfl) (by kernel_rfl) (by kernel_rfl) (fun _ _ _ h => h) (Or.inl ⟨by rfl, fun W hSW => by go_simp; try with_reducible rfl⟩) hS0 ?_
  try simp only [Act.put, List.setIfInBounds_toArray, List.set_cons_zero, List.set_cons_succ]
  refine wpAnyL_take (i := 22) (v := _) rfl (by kernel_rfl) (by kernel_rfl) (by kernel_rfl) (fun _ _ _ h => h) (Or.inl ⟨by rfl, fun W hSW => by go_simp; try with_reducible rfl⟩) hS0 ?_
  try simp only [Act.put, List.setIfInBounds_toArray, List.set_cons_zero, List.set_cons_succ]
  refine wpAnyL_take (i := 23) (v := .int .i64 V.time) rfl (by kernel_rfl) (by kernel_rfl) (by kernel_rfl) (fun _ _ _ h => h) (Or.inl ⟨by rfl, fun W hSW => by have c6 : W.cell? ⟨g, 6, none⟩ = some (.int .i64 V.time) := hSW.cell rfl; go_simp; try with_reducible rfl⟩) hS0 ?_
  try simp only [Act.put, List.setIfInBounds_toArray, List.set_cons_zero, List.set_cons_succ]
  refine wpAnyL_take (i := 24) (v := _) rfl (by kernel_rfl) (by kernel_rfl) (by kernel_rfl) (fun _ _ _ h => h) (Or.inl ⟨by rfl, fun W hSW => by go_simp; try with_reducible rfl⟩) hS0 ?_
  try simp only [Act.put, List.setIfInBounds_toArray, List.set_cons_zero, List.set_cons_succ]
  refine wpAnyL_take (i := 25) (v := _) rfl (by kernel_rfl) (by kernel_rfl) (by kernel_rfl) (fun _ _ _ h => h) (Or.inl ⟨by rfl, fun W hSW => by go_simp; try with_reducible rfl⟩) hS0 ?_
  try simp only [Act.put, List.setIfInBounds_toArray, List.set_cons_zero, List.set_cons_succ]
  refine wpAnyL_take (i := 26) (v := _) rfl (by kernel_rfl) (by kernel_rfl) (by kernel_rfl) (fun _ _ _ h => h) (Or.inl ⟨by rfl, fun W hSW => by go_simp; try with_reducible rfl⟩) hS0 ?_
  try simp only [Act.put, List.setIfInBounds_toArray, List.set_cons_zero, List.set_cons_succ]
  refine wpAnyL_take (i := 27) (v := .slice aa na ca) rfl (by kernel_rfl) (by kernel_rfl) (by kernel_rfl) (fun _ _ _ h => h) (Or.inl ⟨by rfl, fun W hSW => by have c7 : W.cell? ⟨g, 7, none⟩ = some (.slice aa na ca) := hSW.cell rfl; go_simp; try with_reducible rfl⟩) hS0 ?_
  try simp only [Act.put, List.setIfInBounds_toArray, List.set_cons_zero, List.set_cons_succ]
  refine wpAnyL_take (i := 28) (v := _) rfl (by kernel_rfl) (by kernel_rfl) (by kernel_rfl) (fun _ _ _ h => h) (Or.inl ⟨by rfl, fun W hSW => by go_simp; try with_reducible rfl⟩) hS0 ?_
  try simp only [Act.put, List.setIfInBounds_toArray, List.set_cons_zero, List.set_cons_succ]
  refine wpAnyL_take (i := 29) (v := _) rfl (by kernel_rfl) (by kernel_rfl) (by kernel_rfl) (fun _ _ _ h => h) (Or.inl ⟨by rfl, fun W hSW => by go_simp; try with_reducible rfl⟩) hS0 ?_
  try simp only [Act.put, List.setIfInBounds_toArray, List.set_cons_zero, List.set_cons_succ]
  refine wpAnyL_take (i := 30) (v := _) rfl (by kernel_rfl) (by kernel_rfl) (by kernel_rfl) (fun _ _ _ h => h) (Or.inl ⟨by rfl, fun W hSW => by go_simp; try with_reducible rfl⟩) hS0 ?_
  try simp only [Act.put, List.setIfInBounds_toArray, List.set_cons_zero, List.set_cons_succ]
  refine wpAnyL_take (i := 31) (v := .int .i32 V.index) rfl (by kernel_rfl) (by kernel_rfl) (by kernel_rfl) (fun _ _ _ h => h) (Or.inl ⟨by rfl, fun W hSW => by have c8 : W.cell? ⟨g, 8, none⟩ = some (.int .i32 V.index) := hSW.cell rfl; go_simp; try with_reducible rfl⟩) hS0 ?_
  try simp only [Act.put, List.setIfInBounds_toArray, List.set_cons_zero, List.set_cons_succ]
  refine wpAnyL_take (i := 32) (v := .int .i64 V.index) rfl (by kernel_rfl) (by kernel_rfl) (by kernel_rfl) (fun _ _ _ h => h) (Or.inl ⟨by rfl, fun W hSW => by have q := w3; go_simp; try with_reducible rfl⟩) hS0 ?_
  try simp only [Act.put, List.setIfInBounds_toArray, List.set_cons_zero, List.set_cons_succ]
  refine wpAnyL_take (i := 33) (v := _) rfl (by kernel_rfl) (by kernel_rfl) (by kernel_rfl) (fun _ _ _ h => h) (Or.inl ⟨by rfl, fun W hSW => by go_simp; try with_reducible rfl⟩) hS0 ?_
  try simp only [Act.put, List.setIfInBounds_toArray, List.set_cons_zero, List.set_cons_succ]
  refine wpAnyL_take (i := 34) (v := _) rfl (by kernel_rfl) (by kernel_rfl) (by kernel_rfl) (fun _ _ _ h => h) (Or.inl ⟨by rfl, fun W hSW => by go_simp; try with_reducible rfl⟩) hS0 ?_
  try simp only [Act.put, List.setIfInBounds_toArray, List.set_cons_zero, List.set_cons_succ]
  refine wpAnyL_take (i := 35) (v := _) rfl (by kernel_rfl) (by kernel_rfl) (by kernel_rfl) (fun _ _ _ h => h) (Or.inl ⟨by rfl, fun W hSW => by go_simp; try with_reducible rfl⟩) hS0 ?_
  try simp only [Act.put, List.setIfInBounds_toArray, List.set_cons_zero, List.set_cons_succ]
  refine wpAnyL_take (i := 36) (v := .slice az ns cs) rfl (by kernel_rfl) (by kernel_rfl) (by kernel_rfl) (fun _ _ _ h => h) (Or.inl ⟨by rfl, fun W hSW => by have c9 : W.cell? ⟨g, 9, none⟩ = some (.slice az ns cs) := hSW.cell rfl; go_simp; try with_reducible rfl⟩) hS0 ?_
  try simp only [Act.put, List.setIfInBounds_toArray, List.set_cons_zero, List.set_cons_succ]
  refine wpAnyL_take (i := 37) (v := _) rfl (by kernel_rfl) (by kernel_rfl) (by kernel_rfl) (fun _ _ _ h => h) (Or.inl ⟨by rfl, fun W hSW => by go_simp; try with_reducible rfl⟩) hS0 ?_
  try simp only [Act.put, List.setIfInBounds_toArray, List.set_cons_zero, List.set_cons_succ]
  refine wpAnyL_take (i := 38) (v := _) rfl (by kernel_rfl) (by kernel_rfl) (by kernel_rfl) (fun _ _ _ h => h) (Or.inl ⟨by rfl, fun W hSW => by go_simp; try with_reducible rfl⟩) hS0 ?_
  try simp only [Act.put, List.setIfInBounds_toArray, List.set_cons_zero, List.set_cons_succ]
  refine wpAnyL_take (i := 39) (v := _) rfl (by kernel_rfl) (by kernel_rfl) (by kernel_rfl) (fun _ _ _ h => h) (Or.inl ⟨by rfl, fun W hSW => by go_simp; try with_reducible rfl⟩) hS0 ?_
  try simp only [Act.put, List.setIfInBounds_toArray, List.set_cons_zero, List.set_cons_succ]
  refine wpAnyL_take (i := 40) (v := .slice none 0 0) rfl (by kernel_rfl) (by kernel_rfl) (by kernel_rfl) (fun _ _ _ h => h) (Or.inl ⟨by rfl, fun W hSW => by have c10 : W.cell? ⟨g, 10, none⟩ = some (.slice none 0 0) := hSW.cell rfl; go_simp; try with_reducible rfl⟩) hS0 ?_
  try simp only [Act.put, List.setIfInBounds_toArray, List.set_cons_zero, List.set_cons_succ]
  refine wpAnyL_take (i := 41) (v := _) rfl (by kernel_rfl) (by kernel_rfl) (by kernel_rfl) (fun _ _ _ h => h) (Or.inl ⟨by rfl, fun W hSW => by go_simp; try with_reducible rfl⟩) hS0 ?_
  try simp only [Act.put, List.setIfInBounds_toArray, List.set_cons_zero, List.set_cons_succ]
  refine wpAnyL_take (i := 42) (v := _) rfl (by kernel_rfl) (by kernel_rfl) (by kernel_rfl) (fun _ _ _ h => h) (Or.inl ⟨by rfl, fun W hSW => by go_simp; try with_reducible rfl⟩) hS0 ?_
  try simp only [Act.put, List.setIfInBounds_toArray, List.set_cons_zero, List.set_cons_succ]
  refine wpAnyL_take (i := 43) (v := _) rfl (by kernel_rfl) (by kernel_rfl) (by kernel_rfl) (fun _ _ _ h => h) (Or.inl ⟨by rfl, fun W hSW => by go_simp; try with_reducible rfl⟩) hS0 ?_
  try simp only [Act.put, List.setIfInBounds_toArray, List.set_cons_zero, List.set_cons_succ]
  refine wpAnyL_take (i := 44) (v := .slice none 0 0) rfl (by kernel_rfl) (by kernel_rfl) (by kernel_rfl) (fun _ _ _ h => h) (Or.inl ⟨by rfl, fun W hSW => by have c11 : W.cell? ⟨g, 11, none⟩ = some (.slice none 0 0) := hSW.cell rfl; go_simp; try with_reducible rfl⟩) hS0 ?_
  try simp only [Act.put, List.setIfInBounds_toArray, List.set_cons_zero, List.set_cons_succ]
  refine wpAnyL_one (i := 18) (by kernel_rfl) rfl (fun K' hK' => ?_)
  go_simp
  refine (fromID_any V.total ah ap nh ch np cp wA.drew HV.out.total.1 HV.out.total.2).mono ?_
  rintro e W1 ⟨rfl, k1⟩
  have k2 := (Kp.refl [] wA).drew.trans k1
  have K2 := Lib.hid k2
  clear k1 k2
  go_wp2_with fail
  have hS0 := (HK.out.1.trans K2.out).blk HG.out (by simp)
  refine hK'.out _ _ hS0 ?_
  clear hK' K'
  try simp only [Act.put, List.setIfInBounds_toArray, List.set_cons_zero, List.set_cons_succ]
  refine wpAnyL_take (i := 45) (v := .agg (voteV V (.slice ah nh ch) (.slice ap np cp) (.slice aa na ca) (.slice az ns cs))) rfl (by kernel_rfl) (by kernel_rfl) (by kernel_rfl) (fun _ _ _ h => h) (Or.inl ⟨by rfl, fun W hSW => by exact exec_build _ _ 35 _ rfl (voteV V (.slice ah nh ch) (.slice ap np cp) (.slice aa na ca) (.slice az ns cs)) W (by kernel_rfl)⟩) hS0 ?_
  try simp only [Act.put, List.setIfInBounds_toArray, List.set_cons_zero, List.set_cons_succ]
  refine wpAnyL_end (i := 46) (by kernel_rfl) (by kernel_rfl) (by kernel_rfl) rfl (fun K' hK' => ?_)
  refine step_store_blk rfl 35 (.tmp 2) (.tmp 51) rfl r (voteV V (.slice ah nh ch) (.slice ap np cp) (.slice aa na ca) (.slice az ns cs)) rfl rfl 35 voteZ (K2.out.blk HK.out.2.1 (by simp)) hi35 rfl (vote_one _ _ _ _ _ _ _ _ _ _ _ _ _) ?_
  intro w9 hb9 k9
  refine hK'.out _ _ (NoPanic.normal ?_)
  change (Exit.then _ _) Exit.normal ⟨#[_, _, _, _, _, _, _, _, _, _, _, _, _, _, _, _, _, _, _, _, _, _, _, _, _, _, _, _, _, _, _, _, _, _, _, _, _, _, _, _, _, _, _, _, _, _, _, _, _, _, _, _], []⟩ w9
  go_wp2_with fail
  refine bodyPost_ret (v := .agg (voteV V (.slice ah nh ch) (.slice ap np cp) (.slice aa na ca) (.slice az ns cs))) ?_ ?_ ?_
  · exact results_cell_row rfl _ _ r 35 (voteV V (.slice ah nh ch) (.slice ap np cp) (.slice aa na ca) (.slice az ns cs)) (0, 0) _ rfl hb9 Tryz.underlying35 rfl hi35
  · rfl
  exact ⟨rfl, (HK.out.1.trans K2.out).then k9 (by intro j hj hm; simp at hm; have := HK.out.2.2; omega)⟩
end Go.Proofs.YtfkaldaflnmfiaaGreatDoor
