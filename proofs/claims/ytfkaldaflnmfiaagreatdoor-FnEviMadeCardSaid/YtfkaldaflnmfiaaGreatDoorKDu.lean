/- The contract of Duplicate. Printed by gen/dupl.py. -/
import Derived.WalkKit
import Derived.WalkSpells
import Derived.WalkLawsBesides
import Derived.Handy
import Derived.Lib.Hide
import Derived.IntWalk
import Derived.Deep.DeepCutAuto
import Derived.Test.YtfkaldaflnmfiaaGreatDoorKDb
import Derived.Test.YtfkaldaflnmfiaaGreatDoorKSt
namespace Go.Proofs.YtfkaldaflnmfiaaGreatDoor
set_option linter.unusedSimpArgs false
set_option linter.unusedVariables false
open Go Go.RowKit
set_option maxRecDepth 100000
set_option maxHeartbeats 4000000 in
theorem du_tail {u0 u1 u2 u3 u4 u5 u6 u7 u9 u11 u12 u13 u14 u15 u16 u17 u18 u19 u20 u21 u22 u23 u24 u25 u26 u27 u28 u29 u30 u31 u32 u33 u34 u35 u36 u37 u38 u39 u40 u41 u42 u43 u44 u45 u46 u47 u48 u49 u50 : Value} {K : Act → World → Prop} {Q0 : Exit → Act → World → Prop} (X Y : VD) (okX : X.ok) (okY : Y.ok) (q r gx gy : Nat) (xh xp xa xs yh yp ya ys : Option Addr) (nxh cxh nxp cxp nxa cxa nxs cxs nyh cyh nyp cyp nya cya nys cys : Nat) (tot pw tm : Int) (old : Array Value) (ho : old.size = 27) (W0 : World) (hq : Blk W0 q #[.pointer (some ⟨gx, 0, none⟩), .pointer (some ⟨gy, 0, none⟩), .int .i64 tot, .int .i64 pw, .int .i64 tm] 81) (hx : Blk W0 gx (voteC X (.slice xh nxh cxh) (.slice xp nxp cxp) (.slice xa nxa cxa) (.slice xs nxs cxs)) 105) (hy : Blk W0 gy (voteC Y (.slice yh nyh cyh) (.slice yp nyp cyp) (.slice ya nya cya) (.slice ys nys cys)) 105) (hX : VoteB W0 X (.slice xh nxh cxh) (.slice xp nxp cxp) (.slice xa nxa cxa) (.slice xs nxs cxs)) (hY : VoteB W0 Y (.slice yh nyh cyh) (.slice yp nyp cyp) (.slice ya nya cya) (.slice ys nys cys)) (hr : Blk W0 r old 39)
    (hK : ∀ (v27 v28 v29 v30 v31 v32 v33 v34 v35 v36 v37 v38 v39 v40 v41 v42 v43 v44 v45 v46 v47 v48 v49 v50 : Value)  (W : World), Blk W r (eviV X Y (.slice xh nxh cxh) (.slice xp nxp cxp) (.slice xa nxa cxa) (.slice xs nxs cxs) (.slice yh nyh cyh) (.slice yp nyp cyp) (.slice ya nya cya) (.slice ys nys cys) tot pw tm) 39 → Kp [r] W0 W → K ⟨#[u0, u1, u2, u3, u4, u5, u6, u7, .pointer (some ⟨r, 0, none⟩), .bool true, .pointer (some ⟨q, 0, none⟩), u11, u12, u13, u14, u15, u16, u17, u18, u19, u20, u21, u22, u23, u24, u25, u26, v27, v28, v29, v30, v31, v32, v33, v34, v35, v36, v37, v38, v39, v40, v41, v42, v43, v44, v45, v46, v47, v48, v49, v50], []⟩ W) :
    Code.wp Tryz.prog (codeAt Tryz.f12 [1, 1, 1, 0]) (Exit.then K Q0) ⟨#[u0, u1, u2, u3, u4, u5, u6, u7, .pointer (some ⟨r, 0, none⟩), u9, .pointer (some ⟨q, 0, none⟩), u11, u12, u13, u14, u15, u16, u17, u18, u19, u20, u21, u22, u23, u24, u25, u26, u27, u28, u29, u30, u31, u32, u33, u34, u35, u36, u37, u38, u39, u40, u41, u42, u43, u44, u45, u46, u47, u48, u49, u50], []⟩ W0 := by
  have hqr : q ≠ r := hq.ne hr (by decide)
  have HS := Lib.hid (fun (W : World) (k : Kp [r] W0 W) => k.blk hq (by simpa using hqr))
  have HK := Lib.hid hK
  have H := Lib.hid (And.intro hx (And.intro hy (And.intro hX (And.intro hY (And.intro hr (And.intro okX (And.intro okY ho)))))))
  have hS0 : (fun W => Blk W q #[.pointer (some ⟨gx, 0, none⟩), .pointer (some ⟨gy, 0, none⟩), .int .i64 tot, .int .i64 pw, .int .i64 tm] 81) W0.drew := HS.out _ ((Kp.refl [r] W0).drew)
  clear hq hx hy hX hY hr hK hqr okX okY
  conv => arg 2; whnf
  refine wp_region_noPanic ?_
  refine wp_region_last (fun W => Blk W q #[.pointer (some ⟨gx, 0, none⟩), .pointer (some ⟨gy, 0, none⟩), .int .i64 tot, .int .i64 pw, .int .i64 tm] 81) (by kernel_rfl) ?_
  refine wpAnyL_take (i := 0) (v := _) rfl (by kernel_rfl) (by kernel_rfl) (by kernel_rfl) (fun _ _ _ h => h) (Or.inl ⟨by rfl, fun W hSW => by go_simp; try with_reducible rfl⟩) hS0 ?_
  try simp only [Act.put, List.setIfInBounds_toArray, List.set_cons_zero, List.set_cons_succ]
  refine wpAnyL_take (i := 1) (v := _) rfl (by kernel_rfl) (by kernel_rfl) (by kernel_rfl) (fun _ _ _ h => h) (Or.inl ⟨by rfl, fun W hSW => by go_simp; try with_reducible rfl⟩) hS0 ?_
  try simp only [Act.put, List.setIfInBounds_toArray, List.set_cons_zero, List.set_cons_succ]
  refine wpAnyL_take (i := 2) (v := _) rfl (by kernel_rfl) (by kernel_rfl) (by kernel_rfl) (fun _ _ _ h => h) (Or.inl ⟨by rfl, fun W hSW => by go_simp; try with_reducible rfl⟩) hS0 ?_
  try simp only [Act.put, List.setIfInBounds_toArray, List.set_cons_zero, List.set_cons_succ]
  refine wpAnyL_take (i := 3) (v := .pointer (some ⟨gx, 0, none⟩)) rfl (by kernel_rfl) (by kernel_rfl) (by kernel_rfl) (fun _ _ _ h => h) (Or.inl ⟨by rfl, fun W hSW => by have c0 : W.cell? ⟨q, 0, none⟩ = some (.pointer (some ⟨gx, 0, none⟩)) := hSW.cell rfl; go_simp; try with_reducible rfl⟩) hS0 ?_
  try simp only [Act.put, List.setIfInBounds_toArray, List.set_cons_zero, List.set_cons_succ]
  refine wpAnyL_take (i := 5) (v := _) rfl (by kernel_rfl) (by kernel_rfl) (by kernel_rfl) (fun _ _ _ h => h) (Or.inl ⟨by rfl, fun W hSW => by go_simp; try with_reducible rfl⟩) hS0 ?_
  try simp only [Act.put, List.setIfInBounds_toArray, List.set_cons_zero, List.set_cons_succ]
  refine wpAnyL_take (i := 6) (v := _) rfl (by kernel_rfl) (by kernel_rfl) (by kernel_rfl) (fun _ _ _ h => h) (Or.inl ⟨by rfl, fun W hSW => by go_simp; try with_reducible rfl⟩) hS0 ?_
  try simp only [Act.put, List.setIfInBounds_toArray, List.set_cons_zero, List.set_cons_succ]
  refine wpAnyL_take (i := 7) (v := _) rfl (by kernel_rfl) (by kernel_rfl) (by kernel_rfl) (fun _ _ _ h => h) (Or.inl ⟨by rfl, fun W hSW => by go_simp; try with_reducible rfl⟩) hS0 ?_
  try simp only [Act.put, List.setIfInBounds_toArray, List.set_cons_zero, List.set_cons_succ]
  refine wpAnyL_take (i := 8) (v := .pointer (some ⟨gy, 0, none⟩)) rfl (by kernel_rfl) (by kernel_rfl) (by kernel_rfl) (fun _ _ _ h => h) (Or.inl ⟨by rfl, fun W hSW => by have c0 : W.cell? ⟨q, 1, none⟩ = some (.pointer (some ⟨gy, 0, none⟩)) := hSW.cell rfl; go_simp; try with_reducible rfl⟩) hS0 ?_
  try simp only [Act.put, List.setIfInBounds_toArray, List.set_cons_zero, List.set_cons_succ]
  refine wpAnyL_take (i := 10) (v := _) rfl (by kernel_rfl) (by kernel_rfl) (by kernel_rfl) (fun _ _ _ h => h) (Or.inl ⟨by rfl, fun W hSW => by go_simp; try with_reducible rfl⟩) hS0 ?_
  try simp only [Act.put, List.setIfInBounds_toArray, List.set_cons_zero, List.set_cons_succ]
  refine wpAnyL_take (i := 11) (v := _) rfl (by kernel_rfl) (by kernel_rfl) (by kernel_rfl) (fun _ _ _ h => h) (Or.inl ⟨by rfl, fun W hSW => by go_simp; try with_reducible rfl⟩) hS0 ?_
  try simp only [Act.put, List.setIfInBounds_toArray, List.set_cons_zero, List.set_cons_succ]
  refine wpAnyL_take (i := 12) (v := _) rfl (by kernel_rfl) (by kernel_rfl) (by kernel_rfl) (fun _ _ _ h => h) (Or.inl ⟨by rfl, fun W hSW => by go_simp; try with_reducible rfl⟩) hS0 ?_
  try simp only [Act.put, List.setIfInBounds_toArray, List.set_cons_zero, List.set_cons_succ]
  refine wpAnyL_take (i := 13) (v := .int .i64 tot) rfl (by kernel_rfl) (by kernel_rfl) (by kernel_rfl) (fun _ _ _ h => h) (Or.inl ⟨by rfl, fun W hSW => by have c0 : W.cell? ⟨q, 2, none⟩ = some (.int .i64 tot) := hSW.cell rfl; go_simp; try with_reducible rfl⟩) hS0 ?_
  try simp only [Act.put, List.setIfInBounds_toArray, List.set_cons_zero, List.set_cons_succ]
  refine wpAnyL_take (i := 14) (v := _) rfl (by kernel_rfl) (by kernel_rfl) (by kernel_rfl) (fun _ _ _ h => h) (Or.inl ⟨by rfl, fun W hSW => by go_simp; try with_reducible rfl⟩) hS0 ?_
  try simp only [Act.put, List.setIfInBounds_toArray, List.set_cons_zero, List.set_cons_succ]
  refine wpAnyL_take (i := 15) (v := _) rfl (by kernel_rfl) (by kernel_rfl) (by kernel_rfl) (fun _ _ _ h => h) (Or.inl ⟨by rfl, fun W hSW => by go_simp; try with_reducible rfl⟩) hS0 ?_
  try simp only [Act.put, List.setIfInBounds_toArray, List.set_cons_zero, List.set_cons_succ]
  refine wpAnyL_take (i := 16) (v := _) rfl (by kernel_rfl) (by kernel_rfl) (by kernel_rfl) (fun _ _ _ h => h) (Or.inl ⟨by rfl, fun W hSW => by go_simp; try with_reducible rfl⟩) hS0 ?_
  try simp only [Act.put, List.setIfInBounds_toArray, List.set_cons_zero, List.set_cons_succ]
  refine wpAnyL_take (i := 17) (v := .int .i64 pw) rfl (by kernel_rfl) (by kernel_rfl) (by kernel_rfl) (fun _ _ _ h => h) (Or.inl ⟨by rfl, fun W hSW => by have c0 : W.cell? ⟨q, 3, none⟩ = some (.int .i64 pw) := hSW.cell rfl; go_simp; try with_reducible rfl⟩) hS0 ?_
  try simp only [Act.put, List.setIfInBounds_toArray, List.set_cons_zero, List.set_cons_succ]
  refine wpAnyL_take (i := 18) (v := _) rfl (by kernel_rfl) (by kernel_rfl) (by kernel_rfl) (fun _ _ _ h => h) (Or.inl ⟨by rfl, fun W hSW => by go_simp; try with_reducible rfl⟩) hS0 ?_
  try simp only [Act.put, List.setIfInBounds_toArray, List.set_cons_zero, List.set_cons_succ]
  refine wpAnyL_take (i := 19) (v := _) rfl (by kernel_rfl) (by kernel_rfl) (by kernel_rfl) (fun _ _ _ h => h) (Or.inl ⟨by rfl, fun W hSW => by go_simp; try with_reducible rfl⟩) hS0 ?_
  try simp only [Act.put, List.setIfInBounds_toArray, List.set_cons_zero, List.set_cons_succ]
  refine wpAnyL_take (i := 20) (v := _) rfl (by kernel_rfl) (by kernel_rfl) (by kernel_rfl) (fun _ _ _ h => h) (Or.inl ⟨by rfl, fun W hSW => by go_simp; try with_reducible rfl⟩) hS0 ?_
  try simp only [Act.put, List.setIfInBounds_toArray, List.set_cons_zero, List.set_cons_succ]
  refine wpAnyL_take (i := 21) (v := _) rfl (by kernel_rfl) (by kernel_rfl) (by kernel_rfl) (fun _ _ _ h => h) (Or.inl ⟨by rfl, fun W hSW => by go_simp; try with_reducible rfl⟩) hS0 ?_
  try simp only [Act.put, List.setIfInBounds_toArray, List.set_cons_zero, List.set_cons_succ]
  refine wpAnyL_take (i := 22) (v := .int .i64 tm) rfl (by kernel_rfl) (by kernel_rfl) (by kernel_rfl) (fun _ _ _ h => h) (Or.inl ⟨by rfl, fun W hSW => by have c0 : W.cell? ⟨q, 4, none⟩ = some (.int .i64 tm) := hSW.cell rfl; go_simp; try with_reducible rfl⟩) hS0 ?_
  try simp only [Act.put, List.setIfInBounds_toArray, List.set_cons_zero, List.set_cons_succ]
  refine wpAnyL_one (i := 4) (by kernel_rfl) rfl (fun K' hK' => ?_)
  go_simp
  refine (fromVote_any X H.out.2.2.2.2.2.1 gx (.slice xh nxh cxh) (.slice xp nxp cxp) (.slice xa nxa cxa) (.slice xs nxs cxs) W0.drew (((Kp.refl [] W0).drew).blk H.out.1 (by simp)) (H.out.2.2.1.kp ((Kp.refl [] W0).drew))).mono ?_
  rintro e W1 ⟨rfl, hk0⟩
  have K1 := Lib.hid (((Kp.refl [] W0).drew).trans hk0)
  clear hk0
  go_wp2_with fail
  have hS0 := HS.out _ (K1.out.mono (S' := [r]) (by simp))
  refine hK'.out _ _ hS0 ?_
  clear hK' K'
  try simp only [Act.put, List.setIfInBounds_toArray, List.set_cons_zero, List.set_cons_succ]
  refine wpAnyL_one (i := 9) (by kernel_rfl) rfl (fun K' hK' => ?_)
  go_simp
  refine (fromVote_any Y H.out.2.2.2.2.2.2.1 gy (.slice yh nyh cyh) (.slice yp nyp cyp) (.slice ya nya cya) (.slice ys nys cys) W1 ((K1.out).blk H.out.2.1 (by simp)) (H.out.2.2.2.1.kp (K1.out))).mono ?_
  rintro e W2 ⟨rfl, hk0⟩
  have K2 := Lib.hid ((K1.out).trans hk0)
  clear hk0
  go_wp2_with fail
  have hS0 := HS.out _ (K2.out.mono (S' := [r]) (by simp))
  refine hK'.out _ _ hS0 ?_
  clear hK' K'
  try simp only [Act.put, List.setIfInBounds_toArray, List.set_cons_zero, List.set_cons_succ]
  refine wpAnyL_take (i := 23) (v := .agg (eviV X Y (.slice xh nxh cxh) (.slice xp nxp cxp) (.slice xa nxa cxa) (.slice xs nxs cxs) (.slice yh nyh cyh) (.slice yp nyp cyp) (.slice ya nya cya) (.slice ys nys cys) tot pw tm)) rfl (by kernel_rfl) (by kernel_rfl) (by kernel_rfl) (fun _ _ _ h => h) (Or.inl ⟨by rfl, fun W hSW => by exact exec_build _ _ 39 _ rfl (eviV X Y (.slice xh nxh cxh) (.slice xp nxp cxp) (.slice xa nxa cxa) (.slice xs nxs cxs) (.slice yh nyh cyh) (.slice yp nyp cyp) (.slice ya nya cya) (.slice ys nys cys) tot pw tm) W (by kernel_rfl)⟩) hS0 ?_
  try simp only [Act.put, List.setIfInBounds_toArray, List.set_cons_zero, List.set_cons_succ]
  refine wpAnyL_one (i := 24) (by kernel_rfl) rfl (fun K' hK' => ?_)
  refine step_store_blk rfl 39 (.tmp 8) (.tmp 50) rfl r (eviV X Y (.slice xh nxh cxh) (.slice xp nxp cxp) (.slice xa nxa cxa) (.slice xs nxs cxs) (.slice yh nyh cyh) (.slice yp nyp cyp) (.slice ya nya cya) (.slice ys nys cys) tot pw tm) rfl rfl 39 old (K2.out.blk H.out.2.2.2.2.1 (by simp)) hi39 H.out.2.2.2.2.2.2.2 (evi_one _ _ _ _ _ _ _ _ _ _ _ _ _ _ _ _ _ _ _ _ _ _ _ _ _ _ _ _ _) ?_
  intro W3 hb3 k3
  have K3 := Lib.hid (And.intro hb3 ((K2.out.mono (S' := [r]) (by simp)).trans k3))
  clear hb3 k3
  have hS0 := HS.out _ K3.out.2
  refine hK'.out _ _ hS0 ?_
  clear hK' K'
  try simp only [Act.put, List.setIfInBounds_toArray, List.set_cons_zero, List.set_cons_succ]
  refine wpAnyL_take (i := 25) (v := _) rfl (by kernel_rfl) (by kernel_rfl) (by kernel_rfl) (fun _ _ _ h => h) (Or.inl ⟨by rfl, fun W hSW => by go_simp; try with_reducible rfl⟩) hS0 ?_
  try simp only [Act.put, List.setIfInBounds_toArray, List.set_cons_zero, List.set_cons_succ]
  refine ⟨by kernel_rfl, NoPanic.normal ?_⟩
  exact HK.out _ _ _ _ _ _ _ _ _ _ _ _ _ _ _ _ _ _ _ _ _ _ _ _ _ K3.out.1 K3.out.2

/-- X, Y are A, B in the order of their blocks. -/
def Turned (A B X Y : VD) : Prop := (X = A ∧ Y = B ∧ cmpB (keyV A) (keyV B) = -1) ∨ (X = B ∧ Y = A ∧ cmpB (keyV A) (keyV B) ≠ -1)
/-- What Duplicate answers. -/
def DupR (kt : Nat → Int) (L : List (List Int × Int)) (A B : VD) (tm : Int) (w : World) (e : Ending) (w' : World) : Prop :=
  ((∃ V X Y xh xp xa xs yh yp ya ys, V ∈ L ∧ addr kt V.1 = A.addr ∧ Turned A B X Y ∧ VoteB w' X xh xp xa xs ∧ VoteB w' Y yh yp ya ys ∧ e = .returned (.tuple #[.agg (eviV X Y xh xp xa xs yh yp ya ys (L.map Prod.snd).sum V.2 tm), .bool true])) ∨ ((∀ V ∈ L, addr kt V.1 ≠ A.addr) ∧ e = .returned (.tuple #[.agg eviZ, .bool false]))) ∧ Kp [] w w'
theorem made2_pair {kt : Nat → Int} {Q : List Vl} {A B : VD} {ga gb s : Nat} {tm : Int} {w w' : World} {e : Ending} (h : Made2 kt Q A B ga gb s tm w e w') : ∃ v1 v2, e = .returned (.tuple #[v1, v2]) ∧ Kp [s] w w' ∧ ((∃ V q, V ∈ Q ∧ addr kt V.key = A.addr ∧ v1 = .pointer (some ⟨q, 0, none⟩) ∧ v2 = .nilIface ∧ Blk w' q #[.pointer (some ⟨if cmpB (keyV A) (keyV B) = -1 then ga else gb, 0, none⟩), .pointer (some ⟨if cmpB (keyV A) (keyV B) = -1 then gb else ga, 0, none⟩), .int .i64 (sumP Q), .int .i64 V.pow, .int .i64 tm] 81) ∨ ((∀ V ∈ Q, addr kt V.key ≠ A.addr) ∧ v1 = .pointer none ∧ ∃ t v, v2 = .iface t v)) := by
  obtain ⟨⟨V, q, h1, h2, rfl, h3⟩ | ⟨h1, t, v, rfl⟩, k⟩ := h
  · exact ⟨_, _, rfl, k, .inl ⟨V, q, h1, h2, rfl, rfl, h3⟩⟩
  · exact ⟨_, _, rfl, k, .inr ⟨h1, rfl, t, v, rfl⟩⟩
theorem sumP_kp2 (Q : List Vl) : sumP Q = ((Q.map Vl.kp2).map Prod.snd).sum := by
  unfold sumP
  rw [List.map_map]
  rfl
set_option maxHeartbeats 8000000 in
theorem dupl_any (kt : Nat → Int) (A B : VD) (okA : A.ok) (okB : B.ok) (vah vap vaa vas vbh vbp vba vbs : Value) (tm pi : Int) (v : Value) (n : Nat) (Ls : List Sea) (w : World) (hA : VoteB w A vah vap vaa vas) (hB : VoteB w B vbh vbp vba vbs)
    (hL : SeaR w v Ls) (hn : n = Ls.length) (hn0 : 0 < n) (hn1 : n ≤ 100) (hp : ∀ S ∈ Ls, 1 ≤ S.pow ∧ S.pow ≤ 1000) (hpi : -1 ≤ pi ∧ pi < n) (hT : Tab kt w) :
    Calls Tryz.prog 12 #[.agg (voteV A vah vap vaa vas), .agg (voteV B vbh vbp vba vbs), .int .i64 tm, .agg #[v, .int .i64 pi]] w (DupR kt (Ls.map Sea.kp2) A B tm w) := by
  obtain ⟨ah, nah, cah, rfl⟩ := hA.hash.form
  obtain ⟨ap, nap, cap, rfl⟩ := hA.parts.form
  obtain ⟨aa, naa, caa, rfl⟩ := hA.addr.form
  obtain ⟨as_, nas, cas, rfl⟩ := hA.sig.form
  obtain ⟨bh, nbh, cbh, rfl⟩ := hB.hash.form
  obtain ⟨bp, nbp, cbp, rfl⟩ := hB.parts.form
  obtain ⟨ba, nba, cba, rfl⟩ := hB.addr.form
  obtain ⟨bs, nbs, cbs, rfl⟩ := hB.sig.form
  have H := Lib.hid (And.intro okA (And.intro okB (And.intro hA (And.intro hB (And.intro hL (And.intro hn (And.intro hn0 (And.intro hn1 (And.intro hp (And.intro hpi hT))))))))))
  clear okA okB hA hB hL hn hn0 hn1 hp hpi hT
  go_enter Tryz.func12, Tryz.ntmps12
  go_wp2_with fail
  have hpa := (((Blk.new w (voteV A (.slice ah nah cah) (.slice ap nap cap) (.slice aa naa caa) (.slice as_ nas cas)) 35).alloc (.cells (voteV B (.slice bh nbh cbh) (.slice bp nbp cbp) (.slice ba nba cba) (.slice bs nbs cbs)) 35)).alloc (.cells #[v, .int .i64 pi] 27)).alloc (.cells eviZ 39)
  have hpb := ((Blk.new (w.alloc (.cells (voteV A (.slice ah nah cah) (.slice ap nap cap) (.slice aa naa caa) (.slice as_ nas cas)) 35)) (voteV B (.slice bh nbh cbh) (.slice bp nbp cbp) (.slice ba nba cba) (.slice bs nbs cbs)) 35).alloc (.cells #[v, .int .i64 pi] 27)).alloc (.cells eviZ 39)
  have hps := (Blk.new ((w.alloc (.cells (voteV A (.slice ah nah cah) (.slice ap nap cap) (.slice aa naa caa) (.slice as_ nas cas)) 35)).alloc (.cells (voteV B (.slice bh nbh cbh) (.slice bp nbp cbp) (.slice ba nba cba) (.slice bs nbs cbs)) 35)) #[v, .int .i64 pi] 27).alloc (.cells eviZ 39)
  have hpr := Blk.new (((w.alloc (.cells (voteV A (.slice ah nah cah) (.slice ap nap cap) (.slice aa naa caa) (.slice as_ nas cas)) 35)).alloc (.cells (voteV B (.slice bh nbh cbh) (.slice bp nbp cbp) (.slice ba nba cba) (.slice bs nbs cbs)) 35)).alloc (.cells #[v, .int .i64 pi] 27)) eviZ 39
  have k0 := ((((Kp.refl [] w).alloc (.cells (voteV A (.slice ah nah cah) (.slice ap nap cap) (.slice aa naa caa) (.slice as_ nas cas)) 35)).alloc (.cells (voteV B (.slice bh nbh cbh) (.slice bp nbp cbp) (.slice ba nba cba) (.slice bs nbs cbs)) 35)).alloc (.cells #[v, .int .i64 pi] 27)).alloc (.cells eviZ 39)
  rw [show (w.alloc (.cells (voteV A (.slice ah nah cah) (.slice ap nap cap) (.slice aa naa caa) (.slice as_ nas cas)) 35)).heap.size = w.heap.size + 1 by simp] at hpb
  rw [show ((w.alloc (.cells (voteV A (.slice ah nah cah) (.slice ap nap cap) (.slice aa naa caa) (.slice as_ nas cas)) 35)).alloc (.cells (voteV B (.slice bh nbh cbh) (.slice bp nbp cbp) (.slice ba nba cba) (.slice bs nbs cbs)) 35)).heap.size = w.heap.size + 1 + 1 by simp] at hps
  rw [show (((w.alloc (.cells (voteV A (.slice ah nah cah) (.slice ap nap cap) (.slice aa naa caa) (.slice as_ nas cas)) 35)).alloc (.cells (voteV B (.slice bh nbh cbh) (.slice bp nbp cbp) (.slice ba nba cba) (.slice bs nbs cbs)) 35)).alloc (.cells #[v, .int .i64 pi] 27)).heap.size = w.heap.size + 1 + 1 + 1 by simp] at hpr
  unfold eviZ at hpa hpb hps hpr k0
  generalize (((w.alloc (.cells (voteV A (.slice ah nah cah) (.slice ap nap cap) (.slice aa naa caa) (.slice as_ nas cas)) 35)).alloc (.cells (voteV B (.slice bh nbh cbh) (.slice bp nbp cbp) (.slice ba nba cba) (.slice bs nbs cbs)) 35)).alloc (.cells #[v, .int .i64 pi] 27)).alloc (.cells #[.int .i64 0, .int .i64 0, .int .i64 0, .slice none 0 0, .int .i64 0, .slice none 0 0, .int .i64 0, .slice none 0 0, .int .i64 0, .slice none 0 0, .slice none 0 0, .slice none 0 0, .int .i64 0, .int .i64 0, .int .i64 0, .slice none 0 0, .int .i64 0, .slice none 0 0, .int .i64 0, .slice none 0 0, .int .i64 0, .slice none 0 0, .slice none 0 0, .slice none 0 0, .int .i64 0, .int .i64 0, .int .i64 0] 39) = wA at *
  obtain ⟨p, ep⟩ : ∃ p, p = w.heap.size := ⟨_, rfl⟩
  rw [← ep] at hpa hpb hps hpr ⊢
  have HS := Lib.hid (fun (W : World) (k : Kp [] wA W) => And.intro (k.blk hpa (by simp)) (And.intro (k.blk hpb (by simp)) (k.blk hps (by simp))))
  have H0 := Lib.hid (And.intro k0 (And.intro hpr ep))
  have hS0 : (fun W => Blk W p (voteV A (.slice ah nah cah) (.slice ap nap cap) (.slice aa naa caa) (.slice as_ nas cas)) 35 ∧ Blk W (p + 1) (voteV B (.slice bh nbh cbh) (.slice bp nbp cbp) (.slice ba nba cba) (.slice bs nbs cbs)) 35 ∧ Blk W (p + 1 + 1) #[v, .int .i64 pi] 27) wA.drew := HS.out _ ((Kp.refl [] wA).drew)
  clear hpa hpb hps hpr k0 ep
  refine wp_region_noPanic ?_
  refine wp_region_last (fun W => Blk W p (voteV A (.slice ah nah cah) (.slice ap nap cap) (.slice aa naa caa) (.slice as_ nas cas)) 35 ∧ Blk W (p + 1) (voteV B (.slice bh nbh cbh) (.slice bp nbp cbp) (.slice ba nba cba) (.slice bs nbs cbs)) 35 ∧ Blk W (p + 1 + 1) #[v, .int .i64 pi] 27) (by kernel_rfl) ?_
  refine wpAnyL_take (i := 0) (v := .agg (voteV A (.slice ah nah cah) (.slice ap nap cap) (.slice aa naa caa) (.slice as_ nas cas))) rfl (by kernel_rfl) (by kernel_rfl) (by kernel_rfl) (fun _ _ _ h => h) (Or.inl ⟨by rfl, fun W hSW => by exact exec_load _ _ 35 (.tmp 4) rfl p rfl (voteV A (.slice ah nah cah) (.slice ap nap cap) (.slice aa naa caa) (.slice as_ nas cas)) 35 _ W hSW.1 Tryz.underlying35 rfl hi35⟩) hS0 ?_
  try simp only [Act.put, List.setIfInBounds_toArray, List.set_cons_zero, List.set_cons_succ]
  refine wpAnyL_take (i := 2) (v := .agg (voteV B (.slice bh nbh cbh) (.slice bp nbp cbp) (.slice ba nba cba) (.slice bs nbs cbs))) rfl (by kernel_rfl) (by kernel_rfl) (by kernel_rfl) (fun _ _ _ h => h) (Or.inl ⟨by rfl, fun W hSW => by exact exec_load _ _ 35 (.tmp 5) rfl (p + 1) rfl (voteV B (.slice bh nbh cbh) (.slice bp nbp cbp) (.slice ba nba cba) (.slice bs nbs cbs)) 35 _ W hSW.2.1 Tryz.underlying35 rfl hi35⟩) hS0 ?_
  try simp only [Act.put, List.setIfInBounds_toArray, List.set_cons_zero, List.set_cons_succ]
  refine wpAnyL_take (i := 4) (v := _) rfl (by kernel_rfl) (by kernel_rfl) (by kernel_rfl) (fun _ _ _ h => h) (Or.inl ⟨by rfl, fun W hSW => by go_simp; try with_reducible rfl⟩) hS0 ?_
  try simp only [Act.put, List.setIfInBounds_toArray, List.set_cons_zero, List.set_cons_succ]
  refine wpAnyL_take (i := 5) (v := .agg #[.int .i64 tm]) rfl (by kernel_rfl) (by kernel_rfl) (by kernel_rfl) (fun _ _ _ h => h) (Or.inl ⟨by rfl, fun W hSW => by exact exec_build _ _ 78 _ rfl #[.int .i64 tm] W (by kernel_rfl)⟩) hS0 ?_
  try simp only [Act.put, List.setIfInBounds_toArray, List.set_cons_zero, List.set_cons_succ]
  refine wpAnyL_take (i := 6) (v := .agg #[v, .int .i64 pi]) rfl (by kernel_rfl) (by kernel_rfl) (by kernel_rfl) (fun _ _ _ h => h) (Or.inl ⟨by rfl, fun W hSW => by exact exec_load _ _ 27 (.tmp 7) rfl (p + 1 + 1) rfl #[v, .int .i64 pi] 27 _ W hSW.2.2 Tryz.underlying27 rfl hi27⟩) hS0 ?_
  try simp only [Act.put, List.setIfInBounds_toArray, List.set_cons_zero, List.set_cons_succ]
  refine wpAnyL_one (i := 1) (by kernel_rfl) rfl (fun K' hK' => ?_)
  go_simp
  refine (toVote_any A H.out.1 (.slice ah nah cah) (.slice ap nap cap) (.slice aa naa caa) (.slice as_ nas cas) wA.drew (H.out.2.2.1.kp (H0.out.1.trans (Kp.refl [] wA).drew))).mono ?_
  rintro e W1 ⟨ga, rfl, hg0, hb0, hk0⟩
  have K1 := Lib.hid (And.intro (((Kp.refl [] wA).drew).trans hk0) hb0)
  clear hg0 hb0 hk0
  go_wp2_with fail
  have hS0 := HS.out _ K1.out.1
  refine hK'.out _ _ hS0 ?_
  clear hK' K'
  try simp only [Act.put, List.setIfInBounds_toArray, List.set_cons_zero, List.set_cons_succ]
  refine wpAnyL_one (i := 3) (by kernel_rfl) rfl (fun K' hK' => ?_)
  go_simp
  refine (toVote_any B H.out.2.1 (.slice bh nbh cbh) (.slice bp nbp cbp) (.slice ba nba cba) (.slice bs nbs cbs) W1 (H.out.2.2.2.1.kp (H0.out.1.trans K1.out.1))).mono ?_
  rintro e W2 ⟨gb, rfl, hg0, hb0, hk0⟩
  have K2 := Lib.hid (And.intro ((K1.out.1).trans hk0) (And.intro (hk0.blk K1.out.2 (by simp)) hb0))
  clear hg0 hb0 hk0
  go_wp2_with fail
  have hS0 := HS.out _ K2.out.1
  refine hK'.out _ _ hS0 ?_
  clear hK' K'
  try simp only [Act.put, List.setIfInBounds_toArray, List.set_cons_zero, List.set_cons_succ]
  refine wpAnyL_one (i := 7) (by kernel_rfl) rfl (fun K' hK' => ?_)
  go_simp
  refine (toSet_any kt v pi n Ls W2 (H.out.2.2.2.2.1.kp (H0.out.1.trans K2.out.1)) H.out.2.2.2.2.2.1 H.out.2.2.2.2.2.2.1 H.out.2.2.2.2.2.2.2.1 (H.out.2.2.2.2.2.2.2.2.2.2.kp (H0.out.1.trans K2.out.1)) H.out.2.2.2.2.2.2.2.2.2.1).mono ?_
  rintro e W3 ⟨s, b2, Q, pr, pp, rfl, hset, hkp, hsn, hk0⟩
  have K3 := Lib.hid (And.intro (K2.out.1.trans hk0) (And.intro (hk0.blk K2.out.2.1 (by simp)) (And.intro (hk0.blk K2.out.2.2 (by simp)) (And.intro hset (And.intro hkp (Nat.le_trans K2.out.1.size hsn))))))
  clear hset hkp hsn hk0
  go_wp2_with fail
  have hS0 := HS.out _ K3.out.1
  refine hK'.out _ _ hS0 ?_
  clear hK' K'
  try simp only [Act.put, List.setIfInBounds_toArray, List.set_cons_zero, List.set_cons_succ]
  refine wpAnyL_one (i := 8) (by kernel_rfl) rfl (fun K' hK' => ?_)
  go_simp
  refine (newDup_any kt pr s b2 n pp Q ga gb A B H.out.1 H.out.2.1 (.slice ah nah cah) (.slice ap nap cap) (.slice aa naa caa) (.slice as_ nas cas) (.slice bh nbh cbh) (.slice bp nbp cbp) (.slice ba nba cba) (.slice bs nbs cbs) tm W3 K3.out.2.2.2.1 (by have := H.out.2.2.2.2.2.2.2.1; omega) (pows_kp2 K3.out.2.2.2.2.1 H.out.2.2.2.2.2.2.2.2.1) K3.out.2.1 K3.out.2.2.1 (H.out.2.2.1.kp (H0.out.1.trans K3.out.1)) (H.out.2.2.2.1.kp (H0.out.1.trans K3.out.1))).mono ?_
  intro e W4 hm
  obtain ⟨v1, v2, rfl, hk0, hm⟩ := made2_pair hm
  have hgas : ga ≠ s := K3.out.2.1.ne K3.out.2.2.2.1.set (by decide)
  have hgbs : gb ≠ s := K3.out.2.2.1.ne K3.out.2.2.2.1.set (by decide)
  have K4 := Lib.hid (And.intro (K3.out.1.then hk0 (by intro j hj hm; simp at hm; have := K3.out.2.2.2.2.2; omega)) (And.intro (hk0.blk K3.out.2.1 (by simpa using hgas)) (And.intro (hk0.blk K3.out.2.2.1 (by simpa using hgbs)) hm)))
  clear hm hk0 hgas hgbs
  go_wp2_with fail
  have hS0 := HS.out _ K4.out.1
  refine hK'.out _ _ hS0 ?_
  clear hK' K'
  try simp only [Act.put, List.setIfInBounds_toArray, List.set_cons_zero, List.set_cons_succ]
  refine wpAnyL_take (i := 9) (v := _) rfl (by kernel_rfl) (by kernel_rfl) (by kernel_rfl) (fun _ _ _ h => h) (Or.inl ⟨by rfl, fun W hSW => by go_simp; try with_reducible rfl⟩) hS0 ?_
  try simp only [Act.put, List.setIfInBounds_toArray, List.set_cons_zero, List.set_cons_succ]
  refine wpAnyL_take (i := 10) (v := v1) rfl (by kernel_rfl) (by kernel_rfl) (by kernel_rfl) (fun _ _ _ h => h) (Or.inl ⟨by rfl, fun W hSW => by go_simp; try with_reducible rfl⟩) hS0 ?_
  try simp only [Act.put, List.setIfInBounds_toArray, List.set_cons_zero, List.set_cons_succ]
  refine wpAnyL_take (i := 11) (v := v2) rfl (by kernel_rfl) (by kernel_rfl) (by kernel_rfl) (fun _ _ _ h => h) (Or.inl ⟨by rfl, fun W hSW => by go_simp; try with_reducible rfl⟩) hS0 ?_
  try simp only [Act.put, List.setIfInBounds_toArray, List.set_cons_zero, List.set_cons_succ]
  refine wpAnyL_take (i := 12) (v := _) rfl (by kernel_rfl) (by kernel_rfl) (by kernel_rfl) (fun _ _ _ h => h) (Or.inl ⟨by rfl, fun W hSW => by go_simp; try with_reducible rfl⟩) hS0 ?_
  try simp only [Act.put, List.setIfInBounds_toArray, List.set_cons_zero, List.set_cons_succ]
  refine wpAnyL_take (i := 13) (v := _) rfl (by kernel_rfl) (by kernel_rfl) (by kernel_rfl) (fun _ _ _ h => h) (Or.inl ⟨by rfl, fun W hSW => by go_simp; try with_reducible rfl⟩) hS0 ?_
  try simp only [Act.put, List.setIfInBounds_toArray, List.set_cons_zero, List.set_cons_succ]
  refine ⟨by kernel_rfl, NoPanic.normal ?_⟩
  change (Exit.then _ _) Exit.normal ⟨#[_, _, _, _, _, _, _, _, _, _, _, _, _, _, _, _, _, _, _, _, _, _, _, _, _, _, _, _, _, _, _, _, _, _, _, _, _, _, _, _, _, _, _, _, _, _, _, _, _, _, _], []⟩ W4
  clear HS hS0
  have HR := Lib.hid (K4.out.1.blk H0.out.2.1 (by simp))
  have hkw := H0.out.1.trans K4.out.1
  have HKW := Lib.hid hkw
  clear hkw
  have hsum : sumP Q = ((Ls.map Sea.kp2).map Prod.snd).sum := by rw [sumP_kp2, K3.out.2.2.2.2.1]
  have HSUM := Lib.hid hsum
  clear hsum
  rcases K4.out.2.2.2 with ⟨V, q, hV, hVa, rfl, rfl, hq⟩ | ⟨hno, rfl, t, vv, rfl⟩
  case inr =>
    have HN := Lib.hid hno
    clear hno
    go_wp2_with (first
      | (refine kit_build rfl 39 #[] rfl _ rfl eviZ (by kernel_rfl) ?_)
      | (refine kit_store_blk rfl 39 (.tmp 8) (.tmp 26) rfl (p + 1 + 1 + 1) eviZ rfl rfl 39 eviZ HR.out hi39 rfl (by kernel_rfl) ?_
         intro W5 hb5 k5
         have H5 := Lib.hid (And.intro hb5 k5)
         clear hb5 k5))
    refine bodyPost_ret (v := .tuple #[.agg eviZ, .bool false]) ?_ ?_ ?_
    · exact results_row_tmp rfl _ _ (p + 1 + 1 + 1) 39 eviZ (0, 0) _ _ rfl rfl H5.out.1 Tryz.underlying39 rfl hi39
    · rfl
    refine ⟨.inr ⟨?_, rfl⟩, HKW.out.then H5.out.2 (by intro j hj hm; simp at hm; have := H0.out.2.2; omega)⟩
    intro U hU
    rw [← K3.out.2.2.2.2.1] at hU
    obtain ⟨V, hV, rfl⟩ := List.mem_map.1 hU
    exact HN.out V hV
  case inl =>
    by_cases hc : cmpB (keyV A) (keyV B) = -1
    · rw [if_pos hc, if_pos hc] at hq
      have HQ := Lib.hid (And.intro hq (And.intro hc (And.intro hV hVa)))
      clear hq hc hV hVa
      go_wp2_with fail
      refine du_tail A B H.out.1 H.out.2.1 q (p + 1 + 1 + 1) ga gb _ _ _ _ _ _ _ _ _ _ _ _ _ _ _ _ _ _ _ _ _ _ _ _ (sumP Q) V.pow tm eviZ rfl W4 HQ.out.1 K4.out.2.1 K4.out.2.2.1 (H.out.2.2.1.kp HKW.out) (H.out.2.2.2.1.kp HKW.out) HR.out ?_
      intro v27 v28 v29 v30 v31 v32 v33 v34 v35 v36 v37 v38 v39 v40 v41 v42 v43 v44 v45 v46 v47 v48 v49 v50 W5 hb5 k5
      have H5 := Lib.hid (And.intro hb5 k5)
      clear hb5 k5
      dsimp only
      go_wp2_with fail
      refine bodyPost_ret (v := .tuple #[.agg (eviV A B (.slice ah nah cah) (.slice ap nap cap) (.slice aa naa caa) (.slice as_ nas cas) (.slice bh nbh cbh) (.slice bp nbp cbp) (.slice ba nba cba) (.slice bs nbs cbs) (sumP Q) V.pow tm), .bool true]) ?_ ?_ ?_
      · exact results_row_tmp rfl _ _ (p + 1 + 1 + 1) 39 (eviV A B (.slice ah nah cah) (.slice ap nap cap) (.slice aa naa caa) (.slice as_ nas cas) (.slice bh nbh cbh) (.slice bp nbp cbp) (.slice ba nba cba) (.slice bs nbs cbs) (sumP Q) V.pow tm) (0, 0) _ _ rfl rfl H5.out.1 Tryz.underlying39 rfl hi39
      · rfl
      have hkf : Kp [] w W5 := HKW.out.then H5.out.2 (by intro j hj hm; simp at hm; have := H0.out.2.2; omega)
      refine ⟨.inl ⟨V.kp2, A, B, _, _, _, _, _, _, _, _, ?_, HQ.out.2.2.2, .inl ⟨rfl, rfl, HQ.out.2.1⟩, H.out.2.2.1.kp hkf, H.out.2.2.2.1.kp hkf, by rw [← HSUM.out]; rfl⟩, hkf⟩
      rw [← K3.out.2.2.2.2.1]
      exact List.mem_map_of_mem HQ.out.2.2.1
    · rw [if_neg hc, if_neg hc] at hq
      have HQ := Lib.hid (And.intro hq (And.intro hc (And.intro hV hVa)))
      clear hq hc hV hVa
      go_wp2_with fail
      refine du_tail B A H.out.2.1 H.out.1 q (p + 1 + 1 + 1) gb ga _ _ _ _ _ _ _ _ _ _ _ _ _ _ _ _ _ _ _ _ _ _ _ _ (sumP Q) V.pow tm eviZ rfl W4 HQ.out.1 K4.out.2.2.1 K4.out.2.1 (H.out.2.2.2.1.kp HKW.out) (H.out.2.2.1.kp HKW.out) HR.out ?_
      intro v27 v28 v29 v30 v31 v32 v33 v34 v35 v36 v37 v38 v39 v40 v41 v42 v43 v44 v45 v46 v47 v48 v49 v50 W5 hb5 k5
      have H5 := Lib.hid (And.intro hb5 k5)
      clear hb5 k5
      dsimp only
      go_wp2_with fail
      refine bodyPost_ret (v := .tuple #[.agg (eviV B A (.slice bh nbh cbh) (.slice bp nbp cbp) (.slice ba nba cba) (.slice bs nbs cbs) (.slice ah nah cah) (.slice ap nap cap) (.slice aa naa caa) (.slice as_ nas cas) (sumP Q) V.pow tm), .bool true]) ?_ ?_ ?_
      · exact results_row_tmp rfl _ _ (p + 1 + 1 + 1) 39 (eviV B A (.slice bh nbh cbh) (.slice bp nbp cbp) (.slice ba nba cba) (.slice bs nbs cbs) (.slice ah nah cah) (.slice ap nap cap) (.slice aa naa caa) (.slice as_ nas cas) (sumP Q) V.pow tm) (0, 0) _ _ rfl rfl H5.out.1 Tryz.underlying39 rfl hi39
      · rfl
      have hkf : Kp [] w W5 := HKW.out.then H5.out.2 (by intro j hj hm; simp at hm; have := H0.out.2.2; omega)
      refine ⟨.inl ⟨V.kp2, B, A, _, _, _, _, _, _, _, _, ?_, HQ.out.2.2.2, .inr ⟨rfl, rfl, HQ.out.2.1⟩, H.out.2.2.2.1.kp hkf, H.out.2.2.1.kp hkf, by rw [← HSUM.out]; rfl⟩, hkf⟩
      rw [← K3.out.2.2.2.2.1]
      exact List.mem_map_of_mem HQ.out.2.2.1
end Go.Proofs.YtfkaldaflnmfiaaGreatDoor
