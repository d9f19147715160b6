/- The contract of NewDuplicateVoteEvidence. Printed by gen/newdup.py. -/
import Derived.WalkKit
import Derived.WalkSpells
import Derived.WalkLawsBesides
import Derived.Handy
import Derived.Lib.Hide
import Derived.IntWalk
import Derived.Deep.DeepCutAuto
import Derived.Test.YtfkaldaflnmfiaaGreatDoorKPs
import Derived.Test.YtfkaldaflnmfiaaGreatDoorKFw
import Derived.Test.YtfkaldaflnmfiaaGreatDoorKToSet
import Derived.Test.YtfkaldaflnmfiaaGreatDoorKFv
namespace Go.Proofs.YtfkaldaflnmfiaaGreatDoor
set_option linter.unusedSimpArgs false
set_option linter.unusedVariables false
open Go Go.RowKit
set_option maxRecDepth 100000

/-- What a vote's block is ordered by. -/
def keyV (V : VD) : List Int := keyL V.hash V.total V.parts
/-- What a look by address finds, with the place. -/
def FoundI (kt pr : Nat → Int) (L : List Vl) (a : List Int) (w : World) (e : Ending) (w' : World) : Prop :=
  ((∃ (V : Vl) (g : Nat) (i : Nat), V ∈ L ∧ addr kt V.key = a ∧ e = .returned (.tuple #[.int .i32 i, .pointer (some ⟨g, 0, none⟩)]) ∧ Blk w' g (V.cells (pr V.p)) 107) ∨ ((∀ V ∈ L, addr kt V.key ≠ a) ∧ e = .returned (.tuple #[.int .i32 (-1), .pointer none]))) ∧ Kp [] w w'
theorem getByI_any (kt pr : Nat → Int) (s b c n : Nat) (pp : Option Addr) (tvp : Int) (ak : Bool) (va : Value) (a : List Int) (L : List Vl) (w : World) (hs : Blk w s (setC (rowV b n c) pp tvp ak) 112) (hb : Blk w b (ptrs L) 96) (hL : ∀ V ∈ L, VlAt kt pr w V) (hn : n = L.length) (hn1 : n ≤ 1000) (ha : Byt w va a) (hab : Bs a) :
    Calls Tryz.prog 39 #[.pointer (some ⟨s, 0, none⟩), va] w (FoundI kt pr L a w) := by
  have HG := Lib.hid (getMut_any kt pr s b c n pp tvp ak va a L w hs hb hL hn hn1 ha hab)
  have H := Lib.hid (And.intro hL hn)
  clear hs hb hL ha hab hn
  go_enter Tryz.func39, Tryz.ntmps39
  go_wp2_with fail
  refine HG.out.mono ?_
  rintro e w' ⟨⟨i, V, hi, hd, rfl⟩ | ⟨hno, rfl⟩, rfl⟩
  · have hm : V ∈ L := List.mem_of_getElem? hi
    have hil : i < L.length := (List.getElem?_eq_some_iff.1 hi).1
    have hV := H.out.1 V hm
    have HV := Lib.hid (And.intro hV.blk (And.intro hm hd))
    have hne : ((i : Int) == -1) = false := by rw [beq_eq_false_iff_ne]; omega
    clear hm hi hd hV HG
    unfold ptr
    go_wp2_with fail
    refine (copyV_any V.p _ _ _ _ _ _ _ _ _ _ _ rfl rfl rfl rfl w HV.out.1).mono ?_
    rintro e w' ⟨rfl, hb, hk⟩
    have HB := Lib.hid (And.intro hb hk)
    clear hb hk
    go_wp2
    go_ret2
    exact ⟨.inl ⟨V, w.heap.size, i, HV.out.2.1, HV.out.2.2, rfl, HB.out.1⟩, HB.out.2⟩
  · have HN := Lib.hid hno
    clear hno HG
    go_wp2
    go_ret2
    exact ⟨.inr ⟨HN.out, rfl⟩, Kp.refl _ _⟩
set_option maxHeartbeats 4000000 in
theorem nd_tail {u0 u1 u2 u4 u5 u7 u8 u9 u12 u14 u15 u16 u17 u18 u19 u20 u21 u22 u23 u24 u25 u26 u27 u28 u29 u30 u31 u32 u33 u34 u35 u36 u37 u38 u39 u40 u41 u42 u43 u44 u45 u46 u47 u48 u49 u50 u51 u52 u53 u54 u55 u56 u57 u58 u59 u60 u61 u62 : Value} {K : Act → World → Prop} {Q0 : Exit → Act → World → Prop} (kt pr : Nat → Int) (s b n : Nat) (pp : Option Addr) (Q : List Vl) (x y g p6 : Nat) (x0 x1 x3 : Value) (pw tm : Int) (W0 : World) (hs : SetAt kt pr s b n pp 0 false Q W0) (hn1 : n ≤ 1000) (hpw : Pows Q) (hg : Blk W0 g #[x0, x1, .int .i64 pw, x3] 107) (h6 : Blk W0 p6 #[.int .i64 tm] 78)
    (hK : ∀ (v52 v53 v54 v55 v56 v57 v58 v59 v60 v61 v62 : Value) (q : Nat) (W : World), Blk W q #[.pointer (some ⟨x, 0, none⟩), .pointer (some ⟨y, 0, none⟩), .int .i64 (sumP Q), .int .i64 pw, .int .i64 tm] 81 → Kp [s] W0 W → K ⟨#[u0, u1, u2, .pointer (some ⟨s, 0, none⟩), u4, u5, .pointer (some ⟨p6, 0, none⟩), u7, .pointer (some ⟨q, 0, none⟩), .nilIface, .pointer (some ⟨x, 0, none⟩), .pointer (some ⟨y, 0, none⟩), u12, .pointer (some ⟨g, 0, none⟩), u14, u15, u16, u17, u18, u19, u20, u21, u22, u23, u24, u25, u26, u27, u28, u29, u30, u31, u32, u33, u34, u35, u36, u37, u38, u39, u40, u41, u42, u43, u44, u45, u46, u47, u48, u49, u50, u51, v52, v53, v54, v55, v56, v57, v58, v59, v60, v61, v62], []⟩ W) :
    Code.wp Tryz.prog (codeAt Tryz.f26 [1, 1, 1, 1, 1, 1, 1, 0]) (Exit.then K Q0) ⟨#[u0, u1, u2, .pointer (some ⟨s, 0, none⟩), u4, u5, .pointer (some ⟨p6, 0, none⟩), u7, u8, u9, .pointer (some ⟨x, 0, none⟩), .pointer (some ⟨y, 0, none⟩), u12, .pointer (some ⟨g, 0, none⟩), u14, u15, u16, u17, u18, u19, u20, u21, u22, u23, u24, u25, u26, u27, u28, u29, u30, u31, u32, u33, u34, u35, u36, u37, u38, u39, u40, u41, u42, u43, u44, u45, u46, u47, u48, u49, u50, u51, u52, u53, u54, u55, u56, u57, u58, u59, u60, u61, u62], []⟩ W0 := by
  have hgs : g ≠ s := hg.ne hs.set (by decide)
  have h6s : p6 ≠ s := h6.ne hs.set (by decide)
  have HS := Lib.hid (fun (W : World) (k : Kp [s] W0 W) => And.intro (k.blk hg (by simpa using hgs)) (k.blk h6 (by simpa using h6s)))
  have HK := Lib.hid hK
  have H := Lib.hid (And.intro hs hpw)
  have hS0 : (fun W => Blk W g #[x0, x1, .int .i64 pw, x3] 107 ∧ Blk W p6 #[.int .i64 tm] 78) W0.drew := HS.out _ ((Kp.refl [s] W0).drew)
  clear hs hpw hg h6 hK hgs h6s
  conv => arg 2; whnf
  refine wp_region_noPanic ?_
  refine wp_region_last (fun W => Blk W g #[x0, x1, .int .i64 pw, x3] 107 ∧ Blk W p6 #[.int .i64 tm] 78) (by kernel_rfl) ?_
  refine wpAnyL_take (i := 0) (v := _) rfl (by kernel_rfl) (by kernel_rfl) (by kernel_rfl) (fun _ _ _ h => h) (Or.inl ⟨by rfl, fun W hSW => by go_simp; try with_reducible rfl⟩) hS0 ?_
  try simp only [Act.put, List.setIfInBounds_toArray, List.set_cons_zero, List.set_cons_succ]
  refine wpAnyL_take (i := 1) (v := _) rfl (by kernel_rfl) (by kernel_rfl) (by kernel_rfl) (fun _ _ _ h => h) (Or.inl ⟨by rfl, fun W hSW => by go_simp; try with_reducible rfl⟩) hS0 ?_
  try simp only [Act.put, List.setIfInBounds_toArray, List.set_cons_zero, List.set_cons_succ]
  refine wpAnyL_take (i := 2) (v := _) rfl (by kernel_rfl) (by kernel_rfl) (by kernel_rfl) (fun _ _ _ h => h) (Or.inl ⟨by rfl, fun W hSW => by go_simp; try with_reducible rfl⟩) hS0 ?_
  try simp only [Act.put, List.setIfInBounds_toArray, List.set_cons_zero, List.set_cons_succ]
  refine wpAnyL_take (i := 4) (v := _) rfl (by kernel_rfl) (by kernel_rfl) (by kernel_rfl) (fun _ _ _ h => h) (Or.inl ⟨by rfl, fun W hSW => by go_simp; try with_reducible rfl⟩) hS0 ?_
  try simp only [Act.put, List.setIfInBounds_toArray, List.set_cons_zero, List.set_cons_succ]
  refine wpAnyL_take (i := 5) (v := _) rfl (by kernel_rfl) (by kernel_rfl) (by kernel_rfl) (fun _ _ _ h => h) (Or.inl ⟨by rfl, fun W hSW => by go_simp; try with_reducible rfl⟩) hS0 ?_
  try simp only [Act.put, List.setIfInBounds_toArray, List.set_cons_zero, List.set_cons_succ]
  refine wpAnyL_take (i := 6) (v := _) rfl (by kernel_rfl) (by kernel_rfl) (by kernel_rfl) (fun _ _ _ h => h) (Or.inl ⟨by rfl, fun W hSW => by go_simp; try with_reducible rfl⟩) hS0 ?_
  try simp only [Act.put, List.setIfInBounds_toArray, List.set_cons_zero, List.set_cons_succ]
  refine wpAnyL_take (i := 7) (v := .int .i64 pw) rfl (by kernel_rfl) (by kernel_rfl) (by kernel_rfl) (fun _ _ _ h => h) (Or.inl ⟨by rfl, fun W hSW => by have c2 : W.cell? ⟨g, 2, none⟩ = some (.int .i64 pw) := hSW.1.cell rfl; go_simp; try with_reducible rfl⟩) hS0 ?_
  try simp only [Act.put, List.setIfInBounds_toArray, List.set_cons_zero, List.set_cons_succ]
  refine wpAnyL_take (i := 8) (v := .agg #[.int .i64 tm]) rfl (by kernel_rfl) (by kernel_rfl) (by kernel_rfl) (fun _ _ _ h => h) (Or.inl ⟨by rfl, fun W hSW => by have c0 : W.cell? ⟨p6, 0, none⟩ = some (.int .i64 tm) := hSW.2.cell rfl; go_simp; try with_reducible rfl⟩) hS0 ?_
  try simp only [Act.put, List.setIfInBounds_toArray, List.set_cons_zero, List.set_cons_succ]
  refine wpAnyL_one (i := 3) (by kernel_rfl) rfl (fun K' hK' => ?_)
  go_simp
  refine (total_new kt pr s b n n pp false Q W0.drew (H.out.1.kp (Kp.refl [] W0).drew).set (H.out.1.kp (Kp.refl [] W0).drew).row (H.out.1.kp (Kp.refl [] W0).drew).at_ H.out.1.len hn1 H.out.2).mono ?_
  rintro e W1 ⟨rfl, hb1, k1⟩
  have k2 : Kp [s] W0 W1 := (Kp.refl [s] W0).drew.trans k1
  have K2 := Lib.hid k2
  clear k1 k2 hb1
  go_wp2_with fail
  have hS0 := HS.out _ K2.out
  refine hK'.out _ _ hS0 ?_
  clear hK' K'
  try simp only [Act.put, List.setIfInBounds_toArray, List.set_cons_zero, List.set_cons_succ]
  refine wpAnyL_take (i := 9) (v := .agg #[.pointer (some ⟨x, 0, none⟩), .pointer (some ⟨y, 0, none⟩), .int .i64 (sumP Q), .int .i64 pw, .int .i64 tm]) rfl (by kernel_rfl) (by kernel_rfl) (by kernel_rfl) (fun _ _ _ h => h) (Or.inl ⟨by rfl, fun W hSW => by exact exec_build _ _ 81 _ rfl #[.pointer (some ⟨x, 0, none⟩), .pointer (some ⟨y, 0, none⟩), .int .i64 (sumP Q), .int .i64 pw, .int .i64 tm] W (by kernel_rfl)⟩) hS0 ?_
  try simp only [Act.put, List.setIfInBounds_toArray, List.set_cons_zero, List.set_cons_succ]
  refine wpAnyL_one (i := 10) (by kernel_rfl) rfl (fun K' hK' => ?_)
  go_simp
  have hq := Blk.new W1 #[.pointer (some ⟨x, 0, none⟩), .pointer (some ⟨y, 0, none⟩), .int .i64 (sumP Q), .int .i64 pw, .int .i64 tm] 81
  have k3 := (Kp.refl [] W1).alloc (.cells #[.pointer (some ⟨x, 0, none⟩), .pointer (some ⟨y, 0, none⟩), .int .i64 (sumP Q), .int .i64 pw, .int .i64 tm] 81)
  have K3 := Lib.hid (And.intro hq k3)
  have hS0 := HS.out _ (K2.out.trans (k3.mono (S' := [s]) (by simp)))
  refine hK'.out _ _ hS0 ?_
  clear hK' K' hq k3
  try simp only [Act.put, List.setIfInBounds_toArray, List.set_cons_zero, List.set_cons_succ]
  refine wpAnyL_take (i := 11) (v := _) rfl (by kernel_rfl) (by kernel_rfl) (by kernel_rfl) (fun _ _ _ h => h) (Or.inl ⟨by rfl, fun W hSW => by go_simp; try with_reducible rfl⟩) hS0 ?_
  try simp only [Act.put, List.setIfInBounds_toArray, List.set_cons_zero, List.set_cons_succ]
  refine wpAnyL_take (i := 12) (v := _) rfl (by kernel_rfl) (by kernel_rfl) (by kernel_rfl) (fun _ _ _ h => h) (Or.inl ⟨by rfl, fun W hSW => by go_simp; try with_reducible rfl⟩) hS0 ?_
  try simp only [Act.put, List.setIfInBounds_toArray, List.set_cons_zero, List.set_cons_succ]
  refine ⟨by kernel_rfl, NoPanic.normal ?_⟩
  exact HK.out _ _ _ _ _ _ _ _ _ _ _ _ _ K3.out.1 (K2.out.trans (K3.out.2.mono (S' := [s]) (by simp)))

/-- What is made of two votes. -/
def Made2 (kt : Nat → Int) (Q : List Vl) (A B : VD) (ga gb s : Nat) (tm : Int) (w : World) (e : Ending) (w' : World) : Prop :=
  ((∃ V q, V ∈ Q ∧ addr kt V.key = A.addr ∧ e = .returned (.tuple #[.pointer (some ⟨q, 0, none⟩), .nilIface]) ∧ Blk w' q #[.pointer (some ⟨if cmpB (keyV A) (keyV B) = -1 then ga else gb, 0, none⟩), .pointer (some ⟨if cmpB (keyV A) (keyV B) = -1 then gb else ga, 0, none⟩), .int .i64 (sumP Q), .int .i64 V.pow, .int .i64 tm] 81) ∨ ((∀ V ∈ Q, addr kt V.key ≠ A.addr) ∧ ∃ t v, e = .returned (.tuple #[.pointer none, .iface t v]))) ∧ Kp [s] w w'
set_option maxHeartbeats 4000000 in
theorem newDup_any (kt pr : Nat → Int) (s b n : Nat) (pp : Option Addr) (Q : List Vl) (ga gb : Nat) (A B : VD) (okA : A.ok) (okB : B.ok) (vah vap vaa vas vbh vbp vba vbs : Value) (tm : Int) (w : World)
    (hs : SetAt kt pr s b n pp 0 false Q w) (hn1 : n ≤ 1000) (hpw : Pows Q) (ha : Blk w ga (voteC A vah vap vaa vas) 105) (hb : Blk w gb (voteC B vbh vbp vba vbs) 105) (hA : VoteB w A vah vap vaa vas) (hB : VoteB w B vbh vbp vba vbs) :
    Calls Tryz.prog 26 #[.pointer (some ⟨ga, 0, none⟩), .pointer (some ⟨gb, 0, none⟩), .agg #[.int .i64 tm], .pointer (some ⟨s, 0, none⟩)] w (Made2 kt Q A B ga gb s tm w) := by
  obtain ⟨ah, nah, cah, rfl⟩ := hA.hash.form
  obtain ⟨ap, nap, cap, rfl⟩ := hA.parts.form
  obtain ⟨aa, naa, caa, rfl⟩ := hA.addr.form
  obtain ⟨as_, nas, cas, rfl⟩ := hA.sig.form
  obtain ⟨bh, nbh, cbh, rfl⟩ := hB.hash.form
  obtain ⟨bp, nbp, cbp, rfl⟩ := hB.parts.form
  obtain ⟨ba, nba, cba, rfl⟩ := hB.addr.form
  obtain ⟨bs, nbs, cbs, rfl⟩ := hB.sig.form
  have a7 : ∀ W, Kp [] w W → W.cell? ⟨ga, 7, none⟩ = some (.slice aa naa caa) := ha.all 7 rfl
  have HG := Lib.hid (fun (W : World) (k : Kp [] w W) => getByI_any kt pr s b n n pp 0 false (.slice aa naa caa) A.addr Q W (hs.kp k).set (hs.kp k).row (hs.kp k).at_ hs.len hn1 (hA.addr.kp k) okA.addr.1)
  have H := Lib.hid (And.intro hs (And.intro hpw (And.intro ha (And.intro hb (And.intro hA (And.intro hB (And.intro okA okB)))))))
  clear hs hpw ha hb hA hB okA okB
  have k0 := (Kp.refl [] w).alloc (.cells #[.int .i64 tm] 78)
  have h6 := Blk.new w #[.int .i64 tm] 78
  go_enter Tryz.func26, Tryz.ntmps26
  go_wp2_with fail
  generalize w.alloc (.cells #[.int .i64 tm] 78) = wA at *
  obtain ⟨p6, ep⟩ : ∃ p, p = w.heap.size := ⟨_, rfl⟩
  rw [← ep] at h6 ⊢
  have H0 := Lib.hid (And.intro k0 h6)
  clear h6 ep a7
  refine (HG.out wA k0).mono ?_
  rintro e w1 ⟨hf, k1⟩
  have H1 := Lib.hid (k0.trans k1)
  have h6 := Lib.hid (k1.blk H0.out.2 (by simp))
  clear k0 k1 HG
  rcases hf with ⟨V, g, i, hV, hVa, rfl, hg⟩ | ⟨hno, rfl⟩
  case inr =>
    have HN := Lib.hid hno
    clear hno
    go_wp2_with fail
    refine (newErr_any _ w1).mono ?_
    rintro e w2 ⟨g, rfl, k2⟩
    have K2 := Lib.hid (H1.out.trans k2)
    clear k2
    go_wp2_with fail
    go_ret2
    exact ⟨.inr ⟨HN.out, _, _, rfl⟩, K2.out.mono (by simp)⟩
  case inl =>
    have HV := Lib.hid (And.intro hV (And.intro hVa hg))
    have hne : ((i : Int) == -1) = false := by rw [beq_eq_false_iff_ne]; omega
    clear hV hVa hg
    go_wp2_with fail
    have HS := Lib.hid (fun (W : World) (k : Kp [] w1 W) => And.intro ((H1.out.trans k).blk H.out.2.2.1 (by simp)) ((H1.out.trans k).blk H.out.2.2.2.1 (by simp)))
    have hS0 : (fun W => Blk W ga (voteC A (.slice ah nah cah) (.slice ap nap cap) (.slice aa naa caa) (.slice as_ nas cas)) 105 ∧ Blk W gb (voteC B (.slice bh nbh cbh) (.slice bp nbp cbp) (.slice ba nba cba) (.slice bs nbs cbs)) 105) w1.drew := HS.out _ ((Kp.refl [] w1).drew)
    refine wp_region_noPanic ?_
    refine wp_region_last (fun W => Blk W ga (voteC A (.slice ah nah cah) (.slice ap nap cap) (.slice aa naa caa) (.slice as_ nas cas)) 105 ∧ Blk W gb (voteC B (.slice bh nbh cbh) (.slice bp nbp cbp) (.slice ba nba cba) (.slice bs nbs cbs)) 105) (by kernel_rfl) ?_
    refine wpAnyL_take (i := 0) (v := _) rfl (by kernel_rfl) (by kernel_rfl) (by kernel_rfl) (fun _ _ _ h => h) (Or.inl ⟨by rfl, fun W hSW => by go_simp; try with_reducible rfl⟩) hS0 ?_
    try simp only [Act.put, List.setIfInBounds_toArray, List.set_cons_zero, List.set_cons_succ]
    refine wpAnyL_take (i := 1) (v := _) rfl (by kernel_rfl) (by kernel_rfl) (by kernel_rfl) (fun _ _ _ h => h) (Or.inl ⟨by rfl, fun W hSW => by go_simp; try with_reducible rfl⟩) hS0 ?_
    try simp only [Act.put, List.setIfInBounds_toArray, List.set_cons_zero, List.set_cons_succ]
    refine wpAnyL_take (i := 2) (v := _) rfl (by kernel_rfl) (by kernel_rfl) (by kernel_rfl) (fun _ _ _ h => h) (Or.inl ⟨by rfl, fun W hSW => by go_simp; try with_reducible rfl⟩) hS0 ?_
    try simp only [Act.put, List.setIfInBounds_toArray, List.set_cons_zero, List.set_cons_succ]
    refine wpAnyL_take (i := 3) (v := .agg #[.slice ah nah cah, .int .u32 A.total, .slice ap nap cap]) rfl (by kernel_rfl) (by kernel_rfl) (by kernel_rfl) (fun _ _ _ h => h) (Or.inl ⟨by rfl, fun W hSW => by have d3 : W.cell? ⟨ga, 3, none⟩ = some (.slice ah nah cah) := hSW.1.cell rfl; have d4 : W.cell? ⟨ga, 4, none⟩ = some (.int .u32 A.total) := hSW.1.cell rfl; have d5 : W.cell? ⟨ga, 5, none⟩ = some (.slice ap nap cap) := hSW.1.cell rfl; go_simp; try with_reducible rfl⟩) hS0 ?_
    try simp only [Act.put, List.setIfInBounds_toArray, List.set_cons_zero, List.set_cons_succ]
    refine wpAnyL_take (i := 5) (v := _) rfl (by kernel_rfl) (by kernel_rfl) (by kernel_rfl) (fun _ _ _ h => h) (Or.inl ⟨by rfl, fun W hSW => by go_simp; try with_reducible rfl⟩) hS0 ?_
    try simp only [Act.put, List.setIfInBounds_toArray, List.set_cons_zero, List.set_cons_succ]
    refine wpAnyL_take (i := 6) (v := _) rfl (by kernel_rfl) (by kernel_rfl) (by kernel_rfl) (fun _ _ _ h => h) (Or.inl ⟨by rfl, fun W hSW => by go_simp; try with_reducible rfl⟩) hS0 ?_
    try simp only [Act.put, List.setIfInBounds_toArray, List.set_cons_zero, List.set_cons_succ]
    refine wpAnyL_take (i := 7) (v := _) rfl (by kernel_rfl) (by kernel_rfl) (by kernel_rfl) (fun _ _ _ h => h) (Or.inl ⟨by rfl, fun W hSW => by go_simp; try with_reducible rfl⟩) hS0 ?_
    try simp only [Act.put, List.setIfInBounds_toArray, List.set_cons_zero, List.set_cons_succ]
    refine wpAnyL_take (i := 8) (v := .agg #[.slice bh nbh cbh, .int .u32 B.total, .slice bp nbp cbp]) rfl (by kernel_rfl) (by kernel_rfl) (by kernel_rfl) (fun _ _ _ h => h) (Or.inl ⟨by rfl, fun W hSW => by have d3 : W.cell? ⟨gb, 3, none⟩ = some (.slice bh nbh cbh) := hSW.2.cell rfl; have d4 : W.cell? ⟨gb, 4, none⟩ = some (.int .u32 B.total) := hSW.2.cell rfl; have d5 : W.cell? ⟨gb, 5, none⟩ = some (.slice bp nbp cbp) := hSW.2.cell rfl; go_simp; try with_reducible rfl⟩) hS0 ?_
    try simp only [Act.put, List.setIfInBounds_toArray, List.set_cons_zero, List.set_cons_succ]
    refine wpAnyL_one (i := 4) (by kernel_rfl) rfl (fun K' hK' => ?_)
    go_simp
    refine (key_any A.total (.slice ah nah cah) (.slice ap nap cap) A.hash A.parts w1.drew (H.out.2.2.2.2.1.hash.kp (H1.out.trans (Kp.refl [] w1).drew)) (H.out.2.2.2.2.1.parts.kp (H1.out.trans (Kp.refl [] w1).drew)) H.out.2.2.2.2.2.2.1.total.1 (by have := H.out.2.2.2.2.2.2.1.total.2; omega) (by have := H.out.2.2.2.2.2.2.1.parts.2; omega) (by have := H.out.2.2.2.2.2.2.1.hash.2; omega)).mono ?_
    rintro e W2 ⟨rfl, hk0⟩
    have K2 := Lib.hid (((Kp.refl [] w1).drew).trans hk0)
    clear hk0
    go_wp2_with fail
    have hS0 := HS.out _ K2.out
    refine hK'.out _ _ hS0 ?_
    clear hK' K'
    try simp only [Act.put, List.setIfInBounds_toArray, List.set_cons_zero, List.set_cons_succ]
    refine wpAnyL_one (i := 9) (by kernel_rfl) rfl (fun K' hK' => ?_)
    go_simp
    refine (key_any B.total (.slice bh nbh cbh) (.slice bp nbp cbp) B.hash B.parts W2 (H.out.2.2.2.2.2.1.hash.kp (H1.out.trans K2.out)) (H.out.2.2.2.2.2.1.parts.kp (H1.out.trans K2.out)) H.out.2.2.2.2.2.2.2.total.1 (by have := H.out.2.2.2.2.2.2.2.total.2; omega) (by have := H.out.2.2.2.2.2.2.2.parts.2; omega) (by have := H.out.2.2.2.2.2.2.2.hash.2; omega)).mono ?_
    rintro e W3 ⟨rfl, hk0⟩
    have K3 := Lib.hid ((K2.out).trans hk0)
    clear hk0
    go_wp2_with fail
    have hS0 := HS.out _ K3.out
    refine hK'.out _ _ hS0 ?_
    clear hK' K'
    try simp only [Act.put, List.setIfInBounds_toArray, List.set_cons_zero, List.set_cons_succ]
    refine wpAnyL_one (i := 10) (by kernel_rfl) rfl (fun K' hK' => ?_)
    go_simp
    refine (strCompare_any (keyL A.hash A.total A.parts) (keyL B.hash B.total B.parts) W3).mono ?_
    rintro e W4 ⟨rfl, rfl⟩
    go_wp2_with fail
    refine hK'.out _ _ hS0 ?_
    clear hK' K'
    try simp only [Act.put, List.setIfInBounds_toArray, List.set_cons_zero, List.set_cons_succ]
    refine wpAnyL_take (i := 11) (v := .bool (cmpB (keyL A.hash A.total A.parts) (keyL B.hash B.total B.parts) == -1)) rfl (by kernel_rfl) (by kernel_rfl) (by kernel_rfl) (fun _ _ _ h => h) (Or.inl ⟨by rfl, fun W hSW => by go_simp; try with_reducible rfl⟩) hS0 ?_
    try simp only [Act.put, List.setIfInBounds_toArray, List.set_cons_zero, List.set_cons_succ]
    refine ⟨by kernel_rfl, NoPanic.normal ?_⟩
    change (Exit.then _ _) Exit.normal ⟨#[_, _, _, _, _, _, _, _, _, _, _, _, _, _, _, _, _, _, _, _, _, _, _, _, _, _, _, _, _, _, _, _, _, _, _, _, _, _, _, _, _, _, _, _, _, _, _, _, _, _, _, _, _, _, _, _, _, _, _, _, _, _, _], []⟩ W3
    clear HS hS0
    have HT := Lib.hid (And.intro ((H.out.1.kp (H1.out.trans K3.out))) (And.intro (K3.out.blk HV.out.2.2 (by simp)) (K3.out.blk h6.out (by simp))))
    have K4 := Lib.hid (H1.out.trans K3.out)
    by_cases hc : cmpB (keyV A) (keyV B) = -1
    · have e1 : (cmpB (keyL A.hash A.total A.parts) (keyL B.hash B.total B.parts) == -1) = true := by rw [beq_iff_eq]; exact hc
      rw [e1]
      have HC := Lib.hid hc
      clear hc e1
      go_upto_region 14 with fail
      refine nd_tail kt pr s b n pp Q ga gb g p6 _ _ _ V.pow tm W3 HT.out.1 hn1 H.out.2.1 HT.out.2.1 HT.out.2.2 ?_
      intro v52 v53 v54 v55 v56 v57 v58 v59 v60 v61 v62 q W hq kq
      have HQ := Lib.hid (And.intro hq kq)
      clear hq kq
      dsimp only
      go_wp2_with fail
      go_ret2
      refine ⟨.inl ⟨V, q, HV.out.1, HV.out.2.1, rfl, ?_⟩, (K4.out.mono (S' := [s]) (by simp)).trans HQ.out.2⟩
      rw [if_pos HC.out, if_pos HC.out]
      exact HQ.out.1
    · have e1 : (cmpB (keyL A.hash A.total A.parts) (keyL B.hash B.total B.parts) == -1) = false := by rw [beq_eq_false_iff_ne]; exact hc
      rw [e1]
      have HC := Lib.hid hc
      clear hc e1
      go_upto_region 14 with fail
      refine nd_tail kt pr s b n pp Q gb ga g p6 _ _ _ V.pow tm W3 HT.out.1 hn1 H.out.2.1 HT.out.2.1 HT.out.2.2 ?_
      intro v52 v53 v54 v55 v56 v57 v58 v59 v60 v61 v62 q W hq kq
      have HQ := Lib.hid (And.intro hq kq)
      clear hq kq
      dsimp only
      go_wp2_with fail
      go_ret2
      refine ⟨.inl ⟨V, q, HV.out.1, HV.out.2.1, rfl, ?_⟩, (K4.out.mono (S' := [s]) (by simp)).trans HQ.out.2⟩
      rw [if_neg HC.out, if_neg HC.out]
      exact HQ.out.1
end Go.Proofs.YtfkaldaflnmfiaaGreatDoor
/- The contracts of the evidence's ValidateBasic and of EvidenceValid. Printed by gen/dveval.py. -/
namespace Go.Proofs.YtfkaldaflnmfiaaGreatDoor
set_option linter.unusedSimpArgs false
set_option linter.unusedVariables false
open Go Go.RowKit
set_option maxRecDepth 100000

/-- An error that is nil just where P holds. -/
def ErrIff (P : Prop) (w : World) (e : Ending) (w' : World) : Prop := ((P ∧ e = .returned .nilIface) ∨ (¬ P ∧ ∃ t v, e = .returned (.iface t v))) ∧ Kp [] w w'
set_option maxHeartbeats 4000000 in
theorem dveValid_any (A B : VD) (okA : A.ok) (okB : B.ok) (fA : A.fit) (fB : B.fit) (vah vap vaa vas vbh vbp vba vbs : Value) (x y z : Int) (q ga gb : Nat) (w : World)
    (hq : Blk w q #[.pointer (some ⟨ga, 0, none⟩), .pointer (some ⟨gb, 0, none⟩), .int .i64 x, .int .i64 y, .int .i64 z] 81) (ha : Blk w ga (voteC A vah vap vaa vas) 105) (hb : Blk w gb (voteC B vbh vbp vba vbs) 105) (hA : VoteB w A vah vap vaa vas) (hB : VoteB w B vbh vbp vba vbs) :
    Calls Tryz.prog 30 #[.pointer (some ⟨q, 0, none⟩)] w (ErrIff (cmpB (keyV A) (keyV B) = -1) w) := by
  obtain ⟨ah, nah, cah, rfl⟩ := hA.hash.form
  obtain ⟨ap, nap, cap, rfl⟩ := hA.parts.form
  obtain ⟨aa, naa, caa, rfl⟩ := hA.addr.form
  obtain ⟨as_, nas, cas, rfl⟩ := hA.sig.form
  obtain ⟨bh, nbh, cbh, rfl⟩ := hB.hash.form
  obtain ⟨bp, nbp, cbp, rfl⟩ := hB.parts.form
  obtain ⟨ba, nba, cba, rfl⟩ := hB.addr.form
  obtain ⟨bs, nbs, cbs, rfl⟩ := hB.sig.form
  have q0 : ∀ W, Kp [] w W → W.cell? ⟨q, 0, none⟩ = some (.pointer (some ⟨ga, 0, none⟩)) := hq.all 0 rfl
  have q1 : ∀ W, Kp [] w W → W.cell? ⟨q, 1, none⟩ = some (.pointer (some ⟨gb, 0, none⟩)) := hq.all 1 rfl
  have H := Lib.hid (And.intro okA (And.intro okB (And.intro fA (And.intro fB (And.intro hq (And.intro ha (And.intro hb (And.intro hA hB))))))))
  clear okA okB fA fB hq ha hb hA hB
  go_enter Tryz.func30, Tryz.ntmps30
  go_wp2_with fail
  refine (voteValid_any A H.out.2.2.1 ga (.slice ah nah cah) (.slice ap nap cap) (.slice aa naa caa) (.slice as_ nas cas) w H.out.2.2.2.2.2.1 H.out.2.2.2.2.2.2.2.1).mono ?_
  rintro e w1 ⟨rfl, k1⟩
  go_wp2_with fail
  refine (voteValid_any B H.out.2.2.2.1 gb (.slice bh nbh cbh) (.slice bp nbp cbp) (.slice ba nba cba) (.slice bs nbs cbs) w1 (k1.blk H.out.2.2.2.2.2.2.1 (by simp)) (H.out.2.2.2.2.2.2.2.2.kp k1)).mono ?_
  rintro e w2 ⟨rfl, k2⟩
  have K2 := Lib.hid (k1.trans k2)
  go_wp2_with fail
  clear k1 k2 q0 q1
  have HS := Lib.hid (fun (W : World) (k : Kp [] w W) => And.intro (k.blk H.out.2.2.2.2.1 (by simp)) (And.intro (k.blk H.out.2.2.2.2.2.1 (by simp)) (k.blk H.out.2.2.2.2.2.2.1 (by simp))))
  have hS0 : (fun W => Blk W q #[.pointer (some ⟨ga, 0, none⟩), .pointer (some ⟨gb, 0, none⟩), .int .i64 x, .int .i64 y, .int .i64 z] 81 ∧ Blk W ga (voteC A (.slice ah nah cah) (.slice ap nap cap) (.slice aa naa caa) (.slice as_ nas cas)) 105 ∧ Blk W gb (voteC B (.slice bh nbh cbh) (.slice bp nbp cbp) (.slice ba nba cba) (.slice bs nbs cbs)) 105) w2.drew := HS.out _ (K2.out.drew)
  refine wp_region_noPanic ?_
  refine wp_region_last (fun W => Blk W q #[.pointer (some ⟨ga, 0, none⟩), .pointer (some ⟨gb, 0, none⟩), .int .i64 x, .int .i64 y, .int .i64 z] 81 ∧ Blk W ga (voteC A (.slice ah nah cah) (.slice ap nap cap) (.slice aa naa caa) (.slice as_ nas cas)) 105 ∧ Blk W gb (voteC B (.slice bh nbh cbh) (.slice bp nbp cbp) (.slice ba nba cba) (.slice bs nbs cbs)) 105) (by kernel_rfl) ?_
  refine wpAnyL_take (i := 0) (v := _) rfl (by kernel_rfl) (by kernel_rfl) (by kernel_rfl) (fun _ _ _ h => h) (Or.inl ⟨by rfl, fun W hSW => by go_simp; try with_reducible rfl⟩) hS0 ?_
  try simp only [Act.put, List.setIfInBounds_toArray, List.set_cons_zero, List.set_cons_succ]
  refine wpAnyL_take (i := 1) (v := _) rfl (by kernel_rfl) (by kernel_rfl) (by kernel_rfl) (fun _ _ _ h => h) (Or.inl ⟨by rfl, fun W hSW => by go_simp; try with_reducible rfl⟩) hS0 ?_
  try simp only [Act.put, List.setIfInBounds_toArray, List.set_cons_zero, List.set_cons_succ]
  refine wpAnyL_take (i := 2) (v := _) rfl (by kernel_rfl) (by kernel_rfl) (by kernel_rfl) (fun _ _ _ h => h) (Or.inl ⟨by rfl, fun W hSW => by go_simp; try with_reducible rfl⟩) hS0 ?_
  try simp only [Act.put, List.setIfInBounds_toArray, List.set_cons_zero, List.set_cons_succ]
  refine wpAnyL_take (i := 3) (v := .pointer (some ⟨ga, 0, none⟩)) rfl (by kernel_rfl) (by kernel_rfl) (by kernel_rfl) (fun _ _ _ h => h) (Or.inl ⟨by rfl, fun W hSW => by have c0 : W.cell? ⟨q, 0, none⟩ = some (.pointer (some ⟨ga, 0, none⟩)) := hSW.1.cell rfl; go_simp; try with_reducible rfl⟩) hS0 ?_
  try simp only [Act.put, List.setIfInBounds_toArray, List.set_cons_zero, List.set_cons_succ]
  refine wpAnyL_take (i := 4) (v := _) rfl (by kernel_rfl) (by kernel_rfl) (by kernel_rfl) (fun _ _ _ h => h) (Or.inl ⟨by rfl, fun W hSW => by go_simp; try with_reducible rfl⟩) hS0 ?_
  try simp only [Act.put, List.setIfInBounds_toArray, List.set_cons_zero, List.set_cons_succ]
  refine wpAnyL_take (i := 5) (v := _) rfl (by kernel_rfl) (by kernel_rfl) (by kernel_rfl) (fun _ _ _ h => h) (Or.inl ⟨by rfl, fun W hSW => by go_simp; try with_reducible rfl⟩) hS0 ?_
  try simp only [Act.put, List.setIfInBounds_toArray, List.set_cons_zero, List.set_cons_succ]
  refine wpAnyL_take (i := 6) (v := .agg #[.slice ah nah cah, .int .u32 A.total, .slice ap nap cap]) rfl (by kernel_rfl) (by kernel_rfl) (by kernel_rfl) (fun _ _ _ h => h) (Or.inl ⟨by rfl, fun W hSW => by have d3 : W.cell? ⟨ga, 3, none⟩ = some (.slice ah nah cah) := hSW.2.1.cell rfl; have d4 : W.cell? ⟨ga, 4, none⟩ = some (.int .u32 A.total) := hSW.2.1.cell rfl; have d5 : W.cell? ⟨ga, 5, none⟩ = some (.slice ap nap cap) := hSW.2.1.cell rfl; go_simp; try with_reducible rfl⟩) hS0 ?_
  try simp only [Act.put, List.setIfInBounds_toArray, List.set_cons_zero, List.set_cons_succ]
  refine wpAnyL_take (i := 8) (v := _) rfl (by kernel_rfl) (by kernel_rfl) (by kernel_rfl) (fun _ _ _ h => h) (Or.inl ⟨by rfl, fun W hSW => by go_simp; try with_reducible rfl⟩) hS0 ?_
  try simp only [Act.put, List.setIfInBounds_toArray, List.set_cons_zero, List.set_cons_succ]
  refine wpAnyL_take (i := 9) (v := _) rfl (by kernel_rfl) (by kernel_rfl) (by kernel_rfl) (fun _ _ _ h => h) (Or.inl ⟨by rfl, fun W hSW => by go_simp; try with_reducible rfl⟩) hS0 ?_
  try simp only [Act.put, List.setIfInBounds_toArray, List.set_cons_zero, List.set_cons_succ]
  refine wpAnyL_take (i := 10) (v := _) rfl (by kernel_rfl) (by kernel_rfl) (by kernel_rfl) (fun _ _ _ h => h) (Or.inl ⟨by rfl, fun W hSW => by go_simp; try with_reducible rfl⟩) hS0 ?_
  try simp only [Act.put, List.setIfInBounds_toArray, List.set_cons_zero, List.set_cons_succ]
  refine wpAnyL_take (i := 11) (v := .pointer (some ⟨gb, 0, none⟩)) rfl (by kernel_rfl) (by kernel_rfl) (by kernel_rfl) (fun _ _ _ h => h) (Or.inl ⟨by rfl, fun W hSW => by have c0 : W.cell? ⟨q, 1, none⟩ = some (.pointer (some ⟨gb, 0, none⟩)) := hSW.1.cell rfl; go_simp; try with_reducible rfl⟩) hS0 ?_
  try simp only [Act.put, List.setIfInBounds_toArray, List.set_cons_zero, List.set_cons_succ]
  refine wpAnyL_take (i := 12) (v := _) rfl (by kernel_rfl) (by kernel_rfl) (by kernel_rfl) (fun _ _ _ h => h) (Or.inl ⟨by rfl, fun W hSW => by go_simp; try with_reducible rfl⟩) hS0 ?_
  try simp only [Act.put, List.setIfInBounds_toArray, List.set_cons_zero, List.set_cons_succ]
  refine wpAnyL_take (i := 13) (v := _) rfl (by kernel_rfl) (by kernel_rfl) (by kernel_rfl) (fun _ _ _ h => h) (Or.inl ⟨by rfl, fun W hSW => by go_simp; try with_reducible rfl⟩) hS0 ?_
  try simp only [Act.put, List.setIfInBounds_toArray, List.set_cons_zero, List.set_cons_succ]
  refine wpAnyL_take (i := 14) (v := .agg #[.slice bh nbh cbh, .int .u32 B.total, .slice bp nbp cbp]) rfl (by kernel_rfl) (by kernel_rfl) (by kernel_rfl) (fun _ _ _ h => h) (Or.inl ⟨by rfl, fun W hSW => by have d3 : W.cell? ⟨gb, 3, none⟩ = some (.slice bh nbh cbh) := hSW.2.2.cell rfl; have d4 : W.cell? ⟨gb, 4, none⟩ = some (.int .u32 B.total) := hSW.2.2.cell rfl; have d5 : W.cell? ⟨gb, 5, none⟩ = some (.slice bp nbp cbp) := hSW.2.2.cell rfl; go_simp; try with_reducible rfl⟩) hS0 ?_
  try simp only [Act.put, List.setIfInBounds_toArray, List.set_cons_zero, List.set_cons_succ]
  refine wpAnyL_one (i := 7) (by kernel_rfl) rfl (fun K' hK' => ?_)
  go_simp
  refine (key_any A.total (.slice ah nah cah) (.slice ap nap cap) A.hash A.parts w2.drew (H.out.2.2.2.2.2.2.2.1.hash.kp K2.out.drew) (H.out.2.2.2.2.2.2.2.1.parts.kp K2.out.drew) H.out.1.total.1 (by have := H.out.1.total.2; omega) (by have := H.out.1.parts.2; omega) (by have := H.out.1.hash.2; omega)).mono ?_
  rintro e W3 ⟨rfl, hk0⟩
  have K3 := Lib.hid ((K2.out.drew).trans hk0)
  clear hk0
  go_wp2_with fail
  have hS0 := HS.out _ K3.out
  refine hK'.out _ _ hS0 ?_
  clear hK' K'
  try simp only [Act.put, List.setIfInBounds_toArray, List.set_cons_zero, List.set_cons_succ]
  refine wpAnyL_one (i := 15) (by kernel_rfl) rfl (fun K' hK' => ?_)
  go_simp
  refine (key_any B.total (.slice bh nbh cbh) (.slice bp nbp cbp) B.hash B.parts W3 (H.out.2.2.2.2.2.2.2.2.hash.kp K3.out) (H.out.2.2.2.2.2.2.2.2.parts.kp K3.out) H.out.2.1.total.1 (by have := H.out.2.1.total.2; omega) (by have := H.out.2.1.parts.2; omega) (by have := H.out.2.1.hash.2; omega)).mono ?_
  rintro e W4 ⟨rfl, hk0⟩
  have K4 := Lib.hid ((K3.out).trans hk0)
  clear hk0
  go_wp2_with fail
  have hS0 := HS.out _ K4.out
  refine hK'.out _ _ hS0 ?_
  clear hK' K'
  try simp only [Act.put, List.setIfInBounds_toArray, List.set_cons_zero, List.set_cons_succ]
  refine wpAnyL_one (i := 16) (by kernel_rfl) rfl (fun K' hK' => ?_)
  go_simp
  refine (strCompare_any (keyL A.hash A.total A.parts) (keyL B.hash B.total B.parts) W4).mono ?_
  rintro e W5 ⟨rfl, rfl⟩
  obtain ⟨c, hc⟩ : ∃ c, cmpB (keyV A) (keyV B) = c := ⟨_, rfl⟩
  rw [show cmpB (keyL A.hash A.total A.parts) (keyL B.hash B.total B.parts) = c from hc]
  have HC := Lib.hid hc
  clear hc
  go_wp2_with fail
  refine hK'.out _ _ hS0 ?_
  clear hK' K'
  try simp only [Act.put, List.setIfInBounds_toArray, List.set_cons_zero, List.set_cons_succ]
  refine wpAnyL_take (i := 17) (v := _) rfl (by kernel_rfl) (by kernel_rfl) (by kernel_rfl) (fun _ _ _ h => h) (Or.inl ⟨by rfl, fun W hSW => by go_simp; try with_reducible rfl⟩) hS0 ?_
  try simp only [Act.put, List.setIfInBounds_toArray, List.set_cons_zero, List.set_cons_succ]
  refine ⟨by kernel_rfl, NoPanic.normal ?_⟩
  change (Exit.then _ _) Exit.normal ⟨#[_, _, _, _, _, _, _, _, _, _, _, _, _, _, _, _, _, _, _, _, _, _, _, _, _, _, _, _, _, _, _, _, _, _, _, _, _, _, _, _, _, _, _, _, _, _, _, _, _, _, _, _, _, _, _, _], []⟩ W4
  clear HS hS0
  have h3 : c = -1 ∨ c = 0 ∨ c = 1 := by rw [← HC.out]; exact cmpB_three _ _
  rcases h3 with rfl | rfl | rfl
  · go_wp2_with fail
    go_ret
    exact ⟨.inl ⟨HC.out, rfl⟩, K4.out⟩
  · go_wp2_with fail
    refine (newErr_any _ W4).mono ?_
    rintro e W6 ⟨g, rfl, k6⟩
    have K6 := Lib.hid (K4.out.trans k6)
    clear k6
    go_wp2_with fail
    go_ret
    exact ⟨.inr ⟨by rw [HC.out]; decide, _, _, rfl⟩, K6.out⟩
  · go_wp2_with fail
    refine (newErr_any _ W4).mono ?_
    rintro e W6 ⟨g, rfl, k6⟩
    have K6 := Lib.hid (K4.out.trans k6)
    clear k6
    go_wp2_with fail
    go_ret
    exact ⟨.inr ⟨by rw [HC.out]; decide, _, _, rfl⟩, K6.out⟩

theorem evValid_any (A B : VD) (okA : A.ok) (okB : B.ok) (fA : A.fit) (fB : B.fit) (vah vap vaa vas vbh vbp vba vbs : Value) (x y z : Int) (w : World) (hA : VoteB w A vah vap vaa vas) (hB : VoteB w B vbh vbp vba vbs) :
    Calls Tryz.prog 16 #[.agg (eviV A B vah vap vaa vas vbh vbp vba vbs x y z)] w (Answers (fun r _ => r = true ↔ cmpB (keyV A) (keyV B) = -1) w) := by
  have H := Lib.hid (And.intro okA (And.intro okB (And.intro fA (And.intro fB (And.intro hA hB)))))
  have hs : (eviV A B vah vap vaa vas vbh vbp vba vbs x y z).size = 27 := rfl
  have HT := Lib.hid (fun (W : World) (k : Kp [] w W) => toEvi_any A B okA okB vah vap vaa vas vbh vbp vba vbs x y z W (hA.kp k) (hB.kp k))
  clear okA okB fA fB hA hB
  generalize (eviV A B vah vap vaa vas vbh vbp vba vbs x y z) = cs at *
  go_enter Tryz.func16, Tryz.ntmps16
  go_upto_region 1 with fail
  have hb := Blk.new w cs 39
  have k0 := (Kp.refl [] w).alloc (.cells cs 39)
  generalize w.alloc (.cells cs 39) = wA at *
  obtain ⟨p, ep⟩ : ∃ p, p = w.heap.size := ⟨_, rfl⟩
  rw [← ep] at hb ⊢
  have H0 := Lib.hid (And.intro k0 hb)
  clear k0 hb ep
  go_wp2_with (refine kit_load rfl 39 (.tmp 1) rfl _ rfl p rfl cs 39 H0.out.2 _ Tryz.underlying39 rfl (by rw [hi39, hs]) ?_)
  refine (HT.out wA H0.out.1).mono ?_
  rintro e w1 ⟨q, ga, gb, rfl, hq, hga, hgb, k1⟩
  have K1 := Lib.hid (And.intro (H0.out.1.trans k1) (And.intro hq (And.intro hga hgb)))
  clear k1 hq hga hgb
  go_wp2_with fail
  refine (dveValid_any A B H.out.1 H.out.2.1 H.out.2.2.1 H.out.2.2.2.1 vah vap vaa vas vbh vbp vba vbs x y z q ga gb w1 K1.out.2.1 K1.out.2.2.1 K1.out.2.2.2 (H.out.2.2.2.2.1.kp K1.out.1) (H.out.2.2.2.2.2.kp K1.out.1)).mono ?_
  rintro e w2 ⟨⟨hP, rfl⟩ | ⟨hP, t, v, rfl⟩, k2⟩
  · have K2 := Lib.hid (And.intro (K1.out.1.trans k2) hP)
    clear k2 hP
    go_wp2_with fail
    go_ret
    exact ⟨true, rfl, ⟨fun _ => K2.out.2, fun _ => rfl⟩, K2.out.1⟩
  · have K2 := Lib.hid (And.intro (K1.out.1.trans k2) hP)
    clear k2 hP
    go_wp2_with fail
    go_ret
    exact ⟨false, rfl, ⟨fun h => absurd h (by decide), fun h => absurd h K2.out.2⟩, K2.out.1⟩
end Go.Proofs.YtfkaldaflnmfiaaGreatDoor
