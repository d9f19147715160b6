/- The contract of FnEviMade. Printed by gen/madefm.py. -/
import Derived.WalkKit
import Derived.WalkSpells
import Derived.WalkLawsBesides
import Derived.Handy
import Derived.Lib.Hide
import Derived.IntWalk
import Derived.Deep.DeepCutAuto
import Derived.Test.YtfkaldaflnmfiaaGreatDoorKM1
import Derived.Test.YtfkaldaflnmfiaaGreatDoorKM2
import Derived.Test.YtfkaldaflnmfiaaGreatDoorKM3
import Derived.Test.YtfkaldaflnmfiaaGreatDoorKM4
namespace Go.Proofs.YtfkaldaflnmfiaaGreatDoor
set_option linter.unusedSimpArgs false
set_option linter.unusedVariables false
open Go Go.RowKit
set_option maxRecDepth 100000

set_option maxHeartbeats 16000000 in
theorem made_any (kt : Nat → Int) (pa : Option Addr) (n c : Nat) (P : List Int) (x y : Sd) (tm : Int) (w : World) (hP : 0 < n → Byt w (.slice pa n c) P) (hn : n = P.length) (hb : Bs P) (hx : x.ok) (hy : y.ok) (htm : 0 ≤ tm ∧ tm ≤ 4294967295) (hten : Ten kt) (hE : Errs w) (hT : Tab kt w) :
    Calls Tryz.prog 4 #[.slice pa n c, .agg x.cells, .agg y.cells, .int .u32 tm] w fun e w' => e = .returned (.bool true) ∧ Kp [] w w' := by
  have H := Lib.hid (And.intro hP (And.intro hn (And.intro hb (And.intro hx (And.intro hy (And.intro hten (And.intro hE (And.intro hT htm))))))))
  have hwr : IntKind.i64.wrap tm = tm := IntWalk.i64_in _ (by omega)
  clear hP hn hb hx hy hten hE hT htm
  go_enter Tryz.func4, Tryz.ntmps4
  by_cases hbig : 2147483647 < n
  · have q1 : decide ((2147483647 : Int) < (n : Int)) = true := decide_eq_true (by omega)
    clear hbig
    go_wp2_with fail
    go_ret
    exact ⟨rfl, ((Kp.refl [] w).alloc _).alloc _⟩
  · have q1 : decide ((2147483647 : Int) < (n : Int)) = false := decide_eq_false (by omega)
    clear hbig
    by_cases hs : n = 0 ∨ 7 < n
    · have HS := Lib.hid hs
      clear hs
      go_wp2_with fail
      refine (eviSet_none pa n c _ HS.out).mono ?_
      rintro e w1 ⟨rfl, k1⟩
      have K1 := Lib.hid ((((Kp.refl [] w).alloc (.cells x.cells 24)).alloc (.cells y.cells 24)).trans k1)
      clear k1
      rcases HS.out with h0 | h7
      · subst h0
        go_wp2_with fail
        go_ret
        exact ⟨rfl, K1.out.alloc _⟩
      · have q2 : decide ((n : Int) < 1) = false := decide_eq_false (by omega)
        have q3 : decide ((7 : Int) < (n : Int)) = true := decide_eq_true (by omega)
        go_wp2_with fail
        go_ret
        exact ⟨rfl, K1.out.alloc _⟩
    · have hn0 : 0 < n := by omega
      have hn1 : n ≤ 7 := by omega
      clear hs
      go_wp2_with fail
      have k0 := ((Kp.refl [] w).alloc (.cells x.cells 24)).alloc (.cells y.cells 24)
      have hgx := (Blk.new w x.cells 24).alloc (.cells y.cells 24)
      have hgy := Blk.new (w.alloc (.cells x.cells 24)) y.cells 24
      rw [show (w.alloc (.cells x.cells 24)).heap.size = w.heap.size + 1 by simp] at hgy
      generalize (w.alloc (.cells x.cells 24)).alloc (.cells y.cells 24) = w0 at *
      obtain ⟨gx, egx⟩ : ∃ g, g = w.heap.size := ⟨_, rfl⟩
      rw [← egx] at hgx hgy ⊢
      have H0 := Lib.hid (And.intro k0 (And.intro hgx hgy))
      clear k0 hgx hgy egx
      refine (eviSet_any kt pa n c P w0 ((H.out.1 hn0).kp H0.out.1) H.out.2.1 hn0 hn1 H.out.2.2.1 H.out.2.2.2.2.2.1 (H.out.2.2.2.2.2.2.2.1.kp H0.out.1)).mono ?_
      rintro e w1 ⟨v, pi, Ls, b2, c2, Q, rfl, hv, hkp, hq, hql, hqp, p0, p1, k1⟩
      obtain ⟨vb, vc, rfl, hva⟩ := hv
      have hl : Ls.length = n := by
        have := hkp.length_eq
        simpa [KP_length] using this
      rw [hl]
      have H1 := Lib.hid (And.intro hva (And.intro hkp (And.intro hl (And.intro hq (And.intro hql (And.intro hqp (And.intro p0 (And.intro p1 k1))))))))
      clear hva hkp hq hql hqp k1 hl p0 p1
      unfold spS
      have k2 := H1.out.2.2.2.2.2.2.2.2.alloc (.cells #[.slice (some ⟨vb, 0, none⟩) n vc, .int .i64 pi] 27)
      have hb2 := Blk.new w1 #[.slice (some ⟨vb, 0, none⟩) n vc, .int .i64 pi] 27
      have hv2 := H1.out.1.kp ((Kp.refl [] w1).alloc (.cells #[.slice (some ⟨vb, 0, none⟩) n vc, .int .i64 pi] 27))
      have hq2 := H1.out.2.2.2.1.kp ((Kp.refl [] w1).alloc (.cells #[.slice (some ⟨vb, 0, none⟩) n vc, .int .i64 pi] 27))
      have H2 := Lib.hid (And.intro k2 (And.intro hb2 (And.intro hv2 hq2)))
      clear k2 hb2 hv2 hq2
      go_wp2_with (refine kit_load rfl 24 (.tmp 5) rfl _ rfl gx rfl x.cells 24 (H2.out.1.blk H0.out.2.1 (by simp)) _ Tryz.underlying24 rfl hi24 ?_)
      generalize w1.alloc (.cells #[.slice (some ⟨vb, 0, none⟩) n vc, .int .i64 pi] 27) = w2 at *
      obtain ⟨g2, eg2⟩ : ∃ g, g = w1.heap.size := ⟨_, rfl⟩
      rw [← eg2] at H2 ⊢
      clear eg2
      refine (eviVote_any kt x H.out.2.2.2.1 w2 (H.out.2.2.2.2.2.2.2.1.kp (H0.out.1.trans H2.out.1))).mono ?_
      rintro e w3 ⟨vh1, vp1, va1, vs1, sg1, r1, rfl, bs1, l1, hV1, hr1, hs1, k3⟩
      obtain ⟨ah, nah, cah, rfl⟩ := hV1.hash.form
      obtain ⟨ap, nap, cap, rfl⟩ := hV1.parts.form
      obtain ⟨aa, naa, caa, rfl⟩ := hV1.addr.form
      obtain ⟨as_, nas, cas, rfl⟩ := hV1.sig.form
      have H3 := Lib.hid (And.intro bs1 (And.intro l1 (And.intro hV1 (And.intro hr1 k3))))
      clear bs1 l1 hV1 hr1 hs1 k3
      go_wp2_with (first
        | (refine kit_store_last rfl 35 _ _ rfl rfl w3.heap.size (voteV (x.vd kt sg1) (.slice ah nah cah) (.slice ap nap cap) (.slice aa naa caa) (.slice as_ nas cas)) voteZ rfl rfl rfl hi35 rfl (vote_one _ _ _ _ _ _ _ _ _ _ _ _ _) ?_
           have k4 := (H2.out.1.trans H3.out.2.2.2.2).alloc (.cells (voteV (x.vd kt sg1) (.slice ah nah cah) (.slice ap nap cap) (.slice aa naa caa) (.slice as_ nas cas)) 35)
           have k24 := H3.out.2.2.2.2.alloc (.cells (voteV (x.vd kt sg1) (.slice ah nah cah) (.slice ap nap cap) (.slice aa naa caa) (.slice as_ nas cas)) 35)
           have hb4 := Blk.new w3 (voteV (x.vd kt sg1) (.slice ah nah cah) (.slice ap nap cap) (.slice aa naa caa) (.slice as_ nas cas)) 35
           have hV4 := H3.out.2.2.1.kp ((Kp.refl [] w3).alloc (.cells (voteV (x.vd kt sg1) (.slice ah nah cah) (.slice ap nap cap) (.slice aa naa caa) (.slice as_ nas cas)) 35))
           generalize w3.alloc (.cells (voteV (x.vd kt sg1) (.slice ah nah cah) (.slice ap nap cap) (.slice aa naa caa) (.slice as_ nas cas)) 35) = w4 at *
           obtain ⟨gA, eg4⟩ : ∃ g, g = w3.heap.size := ⟨_, rfl⟩
           rw [← eg4] at hb4 ⊢
           have H4 := Lib.hid (And.intro k4 (And.intro hb4 (And.intro hV4 k24)))
           clear k4 hb4 hV4 eg4 k24)
        | (refine kit_load rfl 24 (.tmp 6) rfl _ rfl (gx + 1) rfl y.cells 24 (H4.out.1.blk H0.out.2.2 (by simp)) _ Tryz.underlying24 rfl hi24 ?_))
      refine (eviVote_any kt y H.out.2.2.2.2.1 w4 (H.out.2.2.2.2.2.2.2.1.kp (H0.out.1.trans H4.out.1))).mono ?_
      rintro e w5 ⟨vh2, vp2, va2, vs2, sg2, r2, rfl, bs2, l2, hV2, hr2, hs2, k5⟩
      obtain ⟨bh, nbh, cbh, rfl⟩ := hV2.hash.form
      obtain ⟨bp, nbp, cbp, rfl⟩ := hV2.parts.form
      obtain ⟨ba, nba, cba, rfl⟩ := hV2.addr.form
      obtain ⟨bs_, nbs, cbs, rfl⟩ := hV2.sig.form
      have H5 := Lib.hid (And.intro bs2 (And.intro l2 (And.intro hV2 (And.intro hr2 k5))))
      clear bs2 l2 hV2 hr2 hs2 k5
      go_wp2_with (first
        | (refine kit_store_last rfl 35 _ _ rfl rfl w5.heap.size (voteV (y.vd kt sg2) (.slice bh nbh cbh) (.slice bp nbp cbp) (.slice ba nba cba) (.slice bs_ nbs cbs)) voteZ rfl rfl rfl hi35 rfl (vote_one _ _ _ _ _ _ _ _ _ _ _ _ _) ?_
           have k6 := H5.out.2.2.2.2.alloc (.cells (voteV (y.vd kt sg2) (.slice bh nbh cbh) (.slice bp nbp cbp) (.slice ba nba cba) (.slice bs_ nbs cbs)) 35)
           have hb6 := Blk.new w5 (voteV (y.vd kt sg2) (.slice bh nbh cbh) (.slice bp nbp cbp) (.slice ba nba cba) (.slice bs_ nbs cbs)) 35
           have hV6 := H5.out.2.2.1.kp ((Kp.refl [] w5).alloc (.cells (voteV (y.vd kt sg2) (.slice bh nbh cbh) (.slice bp nbp cbp) (.slice ba nba cba) (.slice bs_ nbs cbs)) 35))
           generalize w5.alloc (.cells (voteV (y.vd kt sg2) (.slice bh nbh cbh) (.slice bp nbp cbp) (.slice ba nba cba) (.slice bs_ nbs cbs)) 35) = w6 at *
           obtain ⟨gB, eg6⟩ : ∃ g, g = w5.heap.size := ⟨_, rfl⟩
           rw [← eg6] at hb6 ⊢
           have H6 := Lib.hid (And.intro (k6.blk H4.out.2.1 (by simp)) (And.intro hb6 (And.intro hV6 (And.intro (H4.out.2.2.1.kp k6) (And.intro (H4.out.2.2.2.trans k6) (H4.out.1.trans k6))))))
           clear k6 hb6 hV6 eg6)
        | (refine kit_load rfl 35 (.tmp 12) rfl _ rfl gA rfl (voteV (x.vd kt sg1) (.slice ah nah cah) (.slice ap nap cap) (.slice aa naa caa) (.slice as_ nas cas)) 35 H6.out.1 _ Tryz.underlying35 rfl hi35 ?_)
        | (refine kit_load rfl 35 (.tmp 14) rfl _ rfl gB rfl (voteV (y.vd kt sg2) (.slice bh nbh cbh) (.slice bp nbp cbp) (.slice ba nba cba) (.slice bs_ nbs cbs)) 35 H6.out.2.1 _ Tryz.underlying35 rfl hi35 ?_)
        | (refine kit_load rfl 27 (.tmp 9) rfl _ rfl g2 rfl #[.slice (some ⟨vb, 0, none⟩) n vc, .int .i64 pi] 27 (H6.out.2.2.2.2.1.blk H2.out.2.1 (by simp)) _ Tryz.underlying27 rfl hi27 ?_))
      -- H6: A's block, B's block, B's slices, A's slices, Kp [] w2 w6, Kp [] w w6... 
      have okA := Sd.vd_ok (kt := kt) H.out.2.2.2.1 H3.out.1 (by rw [H3.out.2.1]; omega)
      have okB := Sd.vd_ok (kt := kt) H.out.2.2.2.2.1 H5.out.1 (by rw [H5.out.2.1]; omega)
      have fA := Sd.fit (kt := kt) H.out.2.2.2.1 H3.out.2.1
      have fB := Sd.fit (kt := kt) H.out.2.2.2.2.1 H5.out.2.1
      have HAB := Lib.hid (And.intro okA (And.intro okB (And.intro fA fB)))
      have HQ := Lib.hid (spok_of H.out.2.2.1 H1.out.2.2.2.2.2.1)
      have hp : ∀ S ∈ Ls, 1 ≤ S.pow ∧ S.pow ≤ 1000 := seas_pow H.out.2.2.1 H1.out.2.1
      have HPW := Lib.hid hp
      have HSEA := Lib.hid (fun (W : World) (k : Kp [] w2 W) => (show SeaR W (.slice (some ⟨vb, 0, none⟩) n vc) Ls from ⟨vb, vc, by rw [H1.out.2.2.1], H2.out.2.2.1.kp k⟩))
      have kw6 : Kp [] w w6 := H0.out.1.trans H6.out.2.2.2.2.2
      have KW6 := Lib.hid kw6
      clear okA okB fA fB hp kw6
      refine (dupl_any kt (x.vd kt sg1) (y.vd kt sg2) HAB.out.1 HAB.out.2.1 _ _ _ _ _ _ _ _ tm pi (.slice (some ⟨vb, 0, none⟩) n vc) n Ls w6 H6.out.2.2.2.1 H6.out.2.2.1 (HSEA.out w6 H6.out.2.2.2.2.1) H1.out.2.2.1.symm hn0 (by omega) HPW.out ⟨H1.out.2.2.2.2.2.2.1, H1.out.2.2.2.2.2.2.2.1⟩ (H.out.2.2.2.2.2.2.2.1.kp KW6.out)).mono ?_
      rintro e w7 ⟨hd, k7⟩
      have K7 := Lib.hid k7
      clear k7
      rcases hd with ⟨V, X, Y, zz1, zz2, zz3, zz4, zz5, zz6, zz7, zz8, hV, hVa, hXY, hX, hY, rfl⟩ | ⟨hno, rfl⟩
      case inr =>
        have HNO := Lib.hid hno
        clear hno
        go_wp2_with (first
          | (refine kit_store_last rfl 39 _ _ rfl rfl w7.heap.size eviZ eviZ rfl rfl rfl hi39 rfl (by kernel_rfl) ?_
             have k8 : Kp [] w6 (w7.alloc (.cells eviZ 39)) := K7.out.alloc _
             generalize w7.alloc (.cells eviZ 39) = w8 at *
             have K8 := Lib.hid k8
             have h4c : ∀ W, Kp [] w8 W → W.cell? ⟨gA, 7, none⟩ = some (.slice aa naa caa) := (k8.blk H6.out.1 (by simp)).all 7 rfl
             have hcv : ∀ W, Kp [] w8 W → (convert 22 9 (.slice aa naa caa)).run Tryz.prog W = .ok (.string (strOfNums (x.vd kt sg1).addr)) W := fun W kW => run_string W (H6.out.2.2.2.1.addr.kp (K8.out.trans kW)) 22 Tryz.underlying22
             clear k8))
        clear h4c hcv
        refine (find_any b2 c2 n Q (x.vd kt sg1).addr w8 (H2.out.2.2.2.kp (H6.out.2.2.2.2.1.trans K8.out)) H1.out.2.2.2.2.1.symm (by omega) (fun S hS => (HQ.out S hS).1) HAB.out.1.addr.1).mono ?_
        rintro e w9 ⟨⟨r, rfl, hf⟩, k9⟩
        obtain rfl : r = -1 := none_law H1.out.2.1 H1.out.2.2.2.2.2.1 HNO.out hf
        have K9 := Lib.hid (KW6.out.trans (K8.out.trans k9))
        clear k9 hf
        go_wp2_with fail
        refine (stands_any kt w9 H.out.2.2.2.2.2.1 (H.out.2.2.2.2.2.2.1.kp K9.out) (H.out.2.2.2.2.2.2.2.1.kp K9.out)).mono ?_
        rintro e w10 ⟨rfl, k10⟩
        have K10 := Lib.hid (K9.out.trans k10)
        clear k10
        go_wp2_with fail
        go_ret
        exact ⟨rfl, K10.out⟩
      case inl =>
        obtain ⟨xh, nxh, cxh, rfl⟩ := hX.hash.form
        obtain ⟨xp, nxp, cxp, rfl⟩ := hX.parts.form
        obtain ⟨xa, nxa, cxa, rfl⟩ := hX.addr.form
        obtain ⟨xs_, nxs, cxs, rfl⟩ := hX.sig.form
        obtain ⟨yh, nyh, cyh, rfl⟩ := hY.hash.form
        obtain ⟨yp, nyp, cyp, rfl⟩ := hY.parts.form
        obtain ⟨ya, nya, cya, rfl⟩ := hY.addr.form
        obtain ⟨ys_, nys, cys, rfl⟩ := hY.sig.form
        have hX0 : X.ok ∧ Y.ok ∧ X.fit ∧ Y.fit := by
          rcases hXY with ⟨rfl, rfl, _⟩ | ⟨rfl, rfl, _⟩
          · exact HAB.out
          · exact ⟨HAB.out.2.1, HAB.out.1, HAB.out.2.2.2, HAB.out.2.2.1⟩
        obtain ⟨tot, etot⟩ : ∃ t, ((Ls.map Sea.kp2).map Prod.snd).sum = t := ⟨_, rfl⟩
        obtain ⟨pw, epw⟩ : ∃ t, V.2 = t := ⟨_, rfl⟩
        rw [etot, epw]
        have HX := Lib.hid (And.intro hX0 (And.intro hX (And.intro hY (And.intro hXY (And.intro hV (And.intro hVa (And.intro etot epw)))))))
        clear hX0 hX hY hXY hV hVa etot epw
        go_wp2_with (first
          | (refine kit_store_last rfl 39 _ _ rfl rfl w7.heap.size (eviV X Y (.slice xh nxh cxh) (.slice xp nxp cxp) (.slice xa nxa cxa) (.slice xs_ nxs cxs) (.slice yh nyh cyh) (.slice yp nyp cyp) (.slice ya nya cya) (.slice ys_ nys cys) tot pw tm) eviZ rfl rfl rfl hi39 rfl (evi_one _ _ _ _ _ _ _ _ _ _ _ _ _ _ _ _ _ _ _ _ _ _ _ _ _ _ _ _ _) ?_
             have k8 : Kp [] w7 (w7.alloc (.cells (eviV X Y (.slice xh nxh cxh) (.slice xp nxp cxp) (.slice xa nxa cxa) (.slice xs_ nxs cxs) (.slice yh nyh cyh) (.slice yp nyp cyp) (.slice ya nya cya) (.slice ys_ nys cys) tot pw tm) 39)) := (Kp.refl [] w7).alloc _
             have hb8 := Blk.new w7 (eviV X Y (.slice xh nxh cxh) (.slice xp nxp cxp) (.slice xa nxa cxa) (.slice xs_ nxs cxs) (.slice yh nyh cyh) (.slice yp nyp cyp) (.slice ya nya cya) (.slice ys_ nys cys) tot pw tm) 39
             generalize w7.alloc (.cells (eviV X Y (.slice xh nxh cxh) (.slice xp nxp cxp) (.slice xa nxa cxa) (.slice xs_ nxs cxs) (.slice yh nyh cyh) (.slice yp nyp cyp) (.slice ya nya cya) (.slice ys_ nys cys) tot pw tm) 39) = w8 at *
             obtain ⟨gE, eg8⟩ : ∃ g, g = w7.heap.size := ⟨_, rfl⟩
             rw [← eg8] at hb8 ⊢
             have h4c : ∀ W, Kp [] w8 W → W.cell? ⟨gA, 7, none⟩ = some (.slice aa naa caa) := ((K7.out.trans k8).blk H6.out.1 (by simp)).all 7 rfl
             have hcv : ∀ W, Kp [] w8 W → (convert 22 9 (.slice aa naa caa)).run Tryz.prog W = .ok (.string (strOfNums (x.vd kt sg1).addr)) W := fun W kW => run_string W (H6.out.2.2.2.1.addr.kp (K7.out.trans (k8.trans kW))) 22 Tryz.underlying22
             have H8 := Lib.hid (And.intro k8 hb8)
             clear k8 hb8 eg8))
        clear h4c hcv
        -- what all later regions read
        have HR := Lib.hid (fun (W : World) (k : Kp [] w8 W) => And.intro ((K7.out.trans (H8.out.1.trans k)).blk H6.out.1 (by simp)) (And.intro ((K7.out.trans (H8.out.1.trans k)).blk H6.out.2.1 (by simp)) (And.intro (k.blk H8.out.2 (by simp)) (And.intro (H6.out.2.2.2.1.kp (K7.out.trans (H8.out.1.trans k))) (And.intro (H6.out.2.2.1.kp (K7.out.trans (H8.out.1.trans k))) (And.intro (HX.out.2.1.kp (H8.out.1.trans k)) (HX.out.2.2.1.kp (H8.out.1.trans k))))))))
        have K28 := Lib.hid (H6.out.2.2.2.2.1.trans (K7.out.trans H8.out.1))
        have KW8 := Lib.hid (KW6.out.trans (K7.out.trans H8.out.1))
        refine (find_any b2 c2 n Q (x.vd kt sg1).addr w8 (H2.out.2.2.2.kp K28.out) H1.out.2.2.2.2.1.symm (by omega) (fun S hS => (HQ.out S hS).1) HAB.out.1.addr.1).mono ?_
        rintro e w9 ⟨⟨r, rfl, hf⟩, k9⟩
        obtain ⟨i, Sx, rfl, hSi, hSa, hSp⟩ := found_law H.out.2.2.2.2.2.1 hn1 H1.out.2.1 H1.out.2.2.2.2.2.1 HX.out.2.2.2.2.1 HX.out.2.2.2.2.2.1 hf
        have hlaw := made_law H.out.2.2.2.2.2.1 hn1 H1.out.2.1 H1.out.2.2.2.2.2.1 H.out.2.2.2.1 H.out.2.2.2.2.1 H3.out.2.2.2.1 H5.out.2.2.2.1 HX.out.2.2.2.2.1 HX.out.2.2.2.2.2.1 hf HX.out.2.2.2.1
        have hsum := sum_law H1.out.2.1 H1.out.2.2.2.2.2.1
        have H9 := Lib.hid (And.intro k9 (And.intro hSi (And.intro (hSp.trans HX.out.2.2.2.2.2.2.2) (And.intro hlaw (hsum.symm.trans HX.out.2.2.2.2.2.2.1)))))
        have zi : decide ((0 : Int) ≤ (i : Int)) = true := decide_eq_true (by omega)
        have a3 : ∀ W, Kp [] w9 W → W.cell? ⟨gA, 3, none⟩ = some (.slice ah nah cah) := (HR.out w9 k9).1.all 3 rfl
        have a4 : ∀ W, Kp [] w9 W → W.cell? ⟨gA, 4, none⟩ = some (.int .i64 (x.vd kt sg1).total) := (HR.out w9 k9).1.all 4 rfl
        have a5 : ∀ W, Kp [] w9 W → W.cell? ⟨gA, 5, none⟩ = some (.slice ap nap cap) := (HR.out w9 k9).1.all 5 rfl
        have b3 : ∀ W, Kp [] w9 W → W.cell? ⟨gB, 3, none⟩ = some (.slice bh nbh cbh) := (HR.out w9 k9).2.1.all 3 rfl
        have b4 : ∀ W, Kp [] w9 W → W.cell? ⟨gB, 4, none⟩ = some (.int .i64 (y.vd kt sg2).total) := (HR.out w9 k9).2.1.all 4 rfl
        have b5 : ∀ W, Kp [] w9 W → W.cell? ⟨gB, 5, none⟩ = some (.slice bp nbp cbp) := (HR.out w9 k9).2.1.all 5 rfl
        clear hf hSi hSa hSp hlaw hsum k9
        go_wp2_with fail
        clear a3 a4 a5 b3 b4 b5 zi
        refine (sameID_any (x.vd kt sg1).total (y.vd kt sg2).total _ _ _ _ (x.vd kt sg1).hash (y.vd kt sg2).hash (x.vd kt sg1).parts (y.vd kt sg2).parts w9 (HR.out w9 H9.out.1).2.2.2.1.hash (HR.out w9 H9.out.1).2.2.2.2.1.hash (HR.out w9 H9.out.1).2.2.2.1.parts (HR.out w9 H9.out.1).2.2.2.2.1.parts HAB.out.1.hash.1 HAB.out.2.1.hash.1 HAB.out.1.parts.1 HAB.out.2.1.parts.1).mono ?_
        rintro e w10 ⟨rfl, k10⟩
        obtain ⟨sm, esm⟩ : ∃ b : Bool, decide ((x.vd kt sg1).hash = (y.vd kt sg2).hash ∧ (x.vd kt sg1).total = (y.vd kt sg2).total ∧ (x.vd kt sg1).parts = (y.vd kt sg2).parts) = b := ⟨_, rfl⟩
        rw [esm]
        have hsm : sm = true ↔ SameB (x.vd kt sg1) (y.vd kt sg2) := by rw [← esm]; exact decide_eq_true_iff
        have HSM := Lib.hid hsm
        have K10 := Lib.hid (H9.out.1.trans k10)
        clear k10 esm hsm
        go_upto_region 15 with fail
        refine first_reg (x.vd kt sg1) (y.vd kt sg2) X Y HAB.out.1 HAB.out.2.1 HX.out.1.1 HX.out.1.2.1 gA gB gE _ _ _ _ _ _ _ _ _ _ _ _ _ _ _ _ _ _ _ _ _ _ _ _ _ _ _ _ _ _ _ _ _ _ _ _ _ _ _ _ _ _ _ _ _ _ _ _ tot pw tm w10 (HR.out _ K10.out).1 (HR.out _ K10.out).2.1 (HR.out _ K10.out).2.2.1 (HR.out _ K10.out).2.2.2.1 (HR.out _ K10.out).2.2.2.2.1 (HR.out _ K10.out).2.2.2.2.2.1 (HR.out _ K10.out).2.2.2.2.2.2 ?_
        intro v84 v85 v86 v87 v88 v89 v90 v91 v92 v93 q w11 k11 hq
        have K11 := Lib.hid (K10.out.trans k11)
        have hq0 : q = false → X = (y.vd kt sg2) ∧ Y = (x.vd kt sg1) := by
          intro hqf
          rcases HX.out.2.2.2.1 with ⟨h1, h2, _⟩ | ⟨h1, h2, _⟩
          · have := hq.2 ⟨h1 ▸ same1_refl _, h2 ▸ same1_refl _⟩
            rw [hqf] at this
            exact absurd this (by decide)
          · exact ⟨h1, h2⟩
        have HQ0 := Lib.hid hq0
        clear k11 hq hq0
        dsimp only
        go_wp2_with fail
        refine right_reg (x.vd kt sg1) (y.vd kt sg2) X Y HAB.out.1 HAB.out.2.1 HX.out.1.1 HX.out.1.2.1 gA gB gE _ _ _ _ _ _ _ _ _ _ _ _ _ _ _ _ _ _ _ _ _ _ _ _ _ _ _ _ _ _ _ _ _ _ _ _ _ _ _ _ _ _ _ _ _ _ _ _ tot pw tm w11 (HR.out _ K11.out).1 (HR.out _ K11.out).2.1 (HR.out _ K11.out).2.2.1 (HR.out _ K11.out).2.2.2.1 (HR.out _ K11.out).2.2.2.2.1 (HR.out _ K11.out).2.2.2.2.2.1 (HR.out _ K11.out).2.2.2.2.2.2 b2 n c2 i q Q Sx (H2.out.2.2.2.kp (K28.out.trans K11.out)) H1.out.2.2.2.2.1.symm (by omega) HQ.out H9.out.2.1 H9.out.2.2.1 H9.out.2.2.2.2 H.out.2.2.2.2.2.2.2.2 HQ0.out ?_
        intro v94 v95 v96 v97 v98 v99 v100 v101 v102 v103 v104 v105 v106 v107 v108 v109 v110 v111 v112 v113 v114 v115 v116 v117 v118 v119 v120 v121 v122 v123 v124 v125 v126 v127 v128 v129 v130 v131 w12 k12
        have K12 := Lib.hid (K11.out.trans k12)
        clear k12
        dsimp only
        go_upto_region 18 with fail
        rename_i Q9 K1 hK1 K2 hK2
        have cont : ∀ (y0 y1 y2 y4 y5 y6 y7 y8 y10 y11 y17 y18 y20 y21 y22 y23 y24 y25 y26 y27 y28 y29 y30 y31 y32 y33 y34 y35 y36 y37 y38 y39 y40 y41 y42 y43 y44 y45 y46 y47 y48 y49 y50 y51 y52 y53 y54 y55 y56 y57 y58 y59 y60 y61 y62 y63 y64 y65 y66 y67 y68 y69 y70 y71 y72 y73 y74 y75 y76 y77 y78 y79 y80 y81 y82 y83 y84 y85 y86 y87 y88 y89 y90 y91 y92 y93 y94 y95 y96 y97 y98 y99 y100 y101 y102 y103 y104 y105 y106 y107 y108 y109 y110 y111 y112 y113 y114 y115 y116 y117 y118 y119 y120 y121 y122 y123 y124 y125 y126 y127 y128 y129 y130 y131 y132 y133 y134 y135 y136 y137 y138 y139 y140 y141 y142 y143 y144 y145 y146 y147 y148 y149 y150 y151 y152 y153 y154 y155 y156 y157 y158 y159 y160 y161 y162 y163 y164 y165 y166 y167 y168 y169 y170 y171 y172 y173 y174 y175 y176 y177 y178 y179 y180 y181 y182 y183 y184 y185 y186 y187 y188 y189 y190 y191 y192 y193 y194 y195 y196 y197 y198 y199 y200 y201 y202 y203 y204 y205 y206 y207 y208 y209 y210 y211 y212 y213 y214 y215 y216 y217 y218 y219 y220 y221 y222 y223 y224 y225 y226 y227 y228 y229 y230 y231 y232 : Value) (W : World), Kp [] w12 W → K1 ⟨#[y0, y1, y2, .int .u32 tm, y4, y5, y6, y7, y8, .pointer (some ⟨g2, 0, none⟩), y10, y11, .pointer (some ⟨gA, 0, none⟩), .bool r1, .pointer (some ⟨gB, 0, none⟩), .bool r2, .pointer (some ⟨gE, 0, none⟩), y17, y18, .bool sm, y20, y21, y22, y23, y24, y25, y26, y27, y28, y29, y30, y31, y32, y33, y34, y35, y36, y37, y38, y39, y40, y41, y42, y43, y44, y45, y46, y47, y48, y49, y50, y51, y52, y53, y54, y55, y56, y57, y58, y59, y60, y61, y62, y63, y64, y65, y66, y67, y68, y69, y70, y71, y72, y73, y74, y75, y76, y77, y78, y79, y80, y81, y82, y83, y84, y85, y86, y87, y88, y89, y90, y91, y92, y93, y94, y95, y96, y97, y98, y99, y100, y101, y102, y103, y104, y105, y106, y107, y108, y109, y110, y111, y112, y113, y114, y115, y116, y117, y118, y119, y120, y121, y122, y123, y124, y125, y126, y127, y128, y129, y130, y131, y132, y133, y134, y135, y136, y137, y138, y139, y140, y141, y142, y143, y144, y145, y146, y147, y148, y149, y150, y151, y152, y153, y154, y155, y156, y157, y158, y159, y160, y161, y162, y163, y164, y165, y166, y167, y168, y169, y170, y171, y172, y173, y174, y175, y176, y177, y178, y179, y180, y181, y182, y183, y184, y185, y186, y187, y188, y189, y190, y191, y192, y193, y194, y195, y196, y197, y198, y199, y200, y201, y202, y203, y204, y205, y206, y207, y208, y209, y210, y211, y212, y213, y214, y215, y216, y217, y218, y219, y220, y221, y222, y223, y224, y225, y226, y227, y228, y229, y230, y231, y232], []⟩ W := by
          intro y0 y1 y2 y4 y5 y6 y7 y8 y10 y11 y17 y18 y20 y21 y22 y23 y24 y25 y26 y27 y28 y29 y30 y31 y32 y33 y34 y35 y36 y37 y38 y39 y40 y41 y42 y43 y44 y45 y46 y47 y48 y49 y50 y51 y52 y53 y54 y55 y56 y57 y58 y59 y60 y61 y62 y63 y64 y65 y66 y67 y68 y69 y70 y71 y72 y73 y74 y75 y76 y77 y78 y79 y80 y81 y82 y83 y84 y85 y86 y87 y88 y89 y90 y91 y92 y93 y94 y95 y96 y97 y98 y99 y100 y101 y102 y103 y104 y105 y106 y107 y108 y109 y110 y111 y112 y113 y114 y115 y116 y117 y118 y119 y120 y121 y122 y123 y124 y125 y126 y127 y128 y129 y130 y131 y132 y133 y134 y135 y136 y137 y138 y139 y140 y141 y142 y143 y144 y145 y146 y147 y148 y149 y150 y151 y152 y153 y154 y155 y156 y157 y158 y159 y160 y161 y162 y163 y164 y165 y166 y167 y168 y169 y170 y171 y172 y173 y174 y175 y176 y177 y178 y179 y180 y181 y182 y183 y184 y185 y186 y187 y188 y189 y190 y191 y192 y193 y194 y195 y196 y197 y198 y199 y200 y201 y202 y203 y204 y205 y206 y207 y208 y209 y210 y211 y212 y213 y214 y215 y216 y217 y218 y219 y220 y221 y222 y223 y224 y225 y226 y227 y228 y229 y230 y231 y232 w13 k13
          refine hK1 _ _ ?_
          clear hK1 hK2
          have K13 := Lib.hid (K12.out.trans k13)
          clear k13
          go_upto_region 22 with fail
          refine turn_reg X Y gE _ _ _ _ _ _ _ _ _ _ _ _ _ _ _ _ _ _ _ _ _ _ _ _ tot pw tm w13 (HR.out _ K13.out).2.2.1 ?_
          intro v161 v162 v163 v164 v165 v166 v167 v168 v169 v170 v171 gT w14 k14 hT14
          have K14 := Lib.hid (And.intro (K13.out.trans k14) hT14)
          clear k14 hT14
          dsimp only
          go_wp2_with (refine kit_load rfl 35 (.tmp 12) rfl _ rfl gA rfl (voteV (x.vd kt sg1) (.slice ah nah cah) (.slice ap nap cap) (.slice aa naa caa) (.slice as_ nas cas)) 35 (HR.out _ K14.out.1).1 _ Tryz.underlying35 rfl hi35 ?_)
          refine (voteOk_any (x.vd kt sg1) HAB.out.1 HAB.out.2.2.1 _ _ _ _ w14 (HR.out _ K14.out.1).2.2.2.1).mono ?_
          rintro e w15 ⟨rfl, k15⟩
          have K15 := Lib.hid (And.intro (K14.out.1.trans k15) (k15.blk K14.out.2 (by simp)))
          clear k15
          go_wp2_with (refine kit_load_w (by kernel_rfl) 35 (.tmp 14) rfl gB rfl (voteV (y.vd kt sg2) (.slice bh nbh cbh) (.slice bp nbp cbp) (.slice ba nba cba) (.slice bs_ nbs cbs)) 35 (HR.out _ K15.out.1).2.1 _ Tryz.underlying35 rfl hi35 ?_)
          refine (voteOk_any (y.vd kt sg2) HAB.out.2.1 HAB.out.2.2.2 _ _ _ _ w15 (HR.out _ K15.out.1).2.2.2.2.1).mono ?_
          rintro e w16 ⟨rfl, k16⟩
          have K16 := Lib.hid (And.intro (K15.out.1.trans k16) (k16.blk K15.out.2 (by simp)))
          clear k16
          go_upto_region 24 with fail
          refine valid_reg (x.vd kt sg1) (y.vd kt sg2) X Y HAB.out.1 HAB.out.2.1 HX.out.1.1 HX.out.1.2.1 HX.out.1.2.2.1 HX.out.1.2.2.2 gE gT _ _ _ _ _ _ _ _ _ _ _ _ _ _ _ _ _ _ _ _ _ _ _ _ tot pw tm w16 (HR.out _ K16.out.1).2.2.1 K16.out.2 (HR.out _ K16.out.1).2.2.2.2.2.1 (HR.out _ K16.out.1).2.2.2.2.2.2 sm (Sd.lens kt _ _) (Sd.lens kt _ _) HX.out.2.2.2.1 HSM.out ?_
          intro v178 v179 v180 v181 v182 v183 v184 v185 v186 v187 v188 w17 k17
          have K17 := Lib.hid (K16.out.1.trans k17)
          clear k17
          dsimp only
          go_upto_region 26 with fail
          refine wants_reg (x.vd kt sg1) (y.vd kt sg2) HAB.out.1 HAB.out.2.1 gA gB _ _ _ _ _ _ _ _ _ _ _ _ _ _ _ _ _ _ _ _ _ _ _ _ sm r1 r2 w17 (HR.out _ K17.out).1 (HR.out _ K17.out).2.1 (HR.out _ K17.out).2.2.2.1 (HR.out _ K17.out).2.2.2.2.1 ?_
          intro v190 v191 v192 v193 v194 v195 v196 v197 v198 v199 v200 v201 v202 v203 v204 v205 v206 v207 v208 v209 v210 v211 v212 v213 v214 v215 v216 v217 v218 v219 v220 v221 v222 v223 v224 v225 v226 v227 q2 w18 k18 hq2
          have K18 := Lib.hid (K17.out.trans k18)
          have hns : sm = false ↔ ¬ SameB (x.vd kt sg1) (y.vd kt sg2) := by
            rw [← HSM.out]
            cases sm <;> simp
          rw [hns] at hq2
          have HQ2 := Lib.hid (hq2.trans H9.out.2.2.2.1)
          clear k18 hq2 hns
          dsimp only
          go_wp2_with (first
            | (refine kit_load rfl 39 (.tmp 16) rfl _ rfl gE rfl (eviV X Y (.slice xh nxh cxh) (.slice xp nxp cxp) (.slice xa nxa cxa) (.slice xs_ nxs cxs) (.slice yh nyh cyh) (.slice yp nyp cyp) (.slice ya nya cya) (.slice ys_ nys cys) tot pw tm) 39 (HR.out _ K18.out).2.2.1 _ Tryz.underlying39 rfl hi39 ?_)
            | (refine kit_load rfl 27 (.tmp 9) rfl _ rfl g2 rfl #[.slice (some ⟨vb, 0, none⟩) n vc, .int .i64 pi] 27 ((K28.out.trans K18.out).blk H2.out.2.1 (by simp)) _ Tryz.underlying27 rfl hi27 ?_))
          have kw18 : Kp [] w w18 := KW8.out.trans K18.out
          have hlX : Lens X ∧ Lens Y := by
            rcases HX.out.2.2.2.1 with ⟨rfl, rfl, _⟩ | ⟨rfl, rfl, _⟩
            · exact ⟨Sd.lens kt _ _, Sd.lens kt _ _⟩
            · exact ⟨Sd.lens kt _ _, Sd.lens kt _ _⟩
          refine (verE_any kt X Y HX.out.1.1 HX.out.1.2.1 hlX.1 hlX.2 _ _ _ _ _ _ _ _ tot pw tm pi _ n Ls w18 (HR.out _ K18.out).2.2.2.2.2.1 (HR.out _ K18.out).2.2.2.2.2.2 (HSEA.out w18 (K28.out.trans K18.out)) H1.out.2.2.1.symm hn0 (by omega) HPW.out (seas_apart H.out.2.2.2.2.2.1 hn1 H1.out.2.1) ⟨H1.out.2.2.2.2.2.2.1, H1.out.2.2.2.2.2.2.2.1⟩ (H.out.2.2.2.2.2.2.1.kp kw18) (H.out.2.2.2.2.2.2.2.1.kp kw18)).mono ?_
          rintro e w19 ⟨r3, rfl, hr3, k19⟩
          obtain rfl : r3 = q2 := by
            have h0 := HQ2.out
            rw [HX.out.2.2.2.2.2.2.1, HX.out.2.2.2.2.2.2.2] at h0
            have h1 := hr3.trans h0.symm
            cases r3 <;> cases q2 <;> simp_all
          have HK19 := Lib.hid (kw18.trans k19)
          have hqq : (r3 == r3) = true := beq_self_eq_true r3
          clear hr3 k19 kw18 hlX
          go_wp2_with fail
          go_ret
          exact ⟨rfl, HK19.out⟩
        refine swap_reg hK2 kt P H.out.2.2.2.2.2.1 (x.vd kt sg1) (y.vd kt sg2) X Y HAB.out.1 HAB.out.2.1 HX.out.1.1 HX.out.1.2.1 gA gB gE _ _ _ _ _ _ _ _ _ _ _ _ _ _ _ _ _ _ _ _ _ _ _ _ _ _ _ _ _ _ _ _ _ _ _ _ _ _ _ _ _ _ _ _ _ _ _ _ tot pw tm w12 (HR.out _ K12.out).1 (HR.out _ K12.out).2.1 (HR.out _ K12.out).2.2.1 (HR.out _ K12.out).2.2.2.1 (HR.out _ K12.out).2.2.2.2.1 (HR.out _ K12.out).2.2.2.2.2.1 (HR.out _ K12.out).2.2.2.2.2.2 g2 n (.slice (some ⟨vb, 0, none⟩) n vc) pi sm Ls V ((K28.out.trans K12.out).blk H2.out.2.1 (by simp)) (HSEA.out w12 (K28.out.trans K12.out)) H1.out.2.2.1.symm hn0 hn1 HPW.out H1.out.2.1 ⟨H1.out.2.2.2.2.2.2.1, H1.out.2.2.2.2.2.2.2.1⟩ (H.out.2.2.2.2.2.2.2.1.kp (KW8.out.trans K12.out)) HX.out.2.2.2.2.1 HX.out.2.2.2.2.2.1 HX.out.2.2.2.2.2.2.1 HX.out.2.2.2.2.2.2.2 H.out.2.2.2.2.2.2.2.2 (Sd.lens kt _ _) (Sd.lens kt _ _) HX.out.2.2.2.1 HSM.out ?_
        intro v21 v22 v133 v134 v135 v136 v137 v138 v139 v140 v141 v142 v143 v144 v145 v146 v147 v148 v149 v150 v151 v152 v153 v154 v155 v156 v157 v158 v159 v160 w13 k13
        exact cont _ _ _ _ _ _ _ _ _ _ _ _ _ _ _ _ _ _ _ _ _ _ _ _ _ _ _ _ _ _ _ _ _ _ _ _ _ _ _ _ _ _ _ _ _ _ _ _ _ _ _ _ _ _ _ _ _ _ _ _ _ _ _ _ _ _ _ _ _ _ _ _ _ _ _ _ _ _ _ _ _ _ _ _ _ _ _ _ _ _ _ _ _ _ _ _ _ _ _ _ _ _ _ _ _ _ _ _ _ _ _ _ _ _ _ _ _ _ _ _ _ _ _ _ _ _ _ _ _ _ _ _ _ _ _ _ _ _ _ _ _ _ _ _ _ _ _ _ _ _ _ _ _ _ _ _ _ _ _ _ _ _ _ _ _ _ _ _ _ _ _ _ _ _ _ _ _ _ _ _ _ _ _ _ _ _ _ _ _ _ _ _ _ _ _ _ _ _ _ _ _ _ _ _ _ _ _ _ _ _ _ _ _ _ _ _ _ _ _ _ _ _ _ _ _ w13 k13
end Go.Proofs.YtfkaldaflnmfiaaGreatDoor
