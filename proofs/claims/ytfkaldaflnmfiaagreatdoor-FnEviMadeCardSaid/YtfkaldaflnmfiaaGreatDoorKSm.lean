/- The contract of eviSame: true at two pieces of evidence that hold the same. Printed by gen/evisame.py. -/
import Derived.WalkKit
import Derived.WalkSpells
import Derived.WalkLawsBesides
import Derived.Handy
import Derived.Lib.Hide
import Derived.IntWalk
import Derived.Deep.DeepCutAuto
import Derived.Test.YtfkaldaflnmfiaaGreatDoorKPv
import Derived.Test.YtfkaldaflnmfiaaGreatDoorKSt
namespace Go.Proofs.YtfkaldaflnmfiaaGreatDoor
set_option linter.unusedSimpArgs false
set_option linter.unusedVariables false
open Go Go.RowKit
set_option maxRecDepth 100000

theorem same1_refl (A : VD) : Same1 A A := ⟨rfl, rfl, rfl, ⟨rfl, rfl, rfl⟩, rfl, rfl, rfl, rfl⟩
set_option maxHeartbeats 8000000 in
theorem eviSame_true (A B : VD) (okA : A.ok) (okB : B.ok) (v1 v2 v3 v4 v5 v6 v7 v8 u1 u2 u3 u4 u5 u6 u7 u8 : Value) (x y z : Int) (w : World) (hA : VoteB w A v1 v2 v3 v4) (hB : VoteB w B v5 v6 v7 v8) (hA' : VoteB w A u1 u2 u3 u4) (hB' : VoteB w B u5 u6 u7 u8) :
    Calls Tryz.prog 14 #[.agg (eviV A B v1 v2 v3 v4 v5 v6 v7 v8 x y z), .agg (eviV A B u1 u2 u3 u4 u5 u6 u7 u8 x y z)] w fun e w' => e = .returned (.bool true) ∧ Kp [] w w' := by
  obtain ⟨kh, nkh, ckh, rfl⟩ := hA.hash.form
  obtain ⟨kp, nkp, ckp, rfl⟩ := hA.parts.form
  obtain ⟨ka, nka, cka, rfl⟩ := hA.addr.form
  obtain ⟨ks_, nks, cks, rfl⟩ := hA.sig.form
  obtain ⟨lh, nlh, clh, rfl⟩ := hB.hash.form
  obtain ⟨lp, nlp, clp, rfl⟩ := hB.parts.form
  obtain ⟨la, nla, cla, rfl⟩ := hB.addr.form
  obtain ⟨ls_, nls, cls, rfl⟩ := hB.sig.form
  obtain ⟨mh, nmh, cmh, rfl⟩ := hA'.hash.form
  obtain ⟨mp, nmp, cmp, rfl⟩ := hA'.parts.form
  obtain ⟨ma, nma, cma, rfl⟩ := hA'.addr.form
  obtain ⟨ms_, nms, cms, rfl⟩ := hA'.sig.form
  obtain ⟨rh, nrh, crh, rfl⟩ := hB'.hash.form
  obtain ⟨rp, nrp, crp, rfl⟩ := hB'.parts.form
  obtain ⟨ra, nra, cra, rfl⟩ := hB'.addr.form
  obtain ⟨rs_, nrs, crs, rfl⟩ := hB'.sig.form
  have H := Lib.hid (And.intro okA (And.intro okB (And.intro hA (And.intro hB (And.intro hA' hB')))))
  clear okA okB hA hB hA' hB'
  unfold eviV
  go_enter Tryz.func14, Tryz.ntmps14
  go_upto_region 1 with fail
  have hp := (Blk.new w #[.int .i64 A.typ, .int .i64 A.height, .int .i64 A.round, .slice kh nkh ckh, .int .i64 A.total, .slice kp nkp ckp, .int .i64 A.time, .slice ka nka cka, .int .i64 A.index, .slice ks_ nks cks, .slice none 0 0, .slice none 0 0, .int .i64 B.typ, .int .i64 B.height, .int .i64 B.round, .slice lh nlh clh, .int .i64 B.total, .slice lp nlp clp, .int .i64 B.time, .slice la nla cla, .int .i64 B.index, .slice ls_ nls cls, .slice none 0 0, .slice none 0 0, .int .i64 x, .int .i64 y, .int .i64 z] 39).alloc (.cells #[.int .i64 A.typ, .int .i64 A.height, .int .i64 A.round, .slice mh nmh cmh, .int .i64 A.total, .slice mp nmp cmp, .int .i64 A.time, .slice ma nma cma, .int .i64 A.index, .slice ms_ nms cms, .slice none 0 0, .slice none 0 0, .int .i64 B.typ, .int .i64 B.height, .int .i64 B.round, .slice rh nrh crh, .int .i64 B.total, .slice rp nrp crp, .int .i64 B.time, .slice ra nra cra, .int .i64 B.index, .slice rs_ nrs crs, .slice none 0 0, .slice none 0 0, .int .i64 x, .int .i64 y, .int .i64 z] 39)
  have hq := Blk.new (w.alloc (.cells #[.int .i64 A.typ, .int .i64 A.height, .int .i64 A.round, .slice kh nkh ckh, .int .i64 A.total, .slice kp nkp ckp, .int .i64 A.time, .slice ka nka cka, .int .i64 A.index, .slice ks_ nks cks, .slice none 0 0, .slice none 0 0, .int .i64 B.typ, .int .i64 B.height, .int .i64 B.round, .slice lh nlh clh, .int .i64 B.total, .slice lp nlp clp, .int .i64 B.time, .slice la nla cla, .int .i64 B.index, .slice ls_ nls cls, .slice none 0 0, .slice none 0 0, .int .i64 x, .int .i64 y, .int .i64 z] 39)) #[.int .i64 A.typ, .int .i64 A.height, .int .i64 A.round, .slice mh nmh cmh, .int .i64 A.total, .slice mp nmp cmp, .int .i64 A.time, .slice ma nma cma, .int .i64 A.index, .slice ms_ nms cms, .slice none 0 0, .slice none 0 0, .int .i64 B.typ, .int .i64 B.height, .int .i64 B.round, .slice rh nrh crh, .int .i64 B.total, .slice rp nrp crp, .int .i64 B.time, .slice ra nra cra, .int .i64 B.index, .slice rs_ nrs crs, .slice none 0 0, .slice none 0 0, .int .i64 x, .int .i64 y, .int .i64 z] 39
  have k0 := ((Kp.refl [] w).alloc (.cells #[.int .i64 A.typ, .int .i64 A.height, .int .i64 A.round, .slice kh nkh ckh, .int .i64 A.total, .slice kp nkp ckp, .int .i64 A.time, .slice ka nka cka, .int .i64 A.index, .slice ks_ nks cks, .slice none 0 0, .slice none 0 0, .int .i64 B.typ, .int .i64 B.height, .int .i64 B.round, .slice lh nlh clh, .int .i64 B.total, .slice lp nlp clp, .int .i64 B.time, .slice la nla cla, .int .i64 B.index, .slice ls_ nls cls, .slice none 0 0, .slice none 0 0, .int .i64 x, .int .i64 y, .int .i64 z] 39)).alloc (.cells #[.int .i64 A.typ, .int .i64 A.height, .int .i64 A.round, .slice mh nmh cmh, .int .i64 A.total, .slice mp nmp cmp, .int .i64 A.time, .slice ma nma cma, .int .i64 A.index, .slice ms_ nms cms, .slice none 0 0, .slice none 0 0, .int .i64 B.typ, .int .i64 B.height, .int .i64 B.round, .slice rh nrh crh, .int .i64 B.total, .slice rp nrp crp, .int .i64 B.time, .slice ra nra cra, .int .i64 B.index, .slice rs_ nrs crs, .slice none 0 0, .slice none 0 0, .int .i64 x, .int .i64 y, .int .i64 z] 39)
  rw [show (w.alloc (.cells #[.int .i64 A.typ, .int .i64 A.height, .int .i64 A.round, .slice kh nkh ckh, .int .i64 A.total, .slice kp nkp ckp, .int .i64 A.time, .slice ka nka cka, .int .i64 A.index, .slice ks_ nks cks, .slice none 0 0, .slice none 0 0, .int .i64 B.typ, .int .i64 B.height, .int .i64 B.round, .slice lh nlh clh, .int .i64 B.total, .slice lp nlp clp, .int .i64 B.time, .slice la nla cla, .int .i64 B.index, .slice ls_ nls cls, .slice none 0 0, .slice none 0 0, .int .i64 x, .int .i64 y, .int .i64 z] 39)).heap.size = w.heap.size + 1 by simp] at hq
  generalize (w.alloc (.cells #[.int .i64 A.typ, .int .i64 A.height, .int .i64 A.round, .slice kh nkh ckh, .int .i64 A.total, .slice kp nkp ckp, .int .i64 A.time, .slice ka nka cka, .int .i64 A.index, .slice ks_ nks cks, .slice none 0 0, .slice none 0 0, .int .i64 B.typ, .int .i64 B.height, .int .i64 B.round, .slice lh nlh clh, .int .i64 B.total, .slice lp nlp clp, .int .i64 B.time, .slice la nla cla, .int .i64 B.index, .slice ls_ nls cls, .slice none 0 0, .slice none 0 0, .int .i64 x, .int .i64 y, .int .i64 z] 39)).alloc (.cells #[.int .i64 A.typ, .int .i64 A.height, .int .i64 A.round, .slice mh nmh cmh, .int .i64 A.total, .slice mp nmp cmp, .int .i64 A.time, .slice ma nma cma, .int .i64 A.index, .slice ms_ nms cms, .slice none 0 0, .slice none 0 0, .int .i64 B.typ, .int .i64 B.height, .int .i64 B.round, .slice rh nrh crh, .int .i64 B.total, .slice rp nrp crp, .int .i64 B.time, .slice ra nra cra, .int .i64 B.index, .slice rs_ nrs crs, .slice none 0 0, .slice none 0 0, .int .i64 x, .int .i64 y, .int .i64 z] 39) = w1 at *
  obtain ⟨p, ep⟩ : ∃ p, p = w.heap.size := ⟨_, rfl⟩
  rw [← ep] at hp hq ⊢
  have K0 := Lib.hid k0
  clear k0 ep
  have c0 : ∀ W, Kp [] w1 W → W.cell? ⟨p, 0, none⟩ = some (.int .i64 A.typ) := hp.all 0 rfl
  have c1 : ∀ W, Kp [] w1 W → W.cell? ⟨p, 1, none⟩ = some (.int .i64 A.height) := hp.all 1 rfl
  have c2 : ∀ W, Kp [] w1 W → W.cell? ⟨p, 2, none⟩ = some (.int .i64 A.round) := hp.all 2 rfl
  have c3 : ∀ W, Kp [] w1 W → W.cell? ⟨p, 3, none⟩ = some (.slice kh nkh ckh) := hp.all 3 rfl
  have c4 : ∀ W, Kp [] w1 W → W.cell? ⟨p, 4, none⟩ = some (.int .i64 A.total) := hp.all 4 rfl
  have c5 : ∀ W, Kp [] w1 W → W.cell? ⟨p, 5, none⟩ = some (.slice kp nkp ckp) := hp.all 5 rfl
  have c6 : ∀ W, Kp [] w1 W → W.cell? ⟨p, 6, none⟩ = some (.int .i64 A.time) := hp.all 6 rfl
  have c7 : ∀ W, Kp [] w1 W → W.cell? ⟨p, 7, none⟩ = some (.slice ka nka cka) := hp.all 7 rfl
  have c8 : ∀ W, Kp [] w1 W → W.cell? ⟨p, 8, none⟩ = some (.int .i64 A.index) := hp.all 8 rfl
  have c9 : ∀ W, Kp [] w1 W → W.cell? ⟨p, 9, none⟩ = some (.slice ks_ nks cks) := hp.all 9 rfl
  have c10 : ∀ W, Kp [] w1 W → W.cell? ⟨p, 10, none⟩ = some (.slice none 0 0) := hp.all 10 rfl
  have c11 : ∀ W, Kp [] w1 W → W.cell? ⟨p, 11, none⟩ = some (.slice none 0 0) := hp.all 11 rfl
  have c12 : ∀ W, Kp [] w1 W → W.cell? ⟨p, 12, none⟩ = some (.int .i64 B.typ) := hp.all 12 rfl
  have c13 : ∀ W, Kp [] w1 W → W.cell? ⟨p, 13, none⟩ = some (.int .i64 B.height) := hp.all 13 rfl
  have c14 : ∀ W, Kp [] w1 W → W.cell? ⟨p, 14, none⟩ = some (.int .i64 B.round) := hp.all 14 rfl
  have c15 : ∀ W, Kp [] w1 W → W.cell? ⟨p, 15, none⟩ = some (.slice lh nlh clh) := hp.all 15 rfl
  have c16 : ∀ W, Kp [] w1 W → W.cell? ⟨p, 16, none⟩ = some (.int .i64 B.total) := hp.all 16 rfl
  have c17 : ∀ W, Kp [] w1 W → W.cell? ⟨p, 17, none⟩ = some (.slice lp nlp clp) := hp.all 17 rfl
  have c18 : ∀ W, Kp [] w1 W → W.cell? ⟨p, 18, none⟩ = some (.int .i64 B.time) := hp.all 18 rfl
  have c19 : ∀ W, Kp [] w1 W → W.cell? ⟨p, 19, none⟩ = some (.slice la nla cla) := hp.all 19 rfl
  have c20 : ∀ W, Kp [] w1 W → W.cell? ⟨p, 20, none⟩ = some (.int .i64 B.index) := hp.all 20 rfl
  have c21 : ∀ W, Kp [] w1 W → W.cell? ⟨p, 21, none⟩ = some (.slice ls_ nls cls) := hp.all 21 rfl
  have c22 : ∀ W, Kp [] w1 W → W.cell? ⟨p, 22, none⟩ = some (.slice none 0 0) := hp.all 22 rfl
  have c23 : ∀ W, Kp [] w1 W → W.cell? ⟨p, 23, none⟩ = some (.slice none 0 0) := hp.all 23 rfl
  have c24 : ∀ W, Kp [] w1 W → W.cell? ⟨p, 24, none⟩ = some (.int .i64 x) := hp.all 24 rfl
  have c25 : ∀ W, Kp [] w1 W → W.cell? ⟨p, 25, none⟩ = some (.int .i64 y) := hp.all 25 rfl
  have c26 : ∀ W, Kp [] w1 W → W.cell? ⟨p, 26, none⟩ = some (.int .i64 z) := hp.all 26 rfl
  have d0 : ∀ W, Kp [] w1 W → W.cell? ⟨p + 1, 0, none⟩ = some (.int .i64 A.typ) := hq.all 0 rfl
  have d1 : ∀ W, Kp [] w1 W → W.cell? ⟨p + 1, 1, none⟩ = some (.int .i64 A.height) := hq.all 1 rfl
  have d2 : ∀ W, Kp [] w1 W → W.cell? ⟨p + 1, 2, none⟩ = some (.int .i64 A.round) := hq.all 2 rfl
  have d3 : ∀ W, Kp [] w1 W → W.cell? ⟨p + 1, 3, none⟩ = some (.slice mh nmh cmh) := hq.all 3 rfl
  have d4 : ∀ W, Kp [] w1 W → W.cell? ⟨p + 1, 4, none⟩ = some (.int .i64 A.total) := hq.all 4 rfl
  have d5 : ∀ W, Kp [] w1 W → W.cell? ⟨p + 1, 5, none⟩ = some (.slice mp nmp cmp) := hq.all 5 rfl
  have d6 : ∀ W, Kp [] w1 W → W.cell? ⟨p + 1, 6, none⟩ = some (.int .i64 A.time) := hq.all 6 rfl
  have d7 : ∀ W, Kp [] w1 W → W.cell? ⟨p + 1, 7, none⟩ = some (.slice ma nma cma) := hq.all 7 rfl
  have d8 : ∀ W, Kp [] w1 W → W.cell? ⟨p + 1, 8, none⟩ = some (.int .i64 A.index) := hq.all 8 rfl
  have d9 : ∀ W, Kp [] w1 W → W.cell? ⟨p + 1, 9, none⟩ = some (.slice ms_ nms cms) := hq.all 9 rfl
  have d10 : ∀ W, Kp [] w1 W → W.cell? ⟨p + 1, 10, none⟩ = some (.slice none 0 0) := hq.all 10 rfl
  have d11 : ∀ W, Kp [] w1 W → W.cell? ⟨p + 1, 11, none⟩ = some (.slice none 0 0) := hq.all 11 rfl
  have d12 : ∀ W, Kp [] w1 W → W.cell? ⟨p + 1, 12, none⟩ = some (.int .i64 B.typ) := hq.all 12 rfl
  have d13 : ∀ W, Kp [] w1 W → W.cell? ⟨p + 1, 13, none⟩ = some (.int .i64 B.height) := hq.all 13 rfl
  have d14 : ∀ W, Kp [] w1 W → W.cell? ⟨p + 1, 14, none⟩ = some (.int .i64 B.round) := hq.all 14 rfl
  have d15 : ∀ W, Kp [] w1 W → W.cell? ⟨p + 1, 15, none⟩ = some (.slice rh nrh crh) := hq.all 15 rfl
  have d16 : ∀ W, Kp [] w1 W → W.cell? ⟨p + 1, 16, none⟩ = some (.int .i64 B.total) := hq.all 16 rfl
  have d17 : ∀ W, Kp [] w1 W → W.cell? ⟨p + 1, 17, none⟩ = some (.slice rp nrp crp) := hq.all 17 rfl
  have d18 : ∀ W, Kp [] w1 W → W.cell? ⟨p + 1, 18, none⟩ = some (.int .i64 B.time) := hq.all 18 rfl
  have d19 : ∀ W, Kp [] w1 W → W.cell? ⟨p + 1, 19, none⟩ = some (.slice ra nra cra) := hq.all 19 rfl
  have d20 : ∀ W, Kp [] w1 W → W.cell? ⟨p + 1, 20, none⟩ = some (.int .i64 B.index) := hq.all 20 rfl
  have d21 : ∀ W, Kp [] w1 W → W.cell? ⟨p + 1, 21, none⟩ = some (.slice rs_ nrs crs) := hq.all 21 rfl
  have d22 : ∀ W, Kp [] w1 W → W.cell? ⟨p + 1, 22, none⟩ = some (.slice none 0 0) := hq.all 22 rfl
  have d23 : ∀ W, Kp [] w1 W → W.cell? ⟨p + 1, 23, none⟩ = some (.slice none 0 0) := hq.all 23 rfl
  have d24 : ∀ W, Kp [] w1 W → W.cell? ⟨p + 1, 24, none⟩ = some (.int .i64 x) := hq.all 24 rfl
  have d25 : ∀ W, Kp [] w1 W → W.cell? ⟨p + 1, 25, none⟩ = some (.int .i64 y) := hq.all 25 rfl
  have d26 : ∀ W, Kp [] w1 W → W.cell? ⟨p + 1, 26, none⟩ = some (.int .i64 z) := hq.all 26 rfl
  clear hp hq
  have ex : (x == x) = true := beq_self_eq_true x
  have ey : (y == y) = true := beq_self_eq_true y
  have ez : (z == z) = true := beq_self_eq_true z
  go_wp2_with fail
  refine (poll_any A A H.out.1 H.out.1 (.slice kh nkh ckh) (.slice kp nkp ckp) (.slice ka nka cka) (.slice ks_ nks cks) (.slice mh nmh cmh) (.slice mp nmp cmp) (.slice ma nma cma) (.slice ms_ nms cms) w1 (H.out.2.2.1.kp K0.out) (H.out.2.2.2.2.1.kp K0.out)).mono ?_
  rintro e w2 ⟨r, rfl, hr, k2⟩
  obtain rfl : r = true := hr.2 (same1_refl A)
  have K1 := Lib.hid ((K0.out).trans k2)
  have kk : Kp [] w1 w2 := k2
  have kk0 := kk
  clear hr k2
  go_wp2_with fail
  refine (poll_any B B H.out.2.1 H.out.2.1 (.slice lh nlh clh) (.slice lp nlp clp) (.slice la nla cla) (.slice ls_ nls cls) (.slice rh nrh crh) (.slice rp nrp crp) (.slice ra nra cra) (.slice rs_ nrs crs) w2 (H.out.2.2.2.1.kp K1.out) (H.out.2.2.2.2.2.kp K1.out)).mono ?_
  rintro e w3 ⟨r, rfl, hr, k2⟩
  obtain rfl : r = true := hr.2 (same1_refl B)
  have K2 := Lib.hid ((K1.out).trans k2)
  have kk : Kp [] w1 w3 := kk0.trans k2
  clear hr k2
  go_wp2_with fail
  go_ret
  exact ⟨rfl, K2.out⟩
end Go.Proofs.YtfkaldaflnmfiaaGreatDoor
