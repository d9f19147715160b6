/- The contract of VerifyDuplicateVote. -/
import Derived.WalkKit
import Derived.WalkSpells
import Derived.WalkLawsBesides
import Derived.Handy
import Derived.Lib.Hide
import Derived.IntWalk
import Derived.LoopTactic
import Derived.Deep.QuietTactic
import Derived.Deep.RegionWith
import Derived.Deep.RegionHeld3
import Derived.BigRegion
import Derived.BigQuiet
import Derived.Test.YtfkaldaflnmfiaaGreatDoorKSgr
import Derived.WideLaws
import Derived.Test.YtfkaldaflnmfiaaGreatDoorKToSet
namespace Go.Proofs.YtfkaldaflnmfiaaGreatDoor
set_option linter.unusedSimpArgs false
set_option linter.unusedVariables false
open Go Go.RowKit


/-- What the package asks of the evidence. -/
def Guilty (kt : Nat → Int) (L : List (List Int × Int)) (A B : VD) (x y : Int) : Prop :=
  ∃ V ∈ L, addr kt V.1 = A.addr ∧ A.height = B.height ∧ A.round = B.round ∧ A.typ = B.typ ∧ A.addr = B.addr ∧ ¬ (A.hash = B.hash ∧ A.total = B.total ∧ A.parts = B.parts) ∧ V.2 = y ∧ (L.map Prod.snd).sum = x ∧ sgn kt V.1 (sb A) = A.sig ∧ sgn kt V.1 (sb B) = B.sig

/-- The stages, where the validator is found. -/
def Cond (kt : Nat → Int) (V : Vl) (T : Int) (A B : VD) (x y : Int) : Prop :=
  A.height = B.height ∧ A.round = B.round ∧ A.typ = B.typ ∧ A.addr = B.addr ∧ ¬ (A.hash = B.hash ∧ A.total = B.total ∧ A.parts = B.parts) ∧ V.pow = y ∧ T = x ∧ sgn kt V.key (sb A) = A.sig ∧ sgn kt V.key (sb B) = B.sig
theorem guilty_iff {kt : Nat → Int} {Q : List Vl} {A B : VD} {x y : Int} {V : Vl} (ha : Apart kt Q) (hV : V ∈ Q) (hA : addr kt V.key = A.addr) : Guilty kt (Q.map Vl.kp2) A B x y ↔ Cond kt V (sumP Q) A B x y := by
  have hs : ((Q.map Vl.kp2).map Prod.snd).sum = sumP Q := by
    unfold sumP
    rw [List.map_map]
    rfl
  unfold Guilty Cond
  rw [hs]
  constructor
  · rintro ⟨X, hX, h1, h2⟩
    obtain ⟨U, hU, rfl⟩ := List.mem_map.1 hX
    obtain ⟨i, hi⟩ := List.getElem?_of_mem hU
    obtain ⟨j, hj⟩ := List.getElem?_of_mem hV
    have hij : i = j := by
      apply Classical.byContradiction
      intro hne
      exact ha.ne hi hj hne (h1.trans hA.symm)
    subst hij
    rw [hi] at hj
    injection hj with hj
    subst hj
    exact h2
  · intro h
    exact ⟨V.kp2, List.mem_map_of_mem hV, hA, h⟩

def Verd (P : Prop) (w : World) (S : List Nat) (e : Ending) (w' : World) : Prop := ((P ∧ e = .returned .nilIface) ∨ (¬ P ∧ ∃ t v, e = .returned (.iface t v))) ∧ Kp S w w'

set_option maxHeartbeats 4000000 in
set_option maxRecDepth 100000 in
theorem verify_any (kt pr : Nat → Int) (s b n : Nat) (pp : Option Addr) (Q : List Vl) (q ga gb : Nat) (A B : VD) (okA : A.ok) (okB : B.ok) (vah vap vaa vas vbh vbp vba vbs : Value) (x y z : Int) (w : World)
    (hs : SetAt kt pr s b n pp 0 false Q w) (hn0 : 0 < n) (hn1 : n ≤ 100) (hpw : Pows Q) (hap : Apart kt Q) (hq : Blk w q #[.pointer (some ⟨ga, 0, none⟩), .pointer (some ⟨gb, 0, none⟩), .int .i64 x, .int .i64 y, .int .i64 z] 81) (ha : Blk w ga (voteC A vah vap vaa vas) 105) (hb : Blk w gb (voteC B vbh vbp vba vbs) 105) (hA : VoteB w A vah vap vaa vas) (hB : VoteB w B vbh vbp vba vbs) (hE : Errs w) (hT : Tab kt w) (lA : Lens A) (lB : Lens B) :
    Calls Tryz.prog 23 #[.pointer (some ⟨q, 0, none⟩), .string ⟨#[101, 118, 105]⟩, .pointer (some ⟨s, 0, none⟩)] w (Verd (Guilty kt (Q.map Vl.kp2) A B x y) w [s]) := by
  obtain ⟨ah, nah, cah, rfl⟩ := hA.hash.form
  obtain ⟨ap, nap, cap, rfl⟩ := hA.parts.form
  obtain ⟨aa, naa, caa, rfl⟩ := hA.addr.form
  obtain ⟨as_, nas, cas, rfl⟩ := hA.sig.form
  obtain ⟨bh, nbh, cbh, rfl⟩ := hB.hash.form
  obtain ⟨bp, nbp, cbp, rfl⟩ := hB.parts.form
  obtain ⟨ba, nba, cba, rfl⟩ := hB.addr.form
  obtain ⟨bs, nbs, cbs, rfl⟩ := hB.sig.form
  have q0 : ∀ W, Kp [] w W → W.cell? ⟨q, 0, none⟩ = some (.pointer (some ⟨ga, 0, none⟩)) := hq.all 0 rfl
  have a7 : ∀ W, Kp [] w W → W.cell? ⟨ga, 7, none⟩ = some (.slice aa naa caa) := ha.all 7 rfl
  have HG := Lib.hid (getBy_any kt pr s b n n pp 0 false (.slice aa naa caa) A.addr Q w hs.set hs.row hs.at_ hs.len (by omega) hA.addr okA.addr.1)
  have H := Lib.hid (And.intro hs (And.intro hpw (And.intro hap (And.intro hq (And.intro ha (And.intro hb (And.intro hA (And.intro hB (And.intro hE hT)))))))))
  clear hs hpw hap hq ha hb hA hB hE hT
  go_enter Tryz.func23, Tryz.ntmps23
  go_wp2_with fail
  refine HG.out.mono ?_
  rintro e w1 ⟨hf, k1⟩
  rcases hf with ⟨V, g, i, hV, hVa, rfl, hg, hgn⟩ | ⟨hno, rfl⟩
  · have HV := Lib.hid (And.intro hV (And.intro hVa (And.intro hg (And.intro hgn k1))))
    have g1 : ∀ W, Kp [] w1 W → W.cell? ⟨g, 1, none⟩ = some (keyI V.kb) := hg.all 1 rfl
    clear hV hVa hg hgn q0 a7
    have hgi := guilty_iff (x := x) (y := y) (A := A) (B := B) H.out.2.2.1 HV.out.1 HV.out.2.1
    have q0 : ∀ W, Kp [] w1 W → W.cell? ⟨q, 0, none⟩ = some (.pointer (some ⟨ga, 0, none⟩)) := (k1.blk H.out.2.2.2.1 (by simp)).all 0 rfl
    have q1 : ∀ W, Kp [] w1 W → W.cell? ⟨q, 1, none⟩ = some (.pointer (some ⟨gb, 0, none⟩)) := (k1.blk H.out.2.2.2.1 (by simp)).all 1 rfl
    have q2 : ∀ W, Kp [] w1 W → W.cell? ⟨q, 2, none⟩ = some (.int .i64 x) := (k1.blk H.out.2.2.2.1 (by simp)).all 2 rfl
    have q3 : ∀ W, Kp [] w1 W → W.cell? ⟨q, 3, none⟩ = some (.int .i64 y) := (k1.blk H.out.2.2.2.1 (by simp)).all 3 rfl
    have a0 : ∀ W, Kp [] w1 W → W.cell? ⟨ga, 0, none⟩ = some (.int .i32 A.typ) := (k1.blk H.out.2.2.2.2.1 (by simp)).all 0 rfl
    have a1 : ∀ W, Kp [] w1 W → W.cell? ⟨ga, 1, none⟩ = some (.int .i64 A.height) := (k1.blk H.out.2.2.2.2.1 (by simp)).all 1 rfl
    have a2 : ∀ W, Kp [] w1 W → W.cell? ⟨ga, 2, none⟩ = some (.int .i32 A.round) := (k1.blk H.out.2.2.2.2.1 (by simp)).all 2 rfl
    have b0 : ∀ W, Kp [] w1 W → W.cell? ⟨gb, 0, none⟩ = some (.int .i32 B.typ) := (k1.blk H.out.2.2.2.2.2.1 (by simp)).all 0 rfl
    have b1 : ∀ W, Kp [] w1 W → W.cell? ⟨gb, 1, none⟩ = some (.int .i64 B.height) := (k1.blk H.out.2.2.2.2.2.1 (by simp)).all 1 rfl
    have b2 : ∀ W, Kp [] w1 W → W.cell? ⟨gb, 2, none⟩ = some (.int .i32 B.round) := (k1.blk H.out.2.2.2.2.2.1 (by simp)).all 2 rfl
    have hE1 := H.out.2.2.2.2.2.2.2.2.1.kp k1
    unfold keyI at *
    go_wp2_with fail
    by_cases hh : A.height = B.height
    · have yh : (A.height != B.height) = false := by simp [hh]
      by_cases hr : A.round = B.round
      · have yr : (A.round != B.round) = false := by simp [hr]
        by_cases ht : A.typ = B.typ
        · have yt : (A.typ != B.typ) = false := by simp [ht]
          go_big_region
          go_wp2_with fail
          have k2 : Kp [] w1 w1.drew := (Kp.refl [] w1).drew
          have K2 := Lib.hid (k1.trans k2)
          have HA2 := Lib.hid (And.intro ((H.out.2.2.2.2.2.2.1.kp k1).kp k2) ((H.out.2.2.2.2.2.2.2.1.kp k1).kp k2))
          have a7 : ∀ W, Kp [] w1 W → W.cell? ⟨ga, 7, none⟩ = some (.slice aa naa caa) := (k1.blk H.out.2.2.2.2.1 (by simp)).all 7 rfl
          have b7 : ∀ W, Kp [] w1 W → W.cell? ⟨gb, 7, none⟩ = some (.slice ba nba cba) := (k1.blk H.out.2.2.2.2.2.1 (by simp)).all 7 rfl
          generalize w1.drew = w2 at *
          by_cases hd : A.addr = B.addr
          · have hdd := decide_eq_true hd
            go_quiet ((go_at_call 40; exact Calls.quiet_of_same ((bytesEqual_any _ _ A.addr B.addr _ (HA2.out.1.addr.kp ((Kp.refl [] w2).drewN _)) (HA2.out.2.addr.kp ((Kp.refl [] w2).drewN _)) okA.addr.1 okB.addr.1).mono fun _ _ ⟨h, k⟩ => ⟨h, k.symm⟩)))
            have k3 := k2.drewN nq
            have K3 := Lib.hid (K2.out.drewN nq)
            have HA3 := Lib.hid (And.intro (HA2.out.1.kp ((Kp.refl [] w2).drewN nq)) (HA2.out.2.kp ((Kp.refl [] w2).drewN nq)))
            generalize w2.drewN nq = w3 at *
            go_wp2_with fail
            have S9 : ∀ W, Kp [] w3 W → W.cell? ⟨q, 0, none⟩ = some (.pointer (some ⟨ga, 0, none⟩)) ∧ W.cell? ⟨q, 1, none⟩ = some (.pointer (some ⟨gb, 0, none⟩)) ∧ W.cell? ⟨ga, 3, none⟩ = some (.slice ah nah cah) ∧ W.cell? ⟨ga, 4, none⟩ = some (.int .u32 A.total) ∧ W.cell? ⟨ga, 5, none⟩ = some (.slice ap nap cap) ∧ W.cell? ⟨gb, 3, none⟩ = some (.slice bh nbh cbh) ∧ W.cell? ⟨gb, 4, none⟩ = some (.int .u32 B.total) ∧ W.cell? ⟨gb, 5, none⟩ = some (.slice bp nbp cbp) := fun W k =>
              have kq := (K3.out.trans k).blk H.out.2.2.2.1 (by simp)
              have ka := (K3.out.trans k).blk H.out.2.2.2.2.1 (by simp)
              have kb := (K3.out.trans k).blk H.out.2.2.2.2.2.1 (by simp)
              ⟨kq.cell rfl, kq.cell rfl, ka.cell rfl, ka.cell rfl, ka.cell rfl, kb.cell rfl, kb.cell rfl, kb.cell rfl⟩
            have HS9 := Lib.hid S9
            clear S9
            go_region_held3 (fun W => W.cell? ⟨q, 0, none⟩ = some (.pointer (some ⟨ga, 0, none⟩)) ∧ W.cell? ⟨q, 1, none⟩ = some (.pointer (some ⟨gb, 0, none⟩)) ∧ W.cell? ⟨ga, 3, none⟩ = some (.slice ah nah cah) ∧ W.cell? ⟨ga, 4, none⟩ = some (.int .u32 A.total) ∧ W.cell? ⟨ga, 5, none⟩ = some (.slice ap nap cap) ∧ W.cell? ⟨gb, 3, none⟩ = some (.slice bh nbh cbh) ∧ W.cell? ⟨gb, 4, none⟩ = some (.int .u32 B.total) ∧ W.cell? ⟨gb, 5, none⟩ = some (.slice bp nbp cbp))
              (first | exact HS9.out _ (Kp.refl [] w3).drew | exact HS9.out _ hk9)
              (first | (go_at_call 41; refine (idEq_any A.total B.total _ _ _ _ A.hash B.hash A.parts B.parts w3.drew HA3.out.1.hash.drew HA3.out.2.hash.drew HA3.out.1.parts.drew HA3.out.2.parts.drew okA.hash.1 okB.hash.1 okA.parts.1 okB.parts.1).mono ?_; rintro e W9 ⟨rfl, hk0⟩; have hk9 := (Kp.refl [] w3).drew.trans hk0; generalize hxx : decide (A.hash = B.hash ∧ A.total = B.total ∧ A.parts = B.parts) = xx))
            have K9 := Lib.hid (K3.out.trans hk9)
            have HXX := Lib.hid hxx
            clear hxx
            cases xx with
            | true =>
              have HI := Lib.hid (of_decide_eq_true HXX.out)
              obtain ⟨te, ve, ce⟩ := (H.out.2.2.2.2.2.2.2.2.1.kp K9.out).e3
              go_wp2_with fail
              go_ret
              exact ⟨.inr ⟨fun h => (hgi.1 h).2.2.2.2.1 HI.out, te, ve, rfl⟩, K9.out.mono (by simp)⟩
            | false =>
              have HI := Lib.hid (of_decide_eq_false HXX.out)
              have K19 := Lib.hid (k3.trans hk9)
              have HA9 := Lib.hid (And.intro (HA3.out.1.kp hk9) (HA3.out.2.kp hk9))
              have hkey := ((H.out.1.at_ V HV.out.1).ok.kp K9.out)
              have hq9 := K9.out.blk H.out.2.2.2.1 (by simp)
              have ha9 := K9.out.blk H.out.2.2.2.2.1 (by simp)
              have HKEY := Lib.hid hkey
              clear hkey q0 q1 q2 q3 a0 a1 a2 b0 b1 b2 a7 b7 g1
              have q0 : ∀ W, Kp [] W9 W → W.cell? ⟨q, 0, none⟩ = some (.pointer (some ⟨ga, 0, none⟩)) := hq9.all 0 rfl
              have a7 : ∀ W, Kp [] W9 W → W.cell? ⟨ga, 7, none⟩ = some (.slice aa naa caa) := ha9.all 7 rfl
              clear hq9 ha9 k2 k3 hk9
              go_wp2_with fail
              refine (keyAddress_any kt V.kb V.vk V.key W9 HKEY.out.key HKEY.out.len (H.out.2.2.2.2.2.2.2.2.2.kp K9.out) HKEY.out.bs).mono ?_
              rintro e wa ⟨ab, ac, rfl, hra, ka⟩
              have HRA := Lib.hid (And.intro hra (And.intro ka (K9.out.trans ka)))
              clear hra ka a7
              go_wp2_with fail
              refine (bytesEqual_any _ _ (addr kt V.key) A.addr wa HRA.out.1 (HA9.out.1.addr.kp (HRA.out.2.1)) (addr_bs _ _) okA.addr.1).mono ?_
              rintro e w' ⟨rfl, rfl⟩
              rw [decide_eq_true HV.out.2.1]
              go_wp2_with fail
              have hq := HRA.out.2.2.blk H.out.2.2.2.1 (by simp)
              have hgb := (K19.out.trans HRA.out.2.1).blk HV.out.2.2.1 (by simp)
              have q3 : ∀ W, Kp [] wa W → W.cell? ⟨q, 3, none⟩ = some (.int .i64 y) := hq.all 3 rfl
              have g2 : ∀ W, Kp [] wa W → W.cell? ⟨g, 2, none⟩ = some (.int .i64 V.pow) := hgb.all 2 rfl
              clear hq hgb
              by_cases hpw : V.pow = y
              · have yp : (V.pow != y) = false := by simp [hpw]
                have HPW := Lib.hid hpw
                clear hpw
                go_big_region
                go_wp2_with fail
                have HB := Lib.hid (HRA.out.2.2.trans (Kp.refl [] wa).drew)
                have HAB := Lib.hid (And.intro (HA9.out.1.kp (HRA.out.2.1.trans (Kp.refl [] wa).drew)) (HA9.out.2.kp (HRA.out.2.1.trans (Kp.refl [] wa).drew)))
                clear q3 g2 q0
                generalize wa.drew = wb at *
                have HSet := Lib.hid (H.out.1.kp HB.out)
                have hqb := HB.out.blk H.out.2.2.2.1 (by simp)
                have hqs : q ≠ s := hqb.ne HSet.out.set (by decide)
                have S16 : ∀ W, Kp [s] wb W → W.cell? ⟨q, 2, none⟩ = some (.int .i64 x) := fun W k => (k.blk hqb (by simpa using hqs)).cell rfl
                have HS16 := Lib.hid (And.intro S16 (And.intro hqb hqs))
                clear S16 hqb hqs
                go_region_held3 (fun W => W.cell? ⟨q, 2, none⟩ = some (.int .i64 x))
                  (first | exact HS16.out.1 _ (Kp.refl [s] wb).drew | exact HS16.out.1 _ hk16)
                  (first | (go_at_call 42; refine (total_new kt pr s b n n pp false Q wb.drew (HSet.out.kp (Kp.refl [] wb).drew).set (HSet.out.kp (Kp.refl [] wb).drew).row (HSet.out.kp (Kp.refl [] wb).drew).at_ HSet.out.len (by omega) H.out.2.1).mono ?_; rintro e W16 ⟨rfl, hsb, hk0⟩; have hk16 := ((Kp.refl [s] wb).drew.trans hk0)))
                have hfar := setC_far HSet.out.set
                have HA16 := Lib.hid (And.intro (HAB.out.1.farS hk16 hfar) (HAB.out.2.farS hk16 hfar))
                have HT16 := Lib.hid ((H.out.2.2.2.2.2.2.2.2.2.kp HB.out).set HSet.out.set hk16)
                have HE16 := Lib.hid ((H.out.2.2.2.2.2.2.2.2.1.kp HB.out).set HSet.out.set hk16)
                have HK16 := Lib.hid (((HSet.out.at_ V HV.out.1).set HSet.out.set hk16).ok)
                have hga := hk16.blk (HB.out.blk H.out.2.2.2.2.1 (by simp)) (by simpa using (HB.out.blk H.out.2.2.2.2.1 (by simp)).ne HSet.out.set (by decide))
                have hgb := hk16.blk (HB.out.blk H.out.2.2.2.2.2.1 (by simp)) (by simpa using (HB.out.blk H.out.2.2.2.2.2.1 (by simp)).ne HSet.out.set (by decide))
                have hq16 := hk16.blk HS16.out.2.1 (by simpa using HS16.out.2.2)
                have HG16 := Lib.hid (And.intro hga (And.intro hgb (And.intro hq16 ((HB.out.mono (by simp)).trans hk16))))
                clear hfar hga hgb hq16 hk16 hk0 hsb
                obtain ⟨T, hT⟩ : ∃ T, T = sumP Q := ⟨_, rfl⟩
                rw [← hT]
                by_cases ht2 : T = x
                · have yt2 : (T != x) = false := by simp [ht2]
                  have HT2 := Lib.hid (And.intro hT ht2)
                  clear ht2 hT
                  have q0 : ∀ W, Kp [] W16 W → W.cell? ⟨q, 0, none⟩ = some (.pointer (some ⟨ga, 0, none⟩)) := HG16.out.2.2.1.all 0 rfl
                  have q1 : ∀ W, Kp [] W16 W → W.cell? ⟨q, 1, none⟩ = some (.pointer (some ⟨gb, 0, none⟩)) := HG16.out.2.2.1.all 1 rfl
                  go_wp2_with fail
                  refine sigA_reg kt q ga V.kb V.vk V.key A okA lA _ _ _ _ W16 (q0 W16 (Kp.refl _ _)) HG16.out.1 HA16.out.1 HK16.out.key HK16.out.len HK16.out.bs HT16.out ?_
                  intro v154 v155 v156 v157 v158 v159 v160 v161 v162 v163 v164 v165 v166 v167 v168 W21 hk21
                  have HQ1 := Lib.hid (q1 W21 hk21)
                  clear q0 q1
                  obtain ⟨xx, hxx⟩ : ∃ xx, decide (sgn kt V.key (sb A) = A.sig) = xx := ⟨_, rfl⟩
                  rw [hxx]
                  have HXX := Lib.hid hxx
                  have K21 := Lib.hid (And.intro hk21 (HG16.out.2.2.2.trans (hk21.mono (S' := [s]) (by simp))))
                  clear hxx hk21
                  cases xx with
                  | false =>
                    obtain ⟨te, ve, ce⟩ := (HE16.out.kp K21.out.1).e6
                    go_wp2_with fail
                    go_ret
                    exact ⟨.inr ⟨fun h => (of_decide_eq_false HXX.out) (by first | exact (hgi.1 h).2.2.2.2.2.2.2.1 | exact h.2.2.2.2.2.2.2.1), te, ve, rfl⟩, K21.out.2⟩
                  | true =>
                    go_wp2_with fail
                    refine sigB_reg kt q gb V.kb V.vk V.key B okB lB _ _ _ _ W21 HQ1.out (K21.out.1.blk HG16.out.2.1 (by simp)) (HA16.out.2.kp K21.out.1) (HK16.out.key.kp K21.out.1) HK16.out.len HK16.out.bs (HT16.out.kp K21.out.1) ?_
                    intro v171 v172 v173 v174 v175 v176 v177 v178 v179 v180 v181 v182 v183 v184 v185 W23 hk23
                    obtain ⟨yy, hyy⟩ : ∃ yy, decide (sgn kt V.key (sb B) = B.sig) = yy := ⟨_, rfl⟩
                    rw [hyy]
                    have HYY := Lib.hid hyy
                    have K23 := Lib.hid (And.intro hk23 (K21.out.2.trans (hk23.mono (S' := [s]) (by simp))))
                    clear hyy hk23
                    cases yy with
                    | false =>
                      obtain ⟨te, ve, ce⟩ := ((HE16.out.kp K21.out.1).kp K23.out.1).e6
                      go_wp2_with fail
                      go_ret
                      exact ⟨.inr ⟨fun h => (of_decide_eq_false HYY.out) (by first | exact (hgi.1 h).2.2.2.2.2.2.2.2 | exact h.2.2.2.2.2.2.2.2), te, ve, rfl⟩, K23.out.2⟩
                    | true =>
                      go_wp2_with fail
                      go_ret
                      have hC : Cond kt V (sumP Q) A B x y := ⟨hh, hr, ht, hd, HI.out, HPW.out, HT2.out.1.symm.trans HT2.out.2, of_decide_eq_true HXX.out, of_decide_eq_true HYY.out⟩
                      exact ⟨.inl ⟨by first | exact hgi.2 hC | exact hC, rfl⟩, K23.out.2⟩
                · have yt2 : (T != x) = true := by simp [ht2]
                  obtain ⟨te, ve, ce⟩ := HE16.out.e5
                  go_wp2_with fail
                  go_ret
                  exact ⟨.inr ⟨fun h => ht2 (hT.trans (by first | exact (hgi.1 h).2.2.2.2.2.2.1 | exact h.2.2.2.2.2.2.1)), te, ve, rfl⟩, HG16.out.2.2.2⟩
              · have yp : (V.pow != y) = true := by simp [hpw]
                obtain ⟨te, ve, ce⟩ := (H.out.2.2.2.2.2.2.2.2.1.kp HRA.out.2.2).e5
                have ce2 : ∀ W, Kp [] wa W → W.cell? ⟨5, 0, none⟩ = some (.iface te ve) := fun W k => cell_kp ce k
                go_big_region
                go_wp2_with fail
                go_ret
                exact ⟨.inr ⟨fun h => hpw (hgi.1 h).2.2.2.2.2.1, te, ve, rfl⟩, (HRA.out.2.2.mono (by simp)).trans (by first | exact (Kp.refl _ _).drew | exact Kp.refl _ _)⟩
          · have hdd := decide_eq_false hd
            obtain ⟨te, ve, ce⟩ := hE1.e2
            have ce2 : ∀ W, Kp [] w1 W → W.cell? ⟨2, 0, none⟩ = some (.iface te ve) := fun W k => cell_kp ce k
            go_quiet ((go_at_call 40; exact Calls.quiet_of_same ((bytesEqual_any _ _ A.addr B.addr _ (HA2.out.1.addr.kp ((Kp.refl [] w2).drewN _)) (HA2.out.2.addr.kp ((Kp.refl [] w2).drewN _)) okA.addr.1 okB.addr.1).mono fun _ _ ⟨h, k⟩ => ⟨h, k.symm⟩)))
            go_wp2_with fail
            go_ret
            exact ⟨.inr ⟨fun h => hd (hgi.1 h).2.2.2.1, te, ve, rfl⟩, (K2.out.mono (by simp)).drewN _⟩
        · have yt : (A.typ != B.typ) = true := by simp [ht]
          obtain ⟨te, ve, ce⟩ := hE1.e1
          have ce2 : ∀ W, Kp [] w1 W → W.cell? ⟨1, 0, none⟩ = some (.iface te ve) := fun W k => cell_kp ce k
          go_big_region
          go_wp2_with fail
          go_ret
          exact ⟨.inr ⟨fun h => ht (hgi.1 h).2.2.1, te, ve, rfl⟩, (k1.mono (by simp)).trans (by first | exact (Kp.refl _ _).drew | exact Kp.refl _ _)⟩
      · have yr : (A.round != B.round) = true := by simp [hr]
        obtain ⟨te, ve, ce⟩ := hE1.e1
        have ce2 : ∀ W, Kp [] w1 W → W.cell? ⟨1, 0, none⟩ = some (.iface te ve) := fun W k => cell_kp ce k
        go_big_region
        go_wp2_with fail
        go_ret
        exact ⟨.inr ⟨fun h => hr (hgi.1 h).2.1, te, ve, rfl⟩, (k1.mono (by simp)).trans (by first | exact (Kp.refl _ _).drew | exact Kp.refl _ _)⟩
    · have yh : (A.height != B.height) = true := by simp [hh]
      obtain ⟨te, ve, ce⟩ := hE1.e1
      have ce2 : ∀ W, Kp [] w1 W → W.cell? ⟨1, 0, none⟩ = some (.iface te ve) := fun W k => cell_kp ce k
      go_big_region
      go_wp2_with fail
      go_ret
      exact ⟨.inr ⟨fun h => hh (hgi.1 h).1, te, ve, rfl⟩, (k1.mono (by simp)).trans (by first | exact (Kp.refl _ _).drew | exact Kp.refl _ _)⟩
  · obtain ⟨t0, v0, c0⟩ := H.out.2.2.2.2.2.2.2.2.1.e0.kp k1
    have HN := Lib.hid (And.intro hno k1)
    clear hno q0 a7
    go_wp2_with fail
    go_ret
    refine ⟨.inr ⟨?_, t0, v0, rfl⟩, HN.out.2.mono (by simp)⟩
    rintro ⟨V, hV, h1, _⟩
    obtain ⟨U, hU, rfl⟩ := List.mem_map.1 hV
    exact HN.out.1 U hU h1
end Go.Proofs.YtfkaldaflnmfiaaGreatDoor
/- The contract of VerifyEvidence. -/
namespace Go.Proofs.YtfkaldaflnmfiaaGreatDoor
set_option linter.unusedSimpArgs false
set_option linter.unusedVariables false
open Go Go.RowKit



theorem verd_value {P : Prop} {e : Ending} (h : (P ∧ e = .returned .nilIface) ∨ (¬ P ∧ ∃ t v, e = .returned (.iface t v))) : ∃ (ev : Value) (r : Bool), e = .returned ev ∧ (r = true ↔ P) ∧ ((r = true ∧ ev = .nilIface) ∨ (r = false ∧ ∃ t v, ev = .iface t v)) := by
  rcases h with ⟨hP, rfl⟩ | ⟨hP, t, v, rfl⟩
  · exact ⟨_, true, rfl, by simp [hP], .inl ⟨rfl, rfl⟩⟩
  · exact ⟨_, false, rfl, by simp [hP], .inr ⟨rfl, t, v, rfl⟩⟩
theorem err_eq {ev : Value} {r : Bool} (h : (r = true ∧ ev = .nilIface) ∨ (r = false ∧ ∃ t v, ev = .iface t v)) : ∀ W : World, (binOp .eql 67 ev .nilIface).run Tryz.prog W = .ok (.bool r) W := by
  intro W
  rcases h with ⟨rfl, rfl⟩ | ⟨rfl, t, v, rfl⟩
  · exact run_eql_nil_nil (P := Tryz.prog) W 67 (by kernel_rfl)
  · exact run_eql_held_nil (P := Tryz.prog) W 67 t v (by kernel_rfl)
theorem err_guard {ev : Value} {r : Bool} (h : (r = true ∧ ev = .nilIface) ∨ (r = false ∧ ∃ t v, ev = .iface t v)) : ∀ W : World, (eqGuard .eql 67 (.tmp 12) (.const .nilIface) ev .nilIface).run Tryz.prog W = .ok () W := by
  intro W
  rcases h with ⟨_, rfl⟩ | ⟨_, t, v, rfl⟩ <;> rfl
theorem hi39 : (Tryz.prog.info? 39).map (·.size) = some 27 := by kernel_rfl
theorem hi27 : (Tryz.prog.info? 27).map (·.size) = some 2 := by kernel_rfl

theorem exec_load {P : Program} (a : Act) (o : Oper) (ty : TypeId) (x : Operand) (ho : o.op = .load ty x) (g : Nat) (hx : a.eval x = .pointer (some ⟨g, 0, none⟩)) (cs : Array Value) (t : TypeId) (d : TypeDesc) (W : World) (hg : Blk W g cs t)
    (hu : P.underlying ty = some d) (hd : (match d with | .struct _ | .array _ _ => true | _ => false) = true) (hi : (P.info? ty).map (·.size) = some cs.size) : (execOp a.eval o).run P W = .ok (.value (.agg cs)) W := by
  unfold execOp
  simp only [ho, hx, Instr.loadAt, Instr.sureAddr, Sem.run_bind, Sem.run_pure, Result.andThen_ok, run_loadVar_row W g t ty cs (0, 0) d hg hu hd hi]

/-- A bool, of which R holds. -/
def Answers (R : Bool → World → Prop) (w : World) (e : Ending) (w' : World) : Prop := ∃ r : Bool, e = .returned (.bool r) ∧ R r w' ∧ Kp [] w w'

set_option maxHeartbeats 1000000 in
set_option maxRecDepth 100000 in
theorem verE_walk (cs ds : Array Value) (w : World) (hcs : cs.size = 27) (hds : ds.size = 2) (R : Bool → World → Prop)
    (h : ∀ W, Kp [] w W → Calls Tryz.prog 24 #[.agg cs] W fun e1 w1 => ∃ v1, e1 = .returned v1 ∧ Kp [] W w1 ∧ Calls Tryz.prog 25 #[.agg ds] w1 fun e2 w2 => ∃ v2, e2 = .returned v2 ∧ Kp [] w1 w2 ∧ Calls Tryz.prog 23 #[v1, .string ⟨#[101, 118, 105]⟩, v2] w2 fun e3 w3 => ∃ (ev : Value) (r : Bool), e3 = .returned ev ∧ ((r = true ∧ ev = .nilIface) ∨ (r = false ∧ ∃ t v, ev = .iface t v)) ∧ Kp [] w1 w3 ∧ R r w3) :
    Calls Tryz.prog 11 #[.agg cs, .string ⟨#[101, 118, 105]⟩, .agg ds] w (Answers R w) := by
  have H := Lib.hid h
  clear h
  go_enter Tryz.func11, Tryz.ntmps11
  go_wp2_with fail
  have hb := (Blk.new w cs 39).alloc (.cells ds 27)
  have hb2 := Blk.new (w.alloc (.cells cs 39)) ds 27
  have k1 := ((Kp.refl [] w).alloc (.cells cs 39)).alloc (.cells ds 27)
  rw [show (w.alloc (.cells cs 39)).heap.size = w.heap.size + 1 by simp] at hb2
  generalize (w.alloc (.cells cs 39)).alloc (.cells ds 27) = wA at *
  obtain ⟨g, eg⟩ : ∃ g, g = w.heap.size := ⟨_, rfl⟩
  obtain ⟨g2, eg2⟩ : ∃ g2, g2 = w.heap.size + 1 := ⟨_, rfl⟩
  rw [← eg2] at hb2 ⊢
  rw [← eg] at hb ⊢
  have HK := Lib.hid (And.intro k1 (And.intro hb hb2))
  clear k1 hb hb2 eg eg2
  have hS : ∀ W, Kp [] wA W → Blk W g cs 39 ∧ Blk W g2 ds 27 := fun W k => ⟨k.blk HK.out.2.1 (by simp), k.blk HK.out.2.2 (by simp)⟩
  refine wp_region_last (fun W => Blk W g cs 39 ∧ Blk W g2 ds 27) (by kernel_rfl) ?_
  have hS0 := hS wA.drew (Kp.refl [] wA).drew
  refine wpAnyL_take (i := 0) (v := .agg cs) rfl (by kernel_rfl) (by kernel_rfl) (by kernel_rfl) (fun _ _ _ h => h) (Or.inl ⟨by rfl, fun W hSW => by exact exec_load _ _ 39 (.tmp 3) rfl g rfl cs 39 _ W hSW.1 Tryz.underlying39 rfl (by rw [hi39, hcs])⟩) hS0 ?_
  try simp only [Act.put, List.setIfInBounds_toArray, List.set_cons_zero, List.set_cons_succ]
  refine wpAnyL_take (i := 2) (v := _) rfl (by kernel_rfl) (by kernel_rfl) (by kernel_rfl) (fun _ _ _ h => h) (Or.inl ⟨by rfl, fun W hSW => by go_simp; try with_reducible rfl⟩) hS0 ?_
  try simp only [Act.put, List.setIfInBounds_toArray, List.set_cons_zero, List.set_cons_succ]
  refine wpAnyL_take (i := 3) (v := .agg ds) rfl (by kernel_rfl) (by kernel_rfl) (by kernel_rfl) (fun _ _ _ h => h) (Or.inl ⟨by rfl, fun W hSW => by exact exec_load _ _ 27 (.tmp 5) rfl g2 rfl ds 27 _ W hSW.2 Tryz.underlying27 rfl (by rw [hi27, hds])⟩) hS0 ?_
  try simp only [Act.put, List.setIfInBounds_toArray, List.set_cons_zero, List.set_cons_succ]
  refine wpAnyL_one (i := 1) (by kernel_rfl) rfl (fun K hK => ?_)
  go_simp
  refine (H.out wA.drew HK.out.1.drew).mono ?_
  rintro e w1 ⟨v1, rfl, k1, h2⟩
  have HK1 := Lib.hid (And.intro h2 ((Kp.refl [] wA).drew.trans k1))
  clear h2 k1
  go_wp2_with fail
  refine hK.out _ _ (hS w1 HK1.out.2) ?_
  clear hK K
  try simp only [Act.put, List.setIfInBounds_toArray, List.set_cons_zero, List.set_cons_succ]
  refine wpAnyL_one (i := 4) (by kernel_rfl) rfl (fun K hK => ?_)
  go_simp
  refine HK1.out.1.mono ?_
  rintro e w2 ⟨v2, rfl, k2, h3⟩
  have HK2 := Lib.hid (And.intro h3 (HK1.out.2.trans k2))
  clear h3 k2
  go_wp2_with fail
  refine hK.out _ _ (hS w2 HK2.out.2) ?_
  clear hK K
  try simp only [Act.put, List.setIfInBounds_toArray, List.set_cons_zero, List.set_cons_succ]
  refine wpAnyL_one (i := 5) (by kernel_rfl) rfl (fun K hK => ?_)
  go_simp
  refine HK2.out.1.mono ?_
  rintro e w3 ⟨ev, r, rfl, hev, k3, hR⟩
  have hq3 := err_eq hev
  have hq4 := err_guard hev
  have HK3 := Lib.hid (And.intro hR (HK1.out.2.trans k3))
  clear hR k3 hev
  go_wp2_with fail
  refine hK.out _ _ (hS w3 HK3.out.2) ?_
  clear hK K
  try simp only [Act.put, List.setIfInBounds_toArray, List.set_cons_zero, List.set_cons_succ]
  refine wpAnyL_take (i := 6) (v := .bool r) rfl (by kernel_rfl) (by kernel_rfl) (by kernel_rfl) (fun _ _ _ h => h) (Or.inl ⟨by rfl, fun W hSW => by go_simp; try with_reducible rfl⟩) (hS w3 HK3.out.2) ?_
  try simp only [Act.put, List.setIfInBounds_toArray, List.set_cons_zero, List.set_cons_succ]
  refine wpAnyL_take (i := 7) (v := _) rfl (by kernel_rfl) (by kernel_rfl) (by kernel_rfl) (fun _ _ _ h => h) (Or.inl ⟨by rfl, fun W hSW => by go_simp; try with_reducible rfl⟩) (hS w3 HK3.out.2) ?_
  try simp only [Act.put, List.setIfInBounds_toArray, List.set_cons_zero, List.set_cons_succ]
  refine ⟨by kernel_rfl, ?_⟩
  change (Exit.then _ _) Exit.normal ⟨#[.agg cs, .string ⟨#[101, 118, 105]⟩, .agg ds, .pointer (some ⟨g, 0, none⟩), undef, .pointer (some ⟨g2, 0, none⟩), .bool r, .agg cs, v1, .string ⟨#[101, 118, 105]⟩, .agg ds, v2, ev, .bool r], []⟩ w3
  go_wp2_with fail
  go_ret
  exact ⟨r, rfl, HK3.out.1, HK.out.1.trans HK3.out.2⟩

set_option maxHeartbeats 1000000 in
set_option maxRecDepth 100000 in
theorem verE_any (kt : Nat → Int) (A B : VD) (okA : A.ok) (okB : B.ok) (lA : Lens A) (lB : Lens B) (vah vap vaa vas vbh vbp vba vbs : Value) (x y z pi : Int) (v : Value) (n : Nat) (Ls : List Sea) (w : World) (hA : VoteB w A vah vap vaa vas) (hB : VoteB w B vbh vbp vba vbs)
    (hL : SeaR w v Ls) (hn : n = Ls.length) (hn0 : 0 < n) (hn1 : n ≤ 100) (hp : ∀ S ∈ Ls, 1 ≤ S.pow ∧ S.pow ≤ 1000) (ha : (Ls.map fun S => addr kt S.key).Nodup) (hpi : -1 ≤ pi ∧ pi < n) (hE : Errs w) (hT : Tab kt w) :
    Calls Tryz.prog 11 #[.agg (eviV A B vah vap vaa vas vbh vbp vba vbs x y z), .string ⟨#[101, 118, 105]⟩, .agg #[v, .int .i64 pi]] w (Answers (fun r _ => r = true ↔ Guilty kt (Ls.map Sea.kp2) A B x y) w) := by
  refine verE_walk _ _ w rfl rfl _ ?_
  intro W k
  refine (toEvi_any A B okA okB vah vap vaa vas vbh vbp vba vbs x y z W (hA.kp k) (hB.kp k)).mono ?_
  rintro e w1 ⟨q, ga, gb, rfl, hq, hga, hgb, k1⟩
  have kw1 := k.trans k1
  refine ⟨_, rfl, k1, ?_⟩
  refine (toSet_any kt v pi n Ls w1 (hL.kp kw1) hn hn0 hn1 (hT.kp kw1) hpi).mono ?_
  rintro e w2 ⟨s, b2, Q, pr, pp, rfl, hset, hkp, hsn, k2⟩
  have kw2 := kw1.trans k2
  refine ⟨_, rfl, k2, ?_⟩
  refine (verify_any kt pr s b2 n pp Q q ga gb A B okA okB vah vap vaa vas vbh vbp vba vbs x y z w2 hset hn0 hn1 (pows_kp2 hkp hp) (apart_kp2 hkp ha) (k2.blk hq (by simp)) (k2.blk hga (by simp)) (k2.blk hgb (by simp)) (hA.kp kw2) (hB.kp kw2) (hE.kp kw2) (hT.kp kw2) lA lB).mono ?_
  rintro e w3 ⟨he, k3⟩
  obtain ⟨ev, r, rfl, hr, hev⟩ := verd_value he
  refine ⟨ev, r, rfl, hev, k2.then k3 (by intro j hj hm; simp at hm; omega), ?_⟩
  rw [hr, hkp]
end Go.Proofs.YtfkaldaflnmfiaaGreatDoor

/- More one-step laws: regions that draw their order, with two that may come up; whole structs stored. -/
namespace Go.Proofs.YtfkaldaflnmfiaaGreatDoor
set_option linter.unusedSimpArgs false
set_option linter.unusedVariables false
open Go Go.RowKit

section
variable {P : Program} {ops : Array Oper} {rest : List Oper} {Q : Exit → Act → World → Prop} {md : Region.Mode} {S : World → Prop} {o : Oper} {a : Act} {w : World} {K : Act → World → Prop}
/-- One of two may come up. -/
theorem wpAnyL_two {i j : Nat} {oi oj : Oper} {fuel : Nat} {listed : Array Bool} {a : Act} {w : World} (hr : Region.ready md ops listed = [i, j]) (hi : ops[i]? = some oi) (hj : ops[j]? = some oj)
    (h1 : ∀ K' : Act → World → Prop, Shut (∀ a w, S w → wpAnyL P md ops Q S fuel (listed.setIfInBounds i true) a w → K' a w) → if Region.wanted oi (yielded ops a.tmps) = true then Oper.wp P oi a w K' Q else K' (a.put oi.dst undef) w)
    (h2 : ∀ K' : Act → World → Prop, Shut (∀ a w, S w → wpAnyL P md ops Q S fuel (listed.setIfInBounds j true) a w → K' a w) → if Region.wanted oj (yielded ops a.tmps) = true then Oper.wp P oj a w K' Q else K' (a.put oj.dst undef) w) :
    wpAnyL P md ops Q S (fuel + 1) listed a w := by
  refine ⟨fun h0 => absurd (hr ▸ h0) (by simp), fun k hk => ?_⟩
  rw [hr] at hk
  simp at hk
  rcases hk with rfl | rfl
  · exact wpOp_step hi (fun K' hK => h1 K' (fun a w hS hW => hK a w ⟨.inr hS, hW⟩))
  · exact wpOp_step hj (fun K' hK => h2 K' (fun a w hS hW => hK a w ⟨.inr hS, hW⟩))
/-- A whole struct into a block that is known. -/
theorem wp_store_blk (ty : TypeId) (x y : Operand) (ho : o.op = .store ty x y)
    (g : Nat) (cells : Array Value) (hx : a.eval x = .pointer (some ⟨g, 0, none⟩)) (hy : a.eval y = .agg cells) (t : TypeId) (old : Array Value) (hg : Blk w g old t) (hi : (P.info? ty).map (·.size) = some cells.size)
    (hold : old.size = cells.size) (h1 : cells.all (·.oneCell') = true) (h : ∀ w', Blk w' g cells t → Kp [g] w w' → K (a.put o.dst undef) w') : o.wp P a w K Q := by
  refine wp_store_row ty x y ho g cells hx hy t old hg hi hold h1 (h _ (setRow_heap w g old _ t (0, 0) hg) ?_)
  exact ⟨rfl, rfl, rfl, by simp [World.setRow], fun k _ hn => setRow_other w g k _ (by simpa using hn)⟩
theorem kit_store_blk (hgd : o.guard = none) (ty : TypeId) (x y : Operand) (ho : o.op = .store ty x y)
    (g : Nat) (cells : Array Value) (hx : a.eval x = .pointer (some ⟨g, 0, none⟩)) (hy : a.eval y = .agg cells) (t : TypeId) (old : Array Value) (hg : Blk w g old t) (hi : (P.info? ty).map (·.size) = some cells.size)
    (hold : old.size = cells.size) (h1 : cells.all (·.oneCell') = true) (h : ∀ w', Blk w' g cells t → Kp [g] w w' → wpList P ops Q rest (a.put o.dst undef) w') : wpList P ops Q (o :: rest) a w :=
  wpList_plain hgd fun _ hK => wp_store_blk ty x y ho g cells hx hy t old hg hi hold h1 (fun w' h2 h3 => hK _ _ (h w' h2 h3))
theorem step_store_blk {E : Prop} (hgd : o.guard = none) (ty : TypeId) (x y : Operand) (ho : o.op = .store ty x y)
    (g : Nat) (cells : Array Value) (hx : a.eval x = .pointer (some ⟨g, 0, none⟩)) (hy : a.eval y = .agg cells) (t : TypeId) (old : Array Value) (hg : Blk w g old t) (hi : (P.info? ty).map (·.size) = some cells.size)
    (hold : old.size = cells.size) (h1 : cells.all (·.oneCell') = true) (h : ∀ w', Blk w' g cells t → Kp [g] w w' → K (a.put o.dst undef) w') : if Region.wanted o (yielded ops a.tmps) = true then Oper.wp P o a w K Q else E := by
  have hw : Region.wanted o (yielded ops a.tmps) = true := by simp [Region.wanted, hgd]
  rw [if_pos hw]
  exact wp_store_blk ty x y ho g cells hx hy t old hg hi hold h1 h
end
end Go.Proofs.YtfkaldaflnmfiaaGreatDoor
