/- The contracts of IncrementProposerPriority and NewValidatorSet. -/
import Derived.WalkKit
import Derived.WalkSpells
import Derived.WalkLawsBesides
import Derived.Handy
import Derived.Lib.Hide
import Derived.IntWalk
import Derived.LoopTactic
import Derived.Deep.QuietTactic
import Derived.Deep.RegionWith
import Derived.Deep.RegionHeld3
import Derived.BigRegion
import Derived.BigQuiet
import Derived.Test.YtfkaldaflnmfiaaGreatDoorKInc2
namespace Go.Proofs.YtfkaldaflnmfiaaGreatDoor
set_option linter.unusedSimpArgs false
set_option linter.unusedVariables false
open Go Go.RowKit


set_option maxHeartbeats 1000000 in
set_option maxRecDepth 100000 in
theorem incrP_any (kt : Nat → Int) (s b n : Nat) (tvp : Int) (ak : Bool) (L : List Vl) (w : World) (hs : SetAt kt (fun _ => 0) s b n none tvp ak L w) (hn0 : 0 < n) (hn1 : n ≤ 100) (hp : Pows L) (ha : Apart kt L) (ht : 0 < tvp ∧ tvp ≤ 100000) :
    Calls Tryz.prog 59 #[.pointer (some ⟨s, 0, none⟩), .int .i32 1] w fun e w' => e = .returned (.tuple #[]) ∧ ∃ V pr, V ∈ L ∧ SetAt kt pr s b n (some ⟨V.p, 0, none⟩) tvp ak L w' ∧ Kp (s :: L.map Vl.p) w w' := by
  obtain ⟨t0, t1⟩ := ht
  have H := Lib.hid (And.intro hs (And.intro hp ha))
  clear hs hp ha
  go_enter Tryz.func59, Tryz.ntmps59
  go_wp2_with (first | (go_at_call 87; refine (isNil_any s b n n none tvp ak _ hn0 H.out.1.set).mono ?_; rintro e w' ⟨rfl, rfl⟩) | (go_at_call 42; refine (total_known s (rowV b n n) none tvp ak _ H.out.1.set t0).mono ?_; rintro e w' ⟨rfl, rfl⟩) | (go_at_call 84; refine (rescale_any kt 0 (2 * tvp) s b n n none tvp ak L _ H.out.1.set H.out.1.row H.out.1.at_ H.out.1.len hn0 (by omega) (by omega) (by omega)).mono ?_; rintro e w' ⟨rfl, rfl⟩))
  refine (shift_any kt 0 s b n n none tvp ak L w H.out.1.set H.out.1.row H.out.1.at_ H.out.1.len hn0 (by omega) H.out.1.nodup (by omega)).mono ?_
  rintro e w1 ⟨rfl, hv, k1⟩
  have H1 := Lib.hid (And.intro (H.out.1.prios k1 hv) k1)
  clear hv k1
  go_wp2_with fail
  refine wp_loop_rounds 2 ?_
  rw [rounds_succ]
  go_wp2_with fail
  refine (incr_any kt s b n none tvp ak L w1 H1.out.1 hn0 hn1 H.out.2.1 H.out.2.2 ⟨t0, t1⟩).mono ?_
  rintro e w2 ⟨V, pr, hV, rfl, hs2, k2⟩
  have H2 := Lib.hid (And.intro hV (And.intro hs2 (H1.out.2.trans k2)))
  have c1 : w2.cell? ⟨s, 1, none⟩ = some (.pointer none) := hs2.set.cell rfl
  have f1 := hs2.set.free 1
  clear hV hs2 k2
  unfold ptr
  go_wp2_with fail
  rw [rounds_succ]
  go_wp2_with fail
  go_end0
  refine ⟨rfl, V, pr, H2.out.1, ?_, ?_⟩
  · exact H2.out.2.1.cells ((Kp.refl _ _).set (p := ⟨s, 1, none⟩) (.inl (by simp)) _) (H2.out.2.1.set.set 1 _)
  · exact (H2.out.2.2.mono (by intro i _ hm; simp at hm ⊢; exact .inr hm)).set (p := ⟨s, 1, none⟩) (.inl (by simp)) _

set_option maxRecDepth 100000 in
theorem newSet_any (kt : Nat → Int) (z : Int) (b c n : Nat) (L : List Vl) (w : World) (hb : Blk w b (ptrs L) 96) (hL : ∀ V ∈ L, VlAt kt (fun _ => z) w V) (hn : n = L.length) (hn0 : 0 < n) (hn1 : n ≤ 100) (hp : Pows L) (ha : Apart kt L) :
    Calls Tryz.prog 34 #[rowV b n c] w fun e w' => ∃ s b2 L' V pr, e = .returned (.pointer (some ⟨s, 0, none⟩)) ∧ V ∈ L' ∧ SetAt kt pr s b2 n (some ⟨V.p, 0, none⟩) (sumP L) true L' w' ∧ Same L L' ∧ Kp [] w w' := by
  have H := Lib.hid (And.intro hb (And.intro hL (And.intro hp ha)))
  have HN := Lib.hid hn
  clear hb hL hp ha hn
  unfold rowV
  go_enter Tryz.func34, Tryz.ntmps34
  go_wp2_with fail
  have hs := Blk.new w (setC (.slice none 0 0) none 0 true) 112
  have k1 := (Kp.refl [] w).alloc (.cells (setC (.slice none 0 0) none 0 true) 112)
  unfold setC at hs k1
  generalize w.alloc (.cells #[Value.slice none 0 0, .pointer none, .int .i64 0, .bool true] 112) = w1 at *
  obtain ⟨s, es⟩ : ∃ s, s = w.heap.size := ⟨_, rfl⟩
  rw [← es] at hs ⊢
  have H1 := Lib.hid (And.intro hs (And.intro k1 es))
  clear hs k1 es
  refine (upd_any kt z s b c n L w1 H1.out.1 (H1.out.2.1.blk H.out.1 (by simp)) (fun V hV => (H.out.2.1 V hV).kp H1.out.2.1) HN.out hn0 hn1 H.out.2.2.1 H.out.2.2.2).mono ?_
  rintro e w2 ⟨rfl, b2, L', hs2, hsm, hnew, hb2, k2⟩
  have H2 := Lib.hid (And.intro hs2 (And.intro hsm (And.intro hnew k2)))
  clear hs2 hsm hnew k2
  have hT : 0 < sumP L ∧ sumP L ≤ 100000 := by
    have := sumP_bd H.out.2.2.1
    have := HN.out
    omega
  have HT := Lib.hid hT
  clear hT
  go_wp2_with fail
  refine (incrP_any kt s b2 n (sumP L) true L' w2 H2.out.1 hn0 hn1 (H2.out.2.1.pows H.out.2.2.1) (H2.out.2.1.apart H.out.2.2.2) HT.out).mono ?_
  rintro e w3 ⟨rfl, V, pr, hV, hs3, k3⟩
  have H3 := Lib.hid (And.intro hV (And.intro hs3 k3))
  clear hV hs3 k3
  go_wp2_with fail
  go_ret
  refine ⟨s, b2, L', V, pr, rfl, H3.out.1, H3.out.2.1, H2.out.2.1, ?_⟩
  have hl : w.heap.size ≤ w1.heap.size := H1.out.2.1.size
  exact (H1.out.2.1.then H2.out.2.2.2 (by intro i hi hm; simp at hm; have := H1.out.2.2; omega)).then H3.out.2.2 (by
    intro i hi hm
    simp only [List.mem_cons, List.mem_map] at hm
    rcases hm with hm | ⟨U, hU, e⟩
    · have := H1.out.2.2; omega
    · have := H2.out.2.2.1 U hU; omega)
end Go.Proofs.YtfkaldaflnmfiaaGreatDoor
/- The contract of toVals. -/
namespace Go.Proofs.YtfkaldaflnmfiaaGreatDoor
set_option linter.unusedSimpArgs false
set_option linter.unusedVariables false
open Go Go.RowKit


/-- A seat of a set as impl has it: its key, its power, its priority. -/
structure Sea where
  a : Option Addr
  n : Nat
  c : Nat
  key : List Int
  pow : Int
  prio : Int
structure SeaAt (w : World) (b i : Nat) (S : Sea) : Prop where
  c0 : w.cell? ⟨b, i * 3, none⟩ = some (.slice S.a S.n S.c)
  c1 : w.cell? ⟨b, i * 3 + 1, none⟩ = some (.int .i64 S.pow)
  c2 : w.cell? ⟨b, i * 3 + 2, none⟩ = some (.int .i64 S.prio)
  key : Byt w (.slice S.a S.n S.c) S.key
  len : S.key.length = 2
  bs : Bs S.key
theorem SeaAt.kp {w w' : World} {b i : Nat} {S : Sea} (h : SeaAt w b i S) (k : Kp [] w w') : SeaAt w' b i S :=
  ⟨cell_kp h.c0 k, cell_kp h.c1 k, cell_kp h.c2 k, h.key.kp k, h.len, h.bs⟩
/-- The seats of a list, in the block b. -/
def SeasAt (w : World) (b : Nat) (Ls : List Sea) : Prop := ∀ i S, Ls[i]? = some S → SeaAt w b i S
theorem SeasAt.kp {w w' : World} {b : Nat} {Ls : List Sea} (h : SeasAt w b Ls) (k : Kp [] w w') : SeasAt w' b Ls := fun i S hS => (h i S hS).kp k

/-- The loop of toVals. -/
structure TV (kt : Nat → Int) (Ls : List Sea) (w : World) (b' n i : Nat) (wr : World) (Q : List Vl) (pr : Nat → Int) : Prop where
  len : Q.length = i
  same : ∀ (j : Nat) (V : Vl) (S : Sea), Q[j]? = some V → Ls[j]? = some S → V.key = S.key ∧ V.pow = S.pow ∧ pr V.p = S.prio
  row : Blk wr b' (part n Q) 96
  at_ : ∀ V ∈ Q, VlAt kt pr wr V
  nodup : (Q.map Vl.p).Nodup
  new : ∀ V ∈ Q, w.heap.size ≤ V.p
  newb : w.heap.size ≤ b'
  kp : Kp [] w wr

theorem TV.more {kt : Nat → Int} {Ls : List Sea} {w wr w2 : World} {b' n i : Nat} {Q : List Vl} {pr : Nat → Int} (h : TV kt Ls w b' n i wr Q pr) (k : Kp [] wr w2) : TV kt Ls w b' n i w2 Q pr :=
  ⟨h.len, h.same, k.blk h.row (by simp), fun V hV => (h.at_ V hV).kp k, h.nodup, h.new, h.newb, h.kp.trans k⟩
/-- The row has one more, and then that one has its priority. -/
theorem TV.step {kt : Nat → Int} {Ls : List Sea} {w wr w2 w3 : World} {b' n i : Nat} {Q : List Vl} {pr : Nat → Int} {V : Vl} {S : Sea} (h : TV kt Ls w b' n i wr Q pr) (hi : i < n) (hS : Ls[i]? = some S) (k : Kp [] wr w2) (hp : wr.heap.size ≤ V.p) (hk : V.key = S.key) (hw : V.pow = S.pow) (hV : VlOk kt w2 V) (hb : Blk w2 V.p (V.cells 0) 107)
    (k3 : Kp [] (w2.setCell ⟨b', i, none⟩ (ptr V)) w3) :
    TV kt Ls w b' n (i + 1) (w3.setCell ⟨V.p, 3, none⟩ (.int .i64 S.prio)) (Q ++ [V]) (fun p => if p = V.p then S.prio else pr p) := by
  have hrow2 := k.blk h.row (by simp)
  have ks : Kp [b'] w2 (w2.setCell ⟨b', i, none⟩ (ptr V)) := (Kp.refl _ _).set (.inl (by simp)) _
  have hVp : ∀ U ∈ Q, U.p ≠ V.p := fun U hU e => by
    have := (h.at_ U hU).blk.lt
    omega
  have hrow3 : Blk (w2.setCell ⟨b', i, none⟩ (ptr V)) b' (part n (Q ++ [V])) 96 := by
    have := hrow2.set i (ptr V)
    rw [← h.len, part_set _ (by have := h.len; omega)] at this
    rw [← h.len]
    exact this
  have hnew : VlAt kt (fun _ => 0) w3 V := (VlAt.part (pr := fun _ => 0) ⟨hV, hb⟩ hrow2 ks).kp k3
  have kst : Kp [V.p] w3 (w3.setCell ⟨V.p, 3, none⟩ (.int .i64 S.prio)) := (Kp.refl _ _).set (.inl (by simp)) _
  refine ⟨by simp [h.len], ?_, ?_, ?_, ?_, ?_, h.newb, ?_⟩
  · intro j U S' hU hS'
    by_cases hj : j < Q.length
    · rw [List.getElem?_append_left hj] at hU
      have := h.same j U S' hU hS'
      simpa [hVp U (List.mem_of_getElem? hU)] using this
    · rw [List.getElem?_append_right (by omega)] at hU
      have hj2 : j = i := by
        have := h.len
        rcases Nat.lt_or_ge (j - Q.length) 1 with g | g
        · omega
        · rw [List.getElem?_eq_none (by simpa using g)] at hU
          cases hU
      subst hj2
      rw [show j - Q.length = 0 by have := h.len; omega] at hU
      simp at hU
      subst hU
      rw [hS] at hS'
      injection hS' with hS'
      subst hS'
      exact ⟨hk, hw, by simp⟩
  · have h1 := k3.blk hrow3 (by simp)
    exact h1.other (p := ⟨V.p, 3, none⟩) (h1.ne hnew.blk (by decide)) _
  · intro U hU
    rcases List.mem_append.1 hU with hm | hm
    · have h1 := (((h.at_ U hm).kp k).part hrow2 ks).kp k3
      have h2 := h1.store hnew.blk kst (hVp U hm)
      exact ⟨h2.ok, by simpa [hVp U hm] using h2.blk⟩
    · simp at hm
      subst hm
      refine ⟨hnew.ok.store hnew.blk kst, ?_⟩
      have := hnew.blk.set 3 (.int .i64 S.prio)
      rw [cells_prio] at this
      simpa using this
  · rw [List.map_append, List.nodup_append]
    refine ⟨h.nodup, by simp, ?_⟩
    intro x hx y hy
    simp only [List.mem_map] at hx
    obtain ⟨U, hU, rfl⟩ := hx
    simp at hy
    subst hy
    exact hVp U hU
  · intro U hU
    rcases List.mem_append.1 hU with hm | hm
    · exact h.new U hm
    · simp at hm
      subst hm
      exact Nat.le_trans h.kp.size hp
  · exact ((((h.kp.trans k).set (p := ⟨b', i, none⟩) (.inr h.newb) _).trans k3)).set (p := ⟨V.p, 3, none⟩) (.inr (Nat.le_trans h.kp.size hp)) _

set_option maxHeartbeats 1000000 in
set_option maxRecDepth 100000 in
theorem toVals_any (kt : Nat → Int) (b c n : Nat) (Ls : List Sea) (w : World) (hL : SeasAt w b Ls) (hn : n = Ls.length) (hn1 : n ≤ 1000) (hT : Tab kt w) :
    Calls Tryz.prog 35 #[rowV b n c] w fun e w' => ∃ b' Q pr, e = .returned (rowV b' n n) ∧ TV kt Ls w b' n n w' Q pr := by
  have hmk := mk_ptrs n n (Nat.le_refl _) (by omega)
  have H := Lib.hid (And.intro hL hT)
  have HN := Lib.hid hn
  clear hL hT hn
  unfold rowV
  go_enter Tryz.func35, Tryz.ntmps35
  go_wp2_with fail
  have hrow := Blk.new w (Array.replicate n (Value.pointer none)) 96
  rw [← part_nil] at hrow
  have k0 := (Kp.refl [] w).alloc (.cells (Array.replicate n (Value.pointer none)) 96)
  rw [← part_nil] at k0 ⊢
  obtain ⟨b', eb⟩ : ∃ b', b' = w.heap.size := ⟨_, rfl⟩
  rw [← eb] at hrow ⊢
  have h0 : TV kt Ls w b' n 0 (w.alloc (.cells (part n []) 96)) [] (fun _ => 0) := ⟨rfl, by simp, hrow, by simp, by simp, by simp, by omega, k0⟩
  have H0 := Lib.hid h0
  clear h0 hrow k0 eb hmk
  go_loopw [11] (fun s wr => ∃ (i : Nat) (Q : List Vl) (pr : Nat → Int), i ≤ n ∧ s = .int .i64 i ∧ TV kt Ls w b' n i wr Q pr) (fun s _ => n - (intOf s).toNat)
  case atStart => exact ⟨0, [], _, by omega, rfl, H0.out⟩
  case round =>
    obtain ⟨i, Q, pr, hi, rfl, hc⟩ := hrel
    have HC := Lib.hid hc
    clear hc
    by_cases hlt : i < n
    · obtain ⟨S, hS⟩ : ∃ S, Ls[i]? = some S := ⟨_, List.getElem?_eq_getElem (by rw [← HN.out]; exact hlt)⟩
      have hs := (H.out.1 i S hS).kp HC.out.kp
      have c0 := hs.c0
      have c1 := hs.c1
      have c2 := hs.c2
      have HS := Lib.hid (And.intro hs hS)
      clear hs hS
      go_wp2_with fail
      have k1 := (Kp.refl [] wr).alloc (.cells #[.slice S.a S.n S.c, .int .i64 S.pow, .int .i64 S.prio] 56)
      have hg := Blk.new wr #[.slice S.a S.n S.c, .int .i64 S.pow, .int .i64 S.prio] 56
      generalize wr.alloc (.cells #[.slice S.a S.n S.c, .int .i64 S.pow, .int .i64 S.prio] 56) = wA at *
      obtain ⟨g, eg⟩ : ∃ g, g = wr.heap.size := ⟨_, rfl⟩
      rw [← eg] at hg ⊢
      have g0 : ∀ W, Kp [] wA W → W.cell? ⟨g, 0, none⟩ = some (.slice S.a S.n S.c) := hg.all 0 rfl
      have g1 : ∀ W, Kp [] wA W → W.cell? ⟨g, 1, none⟩ = some (.int .i64 S.pow) := hg.all 1 rfl
      have hrA := k1.blk HC.out.row (by simp)
      have r0 : ∀ W, Kp [] wA W → W.cell? ⟨b', i, none⟩ = some (.pointer none) := hrA.all i (by rw [← HC.out.len]; exact part_at (by rw [HC.out.len]; exact hlt))
      have fr : ∀ W, Kp [] wA W → W.frozen? ⟨b', i, none⟩ = false := fun W k => (k.blk hrA (by simp)).free i
      have hgb : g ≠ b' := hg.ne hrA (by decide)
      have S1 : ∀ W, Kp [b'] wA W → W.cell? ⟨g, 0, none⟩ = some (.slice S.a S.n S.c) ∧ W.cell? ⟨g, 1, none⟩ = some (.int .i64 S.pow) := fun W k => ⟨(k.blk hg (by simpa using hgb)).cell rfl, (k.blk hg (by simpa using hgb)).cell rfl⟩
      have HS1 := Lib.hid S1
      have HG := Lib.hid (And.intro hg (And.intro k1 (And.intro eg hgb)))
      clear S1 hgb
      clear hg k1 eg hrA c0 c1 c2
      have i0 : (0 : Int) ≤ (i : Int) := by omega
      have i1 : (i : Int) < (n : Int) := by omega
      unfold keyI at *
      go_region_held3 (fun W => W.cell? ⟨g, 0, none⟩ = some (.slice S.a S.n S.c) ∧ W.cell? ⟨g, 1, none⟩ = some (.int .i64 S.pow))
        (first | exact HS1.out _ (Kp.refl [b'] wA).drew | exact HS1.out _ (hk1.mono (by simp)) | exact HS1.out _ (hk2.mono (by simp)) | exact HS1.out _ (Kp.set (p := ⟨b', i, none⟩) (hk2.mono (S' := [b']) (by simp)) (.inl (by simp)) _))
        (first | (go_at_call 36; refine (zzKey_any S.a S.n S.c wA.drew).mono ?_; rintro e W1 ⟨rfl, hb1, hk0⟩; have hk1 := (Kp.refl [] wA).drew.trans hk0; have HB1 := Lib.hid (And.intro hb1 hk1); clear hb1 hk0)
               | (go_at_call 60; refine (newValidator_any kt wA.drew.heap.size (.slice S.a S.n S.c) S.key S.pow W1 ⟨HB1.out.1, (HS.out.1.key.kp HG.out.2.1).kp HB1.out.2⟩ HS.out.1.len (H.out.2.kp (HC.out.kp.trans (HG.out.2.1.trans HB1.out.2))) HS.out.1.bs).mono ?_; rintro e W2 ⟨V, rfl, h1, h2, h3, h4, h5, hk3⟩; have hk2 := HB1.out.2.trans hk3; have HV := Lib.hid (And.intro h1 (And.intro h2 (And.intro h3 (And.intro h4 (And.intro h5 hk2))))); clear h1 h2 h3 h4 h5 hk3))
      have kW : Kp [] wr W2 := HG.out.2.1.trans hk2
      have hpV : wr.heap.size ≤ V.p := Nat.le_trans (HG.out.2.1.trans hk1).size HV.out.1
      have hrow2 := kW.blk HC.out.row (by simp)
      have hVb : V.p ≠ b' := HV.out.2.2.2.2.1.ne hrow2 (by decide)
      have w3 : (W2.setCell ⟨b', i, none⟩ (.pointer (some ⟨V.p, 0, none⟩))).cell? ⟨V.p, 3, none⟩ = some (.int .i64 0) := (HV.out.2.2.2.2.1.other (p := ⟨b', i, none⟩) hVb _).cell rfl
      have f3 : (W2.setCell ⟨b', i, none⟩ (.pointer (some ⟨V.p, 0, none⟩))).frozen? ⟨V.p, 3, none⟩ = false := (HV.out.2.2.2.2.1.other (p := ⟨b', i, none⟩) hVb _).free 3
      have g2 : (W2.setCell ⟨b', i, none⟩ (.pointer (some ⟨V.p, 0, none⟩))).cell? ⟨g, 2, none⟩ = some (.int .i64 S.prio) := ((hk2.blk HG.out.1 (by simp)).other (p := ⟨b', i, none⟩) HG.out.2.2.2 _).cell rfl
      have bi : (W2.setCell ⟨b', i, none⟩ (.pointer (some ⟨V.p, 0, none⟩))).cell? ⟨b', i, none⟩ = some (.pointer (some ⟨V.p, 0, none⟩)) := (hrow2.set i (.pointer (some ⟨V.p, 0, none⟩))).cell (by
        have hsz : i < (part n Q).size := by simp [part, HC.out.len]; omega
        simp [hsz])
      have HE := Lib.hid (And.intro kW hpV)
      obtain ⟨w5, e5⟩ : ∃ w5, w5 = W2.setCell ⟨b', i, none⟩ (.pointer (some ⟨V.p, 0, none⟩)) := ⟨_, rfl⟩
      rw [← e5] at w3 f3 g2 bi ⊢
      have HE5 := Lib.hid e5
      clear kW hpV hrow2 hVb e5 g0 g1 r0 fr HS1
      go_wp2_with fail
      go_big_region
      go_wp2_with fail
      have hst := HC.out.step hlt HS.out.2 HE.out.1 HE.out.2 HV.out.2.1 HV.out.2.2.1 HV.out.2.2.2.1 HV.out.2.2.2.2.1 (w3 := w5) (by rw [HE5.out]; exact Kp.refl [] _)
      exact ⟨⟨i + 1, _, _, by omega, by go_num, hst.more (Kp.refl [] _).drew⟩, by simp [intOf]; omega⟩
    · go_wp2_with fail
      go_ret
      obtain rfl : i = n := by omega
      exact ⟨b', Q, pr, rfl, HC.out⟩
end Go.Proofs.YtfkaldaflnmfiaaGreatDoor
