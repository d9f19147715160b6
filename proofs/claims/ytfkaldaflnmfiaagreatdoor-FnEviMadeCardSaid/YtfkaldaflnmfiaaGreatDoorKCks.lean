/- The contract of the hash's checkSum, where less than 56 bytes stand in the buffer. -/
import Derived.WalkKit
import Derived.WalkSpells
import Derived.WalkLawsBesides
import Derived.Handy
import Derived.Lib.Hide
import Derived.StillTailTactics
import Derived.Deep.DeepCutAuto
import Derived.Test.YtfkaldaflnmfiaaGreatDoorKWr
import Derived.Test.YtfkaldaflnmfiaaGreatDoorKPut
namespace Go.Proofs.YtfkaldaflnmfiaaGreatDoor
set_option linter.unusedSimpArgs false
set_option linter.unusedVariables false
open Go Go.RowKit

/-- The padding behind r bytes of a text of L bytes. -/
def padAt (r : Nat) (L : Int) (j : Nat) : Int := if j < 56 - r then (if j = 0 then 128 else 0) else be8 (L * 8) (j - (56 - r))
def padL (r : Nat) (L : Int) : List Int := (List.range (64 - r)).map (padAt r L)
/-- Eight words of 32 bits. -/
def St.ok (s : St) : Prop := (0 ≤ s.a ∧ s.a ≤ 4294967295) ∧ (0 ≤ s.b ∧ s.b ≤ 4294967295) ∧ (0 ≤ s.c ∧ s.c ≤ 4294967295) ∧ (0 ≤ s.d ∧ s.d ≤ 4294967295) ∧ (0 ≤ s.e ∧ s.e ≤ 4294967295) ∧ (0 ≤ s.f ∧ s.f ≤ 4294967295) ∧ (0 ≤ s.g ∧ s.g ≤ 4294967295) ∧ (0 ≤ s.h ∧ s.h ≤ 4294967295)
theorem St.plus_ok (s t : St) : (s.plus t).ok := by
  simp only [St.ok, St.plus]
  omega
theorem shaBlk_ok (kt : Nat → Int) (rounds : Nat) (p : Nat → Int) (l : List Int) (s : St) (j : Nat) : (shaBlk kt rounds p l s (j + 1)).2.ok := by
  unfold shaBlk
  exact St.plus_ok _ _
theorem padL_length (r : Nat) (L : Int) : (padL r L).length = 64 - r := by simp [padL]
theorem padL_at (r : Nat) (L : Int) (j : Nat) (h : j < 64 - r) : (padL r L).getD j 0 = padAt r L j := by simp [padL, h]

/-- A whole struct or array into a block. -/
theorem kit_store {P : Program} {ops : Array Oper} {rest : List Oper} {o : Oper} {a : Act} {w : World} {Q : Exit → Act → World → Prop} (hgd : o.guard = none) (ty : TypeId) (x y : Operand) (ho : o.op = .store ty x y)
    (hd : o.dst = none) (g : Nat) (cells old : Array Value) (t : TypeId) (hx : a.eval x = .pointer (some ⟨g, 0, none⟩)) (hy : a.eval y = .agg cells) (hg : Blk w g old t)
    (hi : (P.info? ty).map (·.size) = some cells.size) (hold : old.size = cells.size) (h1 : cells.all (·.oneCell') = true)
    (h : ∀ w', Blk w' g cells t → Kp [g] w w' → wpList P ops Q rest a w') : wpList P ops Q (o :: rest) a w := by
  refine wpList_store_row hgd ty x y ho g cells hx hy t old hg hi hold h1 ?_
  rw [hd]
  exact h _ (setRow_heap w g _ cells t _ hg) (Kp.setRow w g _)

def zero32 : Array Value := #[.int .u8 0, .int .u8 0, .int .u8 0, .int .u8 0, .int .u8 0, .int .u8 0, .int .u8 0, .int .u8 0, .int .u8 0, .int .u8 0, .int .u8 0, .int .u8 0, .int .u8 0, .int .u8 0, .int .u8 0, .int .u8 0, .int .u8 0, .int .u8 0, .int .u8 0, .int .u8 0, .int .u8 0, .int .u8 0, .int .u8 0, .int .u8 0, .int .u8 0, .int .u8 0, .int .u8 0, .int .u8 0, .int .u8 0, .int .u8 0, .int .u8 0, .int .u8 0]
noncomputable def tmp72 : Array Value := Tryz.zeroCells181.setIfInBounds 0 (.int .u8 128)
theorem bytesPut_one (cs : Array Value) (off : Nat) (f : Nat → Int) (n : Nat) (h : cs.all (·.oneCell') = true) : (bytesPut cs off f n).all (·.oneCell') = true := by
  induction n with
  | zero => exact h
  | succ n ih =>
    simp only [bytesPut, Array.all_eq_true] at ih ⊢
    intro i hi
    rw [Array.getElem_setIfInBounds]
    split
    · rfl
    · exact ih i (by simpa using hi)
/-- The 32 bytes of eight words. -/
def outCells (s : St) : Array Value := bytesPut (bytesPut (bytesPut (bytesPut (bytesPut (bytesPut (bytesPut (bytesPut zero32 0 (be4 s.a) 4) 4 (be4 s.b) 4) 8 (be4 s.c) 4) 12 (be4 s.d) 4) 16 (be4 s.e) 4) 20 (be4 s.f) 4) 24 (be4 s.g) 4) 28 (be4 s.h) 4
theorem bytesPut_at (cs : Array Value) (off : Nat) (f : Nat → Int) (i j : Nat) (hj : j < cs.size) : (bytesPut cs off f i)[j]? = if off ≤ j ∧ j < off + i then some (.int .u8 (f (j - off))) else cs[j]? := by
  induction i with
  | zero => rw [if_neg (by omega)]; rfl
  | succ i ih =>
    simp only [bytesPut]
    by_cases e : off + i = j
    · subst e
      rw [Array.getElem?_setIfInBounds_self_of_lt (by rw [bytesPut_size]; exact hj), if_pos (by omega), show off + i - off = i by omega]
    · rw [setIf_ne _ _ _ _ (by omega), ih]
      by_cases h : off ≤ j ∧ j < off + i
      · rw [if_pos h, if_pos (by omega)]
      · rw [if_neg h, if_neg (by omega)]
theorem outCells_size (s : St) : (outCells s).size = 32 := by simp only [outCells, bytesPut_size]; kernel_rfl
theorem outCells_one (s : St) : (outCells s).all (·.oneCell') = true := by
  unfold outCells
  iterate 8 refine bytesPut_one _ _ _ _ ?_
  kernel_rfl
theorem tmp72_size : tmp72.size = 72 := by kernel_rfl
theorem tmp72_at (j : Nat) (h : j < 72) : tmp72[j]? = some (.int .u8 (if j = 0 then 128 else 0)) := by
  have e : tmp72 = (List.range 72).toArray.map fun j => Value.int .u8 (if j = 0 then 128 else 0) := by kernel_rfl
  rw [e]
  simp [h]

set_option maxRecDepth 100000 in
set_option maxHeartbeats 8000000 in
theorem checkSum_any (g r : Nat) (s s1 : St) (kt : Nat → Int) (x X : List Int) (L : Nat) (eX : splice x r (padL r L) = X) (w : World) (hx : x.length = 64) (hg : Blk w g (digL s x r L).toArray 171)
    (hr0 : 0 < r) (hr : r < 56) (hL : L ≤ 65000) (hLr : L % 64 = r) (h10 : 10 < w.heap.size) (h10g : 10 ≠ g)
    (hxr : ∀ j, 0 ≤ X.getD j 0 ∧ X.getD j 0 ≤ 255) (hk : ∀ j, j < 64 → w.cell? ⟨10, j, none⟩ = some (.int .u32 (kt j))) (hs : (shaBlk kt 64 (fun j => X.getD j 0) zeroWords s 1).2 = s1) :
    Calls Tryz.prog 105 #[.pointer (some ⟨g, 0, none⟩)] w fun e w' => e = .returned (.agg (outCells s1)) ∧ Kp [g] w w' ∧ w'.cell? ⟨g, 74, none⟩ = some (.bool false) := by
  have c73 := hg.cell (digL_len hx)
  have hgl := hg.lt
  have HG := Lib.hid hg
  have HX := Lib.hid hx
  have hrem : ((L : Int)) % 64 = (r : Int) := by omega
  have hle56 : (r : Int) < 56 := by omega
  clear hg hx
  go_enter Tryz.func105, Tryz.ntmps105
  go_upto_region 3 with fail
  change Code.wp _ _ _ _ ((w.alloc (.cells zero32 173)).alloc (.cells Tryz.zeroCells181 181))
  have hR := (Blk.new w zero32 173).alloc (.cells Tryz.zeroCells181 181)
  have hT := Blk.new (w.alloc (.cells zero32 173)) Tryz.zeroCells181 181
  rw [show (w.alloc (.cells zero32 173)).heap.size = w.heap.size + 1 by simp] at hT
  have kA := ((Kp.refl [] w).alloc (.cells zero32 173)).alloc (.cells Tryz.zeroCells181 181)
  generalize (w.alloc (.cells zero32 173)).alloc (.cells Tryz.zeroCells181 181) = wA at hR hT kA ⊢
  obtain ⟨T, eT⟩ : ∃ T, T = w.heap.size + 1 := ⟨_, rfl⟩
  rw [← eT] at hT ⊢
  obtain ⟨R, eR⟩ : ∃ R, R = w.heap.size := ⟨_, rfl⟩
  rw [← eR] at hR ⊢
  have hT2 : Blk (wA.setCell ⟨T, 0, none⟩ (.int .u8 128)) T tmp72 181 := hT.set 0 (.int .u8 128)
  have kT := kA.set (p := ⟨T, 0, none⟩) (.inr (by show w.heap.size ≤ T; omega)) (.int .u8 128)
  have hR2 := hR.other (p := ⟨T, 0, none⟩) (by show R ≠ T; omega) (.int .u8 128)
  have cT0 : wA.cell? ⟨T, 0, none⟩ = some (.int .u8 0) := hT.cell (by kernel_rfl)
  have fT0 := hT.free 0
  have HR := Lib.hid (And.intro hR2 (And.intro hT2 kT))
  clear hR hT hT2 kT hR2 kA
  have hTR : T ≠ R := by omega
  have hTg : T ≠ g := by omega
  have hRg : R ≠ g := by omega
  have ER := Lib.hid (And.intro eR eT)
  clear eR eT
  go_upto_region 4 with fail
  generalize wA.setCell ⟨T, 0, none⟩ (.int .u8 128) = wB at HR ⊢
  clear cT0 fT0
  go_upto_region 9 with fail
  obtain ⟨q, eq⟩ : ∃ q : Nat, 56 - r = q := ⟨_, rfl⟩
  have hq : (56 : Int) - (r : Int) = (q : Int) := by omega
  rw [hq]
  have hq1 : (q : Int) + 8 ≤ 72 := by omega
  have hq2 : q + 8 ≤ 72 := by omega
  have hq0 : (0 : Int) ≤ (q : Int) + 8 := by omega
  have hqn : ((q : Int) + 8).toNat = q + 8 := by omega
  have hqr : q + r = 56 := by omega
  have EQ := Lib.hid (And.intro hqr hq)
  clear eq hq hqr
  have hq3 : (q : Int) ≤ (q : Int) + 8 := by omega
  have hq4 : q ≤ q + 8 := by omega
  have hq5 : (0 : Int) ≤ (q : Int) := by omega
  go_upto_region 10 with fail
  go_wp2_with fail
  have hT8 := put64_any T q 8 (72 - q) ((L : Int) * 8) tmp72 181 wB HR.out.2.1 (by omega) (by rw [tmp72_size]; omega) (by omega) (by omega)
  refine hT8.mono ?_
  clear hT8
  rintro e w1 ⟨rfl, hT1, k1⟩
  have kw1 : Kp [] w w1 := HR.out.2.2.then k1 (by intro i hi hm; have := ER.out; simp at hm; omega)
  have hl : (padL r (L : Int)).length = q + 8 := by rw [padL_length]; have := EQ.out; omega
  have hwf := write_fill g T 0 72 r s s1 kt x (padL r (L : Int)) X eX (L : Int) w1 HX.out (kw1.blk HG.out (by simp)) hr0 (by omega) (padL_length _ _) (by omega) (by omega) hTg hT1.lt (Nat.lt_of_lt_of_le h10 kw1.size) h10g (by rw [hl]; omega) hxr
    (by
      intro j hj
      rw [hl] at hj
      refine hT1.cell ?_
      rw [Nat.zero_add, bytesPut_at _ _ _ _ _ (by rw [tmp72_size]; omega), padL_at _ _ _ (by have := EQ.out; omega)]
      have hqr := EQ.out.1
      unfold padAt
      rw [show 56 - r = q by omega]
      by_cases hjq : j < q
      · rw [if_neg (by omega), if_pos hjq, tmp72_at j (by omega)]
      · rw [if_pos (by omega), if_neg hjq])
    (fun j hj => (kw1.cell (p := ⟨10, j, none⟩) h10 (by simp)).trans (hk j hj)) hs
  rw [hl] at hwf
  have HWF := Lib.hid hwf
  have hok : s1.ok := by rw [← hs]; exact shaBlk_ok _ _ _ _ _ _
  have HOK := Lib.hid hok
  have hR1 := k1.blk HR.out.1 (by simpa using Ne.symm hTR)
  have HX2 : X.length = 64 := by rw [← eX, length_splice _ _ _ (by rw [HX.out, hl]; have := EQ.out; omega)]; exact HX.out
  have HXX := Lib.hid HX2
  have HK1 := Lib.hid (And.intro hR1 kw1)
  clear hl hwf hT1 k1 kw1 hok hR1 HX2 hk hs eX hxr
  go_wp2_with fail
  refine HWF.out.mono ?_
  clear HWF
  rintro e w2 ⟨rfl, ⟨len', hg2⟩, k2⟩
  have kw2 : Kp [g] w w2 := (HK1.out.2.mono (S' := [g]) (by simp)).trans k2
  have hR2 := k2.blk HK1.out.1 (by simpa using hRg)
  have d72 := hg2.cell (digL_nx HXX.out)
  have HW2 := Lib.hid (And.intro hg2 (And.intro hR2 kw2))
  clear hg2 k2 kw2 hR2
  go_upto_region 15 with fail
  clear d72
  change Code.wp _ _ _ _ (w2.alloc (.cells zero32 173))
  have hD := Blk.new w2 zero32 173
  have hg3 := HW2.out.1.alloc (.cells zero32 173)
  have hR3 := HW2.out.2.1.alloc (.cells zero32 173)
  have k3 := HW2.out.2.2.alloc (.cells zero32 173)
  have hDg : w2.heap.size ≠ g := by have := HW2.out.1.lt; omega
  have hDR : w2.heap.size ≠ R := by have := HW2.out.2.1.lt; omega
  have hDw : w.heap.size ≤ w2.heap.size := HW2.out.2.2.size
  generalize w2.alloc (.cells zero32 173) = v0 at hD hg3 hR3 k3 ⊢
  generalize w2.heap.size = D at hD hDg hDR hDw ⊢
  have HV0 := Lib.hid (And.intro hD (And.intro hg3 (And.intro hR3 k3)))
  clear hD hg3 hR3 k3 HW2 HR HG
  have HSZ := Lib.hid (show zero32.size = 32 by kernel_rfl)
  have e0 : v0.cell? ⟨g, 0, none⟩ = some (.int .u32 s1.a) := HV0.out.2.1.cell rfl
  refine wp_region_still_tail 6 (by kernel_rfl) (by kernel_rfl) ?_
  simp only [List.take_succ_cons, List.take_zero, List.drop_succ_cons, List.drop_zero]
  repeat still_step
  refine wpStill_nil ?_
  go_wp2_with fail
  have hp0 := put32_any D 0 32 32 s1.a _ 173 v0.drew HV0.out.1.drew (by omega) (by rw [HSZ.out]; omega) HOK.out.1.1 HOK.out.1.2
  refine hp0.mono ?_
  clear hp0 e0
  rintro e v1 ⟨rfl, hD, kk⟩
  have HV1 := Lib.hid (And.intro hD (And.intro (kk.blk HV0.out.2.1.drew (by simpa using Ne.symm hDg)) (And.intro (kk.blk HV0.out.2.2.1.drew (by simpa using Ne.symm hDR)) (HV0.out.2.2.2.drew.then kk (by intro i hi hm; simp at hm; omega)))))
  clear hD kk HV0
  have e1 : v1.cell? ⟨g, 1, none⟩ = some (.int .u32 s1.b) := HV1.out.2.1.cell rfl
  go_upto_region 16 with fail
  refine wp_region_still_tail 6 (by kernel_rfl) (by kernel_rfl) ?_
  simp only [List.take_succ_cons, List.take_zero, List.drop_succ_cons, List.drop_zero]
  repeat still_step
  refine wpStill_nil ?_
  go_wp2_with fail
  have hp1 := put32_any D 4 28 28 s1.b _ 173 v1.drew HV1.out.1.drew (by omega) (by simp only [bytesPut_size]; rw [HSZ.out]; omega) HOK.out.2.1.1 HOK.out.2.1.2
  refine hp1.mono ?_
  clear hp1 e1
  rintro e v2 ⟨rfl, hD, kk⟩
  have HV2 := Lib.hid (And.intro hD (And.intro (kk.blk HV1.out.2.1.drew (by simpa using Ne.symm hDg)) (And.intro (kk.blk HV1.out.2.2.1.drew (by simpa using Ne.symm hDR)) (HV1.out.2.2.2.drew.then kk (by intro i hi hm; simp at hm; omega)))))
  clear hD kk HV1
  have e2 : v2.cell? ⟨g, 2, none⟩ = some (.int .u32 s1.c) := HV2.out.2.1.cell rfl
  go_upto_region 17 with fail
  refine wp_region_still_tail 6 (by kernel_rfl) (by kernel_rfl) ?_
  simp only [List.take_succ_cons, List.take_zero, List.drop_succ_cons, List.drop_zero]
  repeat still_step
  refine wpStill_nil ?_
  go_wp2_with fail
  have hp2 := put32_any D 8 24 24 s1.c _ 173 v2.drew HV2.out.1.drew (by omega) (by simp only [bytesPut_size]; rw [HSZ.out]; omega) HOK.out.2.2.1.1 HOK.out.2.2.1.2
  refine hp2.mono ?_
  clear hp2 e2
  rintro e v3 ⟨rfl, hD, kk⟩
  have HV3 := Lib.hid (And.intro hD (And.intro (kk.blk HV2.out.2.1.drew (by simpa using Ne.symm hDg)) (And.intro (kk.blk HV2.out.2.2.1.drew (by simpa using Ne.symm hDR)) (HV2.out.2.2.2.drew.then kk (by intro i hi hm; simp at hm; omega)))))
  clear hD kk HV2
  have e3 : v3.cell? ⟨g, 3, none⟩ = some (.int .u32 s1.d) := HV3.out.2.1.cell rfl
  go_upto_region 18 with fail
  refine wp_region_still_tail 6 (by kernel_rfl) (by kernel_rfl) ?_
  simp only [List.take_succ_cons, List.take_zero, List.drop_succ_cons, List.drop_zero]
  repeat still_step
  refine wpStill_nil ?_
  go_wp2_with fail
  have hp3 := put32_any D 12 20 20 s1.d _ 173 v3.drew HV3.out.1.drew (by omega) (by simp only [bytesPut_size]; rw [HSZ.out]; omega) HOK.out.2.2.2.1.1 HOK.out.2.2.2.1.2
  refine hp3.mono ?_
  clear hp3 e3
  rintro e v4 ⟨rfl, hD, kk⟩
  have HV4 := Lib.hid (And.intro hD (And.intro (kk.blk HV3.out.2.1.drew (by simpa using Ne.symm hDg)) (And.intro (kk.blk HV3.out.2.2.1.drew (by simpa using Ne.symm hDR)) (HV3.out.2.2.2.drew.then kk (by intro i hi hm; simp at hm; omega)))))
  clear hD kk HV3
  have e4 : v4.cell? ⟨g, 4, none⟩ = some (.int .u32 s1.e) := HV4.out.2.1.cell rfl
  go_upto_region 19 with fail
  refine wp_region_still_tail 6 (by kernel_rfl) (by kernel_rfl) ?_
  simp only [List.take_succ_cons, List.take_zero, List.drop_succ_cons, List.drop_zero]
  repeat still_step
  refine wpStill_nil ?_
  go_wp2_with fail
  have hp4 := put32_any D 16 16 16 s1.e _ 173 v4.drew HV4.out.1.drew (by omega) (by simp only [bytesPut_size]; rw [HSZ.out]; omega) HOK.out.2.2.2.2.1.1 HOK.out.2.2.2.2.1.2
  refine hp4.mono ?_
  clear hp4 e4
  rintro e v5 ⟨rfl, hD, kk⟩
  have HV5 := Lib.hid (And.intro hD (And.intro (kk.blk HV4.out.2.1.drew (by simpa using Ne.symm hDg)) (And.intro (kk.blk HV4.out.2.2.1.drew (by simpa using Ne.symm hDR)) (HV4.out.2.2.2.drew.then kk (by intro i hi hm; simp at hm; omega)))))
  clear hD kk HV4
  have e5 : v5.cell? ⟨g, 5, none⟩ = some (.int .u32 s1.f) := HV5.out.2.1.cell rfl
  go_upto_region 20 with fail
  refine wp_region_still_tail 6 (by kernel_rfl) (by kernel_rfl) ?_
  simp only [List.take_succ_cons, List.take_zero, List.drop_succ_cons, List.drop_zero]
  repeat still_step
  refine wpStill_nil ?_
  go_wp2_with fail
  have hp5 := put32_any D 20 12 12 s1.f _ 173 v5.drew HV5.out.1.drew (by omega) (by simp only [bytesPut_size]; rw [HSZ.out]; omega) HOK.out.2.2.2.2.2.1.1 HOK.out.2.2.2.2.2.1.2
  refine hp5.mono ?_
  clear hp5 e5
  rintro e v6 ⟨rfl, hD, kk⟩
  have HV6 := Lib.hid (And.intro hD (And.intro (kk.blk HV5.out.2.1.drew (by simpa using Ne.symm hDg)) (And.intro (kk.blk HV5.out.2.2.1.drew (by simpa using Ne.symm hDR)) (HV5.out.2.2.2.drew.then kk (by intro i hi hm; simp at hm; omega)))))
  clear hD kk HV5
  have e6 : v6.cell? ⟨g, 6, none⟩ = some (.int .u32 s1.g) := HV6.out.2.1.cell rfl
  go_upto_region 21 with fail
  refine wp_region_still_tail 6 (by kernel_rfl) (by kernel_rfl) ?_
  simp only [List.take_succ_cons, List.take_zero, List.drop_succ_cons, List.drop_zero]
  repeat still_step
  refine wpStill_nil ?_
  go_wp2_with fail
  have hp6 := put32_any D 24 8 8 s1.g _ 173 v6.drew HV6.out.1.drew (by omega) (by simp only [bytesPut_size]; rw [HSZ.out]; omega) HOK.out.2.2.2.2.2.2.1.1 HOK.out.2.2.2.2.2.2.1.2
  refine hp6.mono ?_
  clear hp6 e6
  rintro e v7 ⟨rfl, hD, kk⟩
  have HV7 := Lib.hid (And.intro hD (And.intro (kk.blk HV6.out.2.1.drew (by simpa using Ne.symm hDg)) (And.intro (kk.blk HV6.out.2.2.1.drew (by simpa using Ne.symm hDR)) (HV6.out.2.2.2.drew.then kk (by intro i hi hm; simp at hm; omega)))))
  clear hD kk HV6
  have e7 : v7.cell? ⟨g, 7, none⟩ = some (.int .u32 s1.h) := HV7.out.2.1.cell rfl
  have e74 : v7.cell? ⟨g, 74, none⟩ = some (.bool false) := HV7.out.2.1.cell (digL_is HXX.out)
  go_upto_region 23 with fail
  refine wp_region_still_tail 6 (by kernel_rfl) (by kernel_rfl) ?_
  simp only [List.take_succ_cons, List.take_zero, List.drop_succ_cons, List.drop_zero]
  repeat still_step
  refine wpStill_nil ?_
  go_wp2_with fail
  have hp7 := put32_any D 28 4 4 s1.h _ 173 v7.drew HV7.out.1.drew (by omega) (by simp only [bytesPut_size]; rw [HSZ.out]; omega) HOK.out.2.2.2.2.2.2.2.1 HOK.out.2.2.2.2.2.2.2.2
  refine hp7.mono ?_
  clear hp7 e7 e74
  rintro e v8 ⟨rfl, hD, kk⟩
  have HV8 := Lib.hid (And.intro hD (And.intro (kk.blk HV7.out.2.1.drew (by simpa using Ne.symm hDg)) (And.intro (kk.blk HV7.out.2.2.1.drew (by simpa using Ne.symm hDR)) (HV7.out.2.2.2.drew.then kk (by intro i hi hm; simp at hm; omega)))))
  clear hD kk HV7
  go_upto_region 24 with fail
  have h8 : Blk v8 D (outCells s1) 173 := HV8.out.1
  have z8 := outCells_size s1
  have o8 := outCells_one s1
  generalize eC : outCells s1 = cs at h8 z8 o8
  have EC := Lib.hid eC
  have hR8 := HV8.out.2.2.1
  have k8 := HV8.out.2.2.2
  have j8 : v8.cell? ⟨g, 74, none⟩ = some (.bool false) := HV8.out.2.1.cell (digL_is HXX.out)
  have J8 := Lib.hid (And.intro j8 HV8.out.2.1.lt)
  clear HV8 eC j8
  have i8 : (Tryz.prog.info? 173).map (·.size) = some cs.size := by rw [z8]; kernel_rfl
  have zz : zero32.size = cs.size := by rw [z8]; kernel_rfl
  go_wp2_with (first | refine kit_load rfl 173 (.tmp 7) rfl (some 103) rfl D rfl cs 173 h8 _ Tryz.underlying173 rfl i8 ?_ | refine kit_store rfl 173 (.tmp 2) (.tmp 103) rfl rfl R cs zero32 173 rfl rfl hR8 i8 zz o8 ?_)
  intro v9 hR9 k9
  go_wp2
  refine bodyPost_ret (v := .agg cs) ?_ ?_ ?_
  · exact results_cell_row rfl _ v9 R 173 cs (0, 0) _ rfl hR9 Tryz.underlying173 rfl i8
  · rfl
  refine ⟨by rw [EC.out], k8.then k9 ?_, (k9.cell (p := ⟨g, 74, none⟩) J8.out.2 (by simpa using Ne.symm hRg)).trans J8.out.1⟩
  intro i hi hm
  have := ER.out
  simp at hm
  omega

end Go.Proofs.YtfkaldaflnmfiaaGreatDoor
