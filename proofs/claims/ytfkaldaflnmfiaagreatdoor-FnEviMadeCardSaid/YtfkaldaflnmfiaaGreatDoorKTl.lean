/- The contract of a vote as it is said. -/
import Derived.WalkKit
import Derived.WalkSpells
import Derived.WalkLawsBesides
import Derived.Handy
import Derived.Lib.Hide
import Derived.IntWalk
import Derived.LoopTactic
import Derived.Deep.QuietTactic
import Derived.Deep.RegionWith
import Derived.Deep.RegionHeld3
import Derived.BigRegion
import Derived.BigQuiet
import Derived.Test.YtfkaldaflnmfiaaGreatDoorKId
import Derived.Test.YtfkaldaflnmfiaaGreatDoorKOrd
namespace Go.Proofs.YtfkaldaflnmfiaaGreatDoor
set_option linter.unusedSimpArgs false
set_option linter.unusedVariables false
open Go Go.RowKit

/-- A vote as it is said: by whom, as whom, of which type, height, round and block, at which time, spoilt or not. -/
structure Sd where
  wh : Int
  ot : Int
  ty : Int
  he : Int
  ro : Int
  bl : Int
  ti : Int
  sp : Int
structure Sd.ok (x : Sd) : Prop where
  wh : 0 ≤ x.wh ∧ x.wh ≤ 255
  ot : 0 ≤ x.ot ∧ x.ot ≤ 255
  ty : 0 ≤ x.ty ∧ x.ty ≤ 255
  he : 0 ≤ x.he ∧ x.he ≤ 255
  ro : 0 ≤ x.ro ∧ x.ro ≤ 255
  bl : 0 ≤ x.bl ∧ x.bl ≤ 255
  ti : 0 ≤ x.ti ∧ x.ti ≤ 255
  sp : 0 ≤ x.sp ∧ x.sp ≤ 255
def Sd.cells (x : Sd) : Array Value := #[.int .u8 x.wh, .int .u8 x.ot, .int .u8 x.ty, .int .u8 x.he, .int .u8 x.ro, .int .u8 x.bl, .int .u8 x.ti, .int .u8 x.sp]
/-- The key by whose address the vote is. -/
def Sd.from (x : Sd) : Int := if x.ot % 8 = 1 then ((x.wh + 1) % 256 + x.ot / 8) % 256 % 10 else x.wh % 10
def keyN (i : Int) : List Int := [101, i]
/-- The vote, with this signature. -/
def Sd.vd (kt : Nat → Int) (x : Sd) (sg : List Int) : VD := ⟨1 + x.ty % 2, 1 + x.he % 3, x.ro % 3, idH x.bl, idT x.bl, idP x.bl, x.ti, addr kt (keyN x.from), x.wh % 10, sg⟩
theorem idH_bs (n : Int) (h : 0 ≤ n) : Bs (idH n) := by
  unfold idH
  split
  · exact Bs.nil
  · intro y hy
    rcases List.mem_or_eq_of_mem_set hy with h | h
    · simp at h
      omega
    · omega
theorem idP_bs (n : Int) (h : 0 ≤ n) : Bs (idP n) := by
  unfold idP
  split
  · exact Bs.nil
  · intro y hy
    rcases List.mem_or_eq_of_mem_set hy with h | h
    · simp at h
      omega
    · omega
theorem idL (n : Int) : ((idH n).length = 0 ∧ (idP n).length = 0) ∨ ((idH n).length = 32 ∧ (idP n).length = 32) := by
  unfold idH idP
  split
  · exact .inl ⟨rfl, rfl⟩
  · exact .inr ⟨by simp, by simp⟩
theorem Sd.from_bd {x : Sd} (h : x.ok) : 0 ≤ x.from ∧ x.from < 10 := by
  have := h.wh
  have := h.ot
  unfold Sd.from
  split <;> omega
theorem keyN_bs {i : Int} (h : 0 ≤ i ∧ i < 10) : Bs (keyN i) := by
  intro y hy
  simp [keyN] at hy
  omega
theorem Sd.vd_ok {kt : Nat → Int} {x : Sd} {sg : List Int} (h : x.ok) (hs : Bs sg) (hl : sg.length ≤ 32) : (x.vd kt sg).ok := by
  have h1 := idL x.bl
  have hT : 0 ≤ idT x.bl ∧ idT x.bl ≤ 2 := by unfold idT; split <;> omega
  have a0 := h.ty
  have a1 := h.he
  have a2 := h.ro
  have a3 := h.ti
  have a4 := h.wh
  refine ⟨?_, ?_, ?_, ?_, ?_, ?_, ⟨idH_bs _ h.bl.1, ?_⟩, ⟨idP_bs _ h.bl.1, ?_⟩, ⟨addr_bs _ _, ?_⟩, hs, ?_⟩ <;> simp only [Sd.vd] <;> first | omega | (rw [addr_length]; omega)
theorem Sd.lens (kt : Nat → Int) (x : Sd) (sg : List Int) : Lens (x.vd kt sg) := idL x.bl
theorem sb_sig (kt : Nat → Int) (x : Sd) (s t : List Int) : sb (x.vd kt s) = sb (x.vd kt t) := rfl


/-- A vote of impl in which nothing is yet. -/
def voteZ : Array Value := #[.int .i64 0, .int .i64 0, .int .i64 0, .slice none 0 0, .int .i64 0, .slice none 0 0, .int .i64 0, .slice none 0 0, .int .i64 0, .slice none 0 0, .slice none 0 0, .slice none 0 0]
theorem vote_far {W W' : World} {g : Nat} {cs : Array Value} (h : Blk W g cs 35) (k : Kp [g] W W') (hn : ∀ (j : Nat) (y : Int), cs[j]? ≠ some (.int .u8 y)) : ∀ (v : Value) (l : List Int), Byt W v l → Byt W' v l := fun v l hv => hv.farS k ⟨cs, 35, h, by decide, hn⟩
theorem vote_one (V : VD) (a a2 a3 a4 : Option Addr) (n n2 n3 n4 c c2 c3 c4 : Nat) : (voteV V (.slice a n c) (.slice a2 n2 c2) (.slice a3 n3 c3) (.slice a4 n4 c4)).all (·.oneCell') = true := by
  unfold voteV
  rw [Array.all_eq_true]
  intro i hi
  have hm := Array.getElem_mem hi
  simp only [List.mem_toArray, List.mem_cons, List.not_mem_nil, or_false] at hm
  rcases hm with h | h | h | h | h | h | h | h | h | h | h | h <;> rw [h] <;> rfl
theorem voteZ_noByte : ∀ (j : Nat) (y : Int), voteZ[j]? ≠ some (.int .u8 y) := by
  intro j y h
  have hm := List.mem_of_getElem? (l := voteZ.toList) (i := j) (by simpa using h)
  simp [voteZ] at hm
theorem hi35 : (Tryz.prog.info? 35).map (·.size) = some 12 := by kernel_rfl

set_option maxHeartbeats 4000000 in
set_option maxRecDepth 100000 in
theorem make_reg {u0 u2 u3 u4 u6 u7 u8 u9 u10 u11 u12 u13 u14 u15 u16 u17 u18 u19 u20 u21 u22 u23 u24 u25 u26 u27 u28 u29 u30 u31 u32 u33 u34 u35 u36 u37 u38 u39 u40 u41 u42 u43 u44 u45 u46 u47 u48 u49 u50 u51 u52 u53 u54 u55 u56 u57 u58 u59 u60 u61 u62 u63 u64 u65 u66 u67 u68 u69 u70 u71 u72 u73 u74 u75 u76 u77 u78 u79 u80 u81 u82 u83 u84 u85 u86 u87 u88 u89 u90 u91 u92 : Value} {K : Act → World → Prop} {Q0 : Exit → Act → World → Prop} (kt : Nat → Int) (x : Sd) (hx : x.ok) (p fb : Nat) (W0 : World) (hp : Blk W0 p x.cells 24) (hf : Byt W0 (.slice (some ⟨fb, 0, none⟩) 2 2) (keyN x.from)) (hT : Tab kt W0)
    (hK : ∀ (v25 v26 v27 v28 v29 v30 v31 v32 v33 v34 v35 v36 v37 v38 v39 v40 v41 v42 v43 v44 v45 v46 v47 v48 v49 v50 v51 : Value) (g : Nat) (vh vp va : Value) (W : World), Kp [] W0 W → W0.heap.size ≤ g → Blk W g (voteV (x.vd kt []) vh vp va (.slice none 0 0)) 35 → VoteB W (x.vd kt []) vh vp va (.slice none 0 0) → K ⟨#[u0, .pointer (some ⟨p, 0, none⟩), u2, u3, u4, .slice (some ⟨fb, 0, none⟩) 2 2, .pointer (some ⟨g, 0, none⟩), u7, u8, u9, u10, u11, u12, u13, u14, u15, u16, u17, u18, u19, u20, u21, u22, u23, u24, v25, v26, v27, v28, v29, v30, v31, v32, v33, v34, v35, v36, v37, v38, v39, v40, v41, v42, v43, v44, v45, v46, v47, v48, v49, v50, v51, u52, u53, u54, u55, u56, u57, u58, u59, u60, u61, u62, u63, u64, u65, u66, u67, u68, u69, u70, u71, u72, u73, u74, u75, u76, u77, u78, u79, u80, u81, u82, u83, u84, u85, u86, u87, u88, u89, u90, u91, u92], []⟩ W) :
    Code.wp Tryz.prog (codeAt Tryz.f7 [1, 1, 1, 1, 0]) (Exit.then K Q0) ⟨#[u0, .pointer (some ⟨p, 0, none⟩), u2, u3, u4, .slice (some ⟨fb, 0, none⟩) 2 2, u6, u7, u8, u9, u10, u11, u12, u13, u14, u15, u16, u17, u18, u19, u20, u21, u22, u23, u24, u25, u26, u27, u28, u29, u30, u31, u32, u33, u34, u35, u36, u37, u38, u39, u40, u41, u42, u43, u44, u45, u46, u47, u48, u49, u50, u51, u52, u53, u54, u55, u56, u57, u58, u59, u60, u61, u62, u63, u64, u65, u66, u67, u68, u69, u70, u71, u72, u73, u74, u75, u76, u77, u78, u79, u80, u81, u82, u83, u84, u85, u86, u87, u88, u89, u90, u91, u92], []⟩ W0 := by
  obtain ⟨⟨wh0, wh1⟩, ⟨ot0, ot1⟩, ⟨ty0, ty1⟩, ⟨he0, he1⟩, ⟨ro0, ro1⟩, ⟨bl0, bl1⟩, ⟨ti0, ti1⟩, ⟨sp0, sp1⟩⟩ := hx
  have hfb := Sd.from_bd (x := x) ⟨⟨wh0, wh1⟩, ⟨ot0, ot1⟩, ⟨ty0, ty1⟩, ⟨he0, he1⟩, ⟨ro0, ro1⟩, ⟨bl0, bl1⟩, ⟨ti0, ti1⟩, ⟨sp0, sp1⟩⟩
  unfold Sd.cells at hp
  have S : ∀ W, Kp [] W0 W → W.cell? ⟨p, 0, none⟩ = some (.int .u8 x.wh) ∧ W.cell? ⟨p, 1, none⟩ = some (.int .u8 x.ot) ∧ W.cell? ⟨p, 2, none⟩ = some (.int .u8 x.ty) ∧ W.cell? ⟨p, 3, none⟩ = some (.int .u8 x.he) ∧ W.cell? ⟨p, 4, none⟩ = some (.int .u8 x.ro) ∧ W.cell? ⟨p, 5, none⟩ = some (.int .u8 x.bl) ∧ W.cell? ⟨p, 6, none⟩ = some (.int .u8 x.ti) ∧ W.cell? ⟨p, 7, none⟩ = some (.int .u8 x.sp) := fun W k => ⟨hp.all 0 rfl W k, hp.all 1 rfl W k, hp.all 2 rfl W k, hp.all 3 rfl W k, hp.all 4 rfl W k, hp.all 5 rfl W k, hp.all 6 rfl W k, hp.all 7 rfl W k⟩
  have HS := Lib.hid S
  have H := Lib.hid (And.intro hf (And.intro hT (keyN_bs hfb)))
  have HK := Lib.hid hK
  have k0 := (Kp.refl [] W0).drew
  have hS0 := HS.out _ k0
  clear hp hf hT hK S hfb
  have mty : x.ty.tmod 2 = x.ty % 2 := Int.tmod_eq_emod_of_nonneg ty0
  have wty : IntKind.i64.wrap (x.ty % 2) = x.ty % 2 := IntWalk.i64_in _ (by omega)
  have vty : IntKind.i64.wrap (1 + x.ty % 2) = 1 + x.ty % 2 := IntWalk.i64_in _ (by omega)
  have mhe : x.he.tmod 3 = x.he % 3 := Int.tmod_eq_emod_of_nonneg he0
  have whe : IntKind.i64.wrap (x.he % 3) = x.he % 3 := IntWalk.i64_in _ (by omega)
  have vhe : IntKind.i64.wrap (1 + x.he % 3) = 1 + x.he % 3 := IntWalk.i64_in _ (by omega)
  have mro : x.ro.tmod 3 = x.ro % 3 := Int.tmod_eq_emod_of_nonneg ro0
  have wro : IntKind.i64.wrap (x.ro % 3) = x.ro % 3 := IntWalk.i64_in _ (by omega)
  have vro : IntKind.i64.wrap (1 + x.ro % 3) = 1 + x.ro % 3 := IntWalk.i64_in _ (by omega)
  have mwh : x.wh.tmod 10 = x.wh % 10 := Int.tmod_eq_emod_of_nonneg wh0
  have wwh : IntKind.i64.wrap (x.wh % 10) = x.wh % 10 := IntWalk.i64_in _ (by omega)
  have vwh : IntKind.i64.wrap (1 + x.wh % 10) = 1 + x.wh % 10 := IntWalk.i64_in _ (by omega)
  have wti : IntKind.i64.wrap x.ti = x.ti := IntWalk.i64_in _ (by omega)
  conv => arg 2; whnf
  refine wp_region_noPanic ?_
  refine wp_region_last (fun W => W.cell? ⟨p, 0, none⟩ = some (.int .u8 x.wh) ∧ W.cell? ⟨p, 1, none⟩ = some (.int .u8 x.ot) ∧ W.cell? ⟨p, 2, none⟩ = some (.int .u8 x.ty) ∧ W.cell? ⟨p, 3, none⟩ = some (.int .u8 x.he) ∧ W.cell? ⟨p, 4, none⟩ = some (.int .u8 x.ro) ∧ W.cell? ⟨p, 5, none⟩ = some (.int .u8 x.bl) ∧ W.cell? ⟨p, 6, none⟩ = some (.int .u8 x.ti) ∧ W.cell? ⟨p, 7, none⟩ = some (.int .u8 x.sp)) (by kernel_rfl) ?_
  refine wpAnyL_take (i := 0) (v := _) rfl (by kernel_rfl) (by kernel_rfl) (by kernel_rfl) (fun _ _ _ h => h) (Or.inl ⟨by rfl, fun W hSW => by obtain ⟨s0, s1, s2, s3, s4, s5, s6, s7⟩ := hSW; go_simp; try with_reducible rfl⟩) hS0 ?_
  try simp only [Act.put, List.setIfInBounds_toArray, List.set_cons_zero, List.set_cons_succ]
  refine wpAnyL_take (i := 1) (v := _) rfl (by kernel_rfl) (by kernel_rfl) (by kernel_rfl) (fun _ _ _ h => h) (Or.inl ⟨by rfl, fun W hSW => by obtain ⟨s0, s1, s2, s3, s4, s5, s6, s7⟩ := hSW; go_simp; try with_reducible rfl⟩) hS0 ?_
  try simp only [Act.put, List.setIfInBounds_toArray, List.set_cons_zero, List.set_cons_succ]
  refine wpAnyL_take (i := 2) (v := _) rfl (by kernel_rfl) (by kernel_rfl) (by kernel_rfl) (fun _ _ _ h => h) (Or.inl ⟨by rfl, fun W hSW => by obtain ⟨s0, s1, s2, s3, s4, s5, s6, s7⟩ := hSW; go_simp; try with_reducible rfl⟩) hS0 ?_
  try simp only [Act.put, List.setIfInBounds_toArray, List.set_cons_zero, List.set_cons_succ]
  refine wpAnyL_take (i := 3) (v := _) rfl (by kernel_rfl) (by kernel_rfl) (by kernel_rfl) (fun _ _ _ h => h) (Or.inl ⟨by rfl, fun W hSW => by obtain ⟨s0, s1, s2, s3, s4, s5, s6, s7⟩ := hSW; go_simp; try with_reducible rfl⟩) hS0 ?_
  try simp only [Act.put, List.setIfInBounds_toArray, List.set_cons_zero, List.set_cons_succ]
  refine wpAnyL_take (i := 4) (v := _) rfl (by kernel_rfl) (by kernel_rfl) (by kernel_rfl) (fun _ _ _ h => h) (Or.inl ⟨by rfl, fun W hSW => by obtain ⟨s0, s1, s2, s3, s4, s5, s6, s7⟩ := hSW; go_simp; try with_reducible rfl⟩) hS0 ?_
  try simp only [Act.put, List.setIfInBounds_toArray, List.set_cons_zero, List.set_cons_succ]
  refine wpAnyL_take (i := 5) (v := _) rfl (by kernel_rfl) (by kernel_rfl) (by kernel_rfl) (fun _ _ _ h => h) (Or.inl ⟨by rfl, fun W hSW => by obtain ⟨s0, s1, s2, s3, s4, s5, s6, s7⟩ := hSW; go_simp; try with_reducible rfl⟩) hS0 ?_
  try simp only [Act.put, List.setIfInBounds_toArray, List.set_cons_zero, List.set_cons_succ]
  refine wpAnyL_take (i := 6) (v := _) rfl (by kernel_rfl) (by kernel_rfl) (by kernel_rfl) (fun _ _ _ h => h) (Or.inl ⟨by rfl, fun W hSW => by obtain ⟨s0, s1, s2, s3, s4, s5, s6, s7⟩ := hSW; go_simp; try with_reducible rfl⟩) hS0 ?_
  try simp only [Act.put, List.setIfInBounds_toArray, List.set_cons_zero, List.set_cons_succ]
  refine wpAnyL_take (i := 7) (v := _) rfl (by kernel_rfl) (by kernel_rfl) (by kernel_rfl) (fun _ _ _ h => h) (Or.inl ⟨by rfl, fun W hSW => by obtain ⟨s0, s1, s2, s3, s4, s5, s6, s7⟩ := hSW; go_simp; try with_reducible rfl⟩) hS0 ?_
  try simp only [Act.put, List.setIfInBounds_toArray, List.set_cons_zero, List.set_cons_succ]
  refine wpAnyL_take (i := 8) (v := _) rfl (by kernel_rfl) (by kernel_rfl) (by kernel_rfl) (fun _ _ _ h => h) (Or.inl ⟨by rfl, fun W hSW => by obtain ⟨s0, s1, s2, s3, s4, s5, s6, s7⟩ := hSW; go_simp; try with_reducible rfl⟩) hS0 ?_
  try simp only [Act.put, List.setIfInBounds_toArray, List.set_cons_zero, List.set_cons_succ]
  refine wpAnyL_take (i := 9) (v := _) rfl (by kernel_rfl) (by kernel_rfl) (by kernel_rfl) (fun _ _ _ h => h) (Or.inl ⟨by rfl, fun W hSW => by obtain ⟨s0, s1, s2, s3, s4, s5, s6, s7⟩ := hSW; go_simp; try with_reducible rfl⟩) hS0 ?_
  try simp only [Act.put, List.setIfInBounds_toArray, List.set_cons_zero, List.set_cons_succ]
  refine wpAnyL_take (i := 10) (v := _) rfl (by kernel_rfl) (by kernel_rfl) (by kernel_rfl) (fun _ _ _ h => h) (Or.inl ⟨by rfl, fun W hSW => by obtain ⟨s0, s1, s2, s3, s4, s5, s6, s7⟩ := hSW; go_simp; try with_reducible rfl⟩) hS0 ?_
  try simp only [Act.put, List.setIfInBounds_toArray, List.set_cons_zero, List.set_cons_succ]
  refine wpAnyL_take (i := 11) (v := _) rfl (by kernel_rfl) (by kernel_rfl) (by kernel_rfl) (fun _ _ _ h => h) (Or.inl ⟨by rfl, fun W hSW => by obtain ⟨s0, s1, s2, s3, s4, s5, s6, s7⟩ := hSW; go_simp; try with_reducible rfl⟩) hS0 ?_
  try simp only [Act.put, List.setIfInBounds_toArray, List.set_cons_zero, List.set_cons_succ]
  refine wpAnyL_take (i := 12) (v := _) rfl (by kernel_rfl) (by kernel_rfl) (by kernel_rfl) (fun _ _ _ h => h) (Or.inl ⟨by rfl, fun W hSW => by obtain ⟨s0, s1, s2, s3, s4, s5, s6, s7⟩ := hSW; go_simp; try with_reducible rfl⟩) hS0 ?_
  try simp only [Act.put, List.setIfInBounds_toArray, List.set_cons_zero, List.set_cons_succ]
  refine wpAnyL_take (i := 13) (v := _) rfl (by kernel_rfl) (by kernel_rfl) (by kernel_rfl) (fun _ _ _ h => h) (Or.inl ⟨by rfl, fun W hSW => by obtain ⟨s0, s1, s2, s3, s4, s5, s6, s7⟩ := hSW; go_simp; try with_reducible rfl⟩) hS0 ?_
  try simp only [Act.put, List.setIfInBounds_toArray, List.set_cons_zero, List.set_cons_succ]
  refine wpAnyL_take (i := 14) (v := _) rfl (by kernel_rfl) (by kernel_rfl) (by kernel_rfl) (fun _ _ _ h => h) (Or.inl ⟨by rfl, fun W hSW => by obtain ⟨s0, s1, s2, s3, s4, s5, s6, s7⟩ := hSW; go_simp; try with_reducible rfl⟩) hS0 ?_
  try simp only [Act.put, List.setIfInBounds_toArray, List.set_cons_zero, List.set_cons_succ]
  refine wpAnyL_take (i := 15) (v := _) rfl (by kernel_rfl) (by kernel_rfl) (by kernel_rfl) (fun _ _ _ h => h) (Or.inl ⟨by rfl, fun W hSW => by obtain ⟨s0, s1, s2, s3, s4, s5, s6, s7⟩ := hSW; go_simp; try with_reducible rfl⟩) hS0 ?_
  try simp only [Act.put, List.setIfInBounds_toArray, List.set_cons_zero, List.set_cons_succ]
  refine wpAnyL_take (i := 17) (v := _) rfl (by kernel_rfl) (by kernel_rfl) (by kernel_rfl) (fun _ _ _ h => h) (Or.inl ⟨by rfl, fun W hSW => by obtain ⟨s0, s1, s2, s3, s4, s5, s6, s7⟩ := hSW; go_simp; try with_reducible rfl⟩) hS0 ?_
  try simp only [Act.put, List.setIfInBounds_toArray, List.set_cons_zero, List.set_cons_succ]
  refine wpAnyL_take (i := 18) (v := _) rfl (by kernel_rfl) (by kernel_rfl) (by kernel_rfl) (fun _ _ _ h => h) (Or.inl ⟨by rfl, fun W hSW => by obtain ⟨s0, s1, s2, s3, s4, s5, s6, s7⟩ := hSW; go_simp; try with_reducible rfl⟩) hS0 ?_
  try simp only [Act.put, List.setIfInBounds_toArray, List.set_cons_zero, List.set_cons_succ]
  refine wpAnyL_take (i := 19) (v := _) rfl (by kernel_rfl) (by kernel_rfl) (by kernel_rfl) (fun _ _ _ h => h) (Or.inl ⟨by rfl, fun W hSW => by obtain ⟨s0, s1, s2, s3, s4, s5, s6, s7⟩ := hSW; go_simp; try with_reducible rfl⟩) hS0 ?_
  try simp only [Act.put, List.setIfInBounds_toArray, List.set_cons_zero, List.set_cons_succ]
  refine wpAnyL_take (i := 20) (v := _) rfl (by kernel_rfl) (by kernel_rfl) (by kernel_rfl) (fun _ _ _ h => h) (Or.inl ⟨by rfl, fun W hSW => by obtain ⟨s0, s1, s2, s3, s4, s5, s6, s7⟩ := hSW; go_simp; try with_reducible rfl⟩) hS0 ?_
  try simp only [Act.put, List.setIfInBounds_toArray, List.set_cons_zero, List.set_cons_succ]
  refine wpAnyL_take (i := 22) (v := _) rfl (by kernel_rfl) (by kernel_rfl) (by kernel_rfl) (fun _ _ _ h => h) (Or.inl ⟨by rfl, fun W hSW => by obtain ⟨s0, s1, s2, s3, s4, s5, s6, s7⟩ := hSW; go_simp; try with_reducible rfl⟩) hS0 ?_
  try simp only [Act.put, List.setIfInBounds_toArray, List.set_cons_zero, List.set_cons_succ]
  refine wpAnyL_take (i := 23) (v := _) rfl (by kernel_rfl) (by kernel_rfl) (by kernel_rfl) (fun _ _ _ h => h) (Or.inl ⟨by rfl, fun W hSW => by obtain ⟨s0, s1, s2, s3, s4, s5, s6, s7⟩ := hSW; go_simp; try with_reducible rfl⟩) hS0 ?_
  try simp only [Act.put, List.setIfInBounds_toArray, List.set_cons_zero, List.set_cons_succ]
  refine wpAnyL_take (i := 24) (v := _) rfl (by kernel_rfl) (by kernel_rfl) (by kernel_rfl) (fun _ _ _ h => h) (Or.inl ⟨by rfl, fun W hSW => by obtain ⟨s0, s1, s2, s3, s4, s5, s6, s7⟩ := hSW; go_simp; try with_reducible rfl⟩) hS0 ?_
  try simp only [Act.put, List.setIfInBounds_toArray, List.set_cons_zero, List.set_cons_succ]
  refine wpAnyL_take (i := 25) (v := _) rfl (by kernel_rfl) (by kernel_rfl) (by kernel_rfl) (fun _ _ _ h => h) (Or.inl ⟨by rfl, fun W hSW => by obtain ⟨s0, s1, s2, s3, s4, s5, s6, s7⟩ := hSW; go_simp; try with_reducible rfl⟩) hS0 ?_
  try simp only [Act.put, List.setIfInBounds_toArray, List.set_cons_zero, List.set_cons_succ]
  refine wpAnyL_two (i := 16) (j := 27) (by kernel_rfl) rfl rfl (fun K' hK' => ?_) (fun K' hK' => ?_)
  · skip
    go_simp
    refine (eviID_any x.bl W0.drew bl0 bl1).mono ?_
    rintro e W1 ⟨vh, vp, rfl, hh, hpp, k1⟩
    obtain ⟨ah, nh, ch, rfl⟩ := hh.form
    obtain ⟨ap, np, cp, rfl⟩ := hpp.form
    have HH := Lib.hid (And.intro hh (And.intro hpp (k0.trans k1)))
    clear hh hpp k1
    go_wp2_with fail
    refine hK'.out _ _ (HS.out _ HH.out.2.2) ?_
    clear hK' K'
    try simp only [Act.put, List.setIfInBounds_toArray, List.set_cons_zero, List.set_cons_succ]
    refine wpAnyL_two (i := 21) (j := 27) (by kernel_rfl) rfl rfl (fun K' hK' => ?_) (fun K' hK' => ?_)
    · skip
      go_simp
      refine (address_any kt _ (keyN x.from) W1 (H.out.1.kp HH.out.2.2) rfl (H.out.2.1.kp HH.out.2.2) H.out.2.2).mono ?_
      rintro e W2 ⟨ab, ac, rfl, ha, k2⟩
      rw [addr_length] at ha ⊢
      have HA := Lib.hid (And.intro ha (And.intro (HH.out.2.2.trans k2) ((Kp.refl [] W1).trans (by first | exact k2 | exact ((Kp.refl [] W1).alloc _).trans k2))))
      clear ha k2
      go_wp2_with fail
      refine hK'.out _ _ (HS.out _ HA.out.2.1) ?_
      clear hK' K'
      try simp only [Act.put, List.setIfInBounds_toArray, List.set_cons_zero, List.set_cons_succ]
      refine wpAnyL_take (i := 26) (v := _) rfl (by kernel_rfl) (by kernel_rfl) (by kernel_rfl) (fun _ _ _ h => h) (Or.inl ⟨by rfl, fun W hSW => by obtain ⟨s0, s1, s2, s3, s4, s5, s6, s7⟩ := hSW; go_simp; try with_reducible rfl⟩) (HS.out _ HA.out.2.1) ?_
      try simp only [Act.put, List.setIfInBounds_toArray, List.set_cons_zero, List.set_cons_succ]
      refine wpAnyL_one (i := 27) (by kernel_rfl) rfl (fun K' hK' => ?_)
      have kWG : Kp [] W2 (W2.alloc (.cells #[.int .i64 0, .int .i64 0, .int .i64 0, .slice none 0 0, .int .i64 0, .slice none 0 0, .int .i64 0, .slice none 0 0, .int .i64 0, .slice none 0 0, .slice none 0 0, .slice none 0 0] 35)) := (Kp.refl [] W2).alloc _
      go_simp
      have k1 := HA.out.2.1.alloc (.cells #[.int .i64 0, .int .i64 0, .int .i64 0, .slice none 0 0, .int .i64 0, .slice none 0 0, .int .i64 0, .slice none 0 0, .int .i64 0, .slice none 0 0, .slice none 0 0, .slice none 0 0] 35)
      have hb1 : Blk (W2.alloc (.cells #[.int .i64 0, .int .i64 0, .int .i64 0, .slice none 0 0, .int .i64 0, .slice none 0 0, .int .i64 0, .slice none 0 0, .int .i64 0, .slice none 0 0, .slice none 0 0, .slice none 0 0] 35)) W2.heap.size #[.int .i64 0, .int .i64 0, .int .i64 0, .slice none 0 0, .int .i64 0, .slice none 0 0, .int .i64 0, .slice none 0 0, .int .i64 0, .slice none 0 0, .slice none 0 0, .slice none 0 0] 35 := Blk.new W2 #[.int .i64 0, .int .i64 0, .int .i64 0, .slice none 0 0, .int .i64 0, .slice none 0 0, .int .i64 0, .slice none 0 0, .int .i64 0, .slice none 0 0, .slice none 0 0, .slice none 0 0] 35
      refine hK'.out _ _ (HS.out _ k1) ?_
      clear hK' K'
      have hg1 : W0.heap.size ≤ W2.heap.size := HA.out.2.1.size
      obtain ⟨g, eg⟩ : ∃ g, g = W2.heap.size := ⟨_, rfl⟩
      rw [← eg] at hb1 hg1 ⊢
      have HG := Lib.hid (And.intro hb1 (And.intro hg1 k1))
      clear hb1 hg1 k1 eg
      generalize (W2).alloc (.cells #[.int .i64 0, .int .i64 0, .int .i64 0, .slice none 0 0, .int .i64 0, .slice none 0 0, .int .i64 0, .slice none 0 0, .int .i64 0, .slice none 0 0, .slice none 0 0, .slice none 0 0] 35) = WG at *
      try simp only [Act.put, List.setIfInBounds_toArray, List.set_cons_zero, List.set_cons_succ]
      refine wpAnyL_end (i := 28) (by kernel_rfl) (by kernel_rfl) (by kernel_rfl) rfl (fun K' hK' => ?_)
      refine step_store_blk rfl 35 (.tmp 6) (.tmp 51) rfl g (voteV (x.vd kt []) (.slice ah nh ch) (.slice ap np cp) (.slice (some ⟨ab, 0, none⟩) 20 ac) (.slice none 0 0)) rfl rfl 35 voteZ HG.out.1 hi35 rfl (vote_one _ _ _ _ _ _ _ _ _ _ _ _ _) ?_
      intro w9 hb9 k9
      refine hK'.out _ _ (NoPanic.normal ?_)
      have kw9 : Kp [] W0 w9 := (HG.out.2.2).then k9 (by intro j hj hm; simp at hm; have := HG.out.2.1; omega)
      have hz := vote_far HG.out.1 k9 voteZ_noByte
      exact HK.out _ _ _ _ _ _ _ _ _ _ _ _ _ _ _ _ _ _ _ _ _ _ _ _ _ _ _ g _ _ _ w9 kw9 HG.out.2.1 hb9 ⟨hz _ _ ((HH.out.1.kp HA.out.2.2).kp kWG), hz _ _ ((HH.out.2.1.kp HA.out.2.2).kp kWG), hz _ _ (HA.out.1.kp kWG), Byt.nil _⟩
    · skip
      have kWG : Kp [] W1 (W1.alloc (.cells #[.int .i64 0, .int .i64 0, .int .i64 0, .slice none 0 0, .int .i64 0, .slice none 0 0, .int .i64 0, .slice none 0 0, .int .i64 0, .slice none 0 0, .slice none 0 0, .slice none 0 0] 35)) := (Kp.refl [] W1).alloc _
      go_simp
      have k1 := HH.out.2.2.alloc (.cells #[.int .i64 0, .int .i64 0, .int .i64 0, .slice none 0 0, .int .i64 0, .slice none 0 0, .int .i64 0, .slice none 0 0, .int .i64 0, .slice none 0 0, .slice none 0 0, .slice none 0 0] 35)
      have hb1 : Blk (W1.alloc (.cells #[.int .i64 0, .int .i64 0, .int .i64 0, .slice none 0 0, .int .i64 0, .slice none 0 0, .int .i64 0, .slice none 0 0, .int .i64 0, .slice none 0 0, .slice none 0 0, .slice none 0 0] 35)) W1.heap.size #[.int .i64 0, .int .i64 0, .int .i64 0, .slice none 0 0, .int .i64 0, .slice none 0 0, .int .i64 0, .slice none 0 0, .int .i64 0, .slice none 0 0, .slice none 0 0, .slice none 0 0] 35 := Blk.new W1 #[.int .i64 0, .int .i64 0, .int .i64 0, .slice none 0 0, .int .i64 0, .slice none 0 0, .int .i64 0, .slice none 0 0, .int .i64 0, .slice none 0 0, .slice none 0 0, .slice none 0 0] 35
      refine hK'.out _ _ (HS.out _ k1) ?_
      clear hK' K'
      have hg1 : W0.heap.size ≤ W1.heap.size := HH.out.2.2.size
      obtain ⟨g, eg⟩ : ∃ g, g = W1.heap.size := ⟨_, rfl⟩
      rw [← eg] at hb1 hg1 ⊢
      have HG := Lib.hid (And.intro hb1 (And.intro hg1 k1))
      clear hb1 hg1 k1 eg
      generalize (W1).alloc (.cells #[.int .i64 0, .int .i64 0, .int .i64 0, .slice none 0 0, .int .i64 0, .slice none 0 0, .int .i64 0, .slice none 0 0, .int .i64 0, .slice none 0 0, .slice none 0 0, .slice none 0 0] 35) = WG at *
      try simp only [Act.put, List.setIfInBounds_toArray, List.set_cons_zero, List.set_cons_succ]
      refine wpAnyL_one (i := 21) (by kernel_rfl) rfl (fun K' hK' => ?_)
      go_simp
      refine (address_any kt _ (keyN x.from) WG (H.out.1.kp HG.out.2.2) rfl (H.out.2.1.kp HG.out.2.2) H.out.2.2).mono ?_
      rintro e W2 ⟨ab, ac, rfl, ha, k2⟩
      rw [addr_length] at ha ⊢
      have HA := Lib.hid (And.intro ha (And.intro (HG.out.2.2.trans k2) (kWG.trans k2)))
      have HB := Lib.hid (k2.blk HG.out.1 (by simp))
      have KB := Lib.hid (kWG.trans k2)
      clear ha k2
      go_wp2_with fail
      refine hK'.out _ _ (HS.out _ HA.out.2.1) ?_
      clear hK' K'
      try simp only [Act.put, List.setIfInBounds_toArray, List.set_cons_zero, List.set_cons_succ]
      refine wpAnyL_one (i := 26) (by kernel_rfl) rfl (fun K' hK' => ?_)
      go_simp
      refine hK'.out _ _ (HS.out _ HA.out.2.1) ?_
      clear hK' K'
      try simp only [Act.put, List.setIfInBounds_toArray, List.set_cons_zero, List.set_cons_succ]
      refine wpAnyL_end (i := 28) (by kernel_rfl) (by kernel_rfl) (by kernel_rfl) rfl (fun K' hK' => ?_)
      refine step_store_blk rfl 35 (.tmp 6) (.tmp 51) rfl g (voteV (x.vd kt []) (.slice ah nh ch) (.slice ap np cp) (.slice (some ⟨ab, 0, none⟩) 20 ac) (.slice none 0 0)) rfl rfl 35 voteZ HB.out hi35 rfl (vote_one _ _ _ _ _ _ _ _ _ _ _ _ _) ?_
      intro w9 hb9 k9
      refine hK'.out _ _ (NoPanic.normal ?_)
      have kw9 : Kp [] W0 w9 := (HA.out.2.1).then k9 (by intro j hj hm; simp at hm; have := HG.out.2.1; omega)
      have hz := vote_far HB.out k9 voteZ_noByte
      exact HK.out _ _ _ _ _ _ _ _ _ _ _ _ _ _ _ _ _ _ _ _ _ _ _ _ _ _ _ g _ _ _ w9 kw9 HG.out.2.1 hb9 ⟨hz _ _ (HH.out.1.kp KB.out), hz _ _ (HH.out.2.1.kp KB.out), hz _ _ (HA.out.1), Byt.nil _⟩
  · skip
    go_simp
    have k1 := ((Kp.refl [] W0).alloc (.cells #[.int .i64 0, .int .i64 0, .int .i64 0, .slice none 0 0, .int .i64 0, .slice none 0 0, .int .i64 0, .slice none 0 0, .int .i64 0, .slice none 0 0, .slice none 0 0, .slice none 0 0] 35)).drew
    have hb1 : Blk (W0.alloc (.cells #[.int .i64 0, .int .i64 0, .int .i64 0, .slice none 0 0, .int .i64 0, .slice none 0 0, .int .i64 0, .slice none 0 0, .int .i64 0, .slice none 0 0, .slice none 0 0, .slice none 0 0] 35)).drew W0.heap.size #[.int .i64 0, .int .i64 0, .int .i64 0, .slice none 0 0, .int .i64 0, .slice none 0 0, .int .i64 0, .slice none 0 0, .int .i64 0, .slice none 0 0, .slice none 0 0, .slice none 0 0] 35 := (Blk.new W0 #[.int .i64 0, .int .i64 0, .int .i64 0, .slice none 0 0, .int .i64 0, .slice none 0 0, .int .i64 0, .slice none 0 0, .int .i64 0, .slice none 0 0, .slice none 0 0, .slice none 0 0] 35).drew
    refine hK'.out _ _ (HS.out _ k1) ?_
    clear hK' K'
    have hg1 : W0.heap.size ≤ W0.heap.size := Nat.le_refl _
    have HG := Lib.hid (And.intro hb1 (And.intro hg1 k1))
    clear hb1 hg1 k1
    generalize (W0.alloc (.cells #[.int .i64 0, .int .i64 0, .int .i64 0, .slice none 0 0, .int .i64 0, .slice none 0 0, .int .i64 0, .slice none 0 0, .int .i64 0, .slice none 0 0, .slice none 0 0, .slice none 0 0] 35)).drew = WG at *
    try simp only [Act.put, List.setIfInBounds_toArray, List.set_cons_zero, List.set_cons_succ]
    refine wpAnyL_one (i := 16) (by kernel_rfl) rfl (fun K' hK' => ?_)
    go_simp
    refine (eviID_any x.bl WG bl0 bl1).mono ?_
    rintro e W1 ⟨vh, vp, rfl, hh, hpp, k1⟩
    obtain ⟨ah, nh, ch, rfl⟩ := hh.form
    obtain ⟨ap, np, cp, rfl⟩ := hpp.form
    have HH := Lib.hid (And.intro hh (And.intro hpp (HG.out.2.2.trans k1)))
    have HB1 := Lib.hid (k1.blk HG.out.1 (by simp))
    clear hh hpp k1
    go_wp2_with fail
    refine hK'.out _ _ (HS.out _ HH.out.2.2) ?_
    clear hK' K'
    try simp only [Act.put, List.setIfInBounds_toArray, List.set_cons_zero, List.set_cons_succ]
    refine wpAnyL_one (i := 21) (by kernel_rfl) rfl (fun K' hK' => ?_)
    go_simp
    refine (address_any kt _ (keyN x.from) W1 (H.out.1.kp HH.out.2.2) rfl (H.out.2.1.kp HH.out.2.2) H.out.2.2).mono ?_
    rintro e W2 ⟨ab, ac, rfl, ha, k2⟩
    rw [addr_length] at ha ⊢
    have HA := Lib.hid (And.intro ha (And.intro (HH.out.2.2.trans k2) ((Kp.refl [] W1).trans (by first | exact k2 | exact ((Kp.refl [] W1).alloc _).trans k2))))
    have HB := Lib.hid (k2.blk HB1.out (by simp))
    clear ha k2
    go_wp2_with fail
    refine hK'.out _ _ (HS.out _ HA.out.2.1) ?_
    clear hK' K'
    try simp only [Act.put, List.setIfInBounds_toArray, List.set_cons_zero, List.set_cons_succ]
    refine wpAnyL_one (i := 26) (by kernel_rfl) rfl (fun K' hK' => ?_)
    go_simp
    refine hK'.out _ _ (HS.out _ HA.out.2.1) ?_
    clear hK' K'
    try simp only [Act.put, List.setIfInBounds_toArray, List.set_cons_zero, List.set_cons_succ]
    refine wpAnyL_end (i := 28) (by kernel_rfl) (by kernel_rfl) (by kernel_rfl) rfl (fun K' hK' => ?_)
    refine step_store_blk rfl 35 (.tmp 6) (.tmp 51) rfl W0.heap.size (voteV (x.vd kt []) (.slice ah nh ch) (.slice ap np cp) (.slice (some ⟨ab, 0, none⟩) 20 ac) (.slice none 0 0)) rfl rfl 35 voteZ HB.out hi35 rfl (vote_one _ _ _ _ _ _ _ _ _ _ _ _ _) ?_
    intro w9 hb9 k9
    refine hK'.out _ _ (NoPanic.normal ?_)
    have kw9 : Kp [] W0 w9 := (HA.out.2.1).then k9 (by intro j hj hm; simp at hm; have := HG.out.2.1; omega)
    have hz := vote_far HB.out k9 voteZ_noByte
    exact HK.out _ _ _ _ _ _ _ _ _ _ _ _ _ _ _ _ _ _ _ _ _ _ _ _ _ _ _ W0.heap.size _ _ _ w9 kw9 HG.out.2.1 hb9 ⟨hz _ _ (HH.out.1.kp HA.out.2.2), hz _ _ (HH.out.2.1.kp HA.out.2.2), hz _ _ (HA.out.1), Byt.nil _⟩
end Go.Proofs.YtfkaldaflnmfiaaGreatDoor
/- What is told of a vote as it is said. -/
namespace Go.Proofs.YtfkaldaflnmfiaaGreatDoor
set_option linter.unusedSimpArgs false
set_option linter.unusedVariables false
open Go Go.RowKit


theorem wpAnyL_mono {P : Program} {ops : Array Oper} {Q : Exit → Act → World → Prop} {md : Region.Mode} {S S' : World → Prop} (hs : ∀ W, S W → S' W) : ∀ {fuel : Nat} {listed : Array Bool} {a : Act} {w : World}, wpAnyL P md ops Q S fuel listed a w → wpAnyL P md ops Q S' fuel listed a w
  | 0, _, _, _, h => h
  | fuel + 1, _, _, _, h => ⟨h.1, fun i hi => wpOp_mono (fun _ _ h' => ⟨h'.1.imp id (hs _), wpAnyL_mono hs h'.2⟩) (h.2 i hi)⟩

theorem field35 (c0 c1 c2 c3 c4 c5 c6 c7 c8 c10 c11 : Value) (a : Option Addr) (n c : Nat) (W : World) : (Instr.field 35 (.agg #[c0, c1, c2, c3, c4, c5, c6, c7, c8, .slice a n c, c10, c11]) 7).run Tryz.prog W = .ok (.slice a n c) W := by kernel_rfl
set_option maxHeartbeats 4000000 in
set_option maxRecDepth 100000 in
theorem told_reg {u0 u1 u3 u4 u7 u8 u9 u10 u11 u12 u13 u14 u15 u16 u17 u18 u19 u20 u21 u22 u23 u24 u25 u26 u27 u28 u29 u30 u31 u32 u33 u34 u35 u36 u37 u38 u39 u40 u41 u42 u43 u44 u45 u46 u47 u48 u49 u50 u51 u52 u53 u54 u55 u56 u57 u58 u59 u60 u61 u62 u63 u64 u65 u66 u67 u68 u69 u70 u71 u72 u73 u74 u75 u76 u77 u78 u79 u80 u81 u82 u83 u84 u85 u86 u87 u88 u89 u90 u91 u92 : Value} {K : Act → World → Prop} {Q0 : Exit → Act → World → Prop} (kt : Nat → Int) (x : Sd) (hx : x.ok) (sg : List Int) (hs1 : Bs sg) (hs2 : sg.length ≤ 32) (r fb g : Nat) (ah ap aa az : Option Addr) (nh ch np cp na ca ns cs : Nat) (W0 : World) (hg : Blk W0 g (voteV (x.vd kt sg) (.slice ah nh ch) (.slice ap np cp) (.slice aa na ca) (.slice az ns cs)) 35) (hV : VoteB W0 (x.vd kt sg) (.slice ah nh ch) (.slice ap np cp) (.slice aa na ca) (.slice az ns cs)) (hr : Blk W0 r voteZ 35) (hgr : g ≠ r) (hf : Byt W0 (.slice (some ⟨fb, 0, none⟩) 2 2) (keyN x.from)) (hT : Tab kt W0)
    (hK : ∀ (v83 v84 v85 v86 v87 v88 v89 v90 v91 v92 : Value) (W : World), Kp [r] W0 W → Blk W r (voteV (x.vd kt sg) (.slice ah nh ch) (.slice ap np cp) (.slice aa na ca) (.slice az ns cs)) 35 → K ⟨#[u0, u1, .pointer (some ⟨r, 0, none⟩), .bool (decide (sgn kt (keyN x.from) (sb (x.vd kt sg)) = sg)), u4, .slice (some ⟨fb, 0, none⟩) 2 2, .pointer (some ⟨g, 0, none⟩), u7, u8, u9, u10, u11, u12, u13, u14, u15, u16, u17, u18, u19, u20, u21, u22, u23, u24, u25, u26, u27, u28, u29, u30, u31, u32, u33, u34, u35, u36, u37, u38, u39, u40, u41, u42, u43, u44, u45, u46, u47, u48, u49, u50, u51, u52, u53, u54, u55, u56, u57, u58, u59, u60, u61, u62, u63, u64, u65, u66, u67, u68, u69, u70, u71, u72, u73, u74, u75, u76, u77, u78, u79, u80, u81, u82, v83, v84, v85, v86, v87, v88, v89, v90, v91, v92], []⟩ W) :
    Code.wp Tryz.prog (codeAt Tryz.f7 [1, 1, 1, 1, 1, 1, 1, 0]) (Exit.then K Q0) ⟨#[u0, u1, .pointer (some ⟨r, 0, none⟩), u3, u4, .slice (some ⟨fb, 0, none⟩) 2 2, .pointer (some ⟨g, 0, none⟩), u7, u8, u9, u10, u11, u12, u13, u14, u15, u16, u17, u18, u19, u20, u21, u22, u23, u24, u25, u26, u27, u28, u29, u30, u31, u32, u33, u34, u35, u36, u37, u38, u39, u40, u41, u42, u43, u44, u45, u46, u47, u48, u49, u50, u51, u52, u53, u54, u55, u56, u57, u58, u59, u60, u61, u62, u63, u64, u65, u66, u67, u68, u69, u70, u71, u72, u73, u74, u75, u76, u77, u78, u79, u80, u81, u82, u83, u84, u85, u86, u87, u88, u89, u90, u91, u92], []⟩ W0 := by
  have hfb := Sd.from_bd hx
  have hok := Sd.vd_ok (kt := kt) hx hs1 hs2
  have hS : ∀ W, Kp [] W0 W → Blk W g (voteV (x.vd kt sg) (.slice ah nh ch) (.slice ap np cp) (.slice aa na ca) (.slice az ns cs)) 35 ∧ Byt W (.slice az ns cs) sg := fun W k => ⟨k.blk hg (by simp), hV.sig.kp k⟩
  have HS := Lib.hid hS
  have H := Lib.hid (And.intro hf (And.intro hT (And.intro (keyN_bs hfb) (And.intro hV (And.intro hr hgr)))))
  have HK := Lib.hid hK
  have k0 := (Kp.refl [] W0).drew
  have hS0 := HS.out _ k0
  clear hg hV hr hgr hf hT hK hS hfb
  conv => arg 2; whnf
  refine wp_region_noPanic ?_
  refine wp_region_last (fun W => Blk W g (voteV (x.vd kt sg) (.slice ah nh ch) (.slice ap np cp) (.slice aa na ca) (.slice az ns cs)) 35 ∧ Byt W (.slice az ns cs) sg) (by kernel_rfl) ?_
  refine wpAnyL_take (i := 0) (v := .agg (voteV (x.vd kt sg) (.slice ah nh ch) (.slice ap np cp) (.slice aa na ca) (.slice az ns cs))) rfl (by kernel_rfl) (by kernel_rfl) (by kernel_rfl) (fun _ _ _ h => h) (Or.inl ⟨by rfl, fun W hSW => by exact exec_load _ _ 35 (.tmp 6) rfl g rfl (voteV (x.vd kt sg) (.slice ah nh ch) (.slice ap np cp) (.slice aa na ca) (.slice az ns cs)) 35 _ W hSW.1 Tryz.underlying35 rfl hi35⟩) hS0 ?_
  try simp only [Act.put, List.setIfInBounds_toArray, List.set_cons_zero, List.set_cons_succ]
  refine wpAnyL_take (i := 1) (v := .agg (voteV (x.vd kt sg) (.slice ah nh ch) (.slice ap np cp) (.slice aa na ca) (.slice az ns cs))) rfl (by kernel_rfl) (by kernel_rfl) (by kernel_rfl) (fun _ _ _ h => h) (Or.inl ⟨by rfl, fun W hSW => by exact exec_load _ _ 35 (.tmp 6) rfl g rfl (voteV (x.vd kt sg) (.slice ah nh ch) (.slice ap np cp) (.slice aa na ca) (.slice az ns cs)) 35 _ W hSW.1 Tryz.underlying35 rfl hi35⟩) hS0 ?_
  try simp only [Act.put, List.setIfInBounds_toArray, List.set_cons_zero, List.set_cons_succ]
  refine wpAnyL_take (i := 2) (v := _) rfl (by kernel_rfl) (by kernel_rfl) (by kernel_rfl) (fun _ _ _ h => h) (Or.inl ⟨by rfl, fun W hSW => by go_simp; try with_reducible rfl⟩) hS0 ?_
  try simp only [Act.put, List.setIfInBounds_toArray, List.set_cons_zero, List.set_cons_succ]
  refine wpAnyL_take (i := 6) (v := _) rfl (by kernel_rfl) (by kernel_rfl) (by kernel_rfl) (fun _ _ _ h => h) (Or.inl ⟨by rfl, fun W hSW => by go_simp; try with_reducible rfl⟩) hS0 ?_
  try simp only [Act.put, List.setIfInBounds_toArray, List.set_cons_zero, List.set_cons_succ]
  refine wpAnyL_take (i := 7) (v := .slice az ns cs) rfl (by kernel_rfl) (by kernel_rfl) (by kernel_rfl) (fun _ _ _ h => h) (Or.inl ⟨by rfl, fun W hSW => by have c9 : W.cell? ⟨g, 9, none⟩ = some (.slice az ns cs) := hSW.1.cell rfl; go_simp; try with_reducible rfl⟩) hS0 ?_
  try simp only [Act.put, List.setIfInBounds_toArray, List.set_cons_zero, List.set_cons_succ]
  refine wpAnyL_take (i := 8) (v := .string (strOfNums sg)) rfl (by kernel_rfl) (by kernel_rfl) (by kernel_rfl) (fun _ _ _ h => h) (Or.inl ⟨by rfl, fun W hSW => by have c9 := run_string W hSW.2 22 Tryz.underlying22; go_simp; try with_reducible rfl⟩) hS0 ?_
  try simp only [Act.put, List.setIfInBounds_toArray, List.set_cons_zero, List.set_cons_succ]
  refine wpAnyL_one (i := 3) (by kernel_rfl) rfl (fun K' hK' => ?_)
  go_simp
  refine (signVote_any kt (x.vd kt sg) hok (Sd.lens kt x sg) (.slice ah nh ch) (.slice ap np cp) (.slice aa na ca) (.slice az ns cs) _ (keyN x.from) W0.drew (H.out.2.2.2.1.kp k0) (H.out.1.kp k0) rfl H.out.2.2.1 (H.out.2.1.kp k0)).mono ?_
  rintro e W1 ⟨vs', rfl, ho, k1⟩
  obtain ⟨a1, n1, c1, rfl⟩ := ho.byt.form
  have hk1 := k0.trans k1
  have H1 := Lib.hid (And.intro ho.byt hk1)
  clear ho k1
  unfold voteV
  go_wp2_with fail
  refine hK'.out _ _ (HS.out _ hk1) ?_
  clear hK' K'
  try simp only [Act.put, List.setIfInBounds_toArray, List.set_cons_zero, List.set_cons_succ]
  refine wpAnyL_mono (S := fun W => (Blk W g (voteV (x.vd kt sg) (.slice ah nh ch) (.slice ap np cp) (.slice aa na ca) (.slice az ns cs)) 35 ∧ Byt W (.slice az ns cs) sg) ∧ Byt W (.slice a1 n1 c1) (sgn kt (keyN x.from) (sb (x.vd kt sg)))) (fun W h => h.1) ?_
  have hS1 := And.intro (HS.out _ hk1) H1.out.1
  refine wpAnyL_take (i := 4) (v := .slice a1 n1 c1) rfl (by kernel_rfl) (by kernel_rfl) (by kernel_rfl) (fun _ _ _ h => h) (Or.inl ⟨by rfl, fun W hSW => by have c9 := field35 (.int .i64 (x.vd kt sg).typ) (.int .i64 (x.vd kt sg).height) (.int .i64 (x.vd kt sg).round) (.slice ah nh ch) (.int .i64 (x.vd kt sg).total) (.slice ap np cp) (.int .i64 (x.vd kt sg).time) (.slice aa na ca) (.int .i64 (x.vd kt sg).index) (.slice none 0 0) (.slice none 0 0) a1 n1 c1 W; go_simp; try with_reducible rfl⟩) hS1 ?_
  try simp only [Act.put, List.setIfInBounds_toArray, List.set_cons_zero, List.set_cons_succ]
  refine wpAnyL_take (i := 5) (v := .string (strOfNums (sgn kt (keyN x.from) (sb (x.vd kt sg))))) rfl (by kernel_rfl) (by kernel_rfl) (by kernel_rfl) (fun _ _ _ h => h) (Or.inl ⟨by rfl, fun W hSW => by have c9 := run_string W hSW.2 22 Tryz.underlying22; go_simp; try with_reducible rfl⟩) hS1 ?_
  try simp only [Act.put, List.setIfInBounds_toArray, List.set_cons_zero, List.set_cons_succ]
  refine wpAnyL_take (i := 9) (v := .bool (decide (sgn kt (keyN x.from) (sb (x.vd kt sg)) = sg))) rfl (by kernel_rfl) (by kernel_rfl) (by kernel_rfl) (fun _ _ _ h => h) (Or.inl ⟨by rfl, fun W hSW => by have c9 := strS_beq (sgn_bs kt (keyN x.from) (sb (x.vd kt sg))) hs1; go_simp; try with_reducible rfl⟩) hS1 ?_
  try simp only [Act.put, List.setIfInBounds_toArray, List.set_cons_zero, List.set_cons_succ]
  refine wpAnyL_one (i := 10) (by kernel_rfl) rfl (fun K' hK' => ?_)
  refine step_store_blk rfl 35 (.tmp 2) (.tmp 83) rfl r (voteV (x.vd kt sg) (.slice ah nh ch) (.slice ap np cp) (.slice aa na ca) (.slice az ns cs)) rfl rfl 35 voteZ (H1.out.2.blk H.out.2.2.2.2.1 (by simp)) hi35 rfl (vote_one _ _ _ _ _ _ _ _ _ _ _ _ _) ?_
  intro w9 hb9 k9
  have hz := vote_far (H1.out.2.blk H.out.2.2.2.2.1 (by simp)) k9 voteZ_noByte
  have hS9 := And.intro (And.intro (k9.blk (HS.out _ hk1).1 (by simpa using H.out.2.2.2.2.2)) (hz _ _ (HS.out _ hk1).2)) (hz _ _ H1.out.1)
  refine hK'.out _ _ hS9 ?_
  clear hK' K'
  try simp only [Act.put, List.setIfInBounds_toArray, List.set_cons_zero, List.set_cons_succ]
  refine wpAnyL_end (i := 11) (by kernel_rfl) (by kernel_rfl) (by kernel_rfl) rfl (fun K' hK' => ?_)
  go_simp
  refine hK'.out _ _ (NoPanic.normal ?_)
  exact HK.out _ _ _ _ _ _ _ _ _ _ w9 ((H1.out.2.mono (by simp)).trans k9) hb9

end Go.Proofs.YtfkaldaflnmfiaaGreatDoor
