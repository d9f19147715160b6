/- The contract of toEvidence. -/
import Derived.WalkKit
import Derived.WalkSpells
import Derived.WalkLawsBesides
import Derived.Handy
import Derived.Lib.Hide
import Derived.IntWalk
import Derived.LoopTactic
import Derived.Deep.QuietTactic
import Derived.Deep.RegionWith
import Derived.Deep.RegionHeld3
import Derived.BigRegion
import Derived.BigQuiet
import Derived.Test.YtfkaldaflnmfiaaGreatDoorKVb
namespace Go.Proofs.YtfkaldaflnmfiaaGreatDoor
set_option linter.unusedSimpArgs false
set_option linter.unusedVariables false
open Go Go.RowKit


/-- Evidence of impl, as its cells. -/
def eviV (A B : VD) (vah vap vaa vas vbh vbp vba vbs : Value) (x y z : Int) : Array Value := #[.int .i64 A.typ, .int .i64 A.height, .int .i64 A.round, vah, .int .i64 A.total, vap, .int .i64 A.time, vaa, .int .i64 A.index, vas, .slice none 0 0, .slice none 0 0, .int .i64 B.typ, .int .i64 B.height, .int .i64 B.round, vbh, .int .i64 B.total, vbp, .int .i64 B.time, vba, .int .i64 B.index, vbs, .slice none 0 0, .slice none 0 0, .int .i64 x, .int .i64 y, .int .i64 z]

set_option maxHeartbeats 2000000 in
set_option maxRecDepth 100000 in
theorem toEvi_any (A B : VD) (okA : A.ok) (okB : B.ok) (vah vap vaa vas vbh vbp vba vbs : Value) (x y z : Int) (w : World) (hA : VoteB w A vah vap vaa vas) (hB : VoteB w B vbh vbp vba vbs) :
    Calls Tryz.prog 24 #[.agg (eviV A B vah vap vaa vas vbh vbp vba vbs x y z)] w fun e w' => ∃ q ga gb, e = .returned (.pointer (some ⟨q, 0, none⟩)) ∧ Blk w' q #[.pointer (some ⟨ga, 0, none⟩), .pointer (some ⟨gb, 0, none⟩), .int .i64 x, .int .i64 y, .int .i64 z] 81 ∧ Blk w' ga (voteC A vah vap vaa vas) 105 ∧ Blk w' gb (voteC B vbh vbp vba vbs) 105 ∧ Kp [] w w' := by
  obtain ⟨ah, nah, cah, rfl⟩ := hA.hash.form
  obtain ⟨ap, nap, cap, rfl⟩ := hA.parts.form
  obtain ⟨aa, naa, caa, rfl⟩ := hA.addr.form
  obtain ⟨as_, nas, cas, rfl⟩ := hA.sig.form
  obtain ⟨bh, nbh, cbh, rfl⟩ := hB.hash.form
  obtain ⟨bp, nbp, cbp, rfl⟩ := hB.parts.form
  obtain ⟨ba, nba, cba, rfl⟩ := hB.addr.form
  obtain ⟨bs, nbs, cbs, rfl⟩ := hB.sig.form
  have H := Lib.hid (And.intro hA hB)
  clear hA hB
  unfold eviV
  go_enter Tryz.func24, Tryz.ntmps24
  go_wp2_with fail
  have hb := Blk.new w #[.int .i64 A.typ, .int .i64 A.height, .int .i64 A.round, .slice ah nah cah, .int .i64 A.total, .slice ap nap cap, .int .i64 A.time, .slice aa naa caa, .int .i64 A.index, .slice as_ nas cas, .slice none 0 0, .slice none 0 0, .int .i64 B.typ, .int .i64 B.height, .int .i64 B.round, .slice bh nbh cbh, .int .i64 B.total, .slice bp nbp cbp, .int .i64 B.time, .slice ba nba cba, .int .i64 B.index, .slice bs nbs cbs, .slice none 0 0, .slice none 0 0, .int .i64 x, .int .i64 y, .int .i64 z] 39
  have k1 := (Kp.refl [] w).alloc (.cells #[.int .i64 A.typ, .int .i64 A.height, .int .i64 A.round, .slice ah nah cah, .int .i64 A.total, .slice ap nap cap, .int .i64 A.time, .slice aa naa caa, .int .i64 A.index, .slice as_ nas cas, .slice none 0 0, .slice none 0 0, .int .i64 B.typ, .int .i64 B.height, .int .i64 B.round, .slice bh nbh cbh, .int .i64 B.total, .slice bp nbp cbp, .int .i64 B.time, .slice ba nba cba, .int .i64 B.index, .slice bs nbs cbs, .slice none 0 0, .slice none 0 0, .int .i64 x, .int .i64 y, .int .i64 z] 39)
  generalize w.alloc (.cells #[.int .i64 A.typ, .int .i64 A.height, .int .i64 A.round, .slice ah nah cah, .int .i64 A.total, .slice ap nap cap, .int .i64 A.time, .slice aa naa caa, .int .i64 A.index, .slice as_ nas cas, .slice none 0 0, .slice none 0 0, .int .i64 B.typ, .int .i64 B.height, .int .i64 B.round, .slice bh nbh cbh, .int .i64 B.total, .slice bp nbp cbp, .int .i64 B.time, .slice ba nba cba, .int .i64 B.index, .slice bs nbs cbs, .slice none 0 0, .slice none 0 0, .int .i64 x, .int .i64 y, .int .i64 z] 39) = wA at *
  obtain ⟨g, eg⟩ : ∃ g, g = w.heap.size := ⟨_, rfl⟩
  rw [← eg] at hb ⊢
  have S : ∀ W, Kp [] wA W → W.cell? ⟨g, 0, none⟩ = some (.int .i64 A.typ) ∧ W.cell? ⟨g, 1, none⟩ = some (.int .i64 A.height) ∧ W.cell? ⟨g, 2, none⟩ = some (.int .i64 A.round) ∧ W.cell? ⟨g, 3, none⟩ = some (.slice ah nah cah) ∧ W.cell? ⟨g, 4, none⟩ = some (.int .i64 A.total) ∧ W.cell? ⟨g, 5, none⟩ = some (.slice ap nap cap) ∧ W.cell? ⟨g, 6, none⟩ = some (.int .i64 A.time) ∧ W.cell? ⟨g, 7, none⟩ = some (.slice aa naa caa) ∧ W.cell? ⟨g, 8, none⟩ = some (.int .i64 A.index) ∧ W.cell? ⟨g, 9, none⟩ = some (.slice as_ nas cas) ∧ W.cell? ⟨g, 10, none⟩ = some (.slice none 0 0) ∧ W.cell? ⟨g, 11, none⟩ = some (.slice none 0 0) ∧ W.cell? ⟨g, 12, none⟩ = some (.int .i64 B.typ) ∧ W.cell? ⟨g, 13, none⟩ = some (.int .i64 B.height) ∧ W.cell? ⟨g, 14, none⟩ = some (.int .i64 B.round) ∧ W.cell? ⟨g, 15, none⟩ = some (.slice bh nbh cbh) ∧ W.cell? ⟨g, 16, none⟩ = some (.int .i64 B.total) ∧ W.cell? ⟨g, 17, none⟩ = some (.slice bp nbp cbp) ∧ W.cell? ⟨g, 18, none⟩ = some (.int .i64 B.time) ∧ W.cell? ⟨g, 19, none⟩ = some (.slice ba nba cba) ∧ W.cell? ⟨g, 20, none⟩ = some (.int .i64 B.index) ∧ W.cell? ⟨g, 21, none⟩ = some (.slice bs nbs cbs) ∧ W.cell? ⟨g, 22, none⟩ = some (.slice none 0 0) ∧ W.cell? ⟨g, 23, none⟩ = some (.slice none 0 0) ∧ W.cell? ⟨g, 24, none⟩ = some (.int .i64 x) ∧ W.cell? ⟨g, 25, none⟩ = some (.int .i64 y) ∧ W.cell? ⟨g, 26, none⟩ = some (.int .i64 z) := fun W k => ⟨hb.all 0 rfl W k, hb.all 1 rfl W k, hb.all 2 rfl W k, hb.all 3 rfl W k, hb.all 4 rfl W k, hb.all 5 rfl W k, hb.all 6 rfl W k, hb.all 7 rfl W k, hb.all 8 rfl W k, hb.all 9 rfl W k, hb.all 10 rfl W k, hb.all 11 rfl W k, hb.all 12 rfl W k, hb.all 13 rfl W k, hb.all 14 rfl W k, hb.all 15 rfl W k, hb.all 16 rfl W k, hb.all 17 rfl W k, hb.all 18 rfl W k, hb.all 19 rfl W k, hb.all 20 rfl W k, hb.all 21 rfl W k, hb.all 22 rfl W k, hb.all 23 rfl W k, hb.all 24 rfl W k, hb.all 25 rfl W k, hb.all 26 rfl W k⟩
  have HS := Lib.hid S
  have HK := Lib.hid (And.intro k1 eg)
  clear S k1 eg hb
  go_region_held3 (fun W => W.cell? ⟨g, 0, none⟩ = some (.int .i64 A.typ) ∧ W.cell? ⟨g, 1, none⟩ = some (.int .i64 A.height) ∧ W.cell? ⟨g, 2, none⟩ = some (.int .i64 A.round) ∧ W.cell? ⟨g, 3, none⟩ = some (.slice ah nah cah) ∧ W.cell? ⟨g, 4, none⟩ = some (.int .i64 A.total) ∧ W.cell? ⟨g, 5, none⟩ = some (.slice ap nap cap) ∧ W.cell? ⟨g, 6, none⟩ = some (.int .i64 A.time) ∧ W.cell? ⟨g, 7, none⟩ = some (.slice aa naa caa) ∧ W.cell? ⟨g, 8, none⟩ = some (.int .i64 A.index) ∧ W.cell? ⟨g, 9, none⟩ = some (.slice as_ nas cas) ∧ W.cell? ⟨g, 10, none⟩ = some (.slice none 0 0) ∧ W.cell? ⟨g, 11, none⟩ = some (.slice none 0 0) ∧ W.cell? ⟨g, 12, none⟩ = some (.int .i64 B.typ) ∧ W.cell? ⟨g, 13, none⟩ = some (.int .i64 B.height) ∧ W.cell? ⟨g, 14, none⟩ = some (.int .i64 B.round) ∧ W.cell? ⟨g, 15, none⟩ = some (.slice bh nbh cbh) ∧ W.cell? ⟨g, 16, none⟩ = some (.int .i64 B.total) ∧ W.cell? ⟨g, 17, none⟩ = some (.slice bp nbp cbp) ∧ W.cell? ⟨g, 18, none⟩ = some (.int .i64 B.time) ∧ W.cell? ⟨g, 19, none⟩ = some (.slice ba nba cba) ∧ W.cell? ⟨g, 20, none⟩ = some (.int .i64 B.index) ∧ W.cell? ⟨g, 21, none⟩ = some (.slice bs nbs cbs) ∧ W.cell? ⟨g, 22, none⟩ = some (.slice none 0 0) ∧ W.cell? ⟨g, 23, none⟩ = some (.slice none 0 0) ∧ W.cell? ⟨g, 24, none⟩ = some (.int .i64 x) ∧ W.cell? ⟨g, 25, none⟩ = some (.int .i64 y) ∧ W.cell? ⟨g, 26, none⟩ = some (.int .i64 z))
    (first | exact HS.out _ (Kp.refl [] wA).drew | exact HS.out _ hk1 | exact HS.out _ hk2 | exact HS.out _ (hk2.alloc _))
    (first | (go_at_call_of 27 (Value.agg #[.int .i64 A.typ, .int .i64 A.height, .int .i64 A.round, .slice ah nah cah, .int .i64 A.total, .slice ap nap cap, .int .i64 A.time, .slice aa naa caa, .int .i64 A.index, .slice as_ nas cas, .slice none 0 0, .slice none 0 0]); refine (toVote_any A okA (.slice ah nah cah) (.slice ap nap cap) (.slice aa naa caa) (.slice as_ nas cas) wA.drew (H.out.1.kp (HK.out.1.drew))).mono ?_; rintro e W1 ⟨ga, rfl, hga, hba, hk0⟩; have hk1 := (Kp.refl [] wA).drew.trans hk0; have HA1 := Lib.hid hba; clear hba hga hk0)
           | (go_at_call_of 27 (Value.agg #[.int .i64 B.typ, .int .i64 B.height, .int .i64 B.round, .slice bh nbh cbh, .int .i64 B.total, .slice bp nbp cbp, .int .i64 B.time, .slice ba nba cba, .int .i64 B.index, .slice bs nbs cbs, .slice none 0 0, .slice none 0 0]); refine (toVote_any B okB (.slice bh nbh cbh) (.slice bp nbp cbp) (.slice ba nba cba) (.slice bs nbs cbs) W1 (H.out.2.kp (HK.out.1.trans hk1))).mono ?_; rintro e W2 ⟨gb, rfl, hgb, hbb, hk0⟩; have hk2 := hk1.trans hk0; have HB1 := Lib.hid (And.intro hbb hk0); clear hbb hgb hk0))
  go_wp2_with fail
  go_ret
  have ke := (Kp.refl [] W2).alloc (.cells #[.pointer (some ⟨ga, 0, none⟩), .pointer (some ⟨gb, 0, none⟩), .int .i64 x, .int .i64 y, .int .i64 z] 81)
  exact ⟨_, ga, gb, rfl, Blk.new W2 _ 81, (HB1.out.2.trans ke).blk HA1.out (by simp), ke.blk HB1.out.1 (by simp), (HK.out.1.trans hk2).trans ke⟩
end Go.Proofs.YtfkaldaflnmfiaaGreatDoor
/- Words for the check of evidence, and the two regions in which a signature is checked. -/
namespace Go.Proofs.YtfkaldaflnmfiaaGreatDoor
set_option linter.unusedSimpArgs false
set_option linter.unusedVariables false
open Go Go.RowKit


/-- The variables that hold the errors. -/
def ErrV (w : World) (k : Nat) : Prop := ∃ t v, w.cell? ⟨k, 0, none⟩ = some (.iface t v)
structure Errs (w : World) : Prop where
  e0 : ErrV w 0
  e1 : ErrV w 1
  e2 : ErrV w 2
  e3 : ErrV w 3
  e4 : ErrV w 4
  e5 : ErrV w 5
  e6 : ErrV w 6
theorem ErrV.kp {w w' : World} {k : Nat} (h : ErrV w k) (hk : Kp [] w w') : ErrV w' k := by
  obtain ⟨t, v, e⟩ := h
  exact ⟨t, v, cell_kp e hk⟩
theorem Errs.kp {w w' : World} (h : Errs w) (hk : Kp [] w w') : Errs w' := ⟨h.e0.kp hk, h.e1.kp hk, h.e2.kp hk, h.e3.kp hk, h.e4.kp hk, h.e5.kp hk, h.e6.kp hk⟩

/-- The parts of a vote's block are whole, or none. -/
def Lens (A : VD) : Prop := (A.hash.length = 0 ∧ A.parts.length = 0) ∨ (A.hash.length = 32 ∧ A.parts.length = 32)
theorem Lens.sb {A : VD} (h : Lens A) (ok : A.ok) : (sb A).length = 60 ∨ (sb A).length = 124 := by
  rw [sb_length A ok]
  unfold Lens at h
  omega
/-- A slice of bytes does not lie in a block without bytes. -/
theorem Byt.farS {w w' : World} {v : Value} {l : List Int} {s : Nat} (h : Byt w v l) (k : Kp [s] w w') (hf : Far w s) : Byt w' v l := by
  rcases h with h | ⟨b, o, c, rfl, h1, h2, h3⟩
  · exact .inl h
  · refine .inr ⟨b, o, c, rfl, h1, Nat.lt_of_lt_of_le h2 k.size, fun j hj => ?_⟩
    have h4 := h3 j hj
    refine (k.cell (p := ⟨b, o + j, none⟩) h2 ?_).trans h4
    intro hm
    simp at hm
    subst hm
    obtain ⟨cs, t, hb, _, hn⟩ := hf
    rw [cell_of_row w b _ cs t (0, 0) hb] at h4
    exact hn _ _ h4
theorem VoteB.farS {w w' : World} {V : VD} {vh vp va vs : Value} {s : Nat} (h : VoteB w V vh vp va vs) (k : Kp [s] w w') (hf : Far w s) : VoteB w' V vh vp va vs := ⟨h.hash.farS k hf, h.parts.farS k hf, h.addr.farS k hf, h.sig.farS k hf⟩
theorem Tab.set {kt : Nat → Int} {w w' : World} {s : Nat} {a : Option Addr} {n c : Nat} {pp : Option Addr} {tvp : Int} {ak : Bool} (h : Tab kt w) (hs : Blk w s (setC (.slice a n c) pp tvp ak) 112) (k : Kp [s] w w') : Tab kt w' := by
  refine ⟨Nat.lt_of_lt_of_le h.1 k.size, fun j hj => (k.cell (p := ⟨10, j, none⟩) h.1 ?_).trans (h.2 j hj)⟩
  intro hm
  simp at hm
  subst hm
  have h0 := h.2 0 (by omega)
  rw [cell_of_row w 10 0 _ _ (0, 0) hs] at h0
  simp [setC] at h0
theorem Errs.set {w w' : World} {s : Nat} {a : Option Addr} {n c : Nat} {pp : Option Addr} {tvp : Int} {ak : Bool} (h : Errs w) (hs : Blk w s (setC (.slice a n c) pp tvp ak) 112) (k : Kp [s] w w') : Errs w' := by
  have key : ∀ j, ErrV w j → ErrV w' j := by
    rintro j ⟨t, v, e⟩
    refine ⟨t, v, (k.cell (p := ⟨j, 0, none⟩) (World.block_lt_of_cell? w _ e) ?_).trans e⟩
    intro hm
    simp at hm
    subst hm
    rw [cell_of_row w j 0 _ _ (0, 0) hs] at e
    simp [setC] at e
  exact ⟨key _ h.e0, key _ h.e1, key _ h.e2, key _ h.e3, key _ h.e4, key _ h.e5, key _ h.e6⟩

/-- The receiver behind the key's interface is no nil pointer. -/
@[go_sem] theorem nilAhead_key (b : Nat) (w : World) : (nilAhead 324 127 (.pointer (some ⟨b, 0, none⟩)) "VerifySignature").run Tryz.prog w = .ok (some false) w := by kernel_rfl

set_option maxHeartbeats 4000000 in
set_option maxRecDepth 100000 in
theorem sigA_reg {u2 u3 u4 u5 u6 u7 u8 u10 u12 u13 u14 u15 u16 u17 u18 u19 u20 u21 u22 u23 u24 u25 u26 u27 u28 u29 u30 u31 u32 u33 u34 u35 u36 u37 u38 u39 u40 u41 u42 u43 u44 u45 u46 u47 u48 u49 u50 u51 u52 u53 u54 u55 u56 u57 u58 u59 u60 u61 u62 u63 u64 u65 u66 u67 u68 u69 u70 u71 u72 u73 u74 u75 u76 u77 u78 u79 u80 u81 u82 u83 u84 u85 u86 u87 u88 u89 u90 u91 u92 u93 u94 u95 u96 u97 u98 u99 u100 u101 u102 u103 u104 u105 u106 u107 u108 u109 u110 u111 u112 u113 u114 u115 u116 u117 u118 u119 u120 u121 u122 u123 u124 u125 u126 u127 u128 u129 u130 u131 u132 u133 u134 u135 u136 u137 u138 u139 u140 u141 u142 u143 u144 u145 u146 u147 u148 u149 u150 u151 u152 u153 u154 u155 u156 u157 u158 u159 u160 u161 u162 u163 u164 u165 u166 u167 u168 u169 u170 u171 u172 u173 u174 u175 u176 u177 u178 u179 u180 u181 u182 u183 u184 u185 u186 u187 : Value} {K : Act → World → Prop} {Q0 : Exit → Act → World → Prop} (kt : Nat → Int) (q g kb : Nat) (vk : Value) (k : List Int) (A : VD) (okA : A.ok) (lA : Lens A) (vah vap vaa vas : Value) (W0 : World)
    (hq : W0.cell? ⟨q, 0, none⟩ = some (.pointer (some ⟨g, 0, none⟩))) (hg : Blk W0 g (voteC A vah vap vaa vas) 105) (hA : VoteB W0 A vah vap vaa vas) (hk : KeyAt W0 kb vk k) (hkl : k.length = 2) (hkb : Bs k) (hT : Tab kt W0)
    (hK : ∀ (v154 v155 v156 v157 v158 v159 v160 v161 v162 v163 v164 v165 v166 v167 v168 : Value) (W : World), Kp [] W0 W → K ⟨#[.pointer (some ⟨q, 0, none⟩), .string ⟨#[101, 118, 105]⟩, u2, u3, u4, u5, u6, u7, u8, keyI kb, u10, .pointer (some ⟨g, 0, none⟩), u12, u13, u14, u15, u16, u17, u18, u19, u20, u21, u22, u23, u24, u25, u26, u27, u28, u29, u30, u31, u32, u33, u34, u35, u36, u37, u38, u39, u40, u41, u42, u43, u44, u45, u46, u47, u48, u49, u50, u51, u52, u53, u54, u55, u56, u57, u58, u59, u60, u61, u62, u63, u64, u65, u66, u67, u68, u69, u70, u71, u72, u73, u74, u75, u76, u77, u78, u79, u80, u81, u82, u83, u84, u85, u86, u87, u88, u89, u90, u91, u92, u93, u94, u95, u96, u97, u98, u99, u100, u101, u102, u103, u104, u105, u106, u107, u108, u109, u110, u111, u112, u113, u114, u115, u116, u117, u118, u119, u120, u121, u122, u123, u124, u125, u126, u127, u128, u129, u130, u131, u132, u133, u134, u135, u136, u137, u138, u139, u140, u141, u142, u143, u144, u145, u146, u147, u148, u149, u150, u151, u152, u153, v154, v155, v156, v157, v158, v159, v160, v161, v162, v163, v164, v165, v166, v167, v168, .bool (!decide (sgn kt k (sb A) = A.sig)), u170, u171, u172, u173, u174, u175, u176, u177, u178, u179, u180, u181, u182, u183, u184, u185, u186, u187], []⟩ W) :
    Code.wp Tryz.prog (codeAt Tryz.f23 [1, 1, 1, 1, 1, 1, 1, 1, 1, 1, 1, 1, 1, 0, 0]) (Exit.then K Q0) ⟨#[.pointer (some ⟨q, 0, none⟩), .string ⟨#[101, 118, 105]⟩, u2, u3, u4, u5, u6, u7, u8, keyI kb, u10, .pointer (some ⟨g, 0, none⟩), u12, u13, u14, u15, u16, u17, u18, u19, u20, u21, u22, u23, u24, u25, u26, u27, u28, u29, u30, u31, u32, u33, u34, u35, u36, u37, u38, u39, u40, u41, u42, u43, u44, u45, u46, u47, u48, u49, u50, u51, u52, u53, u54, u55, u56, u57, u58, u59, u60, u61, u62, u63, u64, u65, u66, u67, u68, u69, u70, u71, u72, u73, u74, u75, u76, u77, u78, u79, u80, u81, u82, u83, u84, u85, u86, u87, u88, u89, u90, u91, u92, u93, u94, u95, u96, u97, u98, u99, u100, u101, u102, u103, u104, u105, u106, u107, u108, u109, u110, u111, u112, u113, u114, u115, u116, u117, u118, u119, u120, u121, u122, u123, u124, u125, u126, u127, u128, u129, u130, u131, u132, u133, u134, u135, u136, u137, u138, u139, u140, u141, u142, u143, u144, u145, u146, u147, u148, u149, u150, u151, u152, u153, u154, u155, u156, u157, u158, u159, u160, u161, u162, u163, u164, u165, u166, u167, u168, u169, u170, u171, u172, u173, u174, u175, u176, u177, u178, u179, u180, u181, u182, u183, u184, u185, u186, u187], []⟩ W0 := by
  obtain ⟨ah, nah, cah, rfl⟩ := hA.hash.form
  obtain ⟨ap, nap, cap, rfl⟩ := hA.parts.form
  obtain ⟨aa, naa, caa, rfl⟩ := hA.addr.form
  obtain ⟨as_, nas, cas, rfl⟩ := hA.sig.form
  have q0 : ∀ W, Kp [] W0 W → W.cell? ⟨q, 0, none⟩ = some (.pointer (some ⟨g, 0, none⟩)) := fun W kk => cell_kp hq kk
  have a9 : ∀ W, Kp [] W0 W → W.cell? ⟨g, 9, none⟩ = some (.slice as_ nas cas) := hg.all 9 rfl
  have HS := Lib.hid (And.intro q0 a9)
  have H := Lib.hid (And.intro hg (And.intro hA (And.intro hk (And.intro hkl (And.intro hkb hT)))))
  have HK := Lib.hid hK
  clear hq hg hA hk hkl hkb hT q0 a9 hK
  unfold keyI at *
  conv => arg 2; whnf
  go_region_held3 (fun W => W.cell? ⟨q, 0, none⟩ = some (.pointer (some ⟨g, 0, none⟩)) ∧ W.cell? ⟨g, 9, none⟩ = some (.slice as_ nas cas))
    (first | exact ⟨HS.out.1 _ (Kp.refl [] W0).drew, HS.out.2 _ (Kp.refl [] W0).drew⟩ | exact ⟨HS.out.1 _ hk20, HS.out.2 _ hk20⟩ | exact ⟨HS.out.1 _ hk21, HS.out.2 _ hk21⟩)
    (first | (go_at_call 38; refine (signBytes_any g A okA _ _ _ _ W0.drew H.out.1.drew H.out.2.1.hash.drew H.out.2.1.parts.drew).mono ?_; rintro e W20 ⟨v20, rfl, ho20, hk0⟩; have hk20 := (Kp.refl [] W0).drew.trans hk0; have HO20 := Lib.hid ho20.byt; clear ho20 hk0)
           | (go_at_call 162; refine (verifySig_any kt kb vk v20 (.slice as_ nas cas) k (sb A) A.sig W20 (H.out.2.2.1.kp hk20) HO20.out (H.out.2.1.sig.kp hk20) H.out.2.2.2.1 (lA.sb okA) (H.out.2.2.2.2.2.kp hk20) H.out.2.2.2.2.1 (sb_bs A okA) okA.sig.1).mono ?_; rintro e W21 ⟨rfl, hk0⟩; have hk21 := hk20.trans hk0; generalize hxx : decide (sgn kt k (sb A) = A.sig) = xx))
  all_goals
    have h9 := HK.out
    rw [hxx] at h9
    exact h9 _ _ _ _ _ _ _ _ _ _ _ _ _ _ _ _ hk21

set_option maxHeartbeats 4000000 in
set_option maxRecDepth 100000 in
theorem sigB_reg {u2 u3 u4 u5 u6 u7 u8 u10 u11 u13 u14 u15 u16 u17 u18 u19 u20 u21 u22 u23 u24 u25 u26 u27 u28 u29 u30 u31 u32 u33 u34 u35 u36 u37 u38 u39 u40 u41 u42 u43 u44 u45 u46 u47 u48 u49 u50 u51 u52 u53 u54 u55 u56 u57 u58 u59 u60 u61 u62 u63 u64 u65 u66 u67 u68 u69 u70 u71 u72 u73 u74 u75 u76 u77 u78 u79 u80 u81 u82 u83 u84 u85 u86 u87 u88 u89 u90 u91 u92 u93 u94 u95 u96 u97 u98 u99 u100 u101 u102 u103 u104 u105 u106 u107 u108 u109 u110 u111 u112 u113 u114 u115 u116 u117 u118 u119 u120 u121 u122 u123 u124 u125 u126 u127 u128 u129 u130 u131 u132 u133 u134 u135 u136 u137 u138 u139 u140 u141 u142 u143 u144 u145 u146 u147 u148 u149 u150 u151 u152 u153 u154 u155 u156 u157 u158 u159 u160 u161 u162 u163 u164 u165 u166 u167 u168 u169 u170 u171 u172 u173 u174 u175 u176 u177 u178 u179 u180 u181 u182 u183 u184 u185 u186 u187 : Value} {K : Act → World → Prop} {Q0 : Exit → Act → World → Prop} (kt : Nat → Int) (q g kb : Nat) (vk : Value) (k : List Int) (A : VD) (okA : A.ok) (lA : Lens A) (vah vap vaa vas : Value) (W0 : World)
    (hq : W0.cell? ⟨q, 1, none⟩ = some (.pointer (some ⟨g, 0, none⟩))) (hg : Blk W0 g (voteC A vah vap vaa vas) 105) (hA : VoteB W0 A vah vap vaa vas) (hk : KeyAt W0 kb vk k) (hkl : k.length = 2) (hkb : Bs k) (hT : Tab kt W0)
    (hK : ∀ (v171 v172 v173 v174 v175 v176 v177 v178 v179 v180 v181 v182 v183 v184 v185 : Value) (W : World), Kp [] W0 W → K ⟨#[.pointer (some ⟨q, 0, none⟩), .string ⟨#[101, 118, 105]⟩, u2, u3, u4, u5, u6, u7, u8, keyI kb, u10, u11, .pointer (some ⟨g, 0, none⟩), u13, u14, u15, u16, u17, u18, u19, u20, u21, u22, u23, u24, u25, u26, u27, u28, u29, u30, u31, u32, u33, u34, u35, u36, u37, u38, u39, u40, u41, u42, u43, u44, u45, u46, u47, u48, u49, u50, u51, u52, u53, u54, u55, u56, u57, u58, u59, u60, u61, u62, u63, u64, u65, u66, u67, u68, u69, u70, u71, u72, u73, u74, u75, u76, u77, u78, u79, u80, u81, u82, u83, u84, u85, u86, u87, u88, u89, u90, u91, u92, u93, u94, u95, u96, u97, u98, u99, u100, u101, u102, u103, u104, u105, u106, u107, u108, u109, u110, u111, u112, u113, u114, u115, u116, u117, u118, u119, u120, u121, u122, u123, u124, u125, u126, u127, u128, u129, u130, u131, u132, u133, u134, u135, u136, u137, u138, u139, u140, u141, u142, u143, u144, u145, u146, u147, u148, u149, u150, u151, u152, u153, u154, u155, u156, u157, u158, u159, u160, u161, u162, u163, u164, u165, u166, u167, u168, u169, u170, v171, v172, v173, v174, v175, v176, v177, v178, v179, v180, v181, v182, v183, v184, v185, .bool (!decide (sgn kt k (sb A) = A.sig)), u187], []⟩ W) :
    Code.wp Tryz.prog (codeAt Tryz.f23 [1, 1, 1, 1, 1, 1, 1, 1, 1, 1, 1, 1, 1, 1, 0, 0]) (Exit.then K Q0) ⟨#[.pointer (some ⟨q, 0, none⟩), .string ⟨#[101, 118, 105]⟩, u2, u3, u4, u5, u6, u7, u8, keyI kb, u10, u11, .pointer (some ⟨g, 0, none⟩), u13, u14, u15, u16, u17, u18, u19, u20, u21, u22, u23, u24, u25, u26, u27, u28, u29, u30, u31, u32, u33, u34, u35, u36, u37, u38, u39, u40, u41, u42, u43, u44, u45, u46, u47, u48, u49, u50, u51, u52, u53, u54, u55, u56, u57, u58, u59, u60, u61, u62, u63, u64, u65, u66, u67, u68, u69, u70, u71, u72, u73, u74, u75, u76, u77, u78, u79, u80, u81, u82, u83, u84, u85, u86, u87, u88, u89, u90, u91, u92, u93, u94, u95, u96, u97, u98, u99, u100, u101, u102, u103, u104, u105, u106, u107, u108, u109, u110, u111, u112, u113, u114, u115, u116, u117, u118, u119, u120, u121, u122, u123, u124, u125, u126, u127, u128, u129, u130, u131, u132, u133, u134, u135, u136, u137, u138, u139, u140, u141, u142, u143, u144, u145, u146, u147, u148, u149, u150, u151, u152, u153, u154, u155, u156, u157, u158, u159, u160, u161, u162, u163, u164, u165, u166, u167, u168, u169, u170, u171, u172, u173, u174, u175, u176, u177, u178, u179, u180, u181, u182, u183, u184, u185, u186, u187], []⟩ W0 := by
  obtain ⟨ah, nah, cah, rfl⟩ := hA.hash.form
  obtain ⟨ap, nap, cap, rfl⟩ := hA.parts.form
  obtain ⟨aa, naa, caa, rfl⟩ := hA.addr.form
  obtain ⟨as_, nas, cas, rfl⟩ := hA.sig.form
  have q0 : ∀ W, Kp [] W0 W → W.cell? ⟨q, 1, none⟩ = some (.pointer (some ⟨g, 0, none⟩)) := fun W kk => cell_kp hq kk
  have a9 : ∀ W, Kp [] W0 W → W.cell? ⟨g, 9, none⟩ = some (.slice as_ nas cas) := hg.all 9 rfl
  have HS := Lib.hid (And.intro q0 a9)
  have H := Lib.hid (And.intro hg (And.intro hA (And.intro hk (And.intro hkl (And.intro hkb hT)))))
  have HK := Lib.hid hK
  clear hq hg hA hk hkl hkb hT q0 a9 hK
  unfold keyI at *
  conv => arg 2; whnf
  go_region_held3 (fun W => W.cell? ⟨q, 1, none⟩ = some (.pointer (some ⟨g, 0, none⟩)) ∧ W.cell? ⟨g, 9, none⟩ = some (.slice as_ nas cas))
    (first | exact ⟨HS.out.1 _ (Kp.refl [] W0).drew, HS.out.2 _ (Kp.refl [] W0).drew⟩ | exact ⟨HS.out.1 _ hk20, HS.out.2 _ hk20⟩ | exact ⟨HS.out.1 _ hk21, HS.out.2 _ hk21⟩)
    (first | (go_at_call 38; refine (signBytes_any g A okA _ _ _ _ W0.drew H.out.1.drew H.out.2.1.hash.drew H.out.2.1.parts.drew).mono ?_; rintro e W20 ⟨v20, rfl, ho20, hk0⟩; have hk20 := (Kp.refl [] W0).drew.trans hk0; have HO20 := Lib.hid ho20.byt; clear ho20 hk0)
           | (go_at_call 162; refine (verifySig_any kt kb vk v20 (.slice as_ nas cas) k (sb A) A.sig W20 (H.out.2.2.1.kp hk20) HO20.out (H.out.2.1.sig.kp hk20) H.out.2.2.2.1 (lA.sb okA) (H.out.2.2.2.2.2.kp hk20) H.out.2.2.2.2.1 (sb_bs A okA) okA.sig.1).mono ?_; rintro e W21 ⟨rfl, hk0⟩; have hk21 := hk20.trans hk0; generalize hxx : decide (sgn kt k (sb A) = A.sig) = xx))
  all_goals
    have h9 := HK.out
    rw [hxx] at h9
    exact h9 _ _ _ _ _ _ _ _ _ _ _ _ _ _ _ _ hk21

end Go.Proofs.YtfkaldaflnmfiaaGreatDoor
