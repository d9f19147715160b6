/- The contract of a vote as it is said. -/
import Derived.WalkKit
import Derived.WalkSpells
import Derived.WalkLawsBesides
import Derived.Handy
import Derived.Lib.Hide
import Derived.IntWalk
import Derived.LoopTactic
import Derived.Deep.QuietTactic
import Derived.Deep.RegionWith
import Derived.Deep.RegionHeld3
import Derived.BigRegion
import Derived.BigQuiet
import Derived.Test.YtfkaldaflnmfiaaGreatDoorKTl
namespace Go.Proofs.YtfkaldaflnmfiaaGreatDoor
set_option linter.unusedSimpArgs false
set_option linter.unusedVariables false
open Go Go.RowKit


theorem Own.set {w : World} {B b n c : Nat} {l : List Int} (h : Own w B (.slice (some ⟨b, 0, none⟩) n c) l) (j : Nat) (y : Int) : Own (w.setCell ⟨b, j, none⟩ (.int .u8 y)) B (.slice (some ⟨b, 0, none⟩) n c) (l.set j y) := by
  unfold Own at h ⊢
  rw [List.length_set]
  have hu : u8s (l.set j y) = (u8s l).set j (.int .u8 y) := by simp [u8s, List.map_set]
  rw [hu]
  obtain ⟨h1, h2 | ⟨g', cap', cur, h0, h2, h3, h4, h5, h6, h7⟩⟩ := h
  · cases h2.1
  · injection h0 with e1 e2 e3
    injection e1 with e1
    injection e1 with e1 e4
    subst e1 e3 e2
    refine ⟨by simpa using h1, .inr ⟨b, c, cur.setIfInBounds j (.int .u8 y), rfl, h2, ?_, h4, h5, by simpa using h6, ?_⟩⟩
    · rw [setCell_eq_setRow w b j cur 5 (0, 0) _ h3]
      exact setRow_heap w b cur _ 5 (0, 0) h3
    · rw [Array.toList_setIfInBounds, List.take_set, h7]
theorem Own.free {w : World} {B b n c : Nat} {l : List Int} (h : Own w B (.slice (some ⟨b, 0, none⟩) n c) l) (j : Nat) : w.frozen? ⟨b, j, none⟩ = false := by
  obtain ⟨h1, h2 | ⟨g', cap', cur, h0, h2, h3, h4⟩⟩ := h
  · cases h2.1
  · injection h0 with e1 e2 e3
    injection e1 with e1
    injection e1 with e1 e4
    subst e1
    simp [World.frozen?, h3]
theorem Byt.at {w : World} {b n c : Nat} {l : List Int} (h : Byt w (.slice (some ⟨b, 0, none⟩) n c) l) (j : Nat) (hj : j < n) : w.cell? ⟨b, j, none⟩ = some (.int .u8 (l.getD j 0)) := by
  rcases h with ⟨h, _⟩ | ⟨b', o', c', e, h1, h2, h3⟩
  · cases h
  · injection e with e1 e2 e3
    injection e1 with e1
    injection e1 with e4 e5
    subst e4 e5
    have := h3 j (by omega)
    rwa [Nat.zero_add] at this
theorem vote_noByte (V : VD) (a a2 a3 a4 : Option Addr) (n n2 n3 n4 c c2 c3 c4 : Nat) : ∀ (j : Nat) (y : Int), (voteV V (.slice a n c) (.slice a2 n2 c2) (.slice a3 n3 c3) (.slice a4 n4 c4))[j]? ≠ some (.int .u8 y) := by
  intro j y h
  unfold voteV at h
  simp only [List.getElem?_toArray] at h
  have hm := List.mem_of_getElem? h
  simp at hm
theorem vote_set9 (V : VD) (vh vp va vs vs' : Value) : (voteV V vh vp va vs).setIfInBounds 9 vs' = voteV V vh vp va vs' := rfl
theorem Own.empty {w : World} {B b : Nat} (h : Blk w b #[] 5) (hB : B ≤ b) : Own w B (.slice (some ⟨b, 0, none⟩) 0 0) [] :=
  Own.of_blk h hB (Nat.le_refl _) rfl (by unfold maxLen; omega) rfl
theorem two_byt {W : World} {b : Nat} {x y : Int} (h : Blk W b #[.int .u8 x, .int .u8 y] 5) : Byt W (.slice (some ⟨b, 0, none⟩) 2 2) [x, y] :=
  byt_of_blk (l := [x, y]) h rfl

set_option maxHeartbeats 1000000 in
set_option maxRecDepth 100000 in
theorem eviVote_any (kt : Nat → Int) (x : Sd) (hx : x.ok) (w : World) (hT : Tab kt w) :
    Calls Tryz.prog 7 #[.agg x.cells] w fun e w' => ∃ vh vp va vs sg r, e = .returned (.tuple #[.agg (voteV (x.vd kt sg) vh vp va vs), .bool r]) ∧ Bs sg ∧ sg.length = 32 ∧ VoteB w' (x.vd kt sg) vh vp va vs ∧ (r = true ↔ sgn kt (keyN x.from) (sb (x.vd kt sg)) = sg) ∧ (x.sp % 8 ≠ 1 → sg = sgn kt (keyN (x.wh % 10)) (sb (x.vd kt sg))) ∧ Kp [] w w' := by
  have HX := Lib.hid hx
  have HT := Lib.hid hT
  obtain ⟨⟨wh0, wh1⟩, ⟨ot0, ot1⟩, ⟨ty0, ty1⟩, ⟨he0, he1⟩, ⟨ro0, ro1⟩, ⟨bl0, bl1⟩, ⟨ti0, ti1⟩, ⟨sp0, sp1⟩⟩ := hx
  clear hT
  have hz1 : ∀ c : Array Value, (w.alloc (.cells c 24)).heap.size = w.heap.size + 1 := fun c => by simp
  have hz2 : ∀ c c' : Array Value, ((w.alloc (.cells c 24)).alloc (.cells c' 35)).heap.size = w.heap.size + 1 + 1 := fun c c' => by simp
  have hz3 : ∀ c c' c'' : Array Value, (((w.alloc (.cells c 24)).alloc (.cells c' 35)).alloc (.cells c'' 5)).heap.size = w.heap.size + 1 + 1 + 1 := fun c c' c'' => by simp
  have HZ := Lib.hid (And.intro hz1 (And.intro hz2 hz3))
  clear hz1 hz2 hz3
  unfold Sd.cells
  go_enter Tryz.func7, Tryz.ntmps7
  by_cases ho : x.ot % 8 = 1
  case' pos =>
    have hob : (x.ot % 8 == 1) = true := by rw [ho]; rfl
    have HO := Lib.hid ho
    clear ho
    go_wp2_with fail
    have hp := (((Blk.new w #[.int .u8 x.wh, .int .u8 x.ot, .int .u8 x.ty, .int .u8 x.he, .int .u8 x.ro, .int .u8 x.bl, .int .u8 x.ti, .int .u8 x.sp] 24).alloc (.cells #[.int .i64 0, .int .i64 0, .int .i64 0, .slice none 0 0, .int .i64 0, .slice none 0 0, .int .i64 0, .slice none 0 0, .int .i64 0, .slice none 0 0, .slice none 0 0, .slice none 0 0] 35)).alloc (.cells #[.int .u8 101, .int .u8 (x.wh % 10)] 5)).alloc (.cells #[.int .u8 101, .int .u8 ((x.wh + 1 + x.ot / 8) % 256 % 10)] 5)
    have hr : Blk ((((w.alloc (.cells #[.int .u8 x.wh, .int .u8 x.ot, .int .u8 x.ty, .int .u8 x.he, .int .u8 x.ro, .int .u8 x.bl, .int .u8 x.ti, .int .u8 x.sp] 24)).alloc (.cells #[.int .i64 0, .int .i64 0, .int .i64 0, .slice none 0 0, .int .i64 0, .slice none 0 0, .int .i64 0, .slice none 0 0, .int .i64 0, .slice none 0 0, .slice none 0 0, .slice none 0 0] 35)).alloc (.cells #[.int .u8 101, .int .u8 (x.wh % 10)] 5)).alloc (.cells #[.int .u8 101, .int .u8 ((x.wh + 1 + x.ot / 8) % 256 % 10)] 5)) (w.heap.size + 1) #[.int .i64 0, .int .i64 0, .int .i64 0, .slice none 0 0, .int .i64 0, .slice none 0 0, .int .i64 0, .slice none 0 0, .int .i64 0, .slice none 0 0, .slice none 0 0, .slice none 0 0] 35 := (((Blk.new (w.alloc (.cells #[.int .u8 x.wh, .int .u8 x.ot, .int .u8 x.ty, .int .u8 x.he, .int .u8 x.ro, .int .u8 x.bl, .int .u8 x.ti, .int .u8 x.sp] 24)) #[.int .i64 0, .int .i64 0, .int .i64 0, .slice none 0 0, .int .i64 0, .slice none 0 0, .int .i64 0, .slice none 0 0, .int .i64 0, .slice none 0 0, .slice none 0 0, .slice none 0 0] 35).alloc (.cells #[.int .u8 101, .int .u8 (x.wh % 10)] 5)).alloc (.cells #[.int .u8 101, .int .u8 ((x.wh + 1 + x.ot / 8) % 256 % 10)] 5)) |> fun h => by rw [HZ.out.1] at h; exact h
    have hkb : Blk ((((w.alloc (.cells #[.int .u8 x.wh, .int .u8 x.ot, .int .u8 x.ty, .int .u8 x.he, .int .u8 x.ro, .int .u8 x.bl, .int .u8 x.ti, .int .u8 x.sp] 24)).alloc (.cells #[.int .i64 0, .int .i64 0, .int .i64 0, .slice none 0 0, .int .i64 0, .slice none 0 0, .int .i64 0, .slice none 0 0, .int .i64 0, .slice none 0 0, .slice none 0 0, .slice none 0 0] 35)).alloc (.cells #[.int .u8 101, .int .u8 (x.wh % 10)] 5)).alloc (.cells #[.int .u8 101, .int .u8 ((x.wh + 1 + x.ot / 8) % 256 % 10)] 5)) (w.heap.size + 1 + 1) #[.int .u8 101, .int .u8 (x.wh % 10)] 5 := ((Blk.new ((w.alloc (.cells #[.int .u8 x.wh, .int .u8 x.ot, .int .u8 x.ty, .int .u8 x.he, .int .u8 x.ro, .int .u8 x.bl, .int .u8 x.ti, .int .u8 x.sp] 24)).alloc (.cells #[.int .i64 0, .int .i64 0, .int .i64 0, .slice none 0 0, .int .i64 0, .slice none 0 0, .int .i64 0, .slice none 0 0, .int .i64 0, .slice none 0 0, .slice none 0 0, .slice none 0 0] 35)) #[.int .u8 101, .int .u8 (x.wh % 10)] 5).alloc (.cells #[.int .u8 101, .int .u8 ((x.wh + 1 + x.ot / 8) % 256 % 10)] 5)) |> fun h => by rw [HZ.out.2.1] at h; exact h
    have hfb : Blk ((((w.alloc (.cells #[.int .u8 x.wh, .int .u8 x.ot, .int .u8 x.ty, .int .u8 x.he, .int .u8 x.ro, .int .u8 x.bl, .int .u8 x.ti, .int .u8 x.sp] 24)).alloc (.cells #[.int .i64 0, .int .i64 0, .int .i64 0, .slice none 0 0, .int .i64 0, .slice none 0 0, .int .i64 0, .slice none 0 0, .int .i64 0, .slice none 0 0, .slice none 0 0, .slice none 0 0] 35)).alloc (.cells #[.int .u8 101, .int .u8 (x.wh % 10)] 5)).alloc (.cells #[.int .u8 101, .int .u8 ((x.wh + 1 + x.ot / 8) % 256 % 10)] 5)) (w.heap.size + 1 + 1 + 1) #[.int .u8 101, .int .u8 ((x.wh + 1 + x.ot / 8) % 256 % 10)] 5 := (Blk.new (((w.alloc (.cells #[.int .u8 x.wh, .int .u8 x.ot, .int .u8 x.ty, .int .u8 x.he, .int .u8 x.ro, .int .u8 x.bl, .int .u8 x.ti, .int .u8 x.sp] 24)).alloc (.cells #[.int .i64 0, .int .i64 0, .int .i64 0, .slice none 0 0, .int .i64 0, .slice none 0 0, .int .i64 0, .slice none 0 0, .int .i64 0, .slice none 0 0, .slice none 0 0, .slice none 0 0] 35)).alloc (.cells #[.int .u8 101, .int .u8 (x.wh % 10)] 5)) #[.int .u8 101, .int .u8 ((x.wh + 1 + x.ot / 8) % 256 % 10)] 5) |> fun h => by rw [HZ.out.2.2] at h; exact h
    have kw := ((((Kp.refl [] w).alloc (.cells #[.int .u8 x.wh, .int .u8 x.ot, .int .u8 x.ty, .int .u8 x.he, .int .u8 x.ro, .int .u8 x.bl, .int .u8 x.ti, .int .u8 x.sp] 24)).alloc (.cells #[.int .i64 0, .int .i64 0, .int .i64 0, .slice none 0 0, .int .i64 0, .slice none 0 0, .int .i64 0, .slice none 0 0, .int .i64 0, .slice none 0 0, .slice none 0 0, .slice none 0 0] 35)).alloc (.cells #[.int .u8 101, .int .u8 (x.wh % 10)] 5)).alloc (.cells #[.int .u8 101, .int .u8 ((x.wh + 1 + x.ot / 8) % 256 % 10)] 5)
    generalize (((w.alloc (.cells #[.int .u8 x.wh, .int .u8 x.ot, .int .u8 x.ty, .int .u8 x.he, .int .u8 x.ro, .int .u8 x.bl, .int .u8 x.ti, .int .u8 x.sp] 24)).alloc (.cells #[.int .i64 0, .int .i64 0, .int .i64 0, .slice none 0 0, .int .i64 0, .slice none 0 0, .int .i64 0, .slice none 0 0, .int .i64 0, .slice none 0 0, .slice none 0 0, .slice none 0 0] 35)).alloc (.cells #[.int .u8 101, .int .u8 (x.wh % 10)] 5)).alloc (.cells #[.int .u8 101, .int .u8 ((x.wh + 1 + x.ot / 8) % 256 % 10)] 5) = w2 at *
    have hfr : x.from = (x.wh + 1 + x.ot / 8) % 256 % 10 := by unfold Sd.from; rw [if_pos HO.out]; omega
    have hF := two_byt hfb
    rw [← hfr] at hF
    obtain ⟨p, ep⟩ : ∃ p, p = w.heap.size := ⟨_, rfl⟩
    have hK2 := two_byt hkb
    rw [← ep] at hp hr hkb hF hK2 ⊢
    have HP := Lib.hid (And.intro hp (And.intro hr (And.intro hF (And.intro hK2 (And.intro kw ep)))))
    clear hp hr hkb hF hK2 kw ep hfr hfb
    refine make_reg kt x HX.out p _ w2 HP.out.1 HP.out.2.2.1 (HT.out.kp HP.out.2.2.2.2.1) ?_
    intro v25 v26 v27 v28 v29 v30 v31 v32 v33 v34 v35 v36 v37 v38 v39 v40 v41 v42 v43 v44 v45 v46 v47 v48 v49 v50 v51 g vh vp va W5 k5 hg5 hb5 hv5
  case' neg =>
    have hob : (x.ot % 8 == 1) = false := by rw [beq_eq_false_iff_ne]; exact ho
    have HO := Lib.hid ho
    clear ho
    go_wp2_with fail
    have hp := (((Blk.new w #[.int .u8 x.wh, .int .u8 x.ot, .int .u8 x.ty, .int .u8 x.he, .int .u8 x.ro, .int .u8 x.bl, .int .u8 x.ti, .int .u8 x.sp] 24).alloc (.cells #[.int .i64 0, .int .i64 0, .int .i64 0, .slice none 0 0, .int .i64 0, .slice none 0 0, .int .i64 0, .slice none 0 0, .int .i64 0, .slice none 0 0, .slice none 0 0, .slice none 0 0] 35)).alloc (.cells #[.int .u8 101, .int .u8 (x.wh % 10)] 5))
    have hr : Blk (((w.alloc (.cells #[.int .u8 x.wh, .int .u8 x.ot, .int .u8 x.ty, .int .u8 x.he, .int .u8 x.ro, .int .u8 x.bl, .int .u8 x.ti, .int .u8 x.sp] 24)).alloc (.cells #[.int .i64 0, .int .i64 0, .int .i64 0, .slice none 0 0, .int .i64 0, .slice none 0 0, .int .i64 0, .slice none 0 0, .int .i64 0, .slice none 0 0, .slice none 0 0, .slice none 0 0] 35)).alloc (.cells #[.int .u8 101, .int .u8 (x.wh % 10)] 5)) (w.heap.size + 1) #[.int .i64 0, .int .i64 0, .int .i64 0, .slice none 0 0, .int .i64 0, .slice none 0 0, .int .i64 0, .slice none 0 0, .int .i64 0, .slice none 0 0, .slice none 0 0, .slice none 0 0] 35 := ((Blk.new (w.alloc (.cells #[.int .u8 x.wh, .int .u8 x.ot, .int .u8 x.ty, .int .u8 x.he, .int .u8 x.ro, .int .u8 x.bl, .int .u8 x.ti, .int .u8 x.sp] 24)) #[.int .i64 0, .int .i64 0, .int .i64 0, .slice none 0 0, .int .i64 0, .slice none 0 0, .int .i64 0, .slice none 0 0, .int .i64 0, .slice none 0 0, .slice none 0 0, .slice none 0 0] 35).alloc (.cells #[.int .u8 101, .int .u8 (x.wh % 10)] 5)) |> fun h => by rw [HZ.out.1] at h; exact h
    have hkb : Blk (((w.alloc (.cells #[.int .u8 x.wh, .int .u8 x.ot, .int .u8 x.ty, .int .u8 x.he, .int .u8 x.ro, .int .u8 x.bl, .int .u8 x.ti, .int .u8 x.sp] 24)).alloc (.cells #[.int .i64 0, .int .i64 0, .int .i64 0, .slice none 0 0, .int .i64 0, .slice none 0 0, .int .i64 0, .slice none 0 0, .int .i64 0, .slice none 0 0, .slice none 0 0, .slice none 0 0] 35)).alloc (.cells #[.int .u8 101, .int .u8 (x.wh % 10)] 5)) (w.heap.size + 1 + 1) #[.int .u8 101, .int .u8 (x.wh % 10)] 5 := (Blk.new ((w.alloc (.cells #[.int .u8 x.wh, .int .u8 x.ot, .int .u8 x.ty, .int .u8 x.he, .int .u8 x.ro, .int .u8 x.bl, .int .u8 x.ti, .int .u8 x.sp] 24)).alloc (.cells #[.int .i64 0, .int .i64 0, .int .i64 0, .slice none 0 0, .int .i64 0, .slice none 0 0, .int .i64 0, .slice none 0 0, .int .i64 0, .slice none 0 0, .slice none 0 0, .slice none 0 0] 35)) #[.int .u8 101, .int .u8 (x.wh % 10)] 5) |> fun h => by rw [HZ.out.2.1] at h; exact h
    have kw := (((Kp.refl [] w).alloc (.cells #[.int .u8 x.wh, .int .u8 x.ot, .int .u8 x.ty, .int .u8 x.he, .int .u8 x.ro, .int .u8 x.bl, .int .u8 x.ti, .int .u8 x.sp] 24)).alloc (.cells #[.int .i64 0, .int .i64 0, .int .i64 0, .slice none 0 0, .int .i64 0, .slice none 0 0, .int .i64 0, .slice none 0 0, .int .i64 0, .slice none 0 0, .slice none 0 0, .slice none 0 0] 35)).alloc (.cells #[.int .u8 101, .int .u8 (x.wh % 10)] 5)
    generalize ((w.alloc (.cells #[.int .u8 x.wh, .int .u8 x.ot, .int .u8 x.ty, .int .u8 x.he, .int .u8 x.ro, .int .u8 x.bl, .int .u8 x.ti, .int .u8 x.sp] 24)).alloc (.cells #[.int .i64 0, .int .i64 0, .int .i64 0, .slice none 0 0, .int .i64 0, .slice none 0 0, .int .i64 0, .slice none 0 0, .int .i64 0, .slice none 0 0, .slice none 0 0, .slice none 0 0] 35)).alloc (.cells #[.int .u8 101, .int .u8 (x.wh % 10)] 5) = w2 at *
    have hfr : x.from = x.wh % 10 := by unfold Sd.from; rw [if_neg HO.out]
    have hF := two_byt hkb
    rw [← hfr] at hF
    obtain ⟨p, ep⟩ : ∃ p, p = w.heap.size := ⟨_, rfl⟩
    have hK2 := two_byt hkb
    rw [← ep] at hp hr hkb hF hK2 ⊢
    have HP := Lib.hid (And.intro hp (And.intro hr (And.intro hF (And.intro hK2 (And.intro kw ep)))))
    clear hp hr hkb hF hK2 kw ep hfr
    refine make_reg kt x HX.out p _ w2 HP.out.1 HP.out.2.2.1 (HT.out.kp HP.out.2.2.2.2.1) ?_
    intro v25 v26 v27 v28 v29 v30 v31 v32 v33 v34 v35 v36 v37 v38 v39 v40 v41 v42 v43 v44 v45 v46 v47 v48 v49 v50 v51 g vh vp va W5 k5 hg5 hb5 hv5
  all_goals
    dsimp only
    obtain ⟨ah, nh, ch, rfl⟩ := hv5.hash.form
    obtain ⟨ap, np, cp, rfl⟩ := hv5.parts.form
    obtain ⟨aa, na, ca, rfl⟩ := hv5.addr.form
    have hkw : 0 ≤ x.wh % 10 ∧ x.wh % 10 < 10 := by omega
    have hp5 := k5.blk HP.out.1 (by simp)
    have HV5 := Lib.hid (And.intro hb5 (And.intro hv5 (And.intro k5 (And.intro hg5 (And.intro (keyN_bs hkw) hp5)))))
    have OK0 := Lib.hid (Sd.vd_ok (kt := kt) (sg := []) HX.out Bs.nil (by simp))
    clear hb5 hv5 k5 hg5 hkw hp5
    unfold voteV at HV5
    go_wp2_with (refine kit_load rfl 35 (.tmp 6) rfl _ rfl g rfl _ 35 HV5.out.1 _ Tryz.underlying35 rfl hi35 ?_)
    refine (signVote_any kt (x.vd kt []) OK0.out (Sd.lens kt x []) _ _ _ _ _ (keyN (x.wh % 10)) W5 HV5.out.2.1 (HP.out.2.2.2.1.kp HV5.out.2.2.1) rfl HV5.out.2.2.2.2.1 (HT.out.kp (HP.out.2.2.2.2.1.trans HV5.out.2.2.1))).mono ?_
    rintro e W6 ⟨vs, rfl, ho6, k6⟩
    obtain ⟨b6, c6, rfl, hc6, hb6, hb6l⟩ := ho6.pos (by rw [sgn_length]; omega)
    rw [sgn_length] at ho6 hc6 ⊢
    have HV6 := Lib.hid (And.intro ho6 (And.intro k6 (k6.blk HV5.out.1 (by simp))))
    clear ho6 k6
    unfold voteV
    go_wp2_with (refine kit_store_blk rfl 35 (.tmp 6) (.tmp 54) rfl g _ rfl rfl 35 _ HV6.out.2.2 hi35 rfl (vote_one (x.vd kt []) _ _ _ _ _ _ _ _ _ _ _ _) ?_)
    intro W7 hb7 k7
    have hz7 := vote_far HV6.out.2.2 k7 (vote_noByte (x.vd kt []) _ _ _ _ _ _ _ _ _ _ _ _)
    have kw6 : Kp [] w W6 := (HP.out.2.2.2.2.1.trans HV5.out.2.2.1).trans HV6.out.2.1
    have hgw : w.heap.size ≤ g := Nat.le_trans HP.out.2.2.2.2.1.size HV5.out.2.2.2.1
    have hp6 := HV6.out.2.1.blk HV5.out.2.2.2.2.2 (by simp)
    have hpg : p ≠ g := hp6.ne HV6.out.2.2 (by decide)
    have hrg : p + 1 ≠ g := by
      have := HP.out.2.1.lt
      have := HV5.out.2.2.2.1
      omega
    have hr7 := k7.blk (HV6.out.2.1.blk (HV5.out.2.2.1.blk HP.out.2.1 (by simp)) (by simp)) (by simpa using hrg)
    have hp7 := k7.blk hp6 (by simpa using hpg)
    have kw7 : Kp [] w W7 := kw6.then k7 (by intro j hj hm; simp at hm; omega)
    have HV7 := Lib.hid (show VoteB W7 (x.vd kt (sgn kt (keyN (x.wh % 10)) (sb (x.vd kt [])))) (.slice ah nh ch) (.slice ap np cp) (.slice aa na ca) (.slice (some ⟨b6, 0, none⟩) 32 c6) from ⟨hz7 _ _ (HV5.out.2.1.hash.kp HV6.out.2.1), hz7 _ _ (HV5.out.2.1.parts.kp HV6.out.2.1), hz7 _ _ (HV5.out.2.1.addr.kp HV6.out.2.1), hz7 _ _ HV6.out.1.byt⟩)
    have HF7 := Lib.hid (And.intro (hz7 _ _ ((HP.out.2.2.1.kp HV5.out.2.2.1).kp HV6.out.2.1)) (And.intro kw7 (And.intro hr7 hrg)))
    have hb7' : Blk W7 g (voteV (x.vd kt []) (.slice ah nh ch) (.slice ap np cp) (.slice aa na ca) (.slice (some ⟨b6, 0, none⟩) 32 c6)) 35 := hb7
    have HB7 := Lib.hid hb7'
    have p7 : ∀ W, Kp [] W7 W → W.cell? ⟨p, 7, none⟩ = some (.int .u8 x.sp) := hp7.all 7 rfl
    have g9 : ∀ W, Kp [] W7 W → W.cell? ⟨g, 9, none⟩ = some (.slice (some ⟨b6, 0, none⟩) 32 c6) := hb7'.all 9 rfl
    have HPG := Lib.hid (And.intro hp7 (And.intro hpg hgw))
    clear hz7 kw6 hgw hp6 hpg hrg hr7 hp7 kw7 hb7 hb7' k7
    by_cases hs : x.sp % 8 = 1
    case' pos =>
      have hsb : (x.sp % 8 == 1) = true := by rw [hs]; rfl
      have HSS := Lib.hid hs
      clear hs
      obtain ⟨s0, es0⟩ : ∃ s0, s0 = sgn kt (keyN (x.wh % 10)) (sb (x.vd kt [])) := ⟨_, rfl⟩
      have HE0 := Lib.hid es0
      rw [← es0] at HV7
      clear es0
      have h32 : s0.length = 32 := by rw [HE0.out]; exact sgn_length _ _ _
      have HS0 := Lib.hid h32
      clear h32
      go_wp2_with (refine kit_append rfl (.tmp 65) (.tmp 67) 22 Tryz.underlying22 rfl (B := W7.heap.size) (l := []) (m := s0) (v := .slice (some ⟨W7.heap.size, 0, none⟩) 0 0) rfl ?ho rfl ?hm ?hl ?hB ?_)
      case ho => exact Own.empty (Blk.new W7 #[] 5) (Nat.le_refl _)
      case hm => exact HV7.out.sig.kp ((Kp.refl [] W7).alloc _)
      case hl => rw [HS0.out]; simp
      case hB => simp
      intro v8 W8 ho8 ha8
      have k8 : Kp [] W7 W8 := ha8.own ((Kp.refl [] W7).alloc _) (Own.empty (Blk.new W7 #[] 5) (Nat.le_refl _)) (Nat.le_refl _)
      obtain ⟨b8, c8, rfl, hc8, hb8, hb8l⟩ := ho8.pos (by rw [HS0.out]; omega)
      rw [HS0.out] at ho8 hc8 ⊢
      have g9' := g9 W8 k8
      have gf9 := (k8.blk HB7.out (by simp)).free 9
      have hb9 := (k8.blk HB7.out (by simp)).set 9 (.slice (some ⟨b8, 0, none⟩) 32 c8)
      have k9 : Kp [g] W8 (W8.setCell ⟨g, 9, none⟩ (.slice (some ⟨b8, 0, none⟩) 32 c8)) := (Kp.refl [g] W8).set (.inl (by simp)) _
      have H8 := Lib.hid (And.intro ho8 (And.intro k8 hb8))
      clear ho8 ha8 k8 hb8 hb8l g9 p7
      go_wp2_with fail
      have hz8 := vote_far (H8.out.2.1.blk HB7.out (by simp)) k9 (vote_noByte (x.vd kt []) _ _ _ _ _ _ _ _ _ _ _ _)
      have hbg8 : b8 ≠ g := by
        have := HB7.out.lt
        have := H8.out.2.2
        omega
      have ho9 : Own (W8.setCell ⟨g, 9, none⟩ (.slice (some ⟨b8, 0, none⟩) 32 c8)) W7.heap.size (.slice (some ⟨b8, 0, none⟩) 32 c8) s0 := H8.out.1.kpS k9 (by intro b hb; cases hb; simpa using hbg8)
      have HV8 := Lib.hid (show VoteB _ (x.vd kt s0) (.slice ah nh ch) (.slice ap np cp) (.slice aa na ca) (.slice (some ⟨b8, 0, none⟩) 32 c8) from ⟨hz8 _ _ (HV7.out.hash.kp H8.out.2.1), hz8 _ _ (HV7.out.parts.kp H8.out.2.1), hz8 _ _ (HV7.out.addr.kp H8.out.2.1), ho9.byt⟩)
      have hp8 := k9.blk (H8.out.2.1.blk HPG.out.1 (by simp)) (by simpa using HPG.out.2.1)
      have hr8 := k9.blk (H8.out.2.1.blk HF7.out.2.2.1 (by simp)) (by simpa using HF7.out.2.2.2)
      have HF8 := Lib.hid (And.intro (hz8 _ _ (HF7.out.1.kp H8.out.2.1)) (And.intro ((HF7.out.2.1.trans H8.out.2.1).then k9 (by intro j hj hm; simp at hm; have := HPG.out.2.2; omega)) (And.intro hr8 HF7.out.2.2.2)))
      have hb9' : Blk _ g (voteV (x.vd kt s0) (.slice ah nh ch) (.slice ap np cp) (.slice aa na ca) (.slice (some ⟨b8, 0, none⟩) 32 c8)) 35 := hb9
      generalize W8.setCell ⟨g, 9, none⟩ (.slice (some ⟨b8, 0, none⟩) 32 c8) = W9 at *
      obtain ⟨j, hj⟩ : ∃ j : Nat, x.sp % 32 = j := ⟨(x.sp % 32).toNat, by omega⟩
      have hj1 : j < 32 := by omega
      have sp9 : W9.cell? ⟨p, 7, none⟩ = some (.int .u8 x.sp) := hp8.cell rfl
      have gg9 : W9.cell? ⟨g, 9, none⟩ = some (.slice (some ⟨b8, 0, none⟩) 32 c8) := hb9'.cell rfl
      have cj9 : W9.cell? ⟨b8, j, none⟩ = some (.int .u8 (s0.getD j 0)) := ho9.byt.at j hj1
      have fj9 : W9.frozen? ⟨b8, j, none⟩ = false := ho9.free j
      have hs0b : 0 ≤ s0.getD j 0 ∧ s0.getD j 0 ≤ 255 := by rw [HE0.out]; exact (sgn_bs _ _ _).at j
      obtain ⟨y, ey⟩ : ∃ y, y = s0.getD j 0 := ⟨_, rfl⟩
      rw [← ey] at cj9 hs0b
      obtain ⟨y0, y1⟩ := hs0b
      have H9 := Lib.hid (And.intro ho9 (And.intro hb9' (And.intro hbg8 ey)))
      have zj0 : (0 : Int) ≤ (j : Int) := by omega
      have zj1 : (j : Int) < 32 := by omega
      have mj : x.sp.tmod 32 = j := by rw [Int.tmod_eq_emod_of_nonneg sp0]; exact hj
      clear ho9 hb9 hb9' hp8 hr8 k9 hz8 hbg8 g9' gf9 ey
      go_big_region
      go_wp2_with fail
      have k10 : Kp [b8] W9 (W9.setCell ⟨b8, j, none⟩ (.int .u8 ((y + 1) % 256))).drew := ((Kp.refl [b8] W9).set (.inl (by simp)) _).drew
      have ho10 := (H9.out.1.set j ((y + 1) % 256)).byt.drew
      have hl10 : ∀ (v : Value) (l l' : List Int), Byt W7 v l → Byt W9 v l' → Byt (W9.setCell ⟨b8, j, none⟩ (.int .u8 ((y + 1) % 256))).drew v l' := fun v l l' h7 h9 => h9.kpS k10 (fun b hb hm => by
        have h1 := h7.lt b hb
        have h2 := H8.out.2.2
        simp at hm
        omega)
      have hrb : p + 1 ≠ b8 := by
        have h1 := HF7.out.2.2.1.lt
        have h2 := H8.out.2.2
        omega
      obtain ⟨sg, esg⟩ : ∃ sg, sg = s0.set j ((y + 1) % 256) := ⟨_, rfl⟩
      rw [← esg] at ho10
      have hsg : Bs sg ∧ sg.length = 32 := by
        rw [esg]
        refine ⟨fun z hz => ?_, by rw [List.length_set]; exact HS0.out⟩
        rcases List.mem_or_eq_of_mem_set hz with h | h
        · rw [HE0.out] at h
          exact sgn_bs _ _ _ z h
        · omega
      have hQ := And.intro hsg.1 (And.intro hsg.2 (And.intro (show x.sp % 8 ≠ 1 → sg = sgn kt (keyN (x.wh % 10)) (sb (x.vd kt sg)) from fun h => absurd HSS.out h) (And.intro (show Blk _ g (voteV (x.vd kt sg) (.slice ah nh ch) (.slice ap np cp) (.slice aa na ca) (.slice (some ⟨b8, 0, none⟩) 32 c8)) 35 from k10.blk H9.out.2.1 (by simpa using Ne.symm H9.out.2.2.1)) (And.intro (show VoteB _ (x.vd kt sg) (.slice ah nh ch) (.slice ap np cp) (.slice aa na ca) (.slice (some ⟨b8, 0, none⟩) 32 c8) from ⟨hl10 _ _ _ HV7.out.hash HV8.out.hash, hl10 _ _ _ HV7.out.parts HV8.out.parts, hl10 _ _ _ HV7.out.addr HV8.out.addr, ho10⟩) (And.intro (k10.blk HF8.out.2.2.1 (by simpa using hrb)) (And.intro HF8.out.2.2.2 (And.intro (hl10 _ _ _ HF7.out.1 HF8.out.1) (HF8.out.2.1.then k10 (by intro i hi hm; simp at hm; have := H8.out.2.2; have := HF7.out.2.1.size; omega)))))))))
      generalize (W9.setCell ⟨b8, j, none⟩ (.int .u8 ((y + 1) % 256))).drew = WQ at *
      have HQ := Lib.hid hQ
      clear hQ hsg hrb hl10 ho10 k10 esg
      refine told_reg kt x HX.out sg HQ.out.1 (by rw [HQ.out.2.1]; omega) (p + 1) _ g ah ap aa (some ⟨b8, 0, none⟩) nh ch np cp na ca 32 c8 WQ HQ.out.2.2.2.1 HQ.out.2.2.2.2.1 HQ.out.2.2.2.2.2.1 (Ne.symm HQ.out.2.2.2.2.2.2.1) HQ.out.2.2.2.2.2.2.2.1 (HT.out.kp HQ.out.2.2.2.2.2.2.2.2) ?_
      intro z83 z84 z85 z86 z87 z88 z89 z90 z91 z92 W11 k11 hb11
      have H11 := Lib.hid (And.intro k11 hb11)
      clear k11 hb11
      dsimp only
      go_wp2_with fail
      refine bodyPost_ret (v := .tuple #[.agg (voteV (x.vd kt sg) (.slice ah nh ch) (.slice ap np cp) (.slice aa na ca) (.slice (some ⟨b8, 0, none⟩) 32 c8)), .bool (decide (sgn kt (keyN x.from) (sb (x.vd kt sg)) = sg))]) ?_ ?_ ?_
      · exact results_row_tmp rfl _ _ (p + 1) 35 (voteV (x.vd kt sg) (.slice ah nh ch) (.slice ap np cp) (.slice aa na ca) (.slice (some ⟨b8, 0, none⟩) 32 c8)) (0, 0) _ _ rfl rfl H11.out.2 Tryz.underlying35 rfl hi35
      · rfl
      have hz11 := vote_far HQ.out.2.2.2.2.2.1 H11.out.1 voteZ_noByte
      refine ⟨_, _, _, _, sg, _, rfl, HQ.out.1, HQ.out.2.1, ⟨hz11 _ _ HQ.out.2.2.2.2.1.hash, hz11 _ _ HQ.out.2.2.2.2.1.parts, hz11 _ _ HQ.out.2.2.2.2.1.addr, hz11 _ _ HQ.out.2.2.2.2.1.sig⟩, ?_, HQ.out.2.2.1, HQ.out.2.2.2.2.2.2.2.2.then H11.out.1 (by intro j hj hm; simp at hm; have := HP.out.2.2.2.2.2; omega)⟩
      simp
    case' neg =>
      have hsb : (x.sp % 8 == 1) = false := by rw [beq_eq_false_iff_ne]; exact hs
      have HSS := Lib.hid hs
      clear hs
      go_wp2_with fail
      obtain ⟨sg, esg⟩ : ∃ sg, sg = sgn kt (keyN (x.wh % 10)) (sb (x.vd kt [])) := ⟨_, rfl⟩
      have hQ := And.intro (show Bs sg by rw [esg]; exact sgn_bs _ _ _) (And.intro (show sg.length = 32 by rw [esg]; exact sgn_length _ _ _) (And.intro (show x.sp % 8 ≠ 1 → sg = sgn kt (keyN (x.wh % 10)) (sb (x.vd kt sg)) from fun _ => esg) (And.intro (show Blk W7 g (voteV (x.vd kt sg) (.slice ah nh ch) (.slice ap np cp) (.slice aa na ca) (.slice (some ⟨b6, 0, none⟩) 32 c6)) 35 from HB7.out) (And.intro (show VoteB W7 (x.vd kt sg) (.slice ah nh ch) (.slice ap np cp) (.slice aa na ca) (.slice (some ⟨b6, 0, none⟩) 32 c6) by rw [esg]; exact HV7.out) (And.intro HF7.out.2.2.1 (And.intro HF7.out.2.2.2 (And.intro HF7.out.1 HF7.out.2.1)))))))
      generalize W7 = WQ at *
      have HQ := Lib.hid hQ
      clear hQ esg
      refine told_reg kt x HX.out sg HQ.out.1 (by rw [HQ.out.2.1]; omega) (p + 1) _ g ah ap aa (some ⟨b6, 0, none⟩) nh ch np cp na ca 32 c6 WQ HQ.out.2.2.2.1 HQ.out.2.2.2.2.1 HQ.out.2.2.2.2.2.1 (Ne.symm HQ.out.2.2.2.2.2.2.1) HQ.out.2.2.2.2.2.2.2.1 (HT.out.kp HQ.out.2.2.2.2.2.2.2.2) ?_
      intro z83 z84 z85 z86 z87 z88 z89 z90 z91 z92 W11 k11 hb11
      have H11 := Lib.hid (And.intro k11 hb11)
      clear k11 hb11
      dsimp only
      go_wp2_with fail
      refine bodyPost_ret (v := .tuple #[.agg (voteV (x.vd kt sg) (.slice ah nh ch) (.slice ap np cp) (.slice aa na ca) (.slice (some ⟨b6, 0, none⟩) 32 c6)), .bool (decide (sgn kt (keyN x.from) (sb (x.vd kt sg)) = sg))]) ?_ ?_ ?_
      · exact results_row_tmp rfl _ _ (p + 1) 35 (voteV (x.vd kt sg) (.slice ah nh ch) (.slice ap np cp) (.slice aa na ca) (.slice (some ⟨b6, 0, none⟩) 32 c6)) (0, 0) _ _ rfl rfl H11.out.2 Tryz.underlying35 rfl hi35
      · rfl
      have hz11 := vote_far HQ.out.2.2.2.2.2.1 H11.out.1 voteZ_noByte
      refine ⟨_, _, _, _, sg, _, rfl, HQ.out.1, HQ.out.2.1, ⟨hz11 _ _ HQ.out.2.2.2.2.1.hash, hz11 _ _ HQ.out.2.2.2.2.1.parts, hz11 _ _ HQ.out.2.2.2.2.1.addr, hz11 _ _ HQ.out.2.2.2.2.1.sig⟩, ?_, HQ.out.2.2.1, HQ.out.2.2.2.2.2.2.2.2.then H11.out.1 (by intro j hj hm; simp at hm; have := HP.out.2.2.2.2.2; omega)⟩
      simp
end Go.Proofs.YtfkaldaflnmfiaaGreatDoor
