/- A region that draws its order, where one condition on the world holds behind every operation but the one that waits for all the others. -/
import Derived.OrdersHeld
import Derived.Deep.RegionHeld
import Derived.Test.YtfkaldaflnmfiaaGreatDoorKSq
import Derived.Test.YtfkaldaflnmfiaaGreatDoorKVals
import Derived.WalkKit
import Derived.WalkSpells
import Derived.WalkLawsBesides
import Derived.Handy
import Derived.Lib.Hide
import Derived.IntWalk
import Derived.LoopTactic
import Derived.Deep.QuietTactic
import Derived.Deep.RegionWith
import Derived.Deep.RegionHeld3
import Derived.BigRegion
import Derived.BigQuiet
namespace Go.Proofs.YtfkaldaflnmfiaaGreatDoor
set_option linter.unusedSimpArgs false
set_option linter.unusedVariables false
open Go Go.RowKit

/-- Operation j waits for all the others. -/
def waitsAll (md : Region.Mode) (ops : Array Oper) (j : Nat) : Bool :=
  (List.range ops.size).all fun k => k == j || ((ops[j]?).map fun o => o.after.any fun e => Region.binds md e && e.on == k).getD false

section
variable {P : Program} {ops : Array Oper} {Q : Exit → Act → World → Prop} {md : Region.Mode} {S : World → Prop}

def wpAnyL (P : Program) (md : Region.Mode) (ops : Array Oper) (Q : Exit → Act → World → Prop) (S : World → Prop) : Nat → Array Bool → Act → World → Prop
  | 0, listed, a, w => Region.ready md ops listed = [] ∧ Q .normal a w
  | fuel + 1, listed, a, w =>
    (Region.ready md ops listed = [] → Q .normal a w) ∧
    ∀ i ∈ Region.ready md ops listed, wpOp P ops Q i (fun a' w' => (waitsAll md ops i = true ∨ S w') ∧ wpAnyL P md ops Q S fuel (listed.setIfInBounds i true) a' w') a w

theorem wpAny_of_last : ∀ (fuel : Nat) (listed : Array Bool) (a : Act) (w : World), wpAnyL P md ops Q S fuel listed a w → wpAny P md ops Q fuel listed a w
  | 0, _, _, _, h => h
  | fuel + 1, _, _, _, h => ⟨h.1, fun i hi => wpOp_mono (fun a' w' h' => wpAny_of_last fuel _ a' w' h'.2) (h.2 i hi)⟩

/-- Who waits for all has not come up while one of them has not. -/
theorem waits_not {i j : Nat} {listed : Array Bool} (hi : i ∈ Region.ready md ops listed) (hj : j ∈ Region.ready md ops listed) (hji : j ≠ i) : waitsAll md ops j ≠ true := by
  intro h
  obtain ⟨hiun, oi, hoi, _⟩ := mem_ready.1 hi
  obtain ⟨hjun, oj, hoj, hall⟩ := mem_ready.1 hj
  unfold waitsAll at h
  rw [List.all_eq_true] at h
  have h1 := h i (List.mem_range.2 (Array.getElem?_eq_some_iff.1 hoi).1)
  rw [hoj] at h1
  have hne : (i == j) = false := by rw [beq_eq_false_iff_ne]; exact Ne.symm hji
  simp only [hne, Bool.false_or, Option.map_some, Option.getD_some] at h1
  rw [Array.any_eq_true] at h1
  obtain ⟨k, hk, he⟩ := h1
  rw [Bool.and_eq_true, beq_iff_eq] at he
  have h2 := hall _ (Array.getElem_mem hk) he.1
  rw [he.2] at h2
  rcases Nat.lt_or_ge i listed.size with h' | h'
  · simp [h'] at hiun h2
    rw [hiun] at h2
    cases h2
  · simp [Array.getElem?_eq_none h'] at hiun

theorem wpAnyL_first {i : Nat} {oi : Oper} {v : Value} (hi : ops[i]? = some oi) (hsel : ∀ (j : Nat) (o : Oper) cs b, ops[j]? = some o → o.op ≠ .select cs b)
    (hQ : ∀ c a w, Q (.panic c) (a.put oi.dst v) w → Q (.panic c) a w) :
    ∀ (fuel : Nat) (listed : Array Bool) (a : Act) (w : World),
      (∀ j oj, ops[j]? = some oj → j ≠ i → listed.getD j true = false → (∀ e ∈ oj.after, Region.binds md e = true → e.on ≠ i) → oi.apart ops oj = true) →
      i ∈ Region.ready md ops listed → YieldsIf P ops S oi v a → S w →
      wpAnyL P md ops Q S fuel (listed.setIfInBounds i true) (a.put oi.dst v) w → wpAnyL P md ops Q S (fuel + 1) listed a w := by
  intro fuel
  induction fuel with
  | zero =>
    intro listed a w _ hr hy hS H
    refine ⟨fun h => (by rw [h] at hr; cases hr), fun j hj => ?_⟩
    by_cases hji : j = i
    · subst hji; exact hy.wpOp hi hS ⟨.inr hS, H⟩
    · have := ready_mono hj hji
      rw [H.1] at this
      cases this
  | succ fuel ih =>
    intro listed a w hfree hr hy hS H
    refine ⟨fun h => (by rw [h] at hr; cases hr), fun j hj => ?_⟩
    by_cases hji : j = i
    · subst hji; exact hy.wpOp hi hS ⟨.inr hS, H⟩
    · have h1 := H.2 j (ready_mono hj hji)
      obtain ⟨hjun, oj, hoj, hall⟩ := mem_ready.1 hj
      have hnot : ∀ e ∈ oj.after, Region.binds md e = true → e.on ≠ i := fun e he hb heq => by
        have h1 := hall e he hb
        have h0 := (mem_ready.1 hr).1
        rw [heq] at h1
        rcases Nat.lt_or_ge i listed.size with h' | h'
        · simp [h'] at h0 h1; rw [h0] at h1; cases h1
        · simp [Array.getElem?_eq_none h'] at h1
      have h2 := wpOp_putIf hoj (hfree j oj hoj hji hjun hnot) (fun cs b => hsel i oi cs b hi) (fun cs b => hsel j oj cs b hoj) hQ hy h1
      have hfree' : ∀ k ok, ops[k]? = some ok → k ≠ i → (listed.setIfInBounds j true).getD k true = false →
          (∀ e ∈ ok.after, Region.binds md e = true → e.on ≠ i) → oi.apart ops ok = true := fun k ok hk hki hun hno => by
        refine hfree k ok hk hki ?_ hno
        by_cases hjk : j = k
        · subst hjk; exact hjun
        · rw [getD_set_ne true hjk] at hun; exact hun
      have hwn := waits_not hr hj hji
      refine wpOp_mono (fun a' w' h3 => ?_) h2
      have hS' : S w' := h3.2.1.resolve_left hwn
      refine ⟨.inr hS', ih (listed.setIfInBounds j true) a' w' hfree' (ready_mono hr (Ne.symm hji)) h3.1 hS' ?_⟩
      rw [Array.setIfInBounds_comm _ _ hji]
      exact h3.2.2

theorem wpAnyL_take {i : Nat} {oi : Oper} {v : Value} {fuel : Nat} {listed : Array Bool} {a : Act} {w : World} (hi : ops[i]? = some oi)
    (hs : Region.noSelect ops = true) (hf : Region.free md ops listed i = true) (hr : (Region.ready md ops listed).contains i = true)
    (hQ : ∀ c a w, Q (.panic c) (a.put oi.dst v) w → Q (.panic c) a w) (hy : YieldsIf P ops S oi v a) (hS : S w)
    (h : wpAnyL P md ops Q S fuel (listed.setIfInBounds i true) (a.put oi.dst v) w) : wpAnyL P md ops Q S (fuel + 1) listed a w :=
  wpAnyL_first hi (Region.noSelect_spec hs) hQ fuel listed a w (Region.free_spec hi hf) (by simpa using hr) hy hS h

/-- One alone may come up. -/
theorem wpAnyL_one {i : Nat} {oi : Oper} {fuel : Nat} {listed : Array Bool} {a : Act} {w : World} (hr : Region.ready md ops listed = [i]) (hi : ops[i]? = some oi)
    (h : ∀ K' : Act → World → Prop, Shut (∀ a w, S w → wpAnyL P md ops Q S fuel (listed.setIfInBounds i true) a w → K' a w) → if Region.wanted oi (yielded ops a.tmps) = true then Oper.wp P oi a w K' Q else K' (a.put oi.dst undef) w) :
    wpAnyL P md ops Q S (fuel + 1) listed a w := by
  refine ⟨fun h0 => absurd (hr ▸ h0) (by simp), fun j hj => ?_⟩
  rw [hr] at hj
  simp at hj
  subst hj
  exact wpOp_step hi (fun K' hK => h K' (fun a w hS hW => hK a w ⟨.inr hS, hW⟩))
/-- The one that waits for all the others. -/
theorem wpAnyL_end {i : Nat} {oi : Oper} {fuel : Nat} {listed : Array Bool} {a : Act} {w : World} (hr : Region.ready md ops listed = [i]) (hw : waitsAll md ops i = true) (hd : Region.ready md ops (listed.setIfInBounds i true) = []) (hi : ops[i]? = some oi)
    (h : ∀ K' : Act → World → Prop, Shut (∀ a w, Q .normal a w → K' a w) → if Region.wanted oi (yielded ops a.tmps) = true then Oper.wp P oi a w K' Q else K' (a.put oi.dst undef) w) :
    wpAnyL P md ops Q S (fuel + 1) listed a w := by
  refine ⟨fun h0 => absurd (hr ▸ h0) (by simp), fun j hj => ?_⟩
  rw [hr] at hj
  simp at hj
  subst hj
  refine wpOp_step hi (fun K' hK => h K' (fun a w hQ' => hK a w ⟨.inl hw, ?_⟩))
  cases fuel with
  | zero => exact ⟨hd, hQ'⟩
  | succ fuel => exact ⟨fun _ => hQ', by rw [hd]; simp⟩

/-- The beginning. -/
theorem wp_region_last {id : Nat} {a : Act} {w : World} (S : World → Prop) (hm : P.follows .mixedOrders = true)
    (h : wpAnyL P .any ops Q S ops.size (Array.replicate ops.size false) a w.drew) : (Code.region id ops true).wp P Q a w :=
  wp_region_any hm (wpAny_of_last _ _ _ _ h)
end
end Go.Proofs.YtfkaldaflnmfiaaGreatDoor
/- The contract of fromSet. -/
namespace Go.Proofs.YtfkaldaflnmfiaaGreatDoor
set_option linter.unusedSimpArgs false
set_option linter.unusedVariables false
open Go Go.RowKit


theorem OwnR.ne {e : TypeId} {w : World} {B : Nat} {v : Value} {l : List Rec} {g : Nat} {cs : Array Value} {t : TypeId} (h : OwnR e w B v l) (hg : Blk w g cs t) (hne : t ≠ e) : v.ownBlock ≠ some g := by
  obtain ⟨_, ⟨rfl, _⟩ | ⟨g', cap, cur, rfl, _, h3, _⟩⟩ := h
  · simp [Value.ownBlock]
  · intro e'
    simp [Value.ownBlock] at e'
    subst e'
    exact hne (hg.uniq (show Blk w g' cur e from h3)).2
def recV (pr : Nat → Int) (V : Vl) : Rec := ⟨V.vk, .int .i64 V.pow, .int .i64 (pr V.p)⟩

/-- The loop of fromSet. -/
structure FS (pr : Nat → Int) (L : List Vl) (n : Nat) (w : World) (r g i : Nat) (wr : World) (v : Value) (pi : Int) : Prop where
  own : OwnR 56 wr w.heap.size v ((L.take i).map (recV pr))
  blk : Blk wr g #[v, .int .i64 pi] 27
  res : Blk wr r #[.slice none 0 0, .int .i64 0] 27
  pi0 : -1 ≤ pi
  pi1 : pi < n
  kp : Kp [] w wr

theorem FS.form {pr : Nat → Int} {L : List Vl} {n : Nat} {w : World} {r g i : Nat} {wr : World} {v : Value} {pi : Int} (h : FS pr L n w r g i wr v pi) (hi : i ≤ L.length) : ∃ a c, v = .slice a i c := by
  obtain ⟨a, c, e⟩ := h.own.rd.form
  rw [List.length_map, List.length_take, Nat.min_eq_left hi] at e
  exact ⟨a, c, e⟩

theorem FS.more {pr : Nat → Int} {L : List Vl} {n : Nat} {w : World} {r g i : Nat} {wr w2 : World} {v : Value} {pi : Int} (h : FS pr L n w r g i wr v pi) (k : Kp [] wr w2) : FS pr L n w r g i w2 v pi :=
  ⟨h.own.kp k, k.blk h.blk (by simp), k.blk h.res (by simp), h.pi0, h.pi1, h.kp.trans k⟩
theorem FS.setp {pr : Nat → Int} {L : List Vl} {n : Nat} {w : World} {r g i : Nat} {wr : World} {v : Value} {pi : Int} (h : FS pr L n w r g i wr v pi) (hrg : r ≠ g) (hg : w.heap.size ≤ g) (q : Nat) (hq : q < n) : FS pr L n w r g i (wr.setCell ⟨g, 1, none⟩ (.int .i64 q)) v q :=
  ⟨h.own.kpS ((Kp.refl [g] wr).set (p := ⟨g, 1, none⟩) (.inl (by simp)) _) (fun b hb hm => h.own.ne h.blk (by decide) (by simp at hm; rw [hb, hm])), h.blk.set 1 _, h.res.other (p := ⟨g, 1, none⟩) hrg _, by omega, by omega, h.kp.set (p := ⟨g, 1, none⟩) (.inr hg) _⟩

set_option maxHeartbeats 2000000 in
set_option maxRecDepth 100000 in
theorem fromSet_any (kt pr : Nat → Int) (s b n : Nat) (P : Vl) (tvp : Int) (ak : Bool) (L : List Vl) (w : World) (hs : SetAt kt pr s b n (some ⟨P.p, 0, none⟩) tvp ak L w) (hP : P ∈ L) (hn1 : n ≤ 1000) :
    Calls Tryz.prog 33 #[.pointer (some ⟨s, 0, none⟩)] w fun e w' => ∃ v pi, e = .returned (.agg #[v, .int .i64 pi]) ∧ RdR w' v (L.map (recV pr)) ∧ -1 ≤ pi ∧ pi < n ∧ Kp [] w w' := by
  have e0 : ∀ W, Kp [] w W → W.cell? ⟨s, 0, none⟩ = some (.slice (some ⟨b, 0, none⟩) n n) := hs.set.all 0 rfl
  have e1 : ∀ W, Kp [] w W → W.cell? ⟨s, 1, none⟩ = some (.pointer (some ⟨P.p, 0, none⟩)) := hs.set.all 1 rfl
  have p0 : ∀ W, Kp [] w W → W.cell? ⟨P.p, 0, none⟩ = some (.slice (some ⟨P.ab, 0, none⟩) 20 P.ac) := (hs.at_ P hP).blk.all 0 rfl
  have pc : ∀ W, Kp [] w W → (convert 89 9 (.slice (some ⟨P.ab, 0, none⟩) 20 P.ac)).run Tryz.prog W = .ok (.string (strOfNums (addr kt P.key))) W := fun W k => run_string W ((hs.at_ P hP).ok.addr.kp k) 89 Tryz.underlying89
  have H := Lib.hid (And.intro hs hP)
  have hlt := hs.set.lt
  clear hs
  go_enter Tryz.func33, Tryz.ntmps33
  go_wp2_with fail
  have k0 := ((Kp.refl [] w).alloc (.cells #[.slice none 0 0, .int .i64 0] 27)).alloc (.cells #[.slice none 0 0, .int .i64 (-1)] 27)
  have hr := (Blk.new w #[.slice none 0 0, .int .i64 0] 27).alloc (.cells #[.slice none 0 0, .int .i64 (-1)] 27)
  have hg := Blk.new (w.alloc (.cells #[.slice none 0 0, .int .i64 0] 27)) #[.slice none 0 0, .int .i64 (-1)] 27
  rw [show (w.alloc (.cells #[.slice none 0 0, .int .i64 0] 27)).heap.size = w.heap.size + 1 by simp] at hg
  generalize (w.alloc (.cells #[.slice none 0 0, .int .i64 0] 27)).alloc (.cells #[.slice none 0 0, .int .i64 (-1)] 27) = w0 at *
  obtain ⟨r, er⟩ : ∃ r, r = w.heap.size := ⟨_, rfl⟩
  obtain ⟨g, eg⟩ : ∃ g, g = w.heap.size + 1 := ⟨_, rfl⟩
  rw [← er] at hr
  rw [← eg] at hg
  rw [← eg, ← er]
  have hf0 : FS pr L n w r g 0 w0 (.slice none 0 0) (-1) := ⟨OwnR.nil _ _, hg, hr, by omega, by omega, k0⟩
  have H0 := Lib.hid hf0
  have HG := Lib.hid (And.intro er eg)
  have hn0 : n = L.length := H.out.1.len
  have HN := Lib.hid hn0
  clear hf0 k0 hr hg er eg hlt e0 hn0
  go_loopw [12] (fun s12 wr => ∃ (i : Nat) (v : Value) (pi : Int), i ≤ n ∧ s12 = .int .i64 i ∧ FS pr L n w r g i wr v pi) (fun s12 _ => n - (intOf s12).toNat)
  case atStart => exact ⟨0, _, _, by omega, rfl, H0.out⟩
  case round =>
    obtain ⟨i, v, pi, hi, rfl, hc⟩ := hrel
    obtain ⟨va, vn, rfl⟩ := hc.form (by rw [← HN.out]; exact hi)
    have HC := Lib.hid hc
    clear hc
    by_cases hlt : i < n
    · obtain ⟨V, hVm, hVi⟩ := get_lt (L := L) (i := i) (by rw [← HN.out]; exact hlt)
      have hV := (H.out.1.at_ V hVm).kp HC.out.kp
      have ci : wr.cell? ⟨b, i, none⟩ = some (.pointer (some ⟨V.p, 0, none⟩)) := (HC.out.kp.blk H.out.1.row (by simp)).cell (ptrs_some hVi)
      obtain ⟨ka, kn, kc, ek⟩ := hV.ok.key.2.form
      have c0 : ∀ W, Kp [] w W → W.cell? ⟨V.p, 0, none⟩ = some (.slice (some ⟨V.ab, 0, none⟩) 20 V.ac) := (H.out.1.at_ V hVm).blk.all 0 rfl
      have vc : ∀ W, Kp [] w W → (convert 89 9 (.slice (some ⟨V.ab, 0, none⟩) 20 V.ac)).run Tryz.prog W = .ok (.string (strOfNums (addr kt V.key))) W := fun W k => run_string W ((H.out.1.at_ V hVm).ok.addr.kp k) 89 Tryz.underlying89
      have S1 : ∀ W, Kp [] w W → W.cell? ⟨V.p, 1, none⟩ = some (.iface 127 (.pointer (some ⟨V.kb, 0, none⟩))) ∧ W.cell? ⟨V.p, 2, none⟩ = some (.int .i64 V.pow) ∧ W.cell? ⟨V.p, 3, none⟩ = some (.int .i64 (pr V.p)) := fun W k => ⟨(H.out.1.at_ V hVm).blk.all 1 rfl W k, (H.out.1.at_ V hVm).blk.all 2 rfl W k, (H.out.1.at_ V hVm).blk.all 3 rfl W k⟩
      have g0 : ∀ W, Kp [] wr W → W.cell? ⟨g, 0, none⟩ = some (.slice va i vn) := HC.out.blk.all 0 rfl
      have hkb : ∀ W, Kp [] w W → Blk W V.kb #[.slice ka kn kc] 129 := fun W k => by
        have := k.blk (H.out.1.at_ V hVm).ok.key.1 (by simp)
        rwa [ek] at this
      have HV := Lib.hid (And.intro hVi (And.intro ek hkb))
      have HS := Lib.hid S1
      have hk := HC.out.kp
      clear hVi hVm hV ek S1 hkb
      have f0 := HC.out.blk.free 0
      have hgw : w.heap.size ≤ g := by have := HG.out.2; omega
      have hgne : (Value.slice va i vn).ownBlock ≠ some g := HC.out.own.ne HC.out.blk (by decide)
      have hrne : (Value.slice va i vn).ownBlock ≠ some r := HC.out.own.ne HC.out.res (by decide)
      have hlen : ((L.take i).map (recV pr)).length ≤ 1000000 := by rw [List.length_map, List.length_take]; omega
      have hsz : w.heap.size ≤ wr.heap.size := hk.size
      go_wp2_with fail
      refine wp_region_last (fun W => W.cell? ⟨g, 0, none⟩ = some (.slice va i vn) ∧ W.cell? ⟨V.p, 1, none⟩ = some (.iface 127 (.pointer (some ⟨V.kb, 0, none⟩))) ∧ W.cell? ⟨V.p, 2, none⟩ = some (.int .i64 V.pow) ∧ W.cell? ⟨V.p, 3, none⟩ = some (.int .i64 (pr V.p))) (by kernel_rfl) ?_
      have hS0 : (wr.drew.cell? ⟨g, 0, none⟩ = some (.slice va i vn) ∧ wr.drew.cell? ⟨V.p, 1, none⟩ = some (.iface 127 (.pointer (some ⟨V.kb, 0, none⟩))) ∧ wr.drew.cell? ⟨V.p, 2, none⟩ = some (.int .i64 V.pow) ∧ wr.drew.cell? ⟨V.p, 3, none⟩ = some (.int .i64 (pr V.p))) := ⟨HC.out.blk.cell rfl, HS.out _ hk.drew⟩
      refine wpAnyL_take (i := 0) (v := _) rfl (by kernel_rfl) (by kernel_rfl) (by kernel_rfl) (fun _ _ _ h => h) (Or.inl ⟨by rfl, fun W hSW => by obtain ⟨s0, s1, s2, s3⟩ := hSW; go_simp; try with_reducible rfl⟩) hS0 ?_
      try simp only [Act.put, List.setIfInBounds_toArray, List.set_cons_zero, List.set_cons_succ]
      refine wpAnyL_take (i := 1) (v := _) rfl (by kernel_rfl) (by kernel_rfl) (by kernel_rfl) (fun _ _ _ h => h) (Or.inl ⟨by rfl, fun W hSW => by obtain ⟨s0, s1, s2, s3⟩ := hSW; go_simp; try with_reducible rfl⟩) hS0 ?_
      try simp only [Act.put, List.setIfInBounds_toArray, List.set_cons_zero, List.set_cons_succ]
      refine wpAnyL_take (i := 2) (v := _) rfl (by kernel_rfl) (by kernel_rfl) (by kernel_rfl) (fun _ _ _ h => h) (Or.inl ⟨by rfl, fun W hSW => by obtain ⟨s0, s1, s2, s3⟩ := hSW; go_simp; try with_reducible rfl⟩) hS0 ?_
      try simp only [Act.put, List.setIfInBounds_toArray, List.set_cons_zero, List.set_cons_succ]
      refine wpAnyL_take (i := 3) (v := _) rfl (by kernel_rfl) (by kernel_rfl) (by kernel_rfl) (fun _ _ _ h => h) (Or.inl ⟨by rfl, fun W hSW => by obtain ⟨s0, s1, s2, s3⟩ := hSW; go_simp; try with_reducible rfl⟩) hS0 ?_
      try simp only [Act.put, List.setIfInBounds_toArray, List.set_cons_zero, List.set_cons_succ]
      refine wpAnyL_take (i := 4) (v := _) rfl (by kernel_rfl) (by kernel_rfl) (by kernel_rfl) (fun _ _ _ h => h) (Or.inl ⟨by rfl, fun W hSW => by obtain ⟨s0, s1, s2, s3⟩ := hSW; go_simp; try with_reducible rfl⟩) hS0 ?_
      try simp only [Act.put, List.setIfInBounds_toArray, List.set_cons_zero, List.set_cons_succ]
      refine wpAnyL_take (i := 5) (v := _) rfl (by kernel_rfl) (by kernel_rfl) (by kernel_rfl) (fun _ _ _ h => h) (Or.inl ⟨by rfl, fun W hSW => by obtain ⟨s0, s1, s2, s3⟩ := hSW; go_simp; try with_reducible rfl⟩) hS0 ?_
      try simp only [Act.put, List.setIfInBounds_toArray, List.set_cons_zero, List.set_cons_succ]
      refine wpAnyL_take (i := 7) (v := _) rfl (by kernel_rfl) (by kernel_rfl) (by kernel_rfl) (fun _ _ _ h => h) (Or.inl ⟨by rfl, fun W hSW => by obtain ⟨s0, s1, s2, s3⟩ := hSW; go_simp; try with_reducible rfl⟩) hS0 ?_
      try simp only [Act.put, List.setIfInBounds_toArray, List.set_cons_zero, List.set_cons_succ]
      refine wpAnyL_take (i := 8) (v := _) rfl (by kernel_rfl) (by kernel_rfl) (by kernel_rfl) (fun _ _ _ h => h) (Or.inl ⟨by rfl, fun W hSW => by obtain ⟨s0, s1, s2, s3⟩ := hSW; go_simp; try with_reducible rfl⟩) hS0 ?_
      try simp only [Act.put, List.setIfInBounds_toArray, List.set_cons_zero, List.set_cons_succ]
      refine wpAnyL_take (i := 9) (v := _) rfl (by kernel_rfl) (by kernel_rfl) (by kernel_rfl) (fun _ _ _ h => h) (Or.inl ⟨by rfl, fun W hSW => by obtain ⟨s0, s1, s2, s3⟩ := hSW; go_simp; try with_reducible rfl⟩) hS0 ?_
      try simp only [Act.put, List.setIfInBounds_toArray, List.set_cons_zero, List.set_cons_succ]
      refine wpAnyL_take (i := 10) (v := _) rfl (by kernel_rfl) (by kernel_rfl) (by kernel_rfl) (fun _ _ _ h => h) (Or.inl ⟨by rfl, fun W hSW => by obtain ⟨s0, s1, s2, s3⟩ := hSW; go_simp; try with_reducible rfl⟩) hS0 ?_
      try simp only [Act.put, List.setIfInBounds_toArray, List.set_cons_zero, List.set_cons_succ]
      refine wpAnyL_take (i := 11) (v := _) rfl (by kernel_rfl) (by kernel_rfl) (by kernel_rfl) (fun _ _ _ h => h) (Or.inl ⟨by rfl, fun W hSW => by obtain ⟨s0, s1, s2, s3⟩ := hSW; go_simp; try with_reducible rfl⟩) hS0 ?_
      try simp only [Act.put, List.setIfInBounds_toArray, List.set_cons_zero, List.set_cons_succ]
      refine wpAnyL_take (i := 12) (v := _) rfl (by kernel_rfl) (by kernel_rfl) (by kernel_rfl) (fun _ _ _ h => h) (Or.inl ⟨by rfl, fun W hSW => by obtain ⟨s0, s1, s2, s3⟩ := hSW; go_simp; try with_reducible rfl⟩) hS0 ?_
      try simp only [Act.put, List.setIfInBounds_toArray, List.set_cons_zero, List.set_cons_succ]
      refine wpAnyL_take (i := 13) (v := _) rfl (by kernel_rfl) (by kernel_rfl) (by kernel_rfl) (fun _ _ _ h => h) (Or.inl ⟨by rfl, fun W hSW => by obtain ⟨s0, s1, s2, s3⟩ := hSW; go_simp; try with_reducible rfl⟩) hS0 ?_
      try simp only [Act.put, List.setIfInBounds_toArray, List.set_cons_zero, List.set_cons_succ]
      refine wpAnyL_take (i := 14) (v := _) rfl (by kernel_rfl) (by kernel_rfl) (by kernel_rfl) (fun _ _ _ h => h) (Or.inl ⟨by rfl, fun W hSW => by obtain ⟨s0, s1, s2, s3⟩ := hSW; go_simp; try with_reducible rfl⟩) hS0 ?_
      try simp only [Act.put, List.setIfInBounds_toArray, List.set_cons_zero, List.set_cons_succ]
      refine wpAnyL_one (i := 6) (by kernel_rfl) rfl (fun K hK => ?_)
      go_simp
      refine (keyBytes_any V.kb (.slice ka kn kc) _ (HV.out.2.2 _ hk.drew)).mono ?_
      rintro e W ⟨rfl, rfl⟩
      go_wp2_with fail
      refine hK.out _ _ hS0 ?_
      clear hK K
      try simp only [Act.put, List.setIfInBounds_toArray, List.set_cons_zero, List.set_cons_succ]
      refine wpAnyL_take (i := 15) (v := _) rfl (by kernel_rfl) (by kernel_rfl) (by kernel_rfl) (fun _ _ _ h => h) (Or.inl ⟨by rfl, fun W hSW => by obtain ⟨s0, s1, s2, s3⟩ := hSW; go_simp; try with_reducible rfl⟩) hS0 ?_
      try simp only [Act.put, List.setIfInBounds_toArray, List.set_cons_zero, List.set_cons_succ]
      refine wpAnyL_one (i := 16) (by kernel_rfl) rfl (fun K hK => ?_)
      go_simp
      have kA := ((Kp.refl [] wr).alloc (.cells #[.slice ka kn kc, .int .i64 V.pow, .int .i64 (pr V.p)] 56)).drew
      have hxA := (Blk.new wr #[.slice ka kn kc, .int .i64 V.pow, .int .i64 (pr V.p)] 56).drew
      refine hK.out _ _ ⟨(kA.blk HC.out.blk (by simp)).cell rfl, HS.out _ (hk.trans kA)⟩ ?_
      clear hK K
      generalize (wr.alloc (.cells #[.slice ka kn kc, .int .i64 V.pow, .int .i64 (pr V.p)] 56)).drew = wA at *
      try simp only [Act.put, List.setIfInBounds_toArray, List.set_cons_zero, List.set_cons_succ]
      refine wpAnyL_one (i := 17) (by kernel_rfl) rfl (fun K hK => ?_)
      refine step_kit_rec rfl _ _ 25 56 _ 40 Tryz.underlying25 info56 rfl (by decide) rfl (B := w.heap.size) (v := .slice va i vn) (l := (L.take i).map (recV pr)) (r := ⟨.slice ka kn kc, .int .i64 V.pow, .int .i64 (pr V.p)⟩) rfl (HC.out.own.kp kA) rfl ⟨hxA.cell rfl, hxA.cell rfl, hxA.cell rfl⟩ ⟨rfl, rfl, rfl⟩ hlen (Nat.le_trans hsz kA.size) ?_
      intro v' W' ho' ha'
      obtain ⟨a2, c2, rfl⟩ := ho'.rd.form
      have hl2 : ((L.take i).map (recV pr) ++ [(⟨.slice ka kn kc, .int .i64 V.pow, .int .i64 (pr V.p)⟩ : Rec)]).length = i + 1 := by
        rw [List.length_append, List.length_map, List.length_take, Nat.min_eq_left (by rw [← HN.out]; omega)]
        rfl
      rw [hl2] at ho' ha' ⊢
      have hkA : Kp [] w W' := (hk.trans kA).then ha'.kp (fun j hj hm => by have := HC.out.own.ge j (mem_ownL.1 hm); omega)
      have hbA := ha'.kp.blk (kA.blk HC.out.blk (by simp)) (fun hm => hgne (mem_ownL.1 hm))
      have hrA := ha'.kp.blk (kA.blk HC.out.res (by simp)) (fun hm => hrne (mem_ownL.1 hm))
      have gA : W'.cell? ⟨g, 0, none⟩ = some (.slice va i vn) := hbA.cell rfl
      have fA : W'.frozen? ⟨g, 0, none⟩ = false := hbA.free 0
      have HA := Lib.hid (And.intro ho' (And.intro hbA hrA))
      have hS1 := And.intro gA (HS.out _ hkA)
      clear ho' ha' hbA hrA hS0
      refine hK.out _ _ hS1 ?_
      clear hK K
      try simp only [Act.put, List.setIfInBounds_toArray, List.set_cons_zero, List.set_cons_succ]
      refine wpAnyL_take (i := 18) (v := _) rfl (by kernel_rfl) (by kernel_rfl) (by kernel_rfl) (fun _ _ _ h => h) (Or.inl ⟨by rfl, fun W hSW => by obtain ⟨s0, s1, s2, s3⟩ := hSW; go_simp; try with_reducible rfl⟩) hS1 ?_
      try simp only [Act.put, List.setIfInBounds_toArray, List.set_cons_zero, List.set_cons_succ]
      refine wpAnyL_end (i := 19) (by kernel_rfl) (by kernel_rfl) (by kernel_rfl) rfl (fun K hK => ?_)
      clear g0 hS1
      go_simp
      refine hK.out _ _ ?_
      clear hK K
      have hrg : r ≠ g := by have := HG.out; omega
      have hvg : (Value.slice a2 (i + 1) c2).ownBlock ≠ some g := HA.out.1.ne HA.out.2.1 (by decide)
      have hk5 : Kp [] w (W'.setCell ⟨g, 0, none⟩ (.slice a2 (i + 1) c2)) := hkA.set (p := ⟨g, 0, none⟩) (.inr hgw) _
      have hF : FS pr L n w r g (i + 1) (W'.setCell ⟨g, 0, none⟩ (.slice a2 (i + 1) c2)) (.slice a2 (i + 1) c2) pi := by
        refine ⟨?_, HA.out.2.1.set 0 _, HA.out.2.2.other (p := ⟨g, 0, none⟩) hrg _, HC.out.pi0, HC.out.pi1, hk5⟩
        rw [at_take HV.out.1, List.map_append]
        have hrec : ([V].map (recV pr)) = [(⟨.slice ka kn kc, .int .i64 V.pow, .int .i64 (pr V.p)⟩ : Rec)] := by simp [recV, HV.out.2.1]
        rw [hrec]
        exact HA.out.1.kpS ((Kp.refl [g] W').set (p := ⟨g, 0, none⟩) (.inl (by simp)) _) (fun b hb hm => hvg (by simp at hm; rw [hb, hm]))
      have HF := Lib.hid hF
      generalize W'.setCell ⟨g, 0, none⟩ (.slice a2 (i + 1) c2) = w5 at *
      clear hF hvg HA gA fA hkA hxA kA hk f0 hgne hrne hlen hsz ci
      have f1 := HF.out.blk.free 1
      have g1 : w5.cell? ⟨g, 1, none⟩ = some (.int .i64 pi) := HF.out.blk.cell rfl
      have d1 : w5.drew.frozen? ⟨g, 1, none⟩ = false := f1
      have hk6 := hk5.drew
      have HF6 := Lib.hid (HF.out.more (Kp.refl [] w5).drew)
      rcases hq : ((strOfNums (addr kt P.key)).toList == (strOfNums (addr kt V.key)).toList) with _ | _
      · go_wp2_with fail
        go_big_region
        go_wp2_with fail
        exact ⟨⟨i + 1, _, _, by omega, by go_num, HF6.out⟩, by simp [intOf]; omega⟩
      · go_wp2_with fail
        go_big_region
        go_wp2_with fail
        exact ⟨⟨i + 1, _, _, by omega, by go_num, HF6.out.setp hrg hgw i hlt⟩, by simp [intOf]; omega⟩
    · have hi2 : i = n := by omega
      subst hi2
      have g0 : wr.cell? ⟨g, 0, none⟩ = some (.slice va i vn) := HC.out.blk.cell rfl
      have g1 : wr.cell? ⟨g, 1, none⟩ = some (.int .i64 pi) := HC.out.blk.cell rfl
      have r0 : wr.cell? ⟨r, 0, none⟩ = some (.slice none 0 0) := HC.out.res.cell rfl
      have r1 : wr.cell? ⟨r, 1, none⟩ = some (.int .i64 0) := HC.out.res.cell rfl
      have f0 := HC.out.res.free 0
      have f1 := HC.out.res.free 1
      go_wp2_with fail
      have hb6 := ((HC.out.res.set 0 (.slice va i vn)).set 1 (.int .i64 pi))
      have hi : (Tryz.prog.info? 27).map (·.size) = some 2 := by kernel_rfl
      refine bodyPost_ret (v := .agg #[.slice va i vn, .int .i64 pi]) ?_ ?_ ?_
      · exact results_cell_row rfl _ _ r 27 #[.slice va i vn, .int .i64 pi] (0, 0) _ rfl hb6 Tryz.underlying27 rfl hi
      · rfl
      have hrw : w.heap.size ≤ r := by have := HG.out.1; omega
      refine ⟨_, _, rfl, ?_, HC.out.pi0, HC.out.pi1, (HC.out.kp.set (p := ⟨r, 0, none⟩) (.inr hrw) _).set (p := ⟨r, 1, none⟩) (.inr hrw) _⟩
      have := HC.out.own.kpS (((Kp.refl [r] wr).set (p := ⟨r, 0, none⟩) (.inl (by simp)) (.slice va i vn)).set (p := ⟨r, 1, none⟩) (.inl (by simp)) (.int .i64 pi)) (fun b hb hm => HC.out.own.ne HC.out.res (by decide) (by simp at hm; rw [hb, hm]))
      have h2 := this.rd
      rwa [List.take_of_length_le (by have := HN.out; omega)] at h2
end Go.Proofs.YtfkaldaflnmfiaaGreatDoor
/- The contracts of NewSet and toSet. -/
namespace Go.Proofs.YtfkaldaflnmfiaaGreatDoor
set_option linter.unusedSimpArgs false
set_option linter.unusedVariables false
open Go Go.RowKit


def Sea.kp2 (S : Sea) : List Int × Int := (S.key, S.pow)
def Vl.kp2 (V : Vl) : List Int × Int := (V.key, V.pow)
/-- A validator's seat. -/
def seaV (pr : Nat → Int) (V : Vl) : Sea := match V.vk with
  | .slice a n c => ⟨a, n, c, V.key, V.pow, pr V.p⟩
  | _ => ⟨none, 0, 0, V.key, V.pow, pr V.p⟩
theorem seaV_kp2 (pr : Nat → Int) (V : Vl) : (seaV pr V).kp2 = V.kp2 := by
  unfold seaV Sea.kp2 Vl.kp2
  split <;> rfl
/-- The slice v holds these seats. -/
def SeaR (w : World) (v : Value) (Ls : List Sea) : Prop := ∃ b c, v = .slice (some ⟨b, 0, none⟩) Ls.length c ∧ SeasAt w b Ls
theorem SeaR.kp {w w' : World} {v : Value} {Ls : List Sea} (h : SeaR w v Ls) (k : Kp [] w w') : SeaR w' v Ls := by
  obtain ⟨b, c, h1, h2⟩ := h
  exact ⟨b, c, h1, h2.kp k⟩
theorem seaR_of {kt : Nat → Int} {w : World} {v : Value} {pr : Nat → Int} {L : List Vl} (h : RdR w v (L.map (recV pr))) (h0 : 0 < L.length) (hL : ∀ V ∈ L, VlOk kt w V) : SeaR w v (L.map (seaV pr)) := by
  obtain ⟨b, c, rfl, hc⟩ := h.pos (by simpa using h0)
  refine ⟨b, c, by simp, fun i S hS => ?_⟩
  rw [List.getElem?_map, Option.map_eq_some_iff] at hS
  obtain ⟨V, hV, rfl⟩ := hS
  have ho := hL V (List.mem_of_getElem? hV)
  obtain ⟨ka, kn, kc, ek⟩ := ho.key.2.form
  have hr := hc i (recV pr V) (by rw [List.getElem?_map, hV]; rfl)
  have es : seaV pr V = ⟨ka, kn, kc, V.key, V.pow, pr V.p⟩ := by unfold seaV; rw [ek]
  rw [es]
  unfold recV at hr
  rw [ek] at hr
  refine ⟨hr.1, hr.2.1, hr.2.2, ?_, ho.len, ho.bs⟩
  have := ho.key.2
  rwa [ek] at this
/-- The same keys and powers, in some order. -/
def SameS (Ls Ls' : List Sea) : Prop := (Ls'.map Sea.kp2).Perm (Ls.map Sea.kp2)
theorem TV.kp2 {kt : Nat → Int} {Ls : List Sea} {w wr : World} {b' n : Nat} {Q : List Vl} {pr : Nat → Int} (h : TV kt Ls w b' n n wr Q pr) (hn : n = Ls.length) : Q.map Vl.kp2 = Ls.map Sea.kp2 := by
  apply List.ext_getElem?
  intro i
  rw [List.getElem?_map, List.getElem?_map]
  by_cases hi : i < n
  · have hqi : i < Q.length := by rw [h.len]; exact hi
    have hsi : i < Ls.length := by rw [← hn]; exact hi
    have hq : Q[i]? = some Q[i] := List.getElem?_eq_getElem hqi
    have hs : Ls[i]? = some Ls[i] := List.getElem?_eq_getElem hsi
    have h3 := h.same i _ _ hq hs
    rw [hq, hs]
    simp only [Option.map_some, Vl.kp2, Sea.kp2]
    rw [h3.1, h3.2.1]
  · rw [List.getElem?_eq_none (by rw [h.len]; omega), List.getElem?_eq_none (by omega)]
    rfl
theorem Same.kp2 {L L' : List Vl} (h : Same L L') : (L'.map Vl.kp2).Perm (L.map Vl.kp2) := by
  obtain ⟨P, h1, h2⟩ := h
  have e : P.map Vl.kp2 = L.map Vl.kp2 := by
    have := congrArg (List.map fun d : Nat × Nat × Nat × Value × List Int × Int => (d.2.2.2.2.1, d.2.2.2.2.2)) h2
    rw [List.map_map, List.map_map] at this
    exact this
  rw [← e]
  exact (h1.map _).symm
theorem pows_kp2 {Q : List Vl} {Ls : List Sea} (h : Q.map Vl.kp2 = Ls.map Sea.kp2) (hp : ∀ S ∈ Ls, 1 ≤ S.pow ∧ S.pow ≤ 1000) : Pows Q := by
  intro V hV
  have : V.kp2 ∈ Ls.map Sea.kp2 := h ▸ List.mem_map_of_mem hV
  obtain ⟨S, hS, e⟩ := List.mem_map.1 this
  have e2 : S.pow = V.pow := congrArg Prod.snd e
  rw [← e2]
  exact hp S hS
theorem apart_kp2 {kt : Nat → Int} {Q : List Vl} {Ls : List Sea} (h : Q.map Vl.kp2 = Ls.map Sea.kp2) (ha : (Ls.map fun S => addr kt S.key).Nodup) : Apart kt Q := by
  have e : Q.map (fun V => addr kt V.key) = Ls.map (fun S => addr kt S.key) := by
    have := congrArg (List.map fun d : List Int × Int => addr kt d.1) h
    simpa [Function.comp_def, Vl.kp2, Sea.kp2] using this
  unfold Apart
  rw [e]
  exact ha

theorem SeasAt.far {w w' : World} {b : Nat} {Ls : List Sea} {S : List Nat} (h : SeasAt w b Ls) (k : Kp S w w') (hS : ∀ x ∈ S, Far w x) (hb : b ∉ S) : SeasAt w' b Ls := by
  intro i T hT
  have h1 := h i T hT
  have kc : ∀ (j : Nat) (u : Value), w.cell? ⟨b, j, none⟩ = some u → w'.cell? ⟨b, j, none⟩ = some u := fun j u hu => (k.cell (p := ⟨b, j, none⟩) (World.block_lt_of_cell? w _ hu) hb).trans hu
  exact ⟨kc _ _ h1.c0, kc _ _ h1.c1, kc _ _ h1.c2, h1.key.kpS k (fun x hx hm => h1.key.far (by rw [h1.len]; decide) (hS x hm) hx), h1.len, h1.bs⟩
/-- A block of two cells holds no seats. -/
theorem SeasAt.ne2 {w : World} {b r : Nat} {Ls : List Sea} {x y : Value} {t : TypeId} (h : SeasAt w b Ls) (h0 : 0 < Ls.length) (hr : Blk w r #[x, y] t) : b ≠ r := by
  intro e
  subst e
  have h1 := (h 0 Ls[0] (List.getElem?_eq_getElem h0)).c2
  rw [cell_of_row w b _ _ _ _ hr] at h1
  simp at h1
theorem pair_far {w : World} {r : Nat} {a : Option Addr} {n c : Nat} {x : Int} {t : TypeId} (h : Blk w r #[.slice a n c, .int .i64 x] t) (ht : t ≠ 129) : Far w r := ⟨_, _, h, ht, fun j y e => by
  simp only [List.getElem?_toArray] at e
  have := List.mem_of_getElem? e
  simp at this⟩

set_option maxHeartbeats 1000000 in
set_option maxRecDepth 100000 in
theorem newSetI_any (kt : Nat → Int) (z : Int) (b c n : Nat) (Ls : List Sea) (w : World) (hL : SeasAt w b Ls) (hz : ∀ S ∈ Ls, S.prio = z) (hn : n = Ls.length) (hn0 : 0 < n) (hn1 : n ≤ 100) (hT : Tab kt w) (hp : ∀ S ∈ Ls, 1 ≤ S.pow ∧ S.pow ≤ 1000) (ha : (Ls.map fun S => addr kt S.key).Nodup) :
    Calls Tryz.prog 19 #[rowV b n c] w fun e w' => ∃ v pi Ls', e = .returned (.agg #[v, .int .i64 pi]) ∧ SeaR w' v Ls' ∧ SameS Ls Ls' ∧ -1 ≤ pi ∧ pi < n ∧ Kp [] w w' := by
  have H := Lib.hid (And.intro hL (And.intro hz (And.intro hT (And.intro hp ha))))
  have HN := Lib.hid hn
  clear hL hz hT hp ha hn
  unfold rowV
  go_enter Tryz.func19, Tryz.ntmps19
  go_wp2_with fail
  have k0 := (Kp.refl [] w).alloc (.cells #[.slice none 0 0, .int .i64 0] 27)
  have hr := Blk.new w #[.slice none 0 0, .int .i64 0] 27
  generalize w.alloc (.cells #[.slice none 0 0, .int .i64 0] 27) = w0 at *
  obtain ⟨r, er⟩ : ∃ r, r = w.heap.size := ⟨_, rfl⟩
  rw [← er] at hr ⊢
  have H0 := Lib.hid (And.intro hr (And.intro k0 er))
  clear hr k0 er
  refine (toVals_any kt b c n Ls w0 (H.out.1.kp H0.out.2.1) HN.out (by omega) (H.out.2.2.1.kp H0.out.2.1)).mono ?_
  rintro e w1 ⟨b1, Q, pr, rfl, ht⟩
  have hq := ht.kp2 HN.out
  have H1 := Lib.hid (And.intro ht hq)
  clear ht hq
  have hz1 : ∀ V ∈ Q, VlAt kt (fun _ => z) w1 V := by
    intro V hV
    have h1 := H1.out.1.at_ V hV
    obtain ⟨i, hi, rfl⟩ := List.getElem_of_mem hV
    have hs : Ls[i]? = some (Ls[i]'(by rw [← HN.out, ← H1.out.1.len]; exact hi)) := List.getElem?_eq_getElem _
    have h2 := H1.out.1.same i _ _ (List.getElem?_eq_getElem hi) hs
    have h3 := H.out.2.1 _ (List.mem_of_getElem? hs)
    refine ⟨h1.ok, ?_⟩
    have h4 := h1.blk
    rw [h2.2.2, h3] at h4
    exact h4
  have HZ := Lib.hid hz1
  clear hz1
  unfold rowV
  go_wp2_with fail
  refine (newSet_any kt z b1 n n Q w1 (by have := H1.out.1.row; rwa [part_full H1.out.1.len] at this) HZ.out H1.out.1.len.symm hn0 hn1 (pows_kp2 H1.out.2 H.out.2.2.2.1) (apart_kp2 H1.out.2 H.out.2.2.2.2)).mono ?_
  rintro e w2 ⟨s, b2, L', V, pr2, rfl, hV, hs, hsm, k2⟩
  have H2 := Lib.hid (And.intro hV (And.intro hs (And.intro hsm k2)))
  clear hV hs hsm k2
  go_wp2_with fail
  refine (fromSet_any kt pr2 s b2 n V _ true L' w2 H2.out.2.1 H2.out.1 (by omega)).mono ?_
  rintro e w3 ⟨v, pi, rfl, hv, p0, p1, k3⟩
  have hl' : 0 < L'.length := by rw [← H2.out.2.1.len]; exact hn0
  have hsr := seaR_of (kt := kt) hv hl' (fun U hU => ((H2.out.2.1.at_ U hU).kp k3).ok)
  obtain ⟨vb, vc, rfl, hva⟩ := hsr
  have kk : Kp [] w w3 := ((H0.out.2.1.trans H1.out.1.kp).trans H2.out.2.2.2).trans k3
  have kr : Kp [] w0 w3 := (H1.out.1.kp.trans H2.out.2.2.2).trans k3
  have hr3 := kr.blk H0.out.1 (by simp)
  have r0 : w3.cell? ⟨r, 0, none⟩ = some (.slice none 0 0) := hr3.cell rfl
  have r1 : w3.cell? ⟨r, 1, none⟩ = some (.int .i64 0) := hr3.cell rfl
  have f0 := hr3.free 0
  have f1 := hr3.free 1
  have H3 := Lib.hid (And.intro hva (And.intro p0 (And.intro p1 (And.intro kk hr3))))
  clear hv hva p0 p1 kk kr hr3 k3
  go_wp2_with fail
  have hb6 := ((H3.out.2.2.2.2.set 0 (.slice (some ⟨vb, 0, none⟩) L'.length vc)).set 1 (.int .i64 pi))
  have hi : (Tryz.prog.info? 27).map (·.size) = some 2 := by kernel_rfl
  refine bodyPost_ret (v := .agg #[.slice (some ⟨vb, 0, none⟩) L'.length vc, .int .i64 pi]) ?_ ?_ ?_
  · exact results_cell_row rfl _ _ r 27 #[.slice (some ⟨vb, 0, none⟩) L'.length vc, .int .i64 pi] (0, 0) _ rfl hb6 Tryz.underlying27 rfl hi
  · rfl
  have hrw : w.heap.size ≤ r := by have := H0.out.2.2; omega
  have kr : Kp [r] w3 ((w3.setCell ⟨r, 0, none⟩ (.slice (some ⟨vb, 0, none⟩) L'.length vc)).setCell ⟨r, 1, none⟩ (.int .i64 pi)) := ((Kp.refl [r] w3).set (p := ⟨r, 0, none⟩) (.inl (by simp)) _).set (p := ⟨r, 1, none⟩) (.inl (by simp)) _
  refine ⟨_, pi, L'.map (seaV pr2), rfl, ⟨vb, vc, by simp, ?_⟩, ?_, H3.out.2.1, H3.out.2.2.1, H3.out.2.2.2.1.then kr (by intro i hi hm; simp at hm; omega)⟩
  · refine H3.out.1.far kr ?_ ?_
    · intro x hx
      simp at hx
      subst hx
      exact pair_far H3.out.2.2.2.2 (by decide)
    · have := H3.out.1.ne2 (by simpa using hl') H3.out.2.2.2.2
      simpa using this
  · unfold SameS
    have e1 : (L'.map (seaV pr2)).map Sea.kp2 = L'.map Vl.kp2 := by
      rw [List.map_map]
      exact List.map_congr_left (fun V _ => seaV_kp2 pr2 V)
    rw [e1, ← H1.out.2]
    exact H2.out.2.2.1.kp2
end Go.Proofs.YtfkaldaflnmfiaaGreatDoor
/- The contract of toSet. -/
namespace Go.Proofs.YtfkaldaflnmfiaaGreatDoor
set_option linter.unusedSimpArgs false
set_option linter.unusedVariables false
open Go Go.RowKit


set_option maxHeartbeats 1000000 in
set_option maxRecDepth 100000 in
theorem toSet_any (kt : Nat → Int) (v : Value) (pi : Int) (n : Nat) (Ls : List Sea) (w : World) (hL : SeaR w v Ls) (hn : n = Ls.length) (hn0 : 0 < n) (hn1 : n ≤ 100) (hT : Tab kt w) (hpi : -1 ≤ pi ∧ pi < n) :
    Calls Tryz.prog 25 #[.agg #[v, .int .i64 pi]] w fun e w' => ∃ s b Q pr pp, e = .returned (.pointer (some ⟨s, 0, none⟩)) ∧ SetAt kt pr s b n pp 0 false Q w' ∧ Q.map Vl.kp2 = Ls.map Sea.kp2 ∧ w.heap.size ≤ s ∧ Kp [] w w' := by
  obtain ⟨vb, vc, rfl, hs⟩ := hL
  rw [← hn]
  obtain ⟨p0, p1⟩ := hpi
  have H := Lib.hid (And.intro hs hT)
  have HN := Lib.hid hn
  clear hs hT hn
  go_enter Tryz.func25, Tryz.ntmps25
  go_wp2_with fail
  have k0 := (Kp.refl [] w).alloc (.cells #[.slice (some ⟨vb, 0, none⟩) n vc, .int .i64 pi] 27)
  have hr := Blk.new w #[.slice (some ⟨vb, 0, none⟩) n vc, .int .i64 pi] 27
  generalize w.alloc (.cells #[.slice (some ⟨vb, 0, none⟩) n vc, .int .i64 pi] 27) = w0 at *
  obtain ⟨r, er⟩ : ∃ r, r = w.heap.size := ⟨_, rfl⟩
  rw [← er] at hr ⊢
  have r0 : ∀ W, Kp [] w0 W → W.cell? ⟨r, 0, none⟩ = some (.slice (some ⟨vb, 0, none⟩) n vc) := hr.all 0 rfl
  have r1 : ∀ W, Kp [] w0 W → W.cell? ⟨r, 1, none⟩ = some (.int .i64 pi) := hr.all 1 rfl
  have hrl := hr.lt
  have H0 := Lib.hid (And.intro hr (And.intro k0 er))
  clear hr k0 er
  go_wp2_with fail
  refine (toVals_any kt vb vc n Ls w0 (H.out.1.kp H0.out.2.1) HN.out (by omega) (H.out.2.kp H0.out.2.1)).mono ?_
  rintro e w1 ⟨b1, Q, pr, rfl, ht⟩
  have hq := ht.kp2 HN.out
  have k1 := ht.kp
  have hrow := ht.row
  rw [part_full ht.len] at hrow
  have H1 := Lib.hid (And.intro ht (And.intro hq hrow))
  clear ht hq hrow
  unfold rowV
  have hrl1 : r < w1.heap.size := Nat.lt_of_lt_of_le hrl k1.size
  have q0 := r0 w1 k1
  have q1 := r1 w1 k1
  clear r0 r1
  have k2 := (Kp.refl [] w1).alloc (.cells (setC (rowV b1 n n) none 0 false) 112)
  have hset := Blk.new w1 (setC (rowV b1 n n) none 0 false) 112
  have S2 : SetAt kt pr w1.heap.size b1 n none 0 false Q (w1.alloc (.cells (setC (rowV b1 n n) none 0 false) 112)) :=
    ⟨hset, k2.blk H1.out.2.2 (by simp), fun V hV => (H1.out.1.at_ V hV).kp k2, H1.out.1.nodup, H1.out.1.len.symm⟩
  have HS := Lib.hid (And.intro S2 (And.intro ((H0.out.2.1.trans k1).trans k2) (k1.trans k2)))
  clear k2 hset S2
  unfold setC rowV at HS
  by_cases hp : 0 ≤ pi
  · have hd := decide_eq_true hp
    have hd2 := decide_eq_true p1
    go_wp2_with fail
    generalize w1.alloc (.cells #[.slice (some ⟨b1, 0, none⟩) n n, .pointer none, .int .i64 0, .bool false] 112) = w2 at *
    obtain ⟨s, es⟩ : ∃ s, s = w1.heap.size := ⟨_, rfl⟩
    rw [← es] at HS ⊢
    have ES := Lib.hid es
    clear es
    obtain ⟨k, rfl⟩ := Int.eq_ofNat_of_zero_le hp
    obtain ⟨V, hVm, hVi⟩ := get_lt (L := Q) (i := k) (by rw [← HS.out.1.len]; omega)
    have ck : w2.cell? ⟨b1, k, none⟩ = some (.pointer (some ⟨V.p, 0, none⟩)) := HS.out.1.row.cell (ptrs_some hVi)
    have s0 : w2.cell? ⟨s, 0, none⟩ = some (.slice (some ⟨b1, 0, none⟩) n n) := HS.out.1.set.cell rfl
    have s1 : w2.cell? ⟨s, 1, none⟩ = some (.pointer none) := HS.out.1.set.cell rfl
    have f1 := HS.out.1.set.free 1
    have d1 : w2.drew.frozen? ⟨s, 1, none⟩ = false := f1
    have qq : w2.cell? ⟨r, 1, none⟩ = some (.int .i64 k) := (HS.out.2.2.blk H0.out.1 (by simp)).cell rfl
    clear q0 q1
    go_wp2_with fail
    go_big_region
    go_wp2_with fail
    go_ret
    have hsw : w.heap.size ≤ s := by have := k1.size; have := H0.out.2.1.size; have := ES.out; omega
    refine ⟨s, b1, Q, pr, some ⟨V.p, 0, none⟩, rfl, ?_, H1.out.2.1, hsw, ?_⟩
    · refine (HS.out.1.cells (Kp.set (p := ⟨s, 1, none⟩) (Kp.refl [s] w2) (.inl (by simp)) _) (HS.out.1.set.set 1 _)).kp (Kp.refl [] _).drew
    · exact ((HS.out.2.1.set (p := ⟨s, 1, none⟩) (.inr hsw) _)).drew
  · have hd := decide_eq_false hp
    go_wp2_with fail
    go_ret
    exact ⟨_, b1, Q, pr, none, rfl, HS.out.1, H1.out.2.1, (H0.out.2.1.trans k1).size, HS.out.2.1⟩
end Go.Proofs.YtfkaldaflnmfiaaGreatDoor
