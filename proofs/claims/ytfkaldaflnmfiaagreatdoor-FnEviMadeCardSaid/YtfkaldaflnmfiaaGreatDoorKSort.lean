/- Contracts of the sorted slices' Len, Less and Swap. -/
import Derived.WalkKit
import Derived.WalkSpells
import Derived.WalkLawsBesides
import Derived.Handy
import Derived.Lib.Hide
import Derived.IntWalk
import Derived.Deep.RegionHeld3
import Derived.Deep.QuietTactic
import Derived.BigQuiet
import Derived.RegionTactic
import Derived.BigRegion
import Derived.Test.YtfkaldaflnmfiaaGreatDoorKCmp
import Derived.LoopTactic
namespace Go.Proofs.YtfkaldaflnmfiaaGreatDoor
set_option linter.unusedSimpArgs false
set_option linter.unusedVariables false
open Go Go.RowKit

def ptr (V : Vl) : Value := .pointer (some ⟨V.p, 0, none⟩)
def ptrs (L : List Vl) : Array Value := (L.map ptr).toArray
theorem ptrs_size (L : List Vl) : (ptrs L).size = L.length := by simp [ptrs]
theorem ptrs_at {L : List Vl} {j : Nat} (h : j < L.length) : (ptrs L)[j]? = some (ptr L[j]) := by simp [ptrs, h]
/-- A validator as it stands: what never turns, and its block with its priority. -/
structure VlAt (kt : Nat → Int) (pr : Nat → Int) (w : World) (V : Vl) : Prop where
  ok : VlOk kt w V
  blk : Blk w V.p (V.cells (pr V.p)) 107

theorem lenA_any (b n c : Nat) (w : World) : Calls Tryz.prog 168 #[.slice (some ⟨b, 0, none⟩) n c] w fun e w' => e = .returned (.int .i64 n) ∧ w = w' := by
  go_enter Tryz.func168, Tryz.ntmps168
  go_wp2
  go_ret
  exact ⟨rfl, rfl⟩

def SomeBool (w : World) (e : Ending) (w' : World) : Prop := ∃ x : Bool, e = .returned (.bool x) ∧ Kp [] w w'

set_option maxRecDepth 100000 in
theorem lessA_any (kt pr : Nat → Int) (b n c i j : Nat) (Vi Vj : Vl) (w : World) (hi : i < n) (hj : j < n) (hci : w.cell? ⟨b, i, none⟩ = some (ptr Vi)) (hcj : w.cell? ⟨b, j, none⟩ = some (ptr Vj)) (hVi : VlAt kt pr w Vi) (hVj : VlAt kt pr w Vj) :
    Calls Tryz.prog 169 #[.slice (some ⟨b, 0, none⟩) n c, .int .i64 i, .int .i64 j] w (SomeBool w) := by
  unfold ptr at hci hcj
  have ai : w.cell? ⟨Vi.p, 0, none⟩ = some (.slice (some ⟨Vi.ab, 0, none⟩) 20 Vi.ac) := hVi.blk.cell rfl
  have aj : w.cell? ⟨Vj.p, 0, none⟩ = some (.slice (some ⟨Vj.ab, 0, none⟩) 20 Vj.ac) := hVj.blk.cell rfl
  have H := Lib.hid (And.intro hVi.ok.addr hVj.ok.addr)
  have i0 : (0 : Int) ≤ (i : Int) := by omega
  have i1 : (i : Int) < (n : Int) := by omega
  have j0 : (0 : Int) ≤ (j : Int) := by omega
  have j1 : (j : Int) < (n : Int) := by omega
  clear hVi hVj
  go_enter Tryz.func169, Tryz.ntmps169
  go_wp2_with fail
  go_quiet ((go_at_call 97; exact Calls.quiet_of_same ((bytes_compare _ _ (addr kt Vi.key) (addr kt Vj.key) _ (H.out.1.drewN _) (H.out.2.drewN _)).mono fun _ _ ⟨h, k⟩ => ⟨h, k.symm⟩)))
  go_wp2
  go_ret
  exact ⟨_, rfl, (Kp.refl [] w).drewN _⟩

set_option maxRecDepth 100000 in
theorem swapA_any (b n c i j : Nat) (vi vj : Value) (a1 a2 : Option Addr) (cs : Array Value) (t : TypeId) (w : World) (hb : Blk w b cs t) (hi : i < n) (hj : j < n) (hci : cs[i]? = some (.pointer a1)) (hcj : cs[j]? = some (.pointer a2)) (hij : i ≠ j) :
    Calls Tryz.prog 170 #[.slice (some ⟨b, 0, none⟩) n c, .int .i64 i, .int .i64 j] w fun e w' => e = .returned (.tuple #[]) ∧ Blk w' b ((cs.setIfInBounds i (.pointer a2)).setIfInBounds j (.pointer a1)) t ∧ Kp [b] w w' := by
  have ci : w.cell? ⟨b, i, none⟩ = some (.pointer a1) := hb.cell hci
  have cj : w.cell? ⟨b, j, none⟩ = some (.pointer a2) := hb.cell hcj
  have fi := hb.free i
  have fj := hb.free j
  have i0 : (0 : Int) ≤ (i : Int) := by omega
  have i1 : (i : Int) < (n : Int) := by omega
  have j0 : (0 : Int) ≤ (j : Int) := by omega
  have j1 : (j : Int) < (n : Int) := by omega
  have HB := Lib.hid hb
  clear hci hcj hb
  go_enter Tryz.func170, Tryz.ntmps170
  go_wp2_with fail
  go_region
  go_end0
  exact ⟨rfl, ((HB.out.set i _).set j _).drew, (((Kp.refl [b] w).set (.inl (by simp)) _).set (.inl (by simp)) _).drew⟩

theorem lenP_any (b n c : Nat) (w : World) : Calls Tryz.prog 165 #[.slice (some ⟨b, 0, none⟩) n c] w fun e w' => e = .returned (.int .i64 n) ∧ w = w' := by
  go_enter Tryz.func165, Tryz.ntmps165
  go_wp2
  go_ret
  exact ⟨rfl, rfl⟩

set_option maxRecDepth 100000 in
theorem lessP_any (kt pr : Nat → Int) (b n c i j : Nat) (Vi Vj : Vl) (w : World) (hi : i < n) (hj : j < n) (hci : w.cell? ⟨b, i, none⟩ = some (ptr Vi)) (hcj : w.cell? ⟨b, j, none⟩ = some (ptr Vj)) (hVi : VlAt kt pr w Vi) (hVj : VlAt kt pr w Vj) :
    Calls Tryz.prog 166 #[.slice (some ⟨b, 0, none⟩) n c, .int .i64 i, .int .i64 j] w (SomeBool w) := by
  unfold ptr at hci hcj
  have ai : w.cell? ⟨Vi.p, 0, none⟩ = some (.slice (some ⟨Vi.ab, 0, none⟩) 20 Vi.ac) := hVi.blk.cell rfl
  have aj : w.cell? ⟨Vj.p, 0, none⟩ = some (.slice (some ⟨Vj.ab, 0, none⟩) 20 Vj.ac) := hVj.blk.cell rfl
  have pi : w.cell? ⟨Vi.p, 2, none⟩ = some (.int .i64 Vi.pow) := hVi.blk.cell rfl
  have pj : w.cell? ⟨Vj.p, 2, none⟩ = some (.int .i64 Vj.pow) := hVj.blk.cell rfl
  have H := Lib.hid (And.intro hVi.ok.addr hVj.ok.addr)
  have i0 : (0 : Int) ≤ (i : Int) := by omega
  have i1 : (i : Int) < (n : Int) := by omega
  have j0 : (0 : Int) ≤ (j : Int) := by omega
  have j1 : (j : Int) < (n : Int) := by omega
  clear hVi hVj
  rcases hq : (Vi.pow == Vj.pow) with _ | _
  · go_enter Tryz.func166, Tryz.ntmps166
    go_wp2_with fail
    go_quiet (fail)
    go_wp2_with fail
    have kq := (Kp.refl [] w).drewN nq
    have hci' : (w.drewN nq).cell? ⟨b, i, none⟩ = some (.pointer (some ⟨Vi.p, 0, none⟩)) := hci
    have hcj' : (w.drewN nq).cell? ⟨b, j, none⟩ = some (.pointer (some ⟨Vj.p, 0, none⟩)) := hcj
    have ai' : (w.drewN nq).cell? ⟨Vi.p, 0, none⟩ = some (.slice (some ⟨Vi.ab, 0, none⟩) 20 Vi.ac) := ai
    have aj' : (w.drewN nq).cell? ⟨Vj.p, 0, none⟩ = some (.slice (some ⟨Vj.ab, 0, none⟩) 20 Vj.ac) := aj
    have pi' : (w.drewN nq).cell? ⟨Vi.p, 2, none⟩ = some (.int .i64 Vi.pow) := pi
    have pj' : (w.drewN nq).cell? ⟨Vj.p, 2, none⟩ = some (.int .i64 Vj.pow) := pj
    have H1 := Lib.hid (And.intro (H.out.1.kp kq) (H.out.2.kp kq))
    have K1 := Lib.hid kq
    clear kq hci hcj ai aj pi pj H
    generalize w.drewN nq = w1 at *
    go_quiet (fail)
    go_wp2
    go_ret
    exact ⟨_, rfl, K1.out.drewN _⟩
  · go_enter Tryz.func166, Tryz.ntmps166
    go_wp2_with fail
    go_quiet (fail)
    go_wp2_with fail
    have kq := (Kp.refl [] w).drewN nq
    have hci' : (w.drewN nq).cell? ⟨b, i, none⟩ = some (.pointer (some ⟨Vi.p, 0, none⟩)) := hci
    have hcj' : (w.drewN nq).cell? ⟨b, j, none⟩ = some (.pointer (some ⟨Vj.p, 0, none⟩)) := hcj
    have ai' : (w.drewN nq).cell? ⟨Vi.p, 0, none⟩ = some (.slice (some ⟨Vi.ab, 0, none⟩) 20 Vi.ac) := ai
    have aj' : (w.drewN nq).cell? ⟨Vj.p, 0, none⟩ = some (.slice (some ⟨Vj.ab, 0, none⟩) 20 Vj.ac) := aj
    have pi' : (w.drewN nq).cell? ⟨Vi.p, 2, none⟩ = some (.int .i64 Vi.pow) := pi
    have pj' : (w.drewN nq).cell? ⟨Vj.p, 2, none⟩ = some (.int .i64 Vj.pow) := pj
    have H1 := Lib.hid (And.intro (H.out.1.kp kq) (H.out.2.kp kq))
    have K1 := Lib.hid kq
    clear kq hci hcj ai aj pi pj H
    generalize w.drewN nq = w1 at *
    go_quiet ((go_at_call 97; exact Calls.quiet_of_same ((bytes_compare _ _ (addr kt Vi.key) (addr kt Vj.key) _ (H1.out.1.drewN _) (H1.out.2.drewN _)).mono fun _ _ ⟨h, k⟩ => ⟨h, k.symm⟩)))
    go_wp2
    go_ret
    exact ⟨_, rfl, K1.out.drewN _⟩

set_option maxRecDepth 100000 in
theorem swapP_any (b n c i j : Nat) (vi vj : Value) (a1 a2 : Option Addr) (cs : Array Value) (t : TypeId) (w : World) (hb : Blk w b cs t) (hi : i < n) (hj : j < n) (hci : cs[i]? = some (.pointer a1)) (hcj : cs[j]? = some (.pointer a2)) (hij : i ≠ j) :
    Calls Tryz.prog 167 #[.slice (some ⟨b, 0, none⟩) n c, .int .i64 i, .int .i64 j] w fun e w' => e = .returned (.tuple #[]) ∧ Blk w' b ((cs.setIfInBounds i (.pointer a2)).setIfInBounds j (.pointer a1)) t ∧ Kp [b] w w' := by
  have ci : w.cell? ⟨b, i, none⟩ = some (.pointer a1) := hb.cell hci
  have cj : w.cell? ⟨b, j, none⟩ = some (.pointer a2) := hb.cell hcj
  have fi := hb.free i
  have fj := hb.free j
  have i0 : (0 : Int) ≤ (i : Int) := by omega
  have i1 : (i : Int) < (n : Int) := by omega
  have j0 : (0 : Int) ≤ (j : Int) := by omega
  have j1 : (j : Int) < (n : Int) := by omega
  have HB := Lib.hid hb
  clear hci hcj hb
  go_enter Tryz.func167, Tryz.ntmps167
  go_wp2_with fail
  go_region
  go_end0
  exact ⟨rfl, ((HB.out.set i _).set j _).drew, (((Kp.refl [b] w).set (.inl (by simp)) _).set (.inl (by simp)) _).drew⟩
end Go.Proofs.YtfkaldaflnmfiaaGreatDoor
/- The contract of the package's sort, by address and by power: the same validators in some order. -/
namespace Go.Proofs.YtfkaldaflnmfiaaGreatDoor
set_option linter.unusedSimpArgs false
set_option linter.unusedVariables false
open Go Go.RowKit

/-- A block in which no bytes and no key lie. -/
def Far (w : World) (b : Nat) : Prop := ∃ cs t, Blk w b cs t ∧ t ≠ 129 ∧ ∀ (j : Nat) (x : Int), cs[j]? ≠ some (.int .u8 x)
theorem Byt.far {w : World} {v : Value} {l : List Int} {b : Nat} (h : Byt w v l) (hl : 0 < l.length) (hf : Far w b) : v.ownBlock ≠ some b := by
  obtain ⟨b', o, c, rfl, h1, h2, h3⟩ := h.pos hl
  intro e
  simp [Value.ownBlock] at e
  subst e
  obtain ⟨cs, t, hb, _, hn⟩ := hf
  have := h3 0 hl
  rw [cell_of_row w b' (o + 0) cs t (0, 0) hb] at this
  exact hn _ _ this
theorem VlOk.far {kt : Nat → Int} {w w' : World} {V : Vl} {S : List Nat} (h : VlOk kt w V) (k : Kp S w w') (hS : ∀ b ∈ S, Far w b) : VlOk kt w' V := by
  refine ⟨h.addr.kpS k ?_, ⟨?_, ?_⟩, h.len, h.bs⟩
  · intro b hb hm
    exact h.addr.far (by rw [addr_length]; omega) (hS b hm) hb
  · refine k.blk h.key.1 (fun hm => ?_)
    obtain ⟨cs, t, hb, ht, _⟩ := hS _ hm
    exact ht (hb.uniq h.key.1).2
  · refine h.key.2.kpS k ?_
    intro b hb hm
    exact h.key.2.far (by rw [h.len]; omega) (hS b hm) hb
theorem VlAt.far {kt pr : Nat → Int} {w w' : World} {V : Vl} {S : List Nat} (h : VlAt kt pr w V) (k : Kp S w w') (hS : ∀ b ∈ S, Far w b) (hp : V.p ∉ S) : VlAt kt pr w' V := ⟨h.ok.far k hS, k.blk h.blk hp⟩
theorem VlOk.kp {kt : Nat → Int} {w w' : World} {V : Vl} (h : VlOk kt w V) (k : Kp [] w w') : VlOk kt w' V := h.far k (by simp)
theorem VlAt.kp {kt pr : Nat → Int} {w w' : World} {V : Vl} (h : VlAt kt pr w V) (k : Kp [] w w') : VlAt kt pr w' V := h.far k (by simp) (by simp)
theorem ptrs_noByte (L : List Vl) (j : Nat) (x : Int) : (ptrs L)[j]? ≠ some (.int .u8 x) := by
  intro h
  simp only [ptrs, List.getElem?_toArray, List.getElem?_map, Option.map_eq_some_iff] at h
  obtain ⟨V, _, e⟩ := h
  cases e
theorem Blk.farRow {w : World} {b : Nat} {L : List Vl} (h : Blk w b (ptrs L) 96) : Far w b := ⟨_, _, h, by decide, ptrs_noByte L⟩
theorem VlAt.row {kt pr : Nat → Int} {w w' : World} {V : Vl} {b : Nat} {L : List Vl} (h : VlAt kt pr w V) (hb : Blk w b (ptrs L) 96) (k : Kp [b] w w') : VlAt kt pr w' V := by
  refine h.far k ?_ ?_
  · intro b' hm
    simp at hm
    subst hm
    exact hb.farRow
  · intro hm
    simp at hm
    have := h.blk.uniq (hm ▸ hb)
    exact absurd this.2 (by decide)

/-- Two places of a list exchanged. -/
def swp (L : List Vl) (i j : Nat) (hi : i < L.length) (hj : j < L.length) : List Vl := (L.set i L[j]).set j L[i]
theorem swp_perm (L : List Vl) (i j : Nat) (hi : i < L.length) (hj : j < L.length) : (swp L i j hi hj).Perm L := by
  unfold swp
  exact List.set_set_perm hi hj
theorem swp_length (L : List Vl) (i j : Nat) (hi : i < L.length) (hj : j < L.length) : (swp L i j hi hj).length = L.length := by simp [swp]
theorem swp_ptrs (L : List Vl) (i j : Nat) (hi : i < L.length) (hj : j < L.length) : ((ptrs L).setIfInBounds i (ptr L[j])).setIfInBounds j (ptr L[i]) = ptrs (swp L i j hi hj) := by
  simp [ptrs, swp, List.map_set]

def Sorts (b : Nat) (L : List Vl) (w wr : World) : Prop := ∃ L', L'.Perm L ∧ Blk wr b (ptrs L') 96 ∧ Kp [b] w wr
def Sort0 (b : Nat) (L : List Vl) (w : World) (s2 : Value) (wr : World) : Prop := ∃ i : Nat, 1 ≤ i ∧ i ≤ 1000001 ∧ s2 = .int .i64 i ∧ Sorts b L w wr
def Sort1 (b : Nat) (L : List Vl) (w : World) (i : Nat) (s3 : Value) (wr : World) : Prop := ∃ j : Nat, j ≤ i ∧ s3 = .int .i64 j ∧ Sorts b L w wr


theorem lessA_at (kt pr : Nat → Int) (b n c j : Nat) (x y : Int) (L L' : List Vl) (w wr : World) (hL : ∀ V ∈ L, VlAt kt pr w V) (hb : Blk w b (ptrs L) 96) (hp : L'.Perm L) (hr : Blk wr b (ptrs L') 96) (k : Kp [b] w wr) (hj : j + 1 < L'.length) (hn : n = L'.length) (hx : x = (j + 1 : Nat)) (hy : y = (j : Nat)) :
    Calls Tryz.prog 169 #[.slice (some ⟨b, 0, none⟩) n c, .int .i64 x, .int .i64 y] wr (SomeBool wr) := by
  subst hx hy hn
  exact lessA_any kt pr b _ c (j + 1) j L'[j + 1] L'[j] wr hj (by omega) (hr.cell (ptrs_at hj)) (hr.cell (ptrs_at (by omega))) ((hL _ (hp.mem_iff.1 (List.getElem_mem _))).row hb k) ((hL _ (hp.mem_iff.1 (List.getElem_mem _))).row hb k)
theorem swapA_at (b n c j : Nat) (x y : Int) (L L' : List Vl) (w wr : World) (hp : L'.Perm L) (hr : Blk wr b (ptrs L') 96) (k : Kp [b] w wr) (hj : j + 1 < L'.length) (hn : n = L'.length) (hx : x = (j + 1 : Nat)) (hy : y = (j : Nat)) :
    Calls Tryz.prog 170 #[.slice (some ⟨b, 0, none⟩) n c, .int .i64 x, .int .i64 y] wr fun e w' => e = .returned (.tuple #[]) ∧ Sorts b L w w' := by
  subst hx hy hn
  refine (swapA_any b _ c (j + 1) j .nilIface .nilIface _ _ (ptrs L') 96 wr hr hj (by omega) (ptrs_at hj) (ptrs_at (by omega)) (by omega)).mono ?_
  rintro e w' ⟨rfl, h1, h2⟩
  refine ⟨rfl, swp L' (j + 1) j hj (by omega), (swp_perm _ _ _ _ _).trans hp, ?_, k.trans h2⟩
  rw [← swp_ptrs]
  exact h1

set_option maxRecDepth 100000 in
theorem sortA_any (kt pr : Nat → Int) (b c n : Nat) (L : List Vl) (w : World) (hb : Blk w b (ptrs L) 96) (hL : ∀ V ∈ L, VlAt kt pr w V) (hn : n = L.length) (hn1 : n ≤ 1000000) :
    Calls Tryz.prog 86 #[.iface 158 (.slice (some ⟨b, 0, none⟩) n c)] w fun e w' => e = .returned (.tuple #[]) ∧ Sorts b L w w' := by
  have HB := Lib.hid (And.intro hb hL)
  have HN := Lib.hid hn
  clear hb hL hn
  go_enter Tryz.func86, Tryz.ntmps86
  go_wp2_with fail
  go_loopw [2, 3] (fun s2 s3 wr => Sort0 b L w s2 wr) (fun s2 s3 _ => n - (intOf s2).toNat)
  case atStart => exact ⟨1, by omega, by omega, rfl, L, List.Perm.refl _, HB.out.1, Kp.refl _ _⟩
  case round =>
    obtain ⟨i, hi, hi2, rfl, hs⟩ := hrel
    have HS := Lib.hid hs
    clear hs
    by_cases hlt : i < n
    · go_wp2_with (go_at_call 168; refine (lenA_any b n c _).mono ?_; rintro e w' ⟨rfl, rfl⟩)
      obtain ⟨wo, rfl⟩ : ∃ wo : World, wo = wr := ⟨_, rfl⟩
      go_loopw [3] (fun s3 wr => Sort1 b L w i s3 wr) (fun s3 _ => (intOf s3).toNat)
      case atStart => exact ⟨i, Nat.le_refl _, rfl, HS.out⟩
      case round =>
        obtain ⟨j, hj, rfl, L', hp, hr, hk⟩ := hrel
        have hl := hp.length_eq
        have HR := Lib.hid (And.intro hp (And.intro hr hk))
        have HL := Lib.hid hl
        clear hp hr hk hl
        by_cases hj0 : 0 < j
        · have hjm : (j : Int) = ((j - 1 + 1 : Nat) : Int) := by omega
          have hjm2 : (j : Int) - 1 = ((j - 1 : Nat) : Int) := by omega
          have hjl : j - 1 + 1 < L'.length := by rw [HL.out, ← HN.out]; omega
          have hnl : n = L'.length := by rw [HL.out, ← HN.out]
          have HJ := Lib.hid (And.intro hjm (And.intro hjm2 (And.intro hjl hnl)))
          clear hjm hjm2 hjl hnl
          go_wp2_with (go_at_call 169; refine (lessA_at kt pr b n c (j - 1) _ _ L L' w _ HB.out.2 HB.out.1 HR.out.1 HR.out.2.1 HR.out.2.2 HJ.out.2.2.1 HJ.out.2.2.2 HJ.out.1 HJ.out.2.1).mono ?_)
          rintro e w2 ⟨q, rfl, kq⟩
          have KQ := Lib.hid (And.intro (kq.blk HR.out.2.1 (by simp)) (HR.out.2.2.then kq (by simp)))
          clear kq
          cases q
          · go_wp2_with fail
            exact ⟨⟨i + 1, by omega, by omega, by go_num, L', HR.out.1, KQ.out.1, KQ.out.2⟩, by simp [intOf]; omega⟩
          · go_wp2_with (go_at_call 170; refine (swapA_at b n c (j - 1) _ _ L L' w _ HR.out.1 KQ.out.1 KQ.out.2 HJ.out.2.2.1 HJ.out.2.2.2 HJ.out.1 HJ.out.2.1).mono ?_; rintro e w3 ⟨rfl, hs3⟩)
            exact ⟨⟨j - 1, by omega, by rw [HJ.out.2.1], hs3⟩, by simp [intOf]; omega⟩
        · go_wp2_with fail
          exact ⟨⟨i + 1, by omega, by omega, by go_num, L', HR.out.1, HR.out.2.1, HR.out.2.2⟩, by simp [intOf]; omega⟩
    · go_wp2_with (go_at_call 168; refine (lenA_any b n c _).mono ?_; rintro e w' ⟨rfl, rfl⟩)
      go_end0
      exact ⟨rfl, HS.out⟩

theorem lessP_at (kt pr : Nat → Int) (b n c j : Nat) (x y : Int) (L L' : List Vl) (w wr : World) (hL : ∀ V ∈ L, VlAt kt pr w V) (hb : Blk w b (ptrs L) 96) (hp : L'.Perm L) (hr : Blk wr b (ptrs L') 96) (k : Kp [b] w wr) (hj : j + 1 < L'.length) (hn : n = L'.length) (hx : x = (j + 1 : Nat)) (hy : y = (j : Nat)) :
    Calls Tryz.prog 166 #[.slice (some ⟨b, 0, none⟩) n c, .int .i64 x, .int .i64 y] wr (SomeBool wr) := by
  subst hx hy hn
  exact lessP_any kt pr b _ c (j + 1) j L'[j + 1] L'[j] wr hj (by omega) (hr.cell (ptrs_at hj)) (hr.cell (ptrs_at (by omega))) ((hL _ (hp.mem_iff.1 (List.getElem_mem _))).row hb k) ((hL _ (hp.mem_iff.1 (List.getElem_mem _))).row hb k)
theorem swapP_at (b n c j : Nat) (x y : Int) (L L' : List Vl) (w wr : World) (hp : L'.Perm L) (hr : Blk wr b (ptrs L') 96) (k : Kp [b] w wr) (hj : j + 1 < L'.length) (hn : n = L'.length) (hx : x = (j + 1 : Nat)) (hy : y = (j : Nat)) :
    Calls Tryz.prog 167 #[.slice (some ⟨b, 0, none⟩) n c, .int .i64 x, .int .i64 y] wr fun e w' => e = .returned (.tuple #[]) ∧ Sorts b L w w' := by
  subst hx hy hn
  refine (swapP_any b _ c (j + 1) j .nilIface .nilIface _ _ (ptrs L') 96 wr hr hj (by omega) (ptrs_at hj) (ptrs_at (by omega)) (by omega)).mono ?_
  rintro e w' ⟨rfl, h1, h2⟩
  refine ⟨rfl, swp L' (j + 1) j hj (by omega), (swp_perm _ _ _ _ _).trans hp, ?_, k.trans h2⟩
  rw [← swp_ptrs]
  exact h1

set_option maxRecDepth 100000 in
theorem sortP_any (kt pr : Nat → Int) (b c n : Nat) (L : List Vl) (w : World) (hb : Blk w b (ptrs L) 96) (hL : ∀ V ∈ L, VlAt kt pr w V) (hn : n = L.length) (hn1 : n ≤ 1000000) :
    Calls Tryz.prog 86 #[.iface 150 (.slice (some ⟨b, 0, none⟩) n c)] w fun e w' => e = .returned (.tuple #[]) ∧ Sorts b L w w' := by
  have HB := Lib.hid (And.intro hb hL)
  have HN := Lib.hid hn
  clear hb hL hn
  go_enter Tryz.func86, Tryz.ntmps86
  go_wp2_with fail
  go_loopw [2, 3] (fun s2 s3 wr => Sort0 b L w s2 wr) (fun s2 s3 _ => n - (intOf s2).toNat)
  case atStart => exact ⟨1, by omega, by omega, rfl, L, List.Perm.refl _, HB.out.1, Kp.refl _ _⟩
  case round =>
    obtain ⟨i, hi, hi2, rfl, hs⟩ := hrel
    have HS := Lib.hid hs
    clear hs
    by_cases hlt : i < n
    · go_wp2_with (go_at_call 165; refine (lenP_any b n c _).mono ?_; rintro e w' ⟨rfl, rfl⟩)
      obtain ⟨wo, rfl⟩ : ∃ wo : World, wo = wr := ⟨_, rfl⟩
      go_loopw [3] (fun s3 wr => Sort1 b L w i s3 wr) (fun s3 _ => (intOf s3).toNat)
      case atStart => exact ⟨i, Nat.le_refl _, rfl, HS.out⟩
      case round =>
        obtain ⟨j, hj, rfl, L', hp, hr, hk⟩ := hrel
        have hl := hp.length_eq
        have HR := Lib.hid (And.intro hp (And.intro hr hk))
        have HL := Lib.hid hl
        clear hp hr hk hl
        by_cases hj0 : 0 < j
        · have hjm : (j : Int) = ((j - 1 + 1 : Nat) : Int) := by omega
          have hjm2 : (j : Int) - 1 = ((j - 1 : Nat) : Int) := by omega
          have hjl : j - 1 + 1 < L'.length := by rw [HL.out, ← HN.out]; omega
          have hnl : n = L'.length := by rw [HL.out, ← HN.out]
          have HJ := Lib.hid (And.intro hjm (And.intro hjm2 (And.intro hjl hnl)))
          clear hjm hjm2 hjl hnl
          go_wp2_with (go_at_call 166; refine (lessP_at kt pr b n c (j - 1) _ _ L L' w _ HB.out.2 HB.out.1 HR.out.1 HR.out.2.1 HR.out.2.2 HJ.out.2.2.1 HJ.out.2.2.2 HJ.out.1 HJ.out.2.1).mono ?_)
          rintro e w2 ⟨q, rfl, kq⟩
          have KQ := Lib.hid (And.intro (kq.blk HR.out.2.1 (by simp)) (HR.out.2.2.then kq (by simp)))
          clear kq
          cases q
          · go_wp2_with fail
            exact ⟨⟨i + 1, by omega, by omega, by go_num, L', HR.out.1, KQ.out.1, KQ.out.2⟩, by simp [intOf]; omega⟩
          · go_wp2_with (go_at_call 167; refine (swapP_at b n c (j - 1) _ _ L L' w _ HR.out.1 KQ.out.1 KQ.out.2 HJ.out.2.2.1 HJ.out.2.2.2 HJ.out.1 HJ.out.2.1).mono ?_; rintro e w3 ⟨rfl, hs3⟩)
            exact ⟨⟨j - 1, by omega, by rw [HJ.out.2.1], hs3⟩, by simp [intOf]; omega⟩
        · go_wp2_with fail
          exact ⟨⟨i + 1, by omega, by omega, by go_num, L', HR.out.1, HR.out.2.1, HR.out.2.2⟩, by simp [intOf]; omega⟩
    · go_wp2_with (go_at_call 165; refine (lenP_any b n c _).mono ?_; rintro e w' ⟨rfl, rfl⟩)
      go_end0
      exact ⟨rfl, HS.out⟩
end Go.Proofs.YtfkaldaflnmfiaaGreatDoor
