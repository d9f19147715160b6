/- Contracts of looking into a set of validators. -/
import Derived.WalkKit
import Derived.WalkSpells
import Derived.WalkLawsBesides
import Derived.Handy
import Derived.Lib.Hide
import Derived.IntWalk
import Derived.LoopTactic
import Derived.Test.YtfkaldaflnmfiaaGreatDoorKSort
import Derived.Test.YtfkaldaflnmfiaaGreatDoorKNum
import Derived.Deep.QuietTactic
import Derived.BigQuiet
import Derived.RegionTactic
import Derived.BigRegion
namespace Go.Proofs.YtfkaldaflnmfiaaGreatDoor
set_option linter.unusedSimpArgs false
set_option linter.unusedVariables false
open Go Go.RowKit

/-- A set's cells. -/
def setC (sl : Value) (pp : Option Addr) (tvp : Int) (ak : Bool) : Array Value := #[sl, .pointer pp, .int .i64 tvp, .bool ak]
def rowV (b n c : Nat) : Value := .slice (some ⟨b, 0, none⟩) n c

theorem copyV_any (p : Nat) (x0 x1 x2 x3 : Value) (a0 : Option Addr) (n0 c0 : Nat) (t1 : TypeId) (y1 : Value) (k2 k3 : Int) (h0 : x0 = .slice a0 n0 c0) (h1 : x1 = .iface t1 y1) (h2 : x2 = .int .i64 k2) (h3 : x3 = .int .i64 k3) (w : World) (hb : Blk w p #[x0, x1, x2, x3] 107) :
    Calls Tryz.prog 66 #[.pointer (some ⟨p, 0, none⟩)] w fun e w' => e = .returned (.pointer (some ⟨w.heap.size, 0, none⟩)) ∧ Blk w' w.heap.size #[x0, x1, x2, x3] 107 ∧ Kp [] w w' := by
  subst h0 h1 h2 h3
  have e0 : w.cell? ⟨p, 0, none⟩ = some (.slice a0 n0 c0) := hb.cell rfl
  have e1 : w.cell? ⟨p, 1, none⟩ = some (.iface t1 y1) := hb.cell rfl
  have e2 : w.cell? ⟨p, 2, none⟩ = some (.int .i64 k2) := hb.cell rfl
  have e3 : w.cell? ⟨p, 3, none⟩ = some (.int .i64 k3) := hb.cell rfl
  clear hb
  go_enter Tryz.func66, Tryz.ntmps66
  go_wp2
  go_ret
  exact ⟨rfl, Blk.new w _ 107, (Kp.refl [] w).alloc _⟩

theorem getMut_empty (s : Nat) (pp : Option Addr) (tvp : Int) (ak : Bool) (va : Value) (w : World) (hs : Blk w s (setC (.slice none 0 0) pp tvp ak) 112) :
    Calls Tryz.prog 65 #[.pointer (some ⟨s, 0, none⟩), va] w fun e w' => e = .returned (.tuple #[.int .i32 (-1), .pointer none]) ∧ w = w' := by
  have e0 : w.cell? ⟨s, 0, none⟩ = some (.slice none 0 0) := hs.cell rfl
  clear hs
  go_enter Tryz.func65, Tryz.ntmps65
  go_wp2
  refine wp_loop_rounds 1 ?_
  rw [rounds_succ]
  go_wp2
  go_ret2
  exact ⟨rfl, rfl⟩

theorem hasAddr_empty (s : Nat) (pp : Option Addr) (tvp : Int) (ak : Bool) (va : Value) (w : World) (hs : Blk w s (setC (.slice none 0 0) pp tvp ak) 112) :
    Calls Tryz.prog 95 #[.pointer (some ⟨s, 0, none⟩), va] w fun e w' => e = .returned (.bool false) ∧ w = w' := by
  have e0 : w.cell? ⟨s, 0, none⟩ = some (.slice none 0 0) := hs.cell rfl
  clear hs
  go_enter Tryz.func95, Tryz.ntmps95
  go_wp2
  refine wp_loop_rounds 1 ?_
  rw [rounds_succ]
  go_wp2
  go_ret
  exact ⟨rfl, rfl⟩

theorem ptrs_some {L : List Vl} {j : Nat} {V : Vl} (h : L[j]? = some V) : (ptrs L)[j]? = some (ptr V) := by simp [ptrs, h]
theorem at_take {L : List Vl} {i : Nat} {V : Vl} (h : L[i]? = some V) : L.take (i + 1) = L.take i ++ [V] := by
  rw [List.take_add_one, h]
  rfl
theorem get_lt {L : List Vl} {i : Nat} (h : i < L.length) : ∃ V, V ∈ L ∧ L[i]? = some V := ⟨L[i], List.getElem_mem _, by simp [h]⟩

/-- What a look by address finds. -/
def Found (kt : Nat → Int) (L : List Vl) (a : List Int) (w : World) (e : Ending) (w' : World) : Prop :=
  ((∃ (i : Nat) (V : Vl), L[i]? = some V ∧ addr kt V.key = a ∧ e = .returned (.tuple #[.int .i32 i, ptr V])) ∨ ((∀ V ∈ L, addr kt V.key ≠ a) ∧ e = .returned (.tuple #[.int .i32 (-1), .pointer none]))) ∧ w = w'
def Looked (kt : Nat → Int) (L : List Vl) (a : List Int) (s : Value) : Prop := ∃ i : Nat, i ≤ L.length ∧ s = .int .i64 i ∧ ∀ V ∈ L.take i, addr kt V.key ≠ a

set_option maxRecDepth 100000 in
theorem getMut_any (kt pr : Nat → Int) (s b c n : Nat) (pp : Option Addr) (tvp : Int) (ak : Bool) (va : Value) (a : List Int) (L : List Vl) (w : World) (hs : Blk w s (setC (rowV b n c) pp tvp ak) 112) (hb : Blk w b (ptrs L) 96) (hL : ∀ V ∈ L, VlAt kt pr w V) (hn : n = L.length) (hn1 : n ≤ 1000) (ha : Byt w va a) (hab : Bs a) :
    Calls Tryz.prog 65 #[.pointer (some ⟨s, 0, none⟩), va] w (Found kt L a w) := by
  have e0 : w.cell? ⟨s, 0, none⟩ = some (.slice (some ⟨b, 0, none⟩) n c) := hs.cell rfl
  have H := Lib.hid (And.intro hb (And.intro hL (And.intro ha hab)))
  have HN := Lib.hid hn
  clear hs hb hL ha hab hn
  go_enter Tryz.func65, Tryz.ntmps65
  go_wp2
  go_loop [13] (fun s => Looked kt L a s) (fun s => n - (intOf s).toNat)
  case atStart => exact ⟨0, by omega, rfl, by simp⟩
  case round =>
    obtain ⟨i, hi, rfl, ht⟩ := hrel
    have HT := Lib.hid ht
    clear ht
    by_cases hlt : i < n
    · obtain ⟨V, hm, hVi⟩ := get_lt (L := L) (i := i) (by rw [← HN.out]; exact hlt)
      have hV := H.out.2.1 V hm
      have ci : w.cell? ⟨b, i, none⟩ = some (.pointer (some ⟨V.p, 0, none⟩)) := H.out.1.cell (ptrs_some hVi)
      have c0 : w.cell? ⟨V.p, 0, none⟩ = some (.slice (some ⟨V.ab, 0, none⟩) 20 V.ac) := hV.blk.cell rfl
      have hq := bytesEqual_any _ va (addr kt V.key) a w hV.ok.addr H.out.2.2.1 (addr_bs _ _) H.out.2.2.2
      have HQ := Lib.hid hq
      have HI := Lib.hid hVi
      have hw : IntKind.i32.wrap (i : Int) = (i : Int) := IntWalk.i32_in _ (by omega)
      clear hV hq hVi hm
      by_cases hd : addr kt V.key = a
      · rw [decide_eq_true hd] at HQ
        have HD := Lib.hid hd
        clear hd
        go_wp2_with (go_at_call 40; refine HQ.out.mono ?_; rintro e w' ⟨rfl, rfl⟩)
        go_ret2
        exact ⟨.inl ⟨i, V, HI.out, HD.out, rfl⟩, rfl⟩
      · rw [decide_eq_false hd] at HQ
        have HD := Lib.hid hd
        clear hd
        go_wp2_with (go_at_call 40; refine HQ.out.mono ?_; rintro e w' ⟨rfl, rfl⟩)
        refine ⟨⟨i + 1, by have := HN.out; omega, by go_num, ?_⟩, by simp [intOf]; omega⟩
        rw [at_take HI.out]
        intro U hU
        rcases List.mem_append.1 hU with h | h
        · exact HT.out U h
        · simp at h
          rw [h]
          exact HD.out
    · go_wp2
      go_ret2
      refine ⟨.inr ⟨fun V hV => HT.out V ?_, rfl⟩, rfl⟩
      rw [List.take_of_length_le (by have := HN.out; omega)]
      exact hV

def FoundC (kt pr : Nat → Int) (L : List Vl) (a : List Int) (w : World) (e : Ending) (w' : World) : Prop :=
  ((∃ (V : Vl) (g : Nat) (i : Int), V ∈ L ∧ addr kt V.key = a ∧ e = .returned (.tuple #[.int .i32 i, .pointer (some ⟨g, 0, none⟩)]) ∧ Blk w' g (V.cells (pr V.p)) 107 ∧ w.heap.size ≤ g) ∨ ((∀ V ∈ L, addr kt V.key ≠ a) ∧ e = .returned (.tuple #[.int .i32 (-1), .pointer none]))) ∧ Kp [] w w'

set_option maxRecDepth 100000 in
theorem getBy_any (kt pr : Nat → Int) (s b c n : Nat) (pp : Option Addr) (tvp : Int) (ak : Bool) (va : Value) (a : List Int) (L : List Vl) (w : World) (hs : Blk w s (setC (rowV b n c) pp tvp ak) 112) (hb : Blk w b (ptrs L) 96) (hL : ∀ V ∈ L, VlAt kt pr w V) (hn : n = L.length) (hn1 : n ≤ 1000) (ha : Byt w va a) (hab : Bs a) :
    Calls Tryz.prog 39 #[.pointer (some ⟨s, 0, none⟩), va] w (FoundC kt pr L a w) := by
  have HG := Lib.hid (getMut_any kt pr s b c n pp tvp ak va a L w hs hb hL hn hn1 ha hab)
  have H := Lib.hid (And.intro hL hn)
  clear hs hb hL ha hab hn
  go_enter Tryz.func39, Tryz.ntmps39
  go_wp2_with fail
  refine HG.out.mono ?_
  rintro e w' ⟨⟨i, V, hi, hd, rfl⟩ | ⟨hno, rfl⟩, rfl⟩
  · have hm : V ∈ L := List.mem_of_getElem? hi
    have hil : i < L.length := (List.getElem?_eq_some_iff.1 hi).1
    have hV := H.out.1 V hm
    have HV := Lib.hid (And.intro hV.blk (And.intro hm hd))
    have hne : ((i : Int) == -1) = false := by rw [beq_eq_false_iff_ne]; omega
    clear hm hi hd hV HG
    unfold ptr
    go_wp2_with fail
    refine (copyV_any V.p _ _ _ _ _ _ _ _ _ _ _ rfl rfl rfl rfl w HV.out.1).mono ?_
    rintro e w' ⟨rfl, hb, hk⟩
    have HB := Lib.hid (And.intro hb hk)
    clear hb hk
    go_wp2
    go_ret2
    exact ⟨.inl ⟨V, w.heap.size, i, HV.out.2.1, HV.out.2.2, rfl, HB.out.1, Nat.le_refl _⟩, HB.out.2⟩
  · have HN := Lib.hid hno
    clear hno HG
    go_wp2
    go_ret2
    exact ⟨.inr ⟨HN.out, rfl⟩, Kp.refl _ _⟩

/-- The power of all. -/
def sumP (L : List Vl) : Int := (L.map Vl.pow).sum
theorem sumP_take {L : List Vl} {i : Nat} {V : Vl} (h : L[i]? = some V) : sumP (L.take (i + 1)) = sumP (L.take i) + V.pow := by
  rw [at_take h]
  simp [sumP]
def Pows (L : List Vl) : Prop := ∀ V ∈ L, 1 ≤ V.pow ∧ V.pow ≤ 1000
theorem sumP_bd {L : List Vl} (h : Pows L) : (L.length : Int) ≤ sumP L ∧ sumP L ≤ 1000 * L.length := by
  induction L with
  | nil => simp [sumP]
  | cons V L ih =>
    have h1 := h V (by simp)
    have h2 := ih (fun U hU => h U (by simp [hU]))
    simp only [sumP, List.map_cons, List.sum_cons, List.length_cons] at h2 ⊢
    omega
theorem Pows.take {L : List Vl} (h : Pows L) (i : Nat) : Pows (L.take i) := fun V hV => h V (List.mem_of_mem_take hV)

set_option maxRecDepth 100000 in
theorem updTotal_any (kt pr : Nat → Int) (s b c n : Nat) (pp : Option Addr) (tvp : Int) (ak : Bool) (L : List Vl) (w : World) (hs : Blk w s (setC (rowV b n c) pp tvp ak) 112) (hb : Blk w b (ptrs L) 96) (hL : ∀ V ∈ L, VlAt kt pr w V) (hn : n = L.length) (hn1 : n ≤ 1000) (hp : Pows L) :
    Calls Tryz.prog 68 #[.pointer (some ⟨s, 0, none⟩)] w fun e w' => e = .returned (.tuple #[]) ∧ Blk w' s (setC (rowV b n c) pp (sumP L) ak) 112 ∧ Kp [s] w w' := by
  have e0 : w.cell? ⟨s, 0, none⟩ = some (.slice (some ⟨b, 0, none⟩) n c) := hs.cell rfl
  have e2 : w.cell? ⟨s, 2, none⟩ = some (.int .i64 tvp) := hs.cell rfl
  have f2 := hs.free 2
  have H := Lib.hid (And.intro hb (And.intro hL (And.intro hp hs)))
  have HN := Lib.hid hn
  clear hs hb hL hp hn
  go_enter Tryz.func68, Tryz.ntmps68
  go_wp2
  go_loop [2, 10] (fun t s => ∃ i : Nat, i ≤ n ∧ s = .int .i64 i ∧ t = .int .i64 (sumP (L.take i))) (fun t s => n - (intOf s).toNat)
  case atStart => exact ⟨0, by omega, rfl, rfl⟩
  case round =>
    obtain ⟨i, hi, rfl, rfl⟩ := hrel
    have hsum := sumP_bd (H.out.2.2.1.take i)
    rw [List.length_take, ← HN.out, Nat.min_eq_left hi] at hsum
    obtain ⟨q, hq⟩ : ∃ q, sumP (L.take i) = q := ⟨_, rfl⟩
    have HQ := Lib.hid hq
    rw [hq] at hsum ⊢
    clear hq
    obtain ⟨q0, q1⟩ := hsum
    by_cases hlt : i < n
    · obtain ⟨V, hm, hVi⟩ := get_lt (L := L) (i := i) (by rw [← HN.out]; exact hlt)
      have hV := H.out.2.1 V hm
      have ci : w.cell? ⟨b, i, none⟩ = some (.pointer (some ⟨V.p, 0, none⟩)) := H.out.1.cell (ptrs_some hVi)
      have c0 : w.cell? ⟨V.p, 2, none⟩ = some (.int .i64 V.pow) := hV.blk.cell rfl
      obtain ⟨p0, p1⟩ := H.out.2.2.1 V hm
      have HI := Lib.hid hVi
      clear hV hVi hm
      go_wp2_with (go_at_call 92; refine (safeAddClip_any _ _ _ (by omega) (by omega)).mono ?_; rintro e w' ⟨rfl, rfl⟩)
      exact ⟨⟨i + 1, by omega, by go_num, by rw [sumP_take HI.out, HQ.out]⟩, by simp [intOf]; omega⟩
    · go_wp2
      go_end0
      have hin : L.take i = L := List.take_of_length_le (by have := HN.out; omega)
      rw [← HQ.out, hin]
      exact ⟨rfl, H.out.2.2.2.set 2 _, (Kp.refl [s] w).set (.inl (by simp)) _⟩
end Go.Proofs.YtfkaldaflnmfiaaGreatDoor
/- Contracts of the total power, and of the checks on a set that is empty. -/
namespace Go.Proofs.YtfkaldaflnmfiaaGreatDoor
set_option linter.unusedSimpArgs false
set_option linter.unusedVariables false
open Go Go.RowKit

theorem updTotal_empty (s : Nat) (pp : Option Addr) (tvp : Int) (ak : Bool) (w : World) (hs : Blk w s (setC (.slice none 0 0) pp tvp ak) 112) :
    Calls Tryz.prog 68 #[.pointer (some ⟨s, 0, none⟩)] w fun e w' => e = .returned (.tuple #[]) ∧ Blk w' s (setC (.slice none 0 0) pp 0 ak) 112 ∧ Kp [s] w w' := by
  have e0 : w.cell? ⟨s, 0, none⟩ = some (.slice none 0 0) := hs.cell rfl
  have e2 : w.cell? ⟨s, 2, none⟩ = some (.int .i64 tvp) := hs.cell rfl
  have f2 := hs.free 2
  have H := Lib.hid hs
  clear hs
  go_enter Tryz.func68, Tryz.ntmps68
  go_wp2
  refine wp_loop_rounds 1 ?_
  rw [rounds_succ]
  go_wp2
  go_end0
  exact ⟨rfl, H.out.set 2 _, (Kp.refl [s] w).set (.inl (by simp)) _⟩

theorem total_empty (s : Nat) (pp : Option Addr) (ak : Bool) (w : World) (hs : Blk w s (setC (.slice none 0 0) pp 0 ak) 112) :
    Calls Tryz.prog 42 #[.pointer (some ⟨s, 0, none⟩)] w fun e w' => e = .returned (.int .i64 0) ∧ Blk w' s (setC (.slice none 0 0) pp 0 ak) 112 ∧ Kp [s] w w' := by
  have e2 : w.cell? ⟨s, 2, none⟩ = some (.int .i64 0) := hs.cell rfl
  have H := Lib.hid (updTotal_empty s pp 0 ak w hs)
  clear hs
  go_enter Tryz.func42, Tryz.ntmps42
  go_wp2_with fail
  refine H.out.mono ?_
  rintro e w1 ⟨rfl, hb, hk⟩
  have d2 : w1.cell? ⟨s, 2, none⟩ = some (.int .i64 0) := hb.cell rfl
  have HB := Lib.hid (And.intro hb hk)
  clear hb hk
  go_wp2
  go_ret
  exact ⟨rfl, HB.out⟩

/-- The total, which has been worked out. -/
theorem total_known (s : Nat) (sl : Value) (pp : Option Addr) (tvp : Int) (ak : Bool) (w : World) (hs : Blk w s (setC sl pp tvp ak) 112) (h0 : 0 < tvp) :
    Calls Tryz.prog 42 #[.pointer (some ⟨s, 0, none⟩)] w fun e w' => e = .returned (.int .i64 tvp) ∧ w = w' := by
  have e2 : w.cell? ⟨s, 2, none⟩ = some (.int .i64 tvp) := hs.cell rfl
  have hne : (tvp == 0) = false := by rw [beq_eq_false_iff_ne]; omega
  clear hs
  go_enter Tryz.func42, Tryz.ntmps42
  go_wp2
  go_ret
  exact ⟨rfl, rfl⟩

/-- The total, which has not been worked out. -/
theorem total_new (kt pr : Nat → Int) (s b c n : Nat) (pp : Option Addr) (ak : Bool) (L : List Vl) (w : World) (hs : Blk w s (setC (rowV b n c) pp 0 ak) 112) (hb : Blk w b (ptrs L) 96) (hL : ∀ V ∈ L, VlAt kt pr w V) (hn : n = L.length) (hn1 : n ≤ 1000) (hp : Pows L) :
    Calls Tryz.prog 42 #[.pointer (some ⟨s, 0, none⟩)] w fun e w' => e = .returned (.int .i64 (sumP L)) ∧ Blk w' s (setC (rowV b n c) pp (sumP L) ak) 112 ∧ Kp [s] w w' := by
  have e2 : w.cell? ⟨s, 2, none⟩ = some (.int .i64 0) := hs.cell rfl
  have H := Lib.hid (updTotal_any kt pr s b c n pp 0 ak L w hs hb hL hn hn1 hp)
  clear hs hb hL hn hp
  go_enter Tryz.func42, Tryz.ntmps42
  go_wp2_with fail
  refine H.out.mono ?_
  rintro e w1 ⟨rfl, hb, hk⟩
  have d2 : w1.cell? ⟨s, 2, none⟩ = some (.int .i64 (sumP L)) := hb.cell rfl
  have HB := Lib.hid (And.intro hb hk)
  clear hb hk
  go_wp2
  go_ret
  exact ⟨rfl, HB.out⟩

theorem size_any (s b n c : Nat) (pp : Option Addr) (tvp : Int) (ak : Bool) (w : World) (hs : Blk w s (setC (rowV b n c) pp tvp ak) 112) :
    Calls Tryz.prog 98 #[.pointer (some ⟨s, 0, none⟩)] w fun e w' => e = .returned (.int .i64 n) ∧ w = w' := by
  have e0 : w.cell? ⟨s, 0, none⟩ = some (.slice (some ⟨b, 0, none⟩) n c) := hs.cell rfl
  clear hs
  go_enter Tryz.func98, Tryz.ntmps98
  go_wp2
  go_ret
  exact ⟨rfl, rfl⟩

theorem isNil_any (s b n c : Nat) (pp : Option Addr) (tvp : Int) (ak : Bool) (w : World) (hn : 0 < n) (hs : Blk w s (setC (rowV b n c) pp tvp ak) 112) :
    Calls Tryz.prog 87 #[.pointer (some ⟨s, 0, none⟩)] w fun e w' => e = .returned (.bool false) ∧ w = w' := by
  have e0 : w.cell? ⟨s, 0, none⟩ = some (.slice (some ⟨b, 0, none⟩) n c) := hs.cell rfl
  have hne : ((n : Int) == 0) = false := by rw [beq_eq_false_iff_ne]; omega
  clear hs
  go_enter Tryz.func87, Tryz.ntmps87
  go_wp2
  go_ret
  exact ⟨rfl, rfl⟩

set_option maxRecDepth 100000 in
/-- All are new where nobody is. -/
theorem numNew_any (kt pr : Nat → Int) (s b c n : Nat) (pp : Option Addr) (tvp : Int) (ak : Bool) (L : List Vl) (w : World) (hs : Blk w s (setC (.slice none 0 0) pp tvp ak) 112) (hb : Blk w b (ptrs L) 96) (hL : ∀ V ∈ L, VlAt kt pr w V) (hn : n = L.length) (hn1 : n ≤ 1000) :
    Calls Tryz.prog 77 #[rowV b n c, .pointer (some ⟨s, 0, none⟩)] w fun e w' => e = .returned (.int .i64 n) ∧ w = w' := by
  have H := Lib.hid (And.intro hb (And.intro hL hs))
  have HN := Lib.hid hn
  clear hs hb hL hn
  unfold rowV
  go_enter Tryz.func77, Tryz.ntmps77
  go_wp2
  go_loop [5, 10] (fun t s => ∃ i : Nat, i ≤ n ∧ s = .int .i64 i ∧ t = .int .i64 i) (fun t s => n - (intOf s).toNat)
  case atStart => exact ⟨0, by omega, rfl, rfl⟩
  case round =>
    obtain ⟨i, hi, rfl, rfl⟩ := hrel
    by_cases hlt : i < n
    · obtain ⟨V, hm, hVi⟩ := get_lt (L := L) (i := i) (by rw [← HN.out]; exact hlt)
      have hV := H.out.2.1 V hm
      have ci : w.cell? ⟨b, i, none⟩ = some (.pointer (some ⟨V.p, 0, none⟩)) := H.out.1.cell (ptrs_some hVi)
      have c0 : w.cell? ⟨V.p, 0, none⟩ = some (.slice (some ⟨V.ab, 0, none⟩) 20 V.ac) := hV.blk.cell rfl
      clear hV hVi hm
      go_wp2_with (go_at_call 95; refine (hasAddr_empty s pp tvp ak _ _ H.out.2.2).mono ?_; rintro e w' ⟨rfl, rfl⟩)
      exact ⟨⟨i + 1, by omega, by go_num, by go_num⟩, by simp [intOf]; omega⟩
    · go_wp2
      go_ret
      obtain rfl : i = n := by omega
      exact ⟨rfl, rfl⟩

set_option maxRecDepth 100000 in
/-- Nobody goes. -/
theorem verRem_any (s b c : Nat) (sl : Option Addr) (m k : Nat) (pp : Option Addr) (tvp : Int) (ak : Bool) (w : World) (hs : Blk w s (setC (.slice sl m k) pp tvp ak) 112) :
    Calls Tryz.prog 78 #[rowV b 0 c, .pointer (some ⟨s, 0, none⟩)] w fun e w' => e = .returned (.tuple #[.int .i64 0, .nilIface]) ∧ w = w' := by
  have e0 : w.cell? ⟨s, 0, none⟩ = some (.slice sl m k) := hs.cell rfl
  clear hs
  unfold rowV
  go_enter Tryz.func78, Tryz.ntmps78
  go_wp2
  refine wp_loop_rounds 1 ?_
  rw [rounds_succ]
  go_wp2
  go_ret2
  exact ⟨rfl, rfl⟩
end Go.Proofs.YtfkaldaflnmfiaaGreatDoor
/- Contracts of a list of validators: its copy, its making. -/
namespace Go.Proofs.YtfkaldaflnmfiaaGreatDoor
set_option linter.unusedSimpArgs false
set_option linter.unusedVariables false
open Go Go.RowKit

theorem info96 : (Tryz.prog.info? 96).map (fun i => (i.zero, i.size, i.bytes)) = some (some (.pointer none), 1, 8) := by kernel_rfl
theorem mk_ptrs (l n : Nat) (hl : l ≤ n) (hn : n ≤ 1000000) (W : World) : (Instr.makeSlice 87 (.int .i64 l) (.int .i64 n)).run Tryz.prog W = .ok (.slice (some ⟨W.heap.size, 0, none⟩) l n) (W.alloc (.cells (Array.replicate n (.pointer none)) 96)) := by
  obtain ⟨i0, hi, hz0, hz1, hz2⟩ := info_parts info96
  have h := run_make (P := Tryz.prog) W 87 96 i0 (.pointer none) Tryz.underlying87 hi hz0 .i64 .i64 (l : Int) (n : Int) (by omega) (by omega) (by rw [hz2]; omega) (by omega)
  have e : madeCells (Value.pointer none).cells (((n : Int).toNat) * i0.size) = Array.replicate n (.pointer none) := by
    rw [hz1, Nat.mul_one, Int.toNat_natCast]
    apply Array.ext'
    rw [show (Value.pointer none).cells = #[.pointer none] from rfl, toList_madeCells_one]
    simp
  rw [e] at h
  simpa using h

/-- What of a validator a copy keeps. -/
def dat (V : Vl) : Nat × Nat × Nat × Value × List Int × Int := (V.ab, V.ac, V.kb, V.vk, V.key, V.pow)
theorem dat_ok {kt : Nat → Int} {w : World} {V U : Vl} (h : VlOk kt w V) (e : dat U = dat V) : VlOk kt w U := by
  obtain ⟨a1, a2, a3, a4⟩ := h
  simp only [dat, Prod.mk.injEq] at e
  obtain ⟨e1, e2, e3, e4, e5, e6⟩ := e
  exact ⟨by rw [e1, e2, e5]; exact a1, by rw [e3, e4, e5]; exact a2, by rw [e5]; exact a3, by rw [e5]; exact a4⟩
theorem dat_cells {V U : Vl} (e : dat U = dat V) (z : Int) : U.cells z = V.cells z := by
  simp only [dat, Prod.mk.injEq] at e
  obtain ⟨e1, e2, e3, e4, e5, e6⟩ := e
  simp [Vl.cells, e1, e2, e3, e6]

/-- The row of a list that is being filled. -/
def part (n : Nat) (Q : List Vl) : Array Value := (Q.map ptr ++ List.replicate (n - Q.length) (Value.pointer none)).toArray
theorem part_nil (n : Nat) : part n [] = Array.replicate n (Value.pointer none) := by simp [part]
theorem part_full {n : Nat} {Q : List Vl} (h : Q.length = n) : part n Q = ptrs Q := by simp [part, ptrs, h]
theorem part_at {n : Nat} {Q : List Vl} (h : Q.length < n) : (part n Q)[Q.length]? = some (Value.pointer none) := by
  simp only [part, List.getElem?_toArray]
  rw [List.getElem?_append_right (by simp)]
  rw [List.length_map, Nat.sub_self, List.getElem?_replicate, if_pos (by omega)]
theorem part_set {n : Nat} {Q : List Vl} (V : Vl) (h : Q.length < n) : (part n Q).setIfInBounds Q.length (ptr V) = part n (Q ++ [V]) := by
  simp only [part, List.setIfInBounds_toArray]
  rw [List.set_append_right _ _ (by simp)]
  congr 1
  obtain ⟨k, hk⟩ : ∃ k, n - Q.length = k + 1 := ⟨n - Q.length - 1, by omega⟩
  have hk2 : n - (Q ++ [V]).length = k := by simp; omega
  rw [hk, hk2]
  simp [List.replicate_succ]
theorem part_noByte (n : Nat) (Q : List Vl) (j : Nat) (x : Int) : (part n Q)[j]? ≠ some (.int .u8 x) := by
  intro h
  simp only [part, List.getElem?_toArray] at h
  have hm := List.mem_of_getElem? h
  rcases List.mem_append.1 hm with h | h
  · simp only [List.mem_map] at h
    obtain ⟨V, _, e⟩ := h
    cases e
  · have := List.eq_of_mem_replicate h
    cases this
theorem Blk.farPart {w : World} {b n : Nat} {Q : List Vl} (h : Blk w b (part n Q) 96) : Far w b := ⟨_, _, h, by decide, part_noByte n Q⟩
theorem VlAt.part {kt pr : Nat → Int} {w w' : World} {V : Vl} {b n : Nat} {Q : List Vl} (h : VlAt kt pr w V) (hb : Blk w b (part n Q) 96) (k : Kp [b] w w') : VlAt kt pr w' V := by
  refine h.far k ?_ ?_
  · intro b' hm
    simp at hm
    subst hm
    exact hb.farPart
  · intro hm
    simp at hm
    have := h.blk.uniq (hm ▸ hb)
    exact absurd this.2 (by decide)

/-- A new list with the same validators. -/
structure Copied (kt : Nat → Int) (z : Int) (L : List Vl) (w : World) (b : Nat) (L' : List Vl) (w' : World) : Prop where
  dat : L'.map dat = L.map dat
  row : Blk w' b (ptrs L') 96
  at_ : ∀ V ∈ L', VlAt kt (fun _ => z) w' V
  nodup : (L'.map Vl.p).Nodup
  new : ∀ V ∈ L', w.heap.size ≤ V.p
  newb : w.heap.size ≤ b
  kp : Kp [] w w'
theorem len_dat {L L' : List Vl} (h : L'.map dat = L.map dat) : L'.length = L.length := by simpa using congrArg List.length h

structure Copying (kt : Nat → Int) (z : Int) (L : List Vl) (w : World) (b n i : Nat) (wr : World) (Q : List Vl) : Prop where
  dat : Q.map dat = (L.take i).map dat
  row : Blk wr b (part n Q) 96
  at_ : ∀ V ∈ Q, VlAt kt (fun _ => z) wr V
  nodup : (Q.map Vl.p).Nodup
  new : ∀ V ∈ Q, b < V.p
  kp : Kp [] w wr

theorem Copying.step {kt : Nat → Int} {z : Int} {L : List Vl} {w wr w2 : World} {b' n i : Nat} {Q : List Vl} {V : Vl} (h : Copying kt z L w b' n i wr Q) (hb' : b' = w.heap.size) (hq : Q.length = i) (hi : i < n) (hV : VlAt kt (fun _ => z) wr V) (hVi : L[i]? = some V)
    (hb : Blk w2 wr.heap.size (V.cells z) 107) (k : Kp [] wr w2) : Copying kt z L w b' n (i + 1) (w2.setCell ⟨b', i, none⟩ (.pointer (some ⟨wr.heap.size, 0, none⟩))) (Q ++ [{ V with p := wr.heap.size }]) := by
  have hrow2 := k.blk h.row (by simp)
  have hlt := h.row.lt
  have ks : Kp [b'] w2 (w2.setCell ⟨b', i, none⟩ (.pointer (some ⟨wr.heap.size, 0, none⟩))) := (Kp.refl _ _).set (.inl (by simp)) _
  have hnew : VlAt kt (fun _ => z) w2 { V with p := wr.heap.size } := ⟨dat_ok (hV.ok.kp k) rfl, hb⟩
  refine ⟨?_, ?_, ?_, ?_, ?_, ?_⟩
  · rw [at_take hVi, List.map_append, List.map_append, h.dat]
    rfl
  · have := hrow2.set i (.pointer (some ⟨wr.heap.size, 0, none⟩))
    rw [show (Value.pointer (some ⟨wr.heap.size, 0, none⟩)) = ptr { V with p := wr.heap.size } from rfl, ← hq, part_set _ (by omega)] at this
    rw [← hq]
    exact this
  · intro U hU
    rcases List.mem_append.1 hU with hm | hm
    · exact ((h.at_ U hm).kp k).part hrow2 ks
    · simp at hm
      rw [hm]
      exact hnew.part hrow2 ks
  · rw [List.map_append, List.nodup_append]
    refine ⟨h.nodup, by simp, ?_⟩
    intro x hx y hy
    simp only [List.mem_map] at hx
    obtain ⟨U, hU, rfl⟩ := hx
    simp at hy
    subst hy
    have := (h.at_ U hU).blk.lt
    omega
  · intro U hU
    rcases List.mem_append.1 hU with hm | hm
    · exact h.new U hm
    · simp at hm
      rw [hm]
      exact hlt
  · exact (h.kp.trans k).set (.inr (by show w.heap.size ≤ b'; omega)) _

set_option maxRecDepth 100000 in
theorem listCopy_any (kt : Nat → Int) (z : Int) (b c n : Nat) (L : List Vl) (w : World) (hb : Blk w b (ptrs L) 96) (hL : ∀ V ∈ L, VlAt kt (fun _ => z) w V) (hn : n = L.length) (hn1 : n ≤ 1000) :
    Calls Tryz.prog 94 #[rowV b n c] w fun e w' => ∃ b' L', e = .returned (rowV b' n n) ∧ Copied kt z L w b' L' w' := by
  have hmk := mk_ptrs n n (Nat.le_refl _) (by omega)
  have H := Lib.hid (And.intro hb hL)
  have HN := Lib.hid hn
  clear hb hL hn
  unfold rowV
  have hne := Lib.run_eql_slice_nil (P := Tryz.prog)
  go_enter Tryz.func94, Tryz.ntmps94
  go_wp2
  have hrow := Blk.new w (Array.replicate n (Value.pointer none)) 96
  rw [← part_nil] at hrow
  have k0 := (Kp.refl [] w).alloc (.cells (Array.replicate n (Value.pointer none)) 96)
  rw [← part_nil] at k0 ⊢
  obtain ⟨b', eb⟩ : ∃ b', b' = w.heap.size := ⟨_, rfl⟩
  rw [← eb] at hrow ⊢
  have h0 : Copying kt z L w b' n 0 (w.alloc (.cells (part n []) 96)) [] := ⟨by simp, hrow, by simp, by simp, by simp, k0⟩
  have H0 := Lib.hid h0
  have EB := Lib.hid eb
  clear h0 hrow k0 eb hmk hne
  go_loopw [13] (fun s wr => ∃ (i : Nat) (Q : List Vl), i ≤ n ∧ s = .int .i64 i ∧ Copying kt z L w b' n i wr Q) (fun s _ => n - (intOf s).toNat)
  case atStart => exact ⟨0, [], by omega, rfl, H0.out⟩
  case round =>
    obtain ⟨i, Q, hi, rfl, hc⟩ := hrel
    have hql : Q.length = i := by
      have := len_dat hc.dat
      rw [List.length_take] at this
      have := HN.out
      omega
    have HQ := Lib.hid hql
    have HC := Lib.hid hc
    clear hql hc
    by_cases hlt : i < n
    · obtain ⟨V, hm, hVi⟩ := get_lt (L := L) (i := i) (by rw [← HN.out]; exact hlt)
      have hV := (H.out.2 V hm).kp HC.out.kp
      have ci : wr.cell? ⟨b, i, none⟩ = some (.pointer (some ⟨V.p, 0, none⟩)) := (HC.out.kp.blk H.out.1 (by simp)).cell (ptrs_some hVi)
      have HV := Lib.hid (And.intro hV hVi)
      clear hV hVi hm
      go_wp2_with (go_at_call 66; refine (copyV_any V.p _ _ _ _ _ _ _ _ _ _ _ rfl rfl rfl rfl _ HV.out.1.blk).mono ?_)
      rintro e w2 ⟨rfl, hb2, k2⟩
      have hrow2 := k2.blk HC.out.row (by simp)
      have di : w2.cell? ⟨b', i, none⟩ = some (.pointer none) := hrow2.cell (by rw [← HQ.out]; exact part_at (by rw [HQ.out]; exact hlt))
      have fi := hrow2.free i
      have H2 := Lib.hid (And.intro hb2 (And.intro k2 hrow2))
      clear hb2 k2 hrow2
      go_wp2
      refine ⟨⟨i + 1, _, by omega, by go_num, HC.out.step EB.out HQ.out hlt HV.out.1 HV.out.2 H2.out.1 H2.out.2.1⟩, by simp [intOf]; omega⟩
    · go_wp2
      go_ret
      obtain rfl : i = n := by omega
      refine ⟨b', Q, rfl, ?_⟩
      have hd := HC.out.dat
      rw [List.take_of_length_le (by have := HN.out; omega)] at hd
      exact ⟨hd, by rw [← part_full HQ.out]; exact HC.out.row, HC.out.at_, HC.out.nodup, fun V hV => by have := HC.out.new V hV; have := EB.out; omega, by have := EB.out; omega, HC.out.kp⟩
end Go.Proofs.YtfkaldaflnmfiaaGreatDoor
/- Contracts of the check of updates against an empty set. -/
namespace Go.Proofs.YtfkaldaflnmfiaaGreatDoor
set_option linter.unusedSimpArgs false
set_option linter.unusedVariables false
open Go Go.RowKit

theorem delta_any (kt pr : Nat → Int) (s : Nat) (pp : Option Addr) (tvp : Int) (ak : Bool) (V : Vl) (w : World) (hs : Blk w s (setC (.slice none 0 0) pp tvp ak) 112) (hV : VlAt kt pr w V) :
    Calls Tryz.prog 96 #[.pointer (some ⟨V.p, 0, none⟩), .pointer (some ⟨s, 0, none⟩)] w fun e w' => e = .returned (.int .i64 V.pow) ∧ w = w' := by
  have c0 : w.cell? ⟨V.p, 0, none⟩ = some (.slice (some ⟨V.ab, 0, none⟩) 20 V.ac) := hV.blk.cell rfl
  have c2 : w.cell? ⟨V.p, 2, none⟩ = some (.int .i64 V.pow) := hV.blk.cell rfl
  have H := Lib.hid (getMut_empty s pp tvp ak (.slice (some ⟨V.ab, 0, none⟩) 20 V.ac) w hs)
  clear hs hV
  go_enter Tryz.func96, Tryz.ntmps96
  go_wp2_with (go_at_call 65; refine H.out.mono ?_; rintro e w' ⟨rfl, rfl⟩)
  go_ret
  exact ⟨rfl, rfl⟩

/-- The copy while it is being sorted, beside the set. -/
def VerS (s b : Nat) (cells : Array Value) (L : List Vl) (w wr : World) : Prop := ∃ L', L'.Perm L ∧ Blk wr b (ptrs L') 96 ∧ Kp [b] w wr ∧ Blk wr s cells 112
theorem VerS.step {s b j k : Nat} {cells : Array Value} {L L2 : List Vl} {w wr : World} {V U : Vl} (hp : L2.Perm L) (hr : Blk wr b (ptrs L2) 96) (hk : Kp [b] w wr) (hs : Blk wr s cells 112) (hV : L2[j]? = some V) (hU : L2[k]? = some U) :
    VerS s b cells L w (((wr.setCell ⟨b, j, none⟩ (.pointer (some ⟨U.p, 0, none⟩))).setCell ⟨b, k, none⟩ (.pointer (some ⟨V.p, 0, none⟩))).drew) := by
  obtain ⟨hj, rfl⟩ := List.getElem?_eq_some_iff.1 hV
  obtain ⟨hk', rfl⟩ := List.getElem?_eq_some_iff.1 hU
  have hne : s ≠ b := by
    intro e
    subst e
    exact absurd (hr.uniq hs).2 (by decide)
  refine ⟨swp L2 j k hj hk', (swp_perm _ _ _ _ _).trans hp, ?_, ((hk.set (.inl (by simp)) _).set (.inl (by simp)) _).drew, ((hs.other hne _).other hne _).drew⟩
  rw [← swp_ptrs]
  exact ((hr.set j _).set k _).drew

theorem sumP_perm {L L' : List Vl} (h : L'.Perm L) : sumP L' = sumP L := by
  unfold sumP
  induction h with
  | nil => rfl
  | cons x _ ih => simp only [List.map_cons, List.sum_cons, ih]
  | swap x y l => simp only [List.map_cons, List.sum_cons]; omega
  | trans _ _ ih1 ih2 => exact ih1.trans ih2
theorem sumP_dat {L L' : List Vl} (h : L'.map dat = L.map dat) : sumP L' = sumP L := by
  have : L'.map Vl.pow = L.map Vl.pow := by
    have := congrArg (List.map fun d : Nat × Nat × Nat × Value × List Int × Int => d.2.2.2.2.2) h
    simpa [dat, Function.comp_def] using this
  unfold sumP
  rw [this]
theorem pows_dat {L L' : List Vl} (h : L'.map dat = L.map dat) (hp : Pows L) : Pows L' := by
  intro V hV
  have : dat V ∈ L.map dat := by rw [← h]; exact List.mem_map_of_mem hV
  simp only [List.mem_map] at this
  obtain ⟨U, hU, e⟩ := this
  have hu := hp U hU
  simp only [dat, Prod.mk.injEq] at e
  rw [← e.2.2.2.2.2]
  exact hu

set_option maxRecDepth 100000 in
set_option maxHeartbeats 1000000 in
theorem verUpd_any (kt : Nat → Int) (z : Int) (s b c n : Nat) (pp : Option Addr) (ak : Bool) (L : List Vl) (w : World) (hs : Blk w s (setC (.slice none 0 0) pp 0 ak) 112) (hb : Blk w b (ptrs L) 96) (hL : ∀ V ∈ L, VlAt kt (fun _ => z) w V) (hn : n = L.length) (hn1 : n ≤ 1000) (hp : Pows L) :
    Calls Tryz.prog 79 #[rowV b n c, .pointer (some ⟨s, 0, none⟩), .int .i64 0] w fun e w' => e = .returned (.tuple #[.int .i64 (sumP L), .nilIface]) ∧ Blk w' s (setC (.slice none 0 0) pp 0 ak) 112 ∧ Kp [s] w w' := by
  have HC := Lib.hid (listCopy_any kt z b c n L w hb hL hn hn1)
  have HN := Lib.hid hn
  have H := Lib.hid (And.intro hs hp)
  clear hs hb hL hn hp
  unfold rowV
  go_enter Tryz.func79, Tryz.ntmps79
  go_wp2_with fail
  refine HC.out.mono ?_
  rintro e w1 ⟨b1, L1, rfl, hc⟩
  have hl1 := len_dat hc.dat
  have HD := Lib.hid (And.intro hc (And.intro hl1 (hc.kp.blk H.out.1 (by simp))))
  clear hc HC hl1
  unfold rowV
  go_wp2_with fail
  go_loopw [10, 11] (fun s10 s11 wr => ∃ i : Nat, 1 ≤ i ∧ i ≤ 1000001 ∧ s10 = .int .i64 i ∧ VerS s b1 (setC (.slice none 0 0) pp 0 ak) L1 w1 wr) (fun s10 s11 _ => n - (intOf s10).toNat)
  case atStart => exact ⟨1, by omega, by omega, rfl, L1, List.Perm.refl _, HD.out.1.row, Kp.refl _ _, HD.out.2.2⟩
  case round =>
    obtain ⟨i, hi, hi2, rfl, hs⟩ := hrel
    have HS := Lib.hid hs
    clear hs
    by_cases hlt : i < n
    · go_wp2_with fail
      obtain ⟨wo, rfl⟩ : ∃ wo : World, wo = wr := ⟨_, rfl⟩
      go_loopw [11] (fun s11 wr => ∃ j : Nat, j ≤ i ∧ s11 = .int .i64 j ∧ VerS s b1 (setC (.slice none 0 0) pp 0 ak) L1 w1 wr) (fun s11 _ => (intOf s11).toNat)
      case atStart => exact ⟨i, Nat.le_refl _, rfl, HS.out⟩
      case round =>
        obtain ⟨j, hj, rfl, L2, hp, hr, hk, hset⟩ := hrel
        have hl := hp.length_eq
        have HR := Lib.hid (And.intro hp (And.intro hr (And.intro hk hset)))
        have HL := Lib.hid (hl.trans HD.out.2.1)
        clear hp hr hk hl hset
        by_cases hj0 : 0 < j
        · obtain ⟨V, hVm, hVi⟩ := get_lt (L := L2) (i := j) (by rw [HL.out, ← HN.out]; omega)
          obtain ⟨U, hUm, hUi⟩ := get_lt (L := L2) (i := j - 1) (by rw [HL.out, ← HN.out]; omega)
          have cj : wr.cell? ⟨b1, j, none⟩ = some (.pointer (some ⟨V.p, 0, none⟩)) := HR.out.2.1.cell (ptrs_some hVi)
          have ci : wr.cell? ⟨b1, j - 1, none⟩ = some (.pointer (some ⟨U.p, 0, none⟩)) := HR.out.2.1.cell (ptrs_some hUi)
          have HV := Lib.hid (((HD.out.1.at_ V (HR.out.1.mem_iff.1 hVm)).row HD.out.1.row HR.out.2.2.1))
          have HU := Lib.hid (((HD.out.1.at_ U (HR.out.1.mem_iff.1 hUm)).row HD.out.1.row HR.out.2.2.1))
          have HI := Lib.hid (And.intro hVi hUi)
          have j0 : (0 : Int) < (j : Int) := by omega
          have j1 : (j : Int) < (n : Int) := by omega
          have j2 : (0 : Int) ≤ (j : Int) := by omega
          have j3 : (0 : Int) ≤ (j : Int) - 1 := by omega
          have j4 : (j : Int) - 1 < (n : Int) := by omega
          have j5 : ((j : Int) - 1).toNat = j - 1 := by omega
          have j6 : IntKind.i64.wrap ((j : Int) - 1) = (j : Int) - 1 := IntWalk.i64_in _ (by omega)
          have J6 := Lib.hid j6
          clear hVm hUm hVi hUi
          go_wp2_with fail
          go_quiet ((first | (go_at_call_of 96 (Value.pointer (some ⟨V.p, 0, none⟩)); exact Calls.quiet_of_same ((delta_any kt (fun _ => z) s pp 0 ak V _ (HR.out.2.2.2.drewN _) (HV.out.kp ((Kp.refl [] wr).drewN _))).mono fun _ _ ⟨h, k⟩ => ⟨h, k.symm⟩)) | (go_at_call_of 96 (Value.pointer (some ⟨U.p, 0, none⟩)); exact Calls.quiet_of_same ((delta_any kt (fun _ => z) s pp 0 ak U _ (HR.out.2.2.2.drewN _) (HU.out.kp ((Kp.refl [] wr).drewN _))).mono fun _ _ ⟨h, k⟩ => ⟨h, k.symm⟩))))
          have kq := (Kp.refl [] wr).drewN nq
          have cj' : (wr.drewN nq).cell? ⟨b1, j, none⟩ = some (.pointer (some ⟨V.p, 0, none⟩)) := cj
          have ci' : (wr.drewN nq).cell? ⟨b1, j - 1, none⟩ = some (.pointer (some ⟨U.p, 0, none⟩)) := ci
          have fj : (wr.drewN nq).frozen? ⟨b1, j, none⟩ = false := HR.out.2.1.free j
          have fi : (wr.drewN nq).frozen? ⟨b1, j - 1, none⟩ = false := HR.out.2.1.free (j - 1)
          have HR2 := Lib.hid (And.intro (HR.out.2.1.drewN nq) (And.intro (HR.out.2.2.1.drewN nq) (HR.out.2.2.2.drewN nq)))
          clear kq cj ci HV HU
          generalize wr.drewN nq = w2 at *
          clear j6
          by_cases hpq : V.pow < U.pow
          · go_wp2_with fail
            have j6 := J6.out
            have j7 : ¬ j = j - 1 := by omega
            go_region
            clear j6 j7
            go_wp2_with fail
            exact ⟨⟨j - 1, by omega, by rw [show ((j - 1 : Nat) : Int) = (j : Int) - 1 by omega], VerS.step HR.out.1 HR2.out.1 HR2.out.2.1 HR2.out.2.2 HI.out.1 HI.out.2⟩, by simp [intOf]; omega⟩
          · go_wp2_with fail
            exact ⟨⟨i + 1, by omega, by omega, by go_num, L2, HR.out.1, HR2.out.1, HR2.out.2.1, HR2.out.2.2⟩, by simp [intOf]; omega⟩
        · have hd : decide ((0 : Int) < (j : Int)) = false := by simp; omega
          go_wp2_with fail
          go_quiet (fail)
          go_wp2_with fail
          exact ⟨⟨i + 1, by omega, by omega, by go_num, L2, HR.out.1, HR.out.2.1.drewN _, HR.out.2.2.1.drewN _, HR.out.2.2.2.drewN _⟩, by simp [intOf]; omega⟩
    · go_wp2_with fail
      obtain ⟨L2, hp, hr, hk, hset⟩ := HS.out
      refine (total_empty s pp ak _ hset).mono ?_
      rintro e w3 ⟨rfl, hs3, k3⟩
      have hl2 := hp.length_eq
      have hbs : b1 ≠ s := by
        intro e
        subst e
        exact absurd (hr.uniq hset).2 (by decide)
      have HE := Lib.hid (And.intro hp (And.intro (k3.blk hr (by simpa using hbs)) (And.intro hs3 (And.intro (hl2.trans HD.out.2.1) (And.intro hk k3)))))
      have hall : ∀ V ∈ L2, VlAt kt (fun _ => z) w3 V := by
        intro V hV
        have h1 := (HD.out.1.at_ V (hp.mem_iff.1 hV)).row HD.out.1.row hk
        refine h1.far k3 ?_ ?_
        · intro b' hm
          simp at hm
          subst hm
          exact ⟨_, _, hset, by decide, fun j x h => by
            simp only [setC, List.getElem?_toArray] at h
            have := List.mem_of_getElem? h
            simp at this⟩
        · intro hm
          simp at hm
          have := h1.blk.uniq (hm ▸ hset)
          exact absurd this.2 (by decide)
      have HA := Lib.hid hall
      have hpw : Pows L2 := fun V hV => pows_dat HD.out.1.dat H.out.2 V (hp.mem_iff.1 hV)
      have hsm : sumP L2 = sumP L := (sumP_perm hp).trans (sumP_dat HD.out.1.dat)
      have HP := Lib.hid (And.intro hpw hsm)
      clear hp hr hk hset hs3 k3 hl2 hbs hall hpw hsm HS
      go_wp2_with fail
      go_loop [12, 68] (fun t s => ∃ q : Nat, q ≤ n ∧ s = .int .i64 q ∧ t = .int .i64 (sumP (L2.take q))) (fun t s => n - (intOf s).toNat)
      case atStart => exact ⟨0, by omega, rfl, rfl⟩
      case round =>
        obtain ⟨q, hq, rfl, rfl⟩ := hrel
        have hsum := sumP_bd (HP.out.1.take q)
        rw [List.length_take, HE.out.2.2.2.1, ← HN.out, Nat.min_eq_left hq] at hsum
        obtain ⟨x, hx⟩ : ∃ x, sumP (L2.take q) = x := ⟨_, rfl⟩
        have HX := Lib.hid hx
        rw [hx] at hsum ⊢
        clear hx
        obtain ⟨x0, x1⟩ := hsum
        by_cases hlt2 : q < n
        · obtain ⟨V, hVm, hVi⟩ := get_lt (L := L2) (i := q) (by rw [HE.out.2.2.2.1, ← HN.out]; exact hlt2)
          have ci : w3.cell? ⟨b1, q, none⟩ = some (.pointer (some ⟨V.p, 0, none⟩)) := HE.out.2.1.cell (ptrs_some hVi)
          have HV := Lib.hid (HA.out V hVm)
          obtain ⟨p0, p1⟩ := HP.out.1 V hVm
          have HI := Lib.hid hVi
          clear hVm hVi
          go_wp2_with (go_at_call 96; refine (delta_any kt (fun _ => z) s pp 0 ak V _ HE.out.2.2.1 HV.out).mono ?_; rintro e w' ⟨rfl, rfl⟩)
          exact ⟨⟨q + 1, by omega, by go_num, by rw [sumP_take HI.out, HX.out]⟩, by simp [intOf]; omega⟩
        · go_wp2
          go_ret2
          have hin : L2.take q = L2 := List.take_of_length_le (by have := HN.out; have := HE.out.2.2.2.1; omega)
          rw [← HX.out, hin, HP.out.2]
          refine ⟨by simp, HE.out.2.2.1, ?_⟩
          have k1 : Kp [s] w wr := (HD.out.1.kp.then HE.out.2.2.2.2.1 (fun i hi hm => by simp at hm; have := HD.out.1.newb; omega)).mono (S' := [s]) (by simp)
          exact k1.trans HE.out.2.2.2.2.2
end Go.Proofs.YtfkaldaflnmfiaaGreatDoor
