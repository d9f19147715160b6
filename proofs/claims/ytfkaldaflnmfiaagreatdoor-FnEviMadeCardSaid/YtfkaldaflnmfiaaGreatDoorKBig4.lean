/- Contracts of the great numbers, where they have at most one digit. -/
import Derived.WalkKit
import Derived.WalkSpells
import Derived.WalkLawsBesides
import Derived.Handy
import Derived.Lib.Hide
import Derived.IntWalk
import Derived.LoopTactic
import Derived.Deep.QuietTactic
import Derived.Deep.RegionWith
import Derived.BigQuiet
import Derived.Test.YtfkaldaflnmfiaaGreatDoorKNat2
import Derived.BigRegion
import Derived.Deep.RegionHeld3
namespace Go.Proofs.YtfkaldaflnmfiaaGreatDoor
set_option linter.unusedSimpArgs false
set_option linter.unusedVariables false
open Go Go.RowKit

/-- The Int of block p: its sign and its size. -/
def Big (w : World) (p : Nat) (s : Bool) (x : Int) : Prop := ∃ v, Blk w p #[.bool s, v] 187 ∧ Nt w v x
theorem Big.lt {w : World} {p : Nat} {s : Bool} {x : Int} (h : Big w p s x) : p < w.heap.size := by
  obtain ⟨v, h1, h2⟩ := h
  exact h1.lt
theorem Big.kp {w w' : World} {p : Nat} {s : Bool} {x : Int} (h : Big w p s x) (k : Kp [] w w') : Big w' p s x := by
  obtain ⟨v, h1, h2⟩ := h
  exact ⟨v, k.blk h1 (by simp), h2.kp k⟩
theorem Nt.slice {w : World} {v : Value} {x : Int} (h : Nt w v x) : ∃ a n c, v = .slice a n c := by
  rcases h with ⟨_, a, c, h⟩ | ⟨_, _, b, o, c, h, _, _⟩
  · exact ⟨_, _, _, h⟩
  · exact ⟨_, _, _, h⟩
/-- What a number's digits are, beside the writes into another number. -/
theorem Nt.beside {w w' : World} {v u : Value} {x : Int} {p : Nat} {s : Bool} (h : Nt w v x) (hp : Blk w p #[.bool s, u] 187) (hu : ∃ a n c, u = .slice a n c) (k : Kp [p] w w') : Nt w' v x := by
  rcases h with h | ⟨h1, h2, b, o, c, h3, h4, h5⟩
  · exact .inl h
  · refine .inr ⟨h1, h2, b, o, c, h3, h4, (k.cell (p := ⟨b, o, none⟩) (World.block_lt_of_cell? w _ h5) ?_).trans h5⟩
    intro hm
    simp at hm
    subst hm
    obtain ⟨a', n', c', rfl⟩ := hu
    rcases o with _ | _ | o
    · have := hp.cell (j := 0) rfl
      rw [h5] at this
      simp at this
    · have := hp.cell (j := 1) rfl
      rw [h5] at this
      simp at this
    · have := cell_of_row w b (o + 2) _ _ _ hp
      rw [h5] at this
      simp at this

/-- The number's cells behind two writes. -/
theorem Big.stored {w1 : World} {p : Nat} {s t : Bool} {u : Value} {x : Int} {a : Option Addr} {n c : Nat} (hp : Blk w1 p #[.bool s, u] 187) (hu : ∃ a n c, u = .slice a n c) (hv : Nt w1 (.slice a n c) x) :
    Big ((w1.setCell ⟨p, 1, none⟩ (.slice a n c)).setCell ⟨p, 0, none⟩ (.bool t)) p t x := by
  refine ⟨.slice a n c, (hp.set 1 _).set 0 _, hv.beside hp hu (((Kp.refl [p] w1).set (.inl (by simp)) _).set (.inl (by simp)) _)⟩

set_option maxRecDepth 100000 in
theorem setPos (p : Nat) (x : Int) (s : Bool) (v : Value) (w : World) (hx : 0 ≤ x ∧ x ≤ 2000000000) (hb : Blk w p #[.bool s, v] 187) (hu : ∃ a n c, v = .slice a n c) : Calls Tryz.prog 118 #[.pointer (some ⟨p, 0, none⟩), .int .i64 x] w fun e w' => e = .returned (.pointer (some ⟨p, 0, none⟩)) ∧ Big w' p false x ∧ Kp [p] w w' := by
  obtain ⟨h0, h1⟩ := hx
  have hlt := decide_eq_false (p := x < 0) (by omega)
  have hnl : ¬ x < 0 := by omega
  have c0 : ∀ W, Kp [] w W → W.cell? ⟨p, 0, none⟩ = some (.bool s) := hb.all 0 rfl
  have c1 : ∀ W, Kp [] w W → W.cell? ⟨p, 1, none⟩ = some v := hb.all 1 rfl
  have f0 : ∀ W, Kp [] w W → W.frozen? ⟨p, 0, none⟩ = false := fun W k => (k.blk hb (by simp)).free 0
  have f1 : ∀ W, Kp [] w W → W.frozen? ⟨p, 1, none⟩ = false := fun W k => (k.blk hb (by simp)).free 1
  have HB := Lib.hid (And.intro hb hu)
  clear hb hu
  go_enter Tryz.func118, Tryz.ntmps118
  go_wp2_with fail
  refine (natOf_any x w ⟨h0, h1⟩).mono ?_
  rintro e w1 ⟨v, rfl, hv, k1⟩
  obtain ⟨a, n, c, rfl⟩ := hv.slice
  have HV := Lib.hid hv
  clear hv
  go_wp2_with fail
  go_ret
  exact ⟨rfl, Big.stored (k1.blk HB.out.1 (by simp)) HB.out.2 HV.out, ((k1.mono (by simp)).set (.inl (by simp)) _).set (.inl (by simp)) _⟩

set_option maxRecDepth 100000 in
theorem setNeg (p : Nat) (x : Int) (s : Bool) (v : Value) (w : World) (hx : 0 < x ∧ x ≤ 2000000000) (hb : Blk w p #[.bool s, v] 187) (hu : ∃ a n c, v = .slice a n c) : Calls Tryz.prog 118 #[.pointer (some ⟨p, 0, none⟩), .int .i64 (-x)] w fun e w' => e = .returned (.pointer (some ⟨p, 0, none⟩)) ∧ Big w' p true x ∧ Kp [p] w w' := by
  obtain ⟨h0, h1⟩ := hx
  have hlt := decide_eq_true (p := -x < 0) (by omega)
  have hnl : -x < 0 := by omega
  have hw : IntKind.u64.wrap (-(IntKind.u64.wrap (-x))) = x := by
    simp [IntKind.wrap, IntKind.signed, IntKind.bits]
    omega
  have c0 : ∀ W, Kp [] w W → W.cell? ⟨p, 0, none⟩ = some (.bool s) := hb.all 0 rfl
  have c1 : ∀ W, Kp [] w W → W.cell? ⟨p, 1, none⟩ = some v := hb.all 1 rfl
  have f0 : ∀ W, Kp [] w W → W.frozen? ⟨p, 0, none⟩ = false := fun W k => (k.blk hb (by simp)).free 0
  have f1 : ∀ W, Kp [] w W → W.frozen? ⟨p, 1, none⟩ = false := fun W k => (k.blk hb (by simp)).free 1
  have HB := Lib.hid (And.intro hb hu)
  clear hb hu
  go_enter Tryz.func118, Tryz.ntmps118
  go_wp2_with fail
  refine (natOf_any x w ⟨by omega, h1⟩).mono ?_
  rintro e w1 ⟨v, rfl, hv, k1⟩
  obtain ⟨a, n, c, rfl⟩ := hv.slice
  have HV := Lib.hid hv
  clear hv
  go_wp2_with fail
  go_ret
  exact ⟨rfl, Big.stored (k1.blk HB.out.1 (by simp)) HB.out.2 HV.out, ((k1.mono (by simp)).set (.inl (by simp)) _).set (.inl (by simp)) _⟩

theorem kp_new {w w' : World} {o : Obj} (k : Kp [w.heap.size] (w.alloc o) w') : Kp [] w w' :=
  ((Kp.refl [] w).alloc o).then k (fun i hi hm => by simp at hm; omega)

set_option maxRecDepth 100000 in
theorem newPos (x : Int) (w : World) (hx : 0 ≤ x ∧ x ≤ 2000000000) : Calls Tryz.prog 108 #[.int .i64 x] w fun e w' => ∃ p, e = .returned (.pointer (some ⟨p, 0, none⟩)) ∧ w.heap.size ≤ p ∧ Big w' p false x ∧ Kp [] w w' := by
  have hb := Blk.new w #[.bool false, .slice none 0 0] 187
  have hs := setPos w.heap.size x false (.slice none 0 0) _ hx hb ⟨_, _, _, rfl⟩
  have HS := Lib.hid hs
  clear hb hs
  go_enter Tryz.func108, Tryz.ntmps108
  go_wp2_with fail
  refine HS.out.mono ?_
  rintro e w1 ⟨rfl, hv, k1⟩
  have HV := Lib.hid (And.intro hv (kp_new k1))
  clear hv k1
  go_wp2_with fail
  go_ret
  exact ⟨_, rfl, Nat.le_refl _, HV.out.1, HV.out.2⟩
set_option maxRecDepth 100000 in
theorem newNeg (x : Int) (w : World) (hx : 0 < x ∧ x ≤ 2000000000) : Calls Tryz.prog 108 #[.int .i64 (-x)] w fun e w' => ∃ p, e = .returned (.pointer (some ⟨p, 0, none⟩)) ∧ w.heap.size ≤ p ∧ Big w' p true x ∧ Kp [] w w' := by
  have hb := Blk.new w #[.bool false, .slice none 0 0] 187
  have hs := setNeg w.heap.size x false (.slice none 0 0) _ hx hb ⟨_, _, _, rfl⟩
  have HS := Lib.hid hs
  clear hb hs
  go_enter Tryz.func108, Tryz.ntmps108
  go_wp2_with fail
  refine HS.out.mono ?_
  rintro e w1 ⟨rfl, hv, k1⟩
  have HV := Lib.hid (And.intro hv (kp_new k1))
  clear hv k1
  go_wp2_with fail
  go_ret
  exact ⟨_, rfl, Nat.le_refl _, HV.out.1, HV.out.2⟩

theorem Big.stored3 {w0 w1 W : World} {p : Nat} {s m t t' : Bool} {u : Value} {x : Int} {a : Option Addr} {n c : Nat} (hp : Blk w0 p #[.bool s, u] 187) (hu : ∃ a n c, u = .slice a n c) (k0 : Kp [] w0 w1) (hv : Nt w1 (.slice a n c) x) (k : Kp [] w1 W) (ht : t = t') :
    Big (((W.setCell ⟨p, 1, none⟩ (.slice a n c)).setCell ⟨p, 0, none⟩ (.bool m)).setCell ⟨p, 0, none⟩ (.bool t)) p t' x ∧ Kp [p] w0 (((W.setCell ⟨p, 1, none⟩ (.slice a n c)).setCell ⟨p, 0, none⟩ (.bool m)).setCell ⟨p, 0, none⟩ (.bool t)) := by
  subst ht
  have kk := k0.trans k
  exact ⟨⟨.slice a n c, (((kk.blk hp (by simp)).set 1 _).set 0 _).set 0 _, (hv.kp k).beside (kk.blk hp (by simp)) hu ((((Kp.refl [p] W).set (.inl (by simp)) _).set (.inl (by simp)) _).set (.inl (by simp)) _)⟩,
    (((kk.mono (by simp)).set (.inl (by simp)) _).set (.inl (by simp)) _).set (.inl (by simp)) _⟩

set_option maxHeartbeats 2000000 in
set_option maxRecDepth 100000 in
theorem sum_same (p : Nat) (s : Bool) (a' a : Option Addr) (n' n c' c : Nat) (r : Int) (w : World) (hb : Blk w p #[.bool s, .slice a' n' c'] 187)
    (hc : Calls Tryz.prog 124 #[.slice a' n' c', .slice a n c] w fun e w' => (∃ z : Int, e = .returned (.int .i64 z)) ∧ Kp [] w w')
    (ha : ∀ W, Kp [] w W → Calls Tryz.prog 125 #[.slice a' n' c', .slice a n c] W (NtRes W r)) :
    Calls Tryz.prog 119 #[.pointer (some ⟨p, 0, none⟩), .pointer (some ⟨p, 0, none⟩), .slice a n c, .bool s] w fun e w' => e = .returned (.pointer (some ⟨p, 0, none⟩)) ∧ Big w' p (s && decide (0 < r)) r ∧ Kp [p] w w' := by
  have c0 : ∀ W, Kp [] w W → W.cell? ⟨p, 0, none⟩ = some (.bool s) := hb.all 0 rfl
  have c1 : ∀ W, Kp [] w W → W.cell? ⟨p, 1, none⟩ = some (.slice a' n' c') := hb.all 1 rfl
  have f0 : ∀ W, Kp [] w W → W.frozen? ⟨p, 0, none⟩ = false := fun W k => (k.blk hb (by simp)).free 0
  have f1 : ∀ W, Kp [] w W → W.frozen? ⟨p, 1, none⟩ = false := fun W k => (k.blk hb (by simp)).free 1
  have HB := Lib.hid hb
  have HA := Lib.hid ha
  have HC := Lib.hid hc
  clear hb ha hc
  go_enter Tryz.func119, Tryz.ntmps119
  go_wp2_with fail
  refine HC.out.mono ?_
  rintro e w0 ⟨⟨z, rfl⟩, k0⟩
  go_wp2_with fail
  go_region_with (go_at_call 125; refine (HA.out _ (by first | exact k0 | exact k0.drew | exact k0.drew.drew | exact k0.drew.drew.drew)).mono ?_; rintro e w1 ⟨v, rfl, hv, k1⟩; obtain ⟨a1, n1, c2, rfl⟩ := hv.slice; have k2 : Kp [] w w1 := Kp.trans (by first | exact k0 | exact k0.drew | exact k0.drew.drew | exact k0.drew.drew.drew) k1; have HV := Lib.hid hv; clear hv k1)
  all_goals (
    rcases HV.out with ⟨h0, _, _, h⟩ | ⟨h0, _, b, o, c, h, _⟩
    · injection h with h1 h2 h3
      subst h1 h2 h3
      go_wp2_with fail
      go_ret
      exact ⟨rfl, Big.stored3 HB.out ⟨_, _, _, rfl⟩ k2 HV.out (by first | exact Kp.refl [] _ | exact (Kp.refl [] _).drew | exact (Kp.refl [] _).drew.drew | exact (Kp.refl [] _).drew.drew.drew) (by simp [h0])⟩
    · injection h with h1 h2 h3
      subst h1 h2 h3
      go_wp2_with fail
      go_ret
      exact ⟨rfl, Big.stored3 HB.out ⟨_, _, _, rfl⟩ k2 HV.out (by first | exact Kp.refl [] _ | exact (Kp.refl [] _).drew | exact (Kp.refl [] _).drew.drew | exact (Kp.refl [] _).drew.drew.drew) (by simp [h0])⟩)
end Go.Proofs.YtfkaldaflnmfiaaGreatDoor
/- Contracts of the great numbers' sums and quotients, where they have at most one digit. -/
namespace Go.Proofs.YtfkaldaflnmfiaaGreatDoor
set_option linter.unusedSimpArgs false
set_option linter.unusedVariables false
open Go Go.RowKit

set_option maxRecDepth 100000 in
theorem sum_diff (p : Nat) (a' a : Option Addr) (n' n c' c : Nat) (r : Int) (w : World) (hb : Blk w p #[.bool false, .slice a' n' c'] 187) (hr : 0 < r)
    (hc : Calls Tryz.prog 124 #[.slice a' n' c', .slice a n c] w fun e w' => e = .returned (.int .i64 (-1)) ∧ w = w')
    (ha : ∀ W, Kp [] w W → Calls Tryz.prog 126 #[.slice a n c, .slice a' n' c'] W (NtRes W r)) :
    Calls Tryz.prog 119 #[.pointer (some ⟨p, 0, none⟩), .pointer (some ⟨p, 0, none⟩), .slice a n c, .bool true] w fun e w' => e = .returned (.pointer (some ⟨p, 0, none⟩)) ∧ Big w' p true r ∧ Kp [p] w w' := by
  have c0 : ∀ W, Kp [] w W → W.cell? ⟨p, 0, none⟩ = some (.bool false) := hb.all 0 rfl
  have c1 : ∀ W, Kp [] w W → W.cell? ⟨p, 1, none⟩ = some (.slice a' n' c') := hb.all 1 rfl
  have f0 : ∀ W, Kp [] w W → W.frozen? ⟨p, 0, none⟩ = false := fun W k => (k.blk hb (by simp)).free 0
  have f1 : ∀ W, Kp [] w W → W.frozen? ⟨p, 1, none⟩ = false := fun W k => (k.blk hb (by simp)).free 1
  have HB := Lib.hid hb
  have HA := Lib.hid ha
  have HC := Lib.hid hc
  clear hb ha hc
  go_enter Tryz.func119, Tryz.ntmps119
  go_wp2_with fail
  refine HC.out.mono ?_
  rintro e w0 ⟨rfl, rfl⟩
  go_wp2_with fail
  refine (HA.out _ (Kp.refl [] w)).mono ?_
  rintro e w1 ⟨v, rfl, hv, k2⟩
  rcases hv with ⟨h0, _, _, h⟩ | ⟨h0, h1, b, o, c, h, h2⟩
  · omega
  · subst h
    have HV := Lib.hid (And.intro h1 h2)
    clear h1 h2
    go_wp2_with fail
    go_ret
    exact ⟨rfl, Big.stored3 HB.out ⟨_, _, _, rfl⟩ k2 (.inr ⟨h0, HV.out.1, b, o, c, rfl, HV.out.2⟩) (Kp.refl [] _) rfl⟩

def AddRes (p : Nat) (s : Bool) (r : Int) (w : World) (e : Ending) (w' : World) : Prop := e = .returned (.pointer (some ⟨p, 0, none⟩)) ∧ Big w' p s r ∧ Kp [p] w w'

set_option maxRecDepth 100000 in
theorem add_of (p q : Nat) (t s : Bool) (a : Option Addr) (n c : Nat) (r : Int) (w : World) (hb : Blk w q #[.bool t, .slice a n c] 187)
    (hs : ∀ W, Kp [] w W → Calls Tryz.prog 119 #[.pointer (some ⟨p, 0, none⟩), .pointer (some ⟨p, 0, none⟩), .slice a n c, .bool t] W (AddRes p s r W)) :
    Calls Tryz.prog 109 #[.pointer (some ⟨p, 0, none⟩), .pointer (some ⟨p, 0, none⟩), .pointer (some ⟨q, 0, none⟩)] w (AddRes p s r w) := by
  have c0 : ∀ W, Kp [] w W → W.cell? ⟨q, 0, none⟩ = some (.bool t) := hb.all 0 rfl
  have c1 : ∀ W, Kp [] w W → W.cell? ⟨q, 1, none⟩ = some (.slice a n c) := hb.all 1 rfl
  have HS := Lib.hid hs
  clear hb hs
  go_enter Tryz.func109, Tryz.ntmps109
  go_wp2_with fail
  go_region_with (go_at_call 119; refine (HS.out _ (by first | exact Kp.refl [] w | exact (Kp.refl [] w).drew | exact (Kp.refl [] w).drew.drew | exact (Kp.refl [] w).drew.drew.drew)).mono ?_; rintro e w1 ⟨rfl, hv, k1⟩; have HV := Lib.hid (And.intro hv (Kp.trans (S := [p]) (by first | exact Kp.refl [p] w | exact (Kp.refl [p] w).drew | exact (Kp.refl [p] w).drew.drew | exact (Kp.refl [p] w).drew.drew.drew) k1)); clear hv k1)
  all_goals (
    go_wp2_with fail
    go_ret
    exact ⟨rfl, HV.out.1, HV.out.2⟩)

theorem Nt.one {w : World} {v : Value} {x : Int} (h : Nt w v x) (hx : 0 < x) : ∃ b o c, v = .slice (some ⟨b, o, none⟩) 1 c ∧ w.cell? ⟨b, o, none⟩ = some (.int .u32 x) ∧ x ≤ 2000000000 := by
  rcases h with ⟨h0, _⟩ | ⟨h0, h1, b, o, c, h, h2, h3⟩
  · omega
  · exact ⟨b, o, c, h, h3, h1⟩
theorem Nt.none {w : World} {v : Value} (h : Nt w v 0) : ∃ a c, v = .slice a 0 c := by
  rcases h with ⟨h0, h⟩ | ⟨h0, _⟩
  · exact h
  · omega
theorem cell_kp {w W : World} {b o : Nat} {v : Value} (h : w.cell? ⟨b, o, .none⟩ = some v) (k : Kp [] w W) : W.cell? ⟨b, o, .none⟩ = some v := (k.cell (p := ⟨b, o, .none⟩) (World.block_lt_of_cell? w _ h) (by simp)).trans h

/-- Nothing and nothing. -/
theorem add_zero (p q : Nat) (w : World) (hp : Big w p false 0) (hq : Big w q false 0) : Calls Tryz.prog 109 #[.pointer (some ⟨p, 0, none⟩), .pointer (some ⟨p, 0, none⟩), .pointer (some ⟨q, 0, none⟩)] w (AddRes p false 0 w) := by
  obtain ⟨v, hb, hv⟩ := hp
  obtain ⟨a, c, rfl⟩ := hv.none
  obtain ⟨v', hb', hv'⟩ := hq
  obtain ⟨a', c', rfl⟩ := hv'.none
  exact add_of p q false false a' 0 c' 0 w hb' fun W k => (sum_same p false a a' 0 0 c c' 0 W (k.blk hb (by simp)) ((cmp_00 a a' c c' W).mono fun e w' ⟨h1, h2⟩ => ⟨⟨0, h1⟩, h2 ▸ Kp.refl [] W⟩) (fun W2 _ => add_00 a a' c c' W2)).mono fun e w' ⟨h1, h2, h3⟩ => ⟨h1, h2, h3⟩
/-- A negative number to nothing. -/
theorem add_first (p q : Nat) (y : Int) (w : World) (hy : 0 < y) (hp : Big w p false 0) (hq : Big w q true y) : Calls Tryz.prog 109 #[.pointer (some ⟨p, 0, none⟩), .pointer (some ⟨p, 0, none⟩), .pointer (some ⟨q, 0, none⟩)] w (AddRes p true y w) := by
  obtain ⟨v, hb, hv⟩ := hp
  obtain ⟨a, c, rfl⟩ := hv.none
  obtain ⟨v', hb', hv'⟩ := hq
  obtain ⟨b, o, c', rfl, hc, hl⟩ := hv'.one hy
  exact add_of p q true true (some ⟨b, o, none⟩) 1 c' y w hb' fun W k => (sum_diff p a (some ⟨b, o, none⟩) 0 1 c c' y W (k.blk hb (by simp)) hy (cmp_01 a (some ⟨b, o, none⟩) c c' W) (fun W2 k2 => sub_10 b o c' a c y W2 (cell_kp hc (k.trans k2)) hy hl)).mono fun e w' ⟨h1, h2, h3⟩ => ⟨h1, h2, h3⟩
/-- A negative number to a negative number. -/
theorem add_more (p q : Nat) (x y : Int) (w : World) (hy : 0 < y) (hyx : y ≤ x) (hxy : x + y ≤ 2000000000) (hp : Big w p true x) (hq : Big w q true y) : Calls Tryz.prog 109 #[.pointer (some ⟨p, 0, none⟩), .pointer (some ⟨p, 0, none⟩), .pointer (some ⟨q, 0, none⟩)] w (AddRes p true (x + y) w) := by
  obtain ⟨v, hb, hv⟩ := hp
  obtain ⟨b2, o2, c2, rfl, hc2, hl2⟩ := hv.one (by omega)
  obtain ⟨v', hb', hv'⟩ := hq
  obtain ⟨b, o, c', rfl, hc, hl⟩ := hv'.one hy
  refine add_of p q true true (some ⟨b, o, none⟩) 1 c' (x + y) w hb' fun W k => (sum_same p true (some ⟨b2, o2, none⟩) (some ⟨b, o, none⟩) 1 1 c2 c' (x + y) W (k.blk hb (by simp)) ((cmp_11 b2 o2 c2 b o c' x y W (cell_kp hc2 k) (cell_kp hc k) hyx).mono fun e w' ⟨⟨z, h1, _⟩, h2⟩ => ⟨⟨z, h1⟩, h2⟩) (fun W2 k2 => add_11 b2 o2 c2 b o c' x y W2 (cell_kp hc2 (k.trans k2)) (cell_kp hc (k.trans k2)) (by omega) hy hxy)).mono fun e w' ⟨h1, h2, h3⟩ => ⟨h1, ?_, h3⟩
  rwa [show (true && decide (0 < x + y)) = true by simp; omega] at h2

set_option maxRecDepth 100000 in
/-- Whole quotients. -/
theorem div_11 (b o c b' o' c' : Nat) (x y : Int) (w : World) (hx : w.cell? ⟨b, o, none⟩ = some (.int .u32 x)) (hy : w.cell? ⟨b', o', none⟩ = some (.int .u32 y)) (h0 : 0 < y) (hyx : y ≤ x) (hx1 : x ≤ 2000000000) (hy1 : y ≤ 1000000) (hm : x % y = 0) :
    Calls Tryz.prog 131 #[.slice (some ⟨b, o, none⟩) 1 c, .slice (some ⟨b', o', none⟩) 1 c'] w fun e w' => ∃ q r, e = .returned (.tuple #[q, r]) ∧ Nt w' q (x / y) ∧ Nt w' r 0 ∧ Kp [] w w' := by
  have ey : ∀ W, Kp [] w W → W.cell? ⟨b', o', none⟩ = some (.int .u32 y) := fun W k => cell_kp hy k
  have HX := Lib.hid (And.intro hx hy)
  go_enter Tryz.func131, Tryz.ntmps131
  go_wp2_with fail
  refine (cmp_11 b o c b' o' c' x y w HX.out.1 HX.out.2 hyx).mono ?_
  rintro e w1 ⟨⟨z, rfl, hz⟩, k1⟩
  have hz2 := decide_eq_false (p := z < 0) (by omega)
  clear hx hy
  go_wp2_with fail
  refine (divW_1 b o c x y w1 (cell_kp HX.out.1 k1) (by omega) hx1 h0 hy1).mono ?_
  rintro e w2 ⟨q, rfl, hq, k2⟩
  rw [hm]
  have HQ := Lib.hid hq
  clear hq
  go_wp2_with fail
  refine (natOf_any 0 w2 (by omega)).mono ?_
  rintro e w3 ⟨r, rfl, hr, k3⟩
  have HR := Lib.hid hr
  clear hr
  go_wp2_with fail
  go_ret2
  exact ⟨q, r, rfl, HQ.out.kp k3, HR.out, (k1.trans k2).trans k3⟩
set_option maxRecDepth 100000 in
/-- Nothing by something. -/
theorem div_01 (a : Option Addr) (c b' o' c' : Nat) (w : World) :
    Calls Tryz.prog 131 #[.slice a 0 c, .slice (some ⟨b', o', none⟩) 1 c'] w fun e w' => e = .returned (.tuple #[.slice none 0 0, .slice a 0 c]) ∧ w = w' := by
  go_enter Tryz.func131, Tryz.ntmps131
  go_wp2_with fail
  refine (cmp_01 a (some ⟨b', o', none⟩) c c' w).mono ?_
  rintro e w1 ⟨rfl, rfl⟩
  go_wp2_with fail
  go_ret2
  exact ⟨rfl, rfl⟩
end Go.Proofs.YtfkaldaflnmfiaaGreatDoor
/- Contracts of the great numbers' quotients, and of what they are as int64. -/
namespace Go.Proofs.YtfkaldaflnmfiaaGreatDoor
set_option linter.unusedSimpArgs false
set_option linter.unusedVariables false
open Go Go.RowKit

set_option maxRecDepth 100000 in
theorem low_1 (b o c : Nat) (x : Int) (w : World) (hx : w.cell? ⟨b, o, none⟩ = some (.int .u32 x)) (h0 : 0 ≤ x) (h1 : x ≤ 2000000000) :
    Calls Tryz.prog 121 #[.slice (some ⟨b, o, none⟩) 1 c] w fun e w' => e = .returned (.int .u64 x) ∧ w = w' := by
  have hor := or_zero_u64 x h0 h1
  go_enter Tryz.func121, Tryz.ntmps121
  go_wp2_with fail
  refine wp_loop_rounds 2 ?_
  rw [rounds_succ]
  go_wp2_with fail
  rw [rounds_succ]
  go_wp2_with fail
  go_ret
  exact ⟨rfl, rfl⟩
set_option maxRecDepth 100000 in
theorem low_0 (a : Option Addr) (c : Nat) (w : World) : Calls Tryz.prog 121 #[.slice a 0 c] w fun e w' => e = .returned (.int .u64 0) ∧ w = w' := by
  go_enter Tryz.func121, Tryz.ntmps121
  go_wp2_with fail
  refine wp_loop_rounds 1 ?_
  rw [rounds_succ]
  go_wp2_with fail
  go_ret
  exact ⟨rfl, rfl⟩

set_option maxRecDepth 100000 in
theorem isInt_neg (p : Nat) (x : Int) (w : World) (hp : Big w p true x) (h0 : 0 < x) : Calls Tryz.prog 111 #[.pointer (some ⟨p, 0, none⟩)] w fun e w' => e = .returned (.bool true) ∧ w = w' := by
  obtain ⟨v, hb, hv⟩ := hp
  obtain ⟨b, o, c, rfl, hc, h1⟩ := hv.one h0
  have c0 := hb.cell (j := 0) rfl
  have c1 := hb.cell (j := 1) rfl
  have HC := Lib.hid hc
  have hd := decide_eq_true (p := 0 ≤ x) (by omega)
  clear hb hv hc
  go_enter Tryz.func111, Tryz.ntmps111
  go_wp2_with fail
  refine (low_1 b o c x w HC.out (by omega) h1).mono ?_
  rintro e w1 ⟨rfl, rfl⟩
  go_wp2_with fail
  go_ret
  exact ⟨rfl, rfl⟩
set_option maxRecDepth 100000 in
theorem int_neg (p : Nat) (x : Int) (w : World) (hp : Big w p true x) (h0 : 0 < x) : Calls Tryz.prog 112 #[.pointer (some ⟨p, 0, none⟩)] w fun e w' => e = .returned (.int .i64 (-x)) ∧ w = w' := by
  obtain ⟨v, hb, hv⟩ := hp
  obtain ⟨b, o, c, rfl, hc, h1⟩ := hv.one h0
  have c0 := hb.cell (j := 0) rfl
  have c1 := hb.cell (j := 1) rfl
  have HC := Lib.hid hc
  clear hb hv hc
  go_enter Tryz.func112, Tryz.ntmps112
  go_wp2_with fail
  refine (low_1 b o c x w HC.out (by omega) h1).mono ?_
  rintro e w1 ⟨rfl, rfl⟩
  go_wp2_with fail
  go_ret
  exact ⟨rfl, rfl⟩
set_option maxRecDepth 100000 in
theorem isInt_zero (p : Nat) (w : World) (hp : Big w p false 0) : Calls Tryz.prog 111 #[.pointer (some ⟨p, 0, none⟩)] w fun e w' => e = .returned (.bool true) ∧ w = w' := by
  obtain ⟨v, hb, hv⟩ := hp
  obtain ⟨a, c, rfl⟩ := hv.none
  have c0 := hb.cell (j := 0) rfl
  have c1 := hb.cell (j := 1) rfl
  clear hb hv
  go_enter Tryz.func111, Tryz.ntmps111
  go_wp2_with fail
  refine (low_0 a c w).mono ?_
  rintro e w1 ⟨rfl, rfl⟩
  go_wp2_with fail
  go_ret
  exact ⟨rfl, rfl⟩
set_option maxRecDepth 100000 in
theorem int_zero (p : Nat) (w : World) (hp : Big w p false 0) : Calls Tryz.prog 112 #[.pointer (some ⟨p, 0, none⟩)] w fun e w' => e = .returned (.int .i64 0) ∧ w = w' := by
  obtain ⟨v, hb, hv⟩ := hp
  obtain ⟨a, c, rfl⟩ := hv.none
  have c0 := hb.cell (j := 0) rfl
  have c1 := hb.cell (j := 1) rfl
  clear hb hv
  go_enter Tryz.func112, Tryz.ntmps112
  go_wp2_with fail
  refine (low_0 a c w).mono ?_
  rintro e w1 ⟨rfl, rfl⟩
  go_wp2_with fail
  go_ret
  exact ⟨rfl, rfl⟩

def DivRes (x : Int) (w : World) (e : Ending) (w' : World) : Prop := ∃ q r, e = .returned (.tuple #[q, r]) ∧ Nt w' q x ∧ Nt w' r 0 ∧ Kp [] w w'

theorem Big.stored4 {w w1 W : World} {p r : Nat} {s t0 t t' : Bool} {u u' : Value} {x : Int} {a a' : Option Addr} {n n' c c' : Nat} (hp : Blk w p #[.bool s, u] 187) (hr : Blk w r #[.bool t0, u'] 187) (hu : ∃ a n c, u = .slice a n c) (hu' : ∃ a n c, u' = .slice a n c) (hpr : p ≠ r) (k0 : Kp [] w w1) (hv : Nt w1 (.slice a n c) x) (hv' : Nt w1 (.slice a' n' c') 0) (k : Kp [] w1 W) (ht : t = t') :
    Big ((((W.setCell ⟨p, 1, none⟩ (.slice a n c)).setCell ⟨r, 1, none⟩ (.slice a' n' c')).setCell ⟨p, 0, none⟩ (.bool t)).setCell ⟨r, 0, none⟩ (.bool false)) p t' x ∧
    Big ((((W.setCell ⟨p, 1, none⟩ (.slice a n c)).setCell ⟨r, 1, none⟩ (.slice a' n' c')).setCell ⟨p, 0, none⟩ (.bool t)).setCell ⟨r, 0, none⟩ (.bool false)) r false 0 ∧
    Kp [p, r] w ((((W.setCell ⟨p, 1, none⟩ (.slice a n c)).setCell ⟨r, 1, none⟩ (.slice a' n' c')).setCell ⟨p, 0, none⟩ (.bool t)).setCell ⟨r, 0, none⟩ (.bool false)) := by
  subst ht
  have kk := k0.trans k
  have hp' := kk.blk hp (by simp)
  have hr' := kk.blk hr (by simp)
  obtain ⟨ra, rn, rc, e⟩ := hv'.slice
  have hz := hv'.none
  obtain ⟨za, zc, ez⟩ := hz
  have b1 : Blk (W.setCell ⟨p, 1, none⟩ (.slice a n c)) p _ 187 := hp'.set 1 _
  have q1 : Blk (W.setCell ⟨p, 1, none⟩ (.slice a n c)) r _ 187 := hr'.other (Ne.symm hpr) _
  have b2 := b1.other (p := ⟨r, 1, none⟩) hpr (.slice a' n' c')
  have q2 := q1.set 1 (.slice a' n' c')
  have b3 := b2.set 0 (.bool t)
  have q3 := q2.other (p := ⟨p, 0, none⟩) (Ne.symm hpr) (.bool t)
  have b4 := b3.other (p := ⟨r, 0, none⟩) hpr (.bool false)
  have q4 := q3.set 0 (.bool false)
  have n1 := (hv.kp k).beside hp' hu ((Kp.refl [p] W).set (p := ⟨p, 1, none⟩) (.inl (by simp)) (.slice a n c))
  have n2 := n1.beside q1 hu' ((Kp.refl [r] _).set (p := ⟨r, 1, none⟩) (.inl (by simp)) (.slice a' n' c'))
  have n3 := n2.beside b2 ⟨_, _, _, rfl⟩ ((Kp.refl [p] _).set (p := ⟨p, 0, none⟩) (.inl (by simp)) (.bool t))
  have n4 := n3.beside q3 ⟨_, _, _, rfl⟩ ((Kp.refl [r] _).set (p := ⟨r, 0, none⟩) (.inl (by simp)) (.bool false))
  exact ⟨⟨_, b4, n4⟩, ⟨_, q4, .inl ⟨rfl, za, zc, ez⟩⟩, ((((kk.mono (by simp)).set (.inl (by simp)) _).set (.inl (by simp)) _).set (.inl (by simp)) _).set (.inl (by simp)) _⟩

theorem Big.stored5 {w w1 : World} {p r : Nat} {s t0 t t' : Bool} {u u' : Value} {x : Int} {a a' : Option Addr} {n n' c c' : Nat} (hp : Blk w p #[.bool s, u] 187) (hr : Blk w r #[.bool t0, u'] 187) (hu : ∃ a n c, u = .slice a n c) (hu' : ∃ a n c, u' = .slice a n c) (hpr : p ≠ r) (k0 : Kp [] w w1) (hv : Nt w1 (.slice a n c) x) (hv' : Nt w1 (.slice a' n' c') 0) (ht : t = t') :
    Big ((((w1.setCell ⟨p, 1, none⟩ (.slice a n c)).setCell ⟨r, 1, none⟩ (.slice a' n' c')).setCell ⟨p, 0, none⟩ (.bool t)).setCell ⟨r, 0, none⟩ (.bool false)).drew p t' x ∧
    Big ((((w1.setCell ⟨p, 1, none⟩ (.slice a n c)).setCell ⟨r, 1, none⟩ (.slice a' n' c')).setCell ⟨p, 0, none⟩ (.bool t)).setCell ⟨r, 0, none⟩ (.bool false)).drew r false 0 ∧
    Kp [p, r] w ((((w1.setCell ⟨p, 1, none⟩ (.slice a n c)).setCell ⟨r, 1, none⟩ (.slice a' n' c')).setCell ⟨p, 0, none⟩ (.bool t)).setCell ⟨r, 0, none⟩ (.bool false)).drew := by
  obtain ⟨h1, h2, h3⟩ := Big.stored4 hp hr hu hu' hpr k0 hv hv' (Kp.refl [] _) ht
  exact ⟨h1.kp (Kp.refl [] _).drew, h2.kp (Kp.refl [] _).drew, h3.drew⟩

set_option maxHeartbeats 3000000 in
set_option maxRecDepth 100000 in
theorem quoRem_of (p y r : Nat) (s t0 : Bool) (x : Int) (a a' ar : Option Addr) (n n' nr c c' cr : Nat) (w : World) (hp : Blk w p #[.bool s, .slice a n c] 187) (hy : Blk w y #[.bool false, .slice a' n' c'] 187) (hr : Blk w r #[.bool t0, .slice ar nr cr] 187)
    (hpr : p ≠ r)
    (hd : ∀ W, Kp [] w W → Calls Tryz.prog 131 #[.slice a n c, .slice a' n' c'] W (DivRes x W)) :
    Calls Tryz.prog 127 #[.pointer (some ⟨p, 0, none⟩), .pointer (some ⟨p, 0, none⟩), .pointer (some ⟨y, 0, none⟩), .pointer (some ⟨r, 0, none⟩)] w fun e w' => e = .returned (.tuple #[.pointer (some ⟨p, 0, none⟩), .pointer (some ⟨r, 0, none⟩)]) ∧ Big w' p (s && decide (0 < x)) x ∧ Big w' r false 0 ∧ Kp [p, r] w w' := by
  have p0 : ∀ W, Kp [] w W → W.cell? ⟨p, 0, none⟩ = some (.bool s) := hp.all 0 rfl
  have p1 : ∀ W, Kp [] w W → W.cell? ⟨p, 1, none⟩ = some (.slice a n c) := hp.all 1 rfl
  have y0 : ∀ W, Kp [] w W → W.cell? ⟨y, 0, none⟩ = some (.bool false) := hy.all 0 rfl
  have r0 : ∀ W, Kp [] w W → W.cell? ⟨r, 0, none⟩ = some (.bool t0) := hr.all 0 rfl
  have r1 : ∀ W, Kp [] w W → W.cell? ⟨r, 1, none⟩ = some (.slice ar nr cr) := hr.all 1 rfl
  have fp : ∀ j W, Kp [] w W → W.frozen? ⟨p, j, none⟩ = false := fun j W k => (k.blk hp (by simp)).free j
  have fr : ∀ j W, Kp [] w W → W.frozen? ⟨r, j, none⟩ = false := fun j W k => (k.blk hr (by simp)).free j
  have y1 : ∀ W, Kp [] w W → W.cell? ⟨y, 1, none⟩ = some (.slice a' n' c') := hy.all 1 rfl
  have HD := Lib.hid hd
  have HB := Lib.hid (And.intro hp (And.intro hy hr))
  clear hd hp hy hr
  go_enter Tryz.func127, Tryz.ntmps127
  go_wp2_with fail
  have S : ∀ W, Kp [] w W → W.cell? ⟨p, 1, none⟩ = some (.slice a n c) ∧ W.cell? ⟨y, 1, none⟩ = some (.slice a' n' c') := fun W k => ⟨p1 W k, y1 W k⟩
  have HS := Lib.hid S
  clear S
  go_region_held3 (fun W => W.cell? ⟨p, 1, none⟩ = some (.slice a n c) ∧ W.cell? ⟨y, 1, none⟩ = some (.slice a' n' c'))
    (first | exact HS.out _ (Kp.refl [] w).drew | exact HS.out _ kk)
    (first | (go_at_call 131; refine (HD.out _ (Kp.refl [] w).drew).mono ?_; rintro e w2 ⟨q, rv, rfl, hq, hr, k1⟩; obtain ⟨aq, nq, cq, rfl⟩ := hq.slice; obtain ⟨ae, ce, rfl⟩ := hr.none; have kk := (Kp.refl [] w).drew.trans k1; have HQ := Lib.hid (And.intro hq hr); clear k1 hq hr))
  obtain ⟨hq, hr⟩ := HQ.out
  rcases hq with ⟨h0, _, _, h⟩ | ⟨h0, h1, bq, oq, _, h, h2⟩
  · injection h with h3 h4 h5
    subst h3 h4 h5
    have H0 := Lib.hid (And.intro h0 hr)
    clear h0 hr
    go_wp2_with fail
    go_big_region
    go_wp2_with fail
    go_ret2
    exact ⟨rfl, Big.stored5 HB.out.1 HB.out.2.2 ⟨_, _, _, rfl⟩ ⟨_, _, _, rfl⟩ hpr kk HQ.out.1 HQ.out.2 (by simp [H0.out.1])⟩
  · injection h with h3 h4 h5
    subst h3 h4 h5
    have H0 := Lib.hid (And.intro h0 (And.intro h1 (And.intro h2 hr)))
    clear h0 h1 h2 hr
    go_wp2_with fail
    go_big_region
    go_wp2_with fail
    go_ret2
    exact ⟨rfl, Big.stored5 HB.out.1 HB.out.2.2 ⟨_, _, _, rfl⟩ ⟨_, _, _, rfl⟩ hpr kk HQ.out.1 HQ.out.2 (by simp [H0.out.1])⟩
end Go.Proofs.YtfkaldaflnmfiaaGreatDoor
/- Contracts of the great numbers: DivMod and Div, and the mean. -/
namespace Go.Proofs.YtfkaldaflnmfiaaGreatDoor
set_option linter.unusedSimpArgs false
set_option linter.unusedVariables false
open Go Go.RowKit


set_option maxRecDepth 100000 in
theorem divMod_of (p y r : Nat) (s t0 : Bool) (x : Int) (a a' ar : Option Addr) (n n' nr c c' cr : Nat) (w : World) (hp : Blk w p #[.bool s, .slice a n c] 187) (hy : Blk w y #[.bool false, .slice a' n' c'] 187) (hr : Blk w r #[.bool t0, .slice ar nr cr] 187)
    (hpr : p ≠ r)
    (hd : ∀ W, Kp [] w W → Calls Tryz.prog 131 #[.slice a n c, .slice a' n' c'] W (DivRes x W)) :
    Calls Tryz.prog 120 #[.pointer (some ⟨p, 0, none⟩), .pointer (some ⟨p, 0, none⟩), .pointer (some ⟨y, 0, none⟩), .pointer (some ⟨r, 0, none⟩)] w fun e w' => e = .returned (.tuple #[.pointer (some ⟨p, 0, none⟩), .pointer (some ⟨r, 0, none⟩)]) ∧ Big w' p (s && decide (0 < x)) x ∧ Big w' r false 0 ∧ Kp [p, r] w w' := by
  have HB := Lib.hid (And.intro hp (And.intro hy hr))
  have HD := Lib.hid hd
  have y0 : w.cell? ⟨y, 0, none⟩ = some (.bool false) := hy.cell rfl
  have y1 : w.cell? ⟨y, 1, none⟩ = some (.slice a' n' c') := hy.cell rfl
  clear hp hr hd hy
  go_enter Tryz.func120, Tryz.ntmps120
  go_wp2_with fail
  have k1 := (Kp.refl [] w).alloc (.cells #[Value.bool false, .slice a' n' c'] 187)
  generalize w.alloc (.cells #[Value.bool false, .slice a' n' c'] 187) = w1 at *
  have HK := Lib.hid k1
  clear k1
  refine (quoRem_of p y r s t0 x a a' ar n n' nr c c' cr w1 (HK.out.blk HB.out.1 (by simp)) (HK.out.blk HB.out.2.1 (by simp)) (HK.out.blk HB.out.2.2 (by simp)) hpr (fun W k => HD.out W (HK.out.trans k))).mono ?_
  rintro e w2 ⟨rfl, h1, h2, h3⟩
  have r0 : w2.cell? ⟨r, 0, none⟩ = some (.bool false) := by
    obtain ⟨v, hv, _⟩ := h2
    exact hv.cell rfl
  have HE := Lib.hid (And.intro h1 (And.intro h2 h3))
  clear h1 h2 h3
  go_wp2_with fail
  go_ret2
  exact ⟨rfl, HE.out.1, HE.out.2.1, (HK.out.mono (by simp)).trans HE.out.2.2⟩

set_option maxRecDepth 100000 in
theorem div_of (p y : Nat) (s : Bool) (x : Int) (a a' : Option Addr) (n n' c c' : Nat) (w : World) (hp : Blk w p #[.bool s, .slice a n c] 187) (hy : Blk w y #[.bool false, .slice a' n' c'] 187)
    (hd : ∀ W, Kp [] w W → Calls Tryz.prog 131 #[.slice a n c, .slice a' n' c'] W (DivRes x W)) :
    Calls Tryz.prog 110 #[.pointer (some ⟨p, 0, none⟩), .pointer (some ⟨p, 0, none⟩), .pointer (some ⟨y, 0, none⟩)] w fun e w' => e = .returned (.pointer (some ⟨p, 0, none⟩)) ∧ Big w' p (s && decide (0 < x)) x ∧ Kp [p] w w' := by
  have HB := Lib.hid (And.intro hp hy)
  have HD := Lib.hid hd
  have hlt := hp.lt
  clear hp hd hy
  go_enter Tryz.func110, Tryz.ntmps110
  go_wp2_with fail
  have k1 := (Kp.refl [] w).alloc (.cells #[Value.bool false, .slice none 0 0] 187)
  have hb := Blk.new w #[Value.bool false, .slice none 0 0] 187
  generalize w.alloc (.cells #[Value.bool false, .slice none 0 0] 187) = w1 at *
  obtain ⟨r, er⟩ : ∃ r, r = w.heap.size := ⟨_, rfl⟩
  rw [← er] at hb ⊢
  have HK := Lib.hid (And.intro k1 (And.intro hb er))
  clear k1 hb
  refine (divMod_of p y r s false x a a' none n n' 0 c c' 0 w1 (HK.out.1.blk HB.out.1 (by simp)) (HK.out.1.blk HB.out.2 (by simp)) HK.out.2.1 (by omega) (fun W k => HD.out W (HK.out.1.trans k))).mono ?_
  rintro e w2 ⟨rfl, h1, h2, h3⟩
  have HE := Lib.hid (And.intro h1 (And.intro h2 h3))
  clear h1 h2 h3
  go_wp2_with fail
  go_ret
  exact ⟨rfl, HE.out.1, (HK.out.1.mono (S' := [p]) (by simp)).then HE.out.2.2 (by intro i hi hm; simp at hm ⊢; have := HK.out.2.2; omega)⟩

/-- The mean of k numbers -q each. -/
theorem div_mean (p y : Nat) (k q : Int) (w : World) (hk : 0 < k) (hk1 : k ≤ 1000000) (hq : 0 < q) (hkq : k * q ≤ 2000000000) (hp : Big w p true (k * q)) (hy : Big w y false k) :
    Calls Tryz.prog 110 #[.pointer (some ⟨p, 0, none⟩), .pointer (some ⟨p, 0, none⟩), .pointer (some ⟨y, 0, none⟩)] w fun e w' => e = .returned (.pointer (some ⟨p, 0, none⟩)) ∧ Big w' p true q ∧ Kp [p] w w' := by
  obtain ⟨v, hb, hv⟩ := hp
  have h0 : 0 < k * q := Int.mul_pos hk hq
  obtain ⟨b, o, c, rfl, hc, hl⟩ := hv.one h0
  obtain ⟨v', hb', hv'⟩ := hy
  obtain ⟨b', o', c', rfl, hc', hl'⟩ := hv'.one hk
  have hdv : k * q / k = q := Int.mul_ediv_cancel_left q (by omega)
  have hle : k ≤ k * q := by
    have := Int.mul_le_mul_of_nonneg_left (show (1 : Int) ≤ q by omega) (show 0 ≤ k by omega)
    omega
  refine (div_of p y true q (some ⟨b, o, none⟩) (some ⟨b', o', none⟩) 1 1 c c' w hb hb' (fun W k' => ?_)).mono fun e w' ⟨h1, h2, h3⟩ => ⟨h1, ?_, h3⟩
  · have := div_11 b o c b' o' c' (k * q) k W (cell_kp hc k') (cell_kp hc' k') hk hle hl hk1 (Int.mul_emod_right k q)
    rw [hdv] at this
    exact this
  · rwa [show (true && decide (0 < q)) = true by simp; omega] at h2
/-- The mean of noughts. -/
theorem div_zero (p y : Nat) (k : Int) (w : World) (hk : 0 < k) (hp : Big w p false 0) (hy : Big w y false k) :
    Calls Tryz.prog 110 #[.pointer (some ⟨p, 0, none⟩), .pointer (some ⟨p, 0, none⟩), .pointer (some ⟨y, 0, none⟩)] w fun e w' => e = .returned (.pointer (some ⟨p, 0, none⟩)) ∧ Big w' p false 0 ∧ Kp [p] w w' := by
  obtain ⟨v, hb, hv⟩ := hp
  obtain ⟨a, c, rfl⟩ := hv.none
  obtain ⟨v', hb', hv'⟩ := hy
  obtain ⟨b', o', c', rfl, hc', hl'⟩ := hv'.one hk
  exact div_of p y false 0 a (some ⟨b', o', none⟩) 0 1 c c' w hb hb' (fun W k' => (div_01 a c b' o' c' W).mono fun e w' ⟨h1, h2⟩ => ⟨_, _, h1, .inl ⟨rfl, _, _, rfl⟩, .inl ⟨rfl, _, _, rfl⟩, h2 ▸ Kp.refl [] W⟩)
end Go.Proofs.YtfkaldaflnmfiaaGreatDoor
