/- Contracts of the hash's making, and of the hash of a text. -/
import Derived.WalkKit
import Derived.WalkSpells
import Derived.WalkLawsBesides
import Derived.Handy
import Derived.Lib.Hide
import Derived.IntWalk
import Derived.Deep.RegionHeld3
import Derived.Test.YtfkaldaflnmfiaaGreatDoorKCks
import Derived.Test.YtfkaldaflnmfiaaGreatDoorKSig
namespace Go.Proofs.YtfkaldaflnmfiaaGreatDoor
set_option linter.unusedSimpArgs false
set_option linter.unusedVariables false
open Go Go.RowKit

/-- The words with which the hash begins. -/
def st0 : St := ⟨1779033703, 3144134277, 1013904242, 2773480762, 1359893119, 2600822924, 528734635, 1541459225⟩
def stZ : St := ⟨0, 0, 0, 0, 0, 0, 0, 0⟩
def zero64 : List Int := List.replicate 64 0

theorem digL_zero : Tryz.zeroCells171 = (digL stZ zero64 0 0).toArray := by kernel_rfl

set_option maxRecDepth 100000 in
theorem reset_any (g : Nat) (s : St) (x : List Int) (nx len : Int) (w : World) (hx : x.length = 64) (hg : Blk w g (digL s x nx len).toArray 171) :
    Calls Tryz.prog 103 #[.pointer (some ⟨g, 0, none⟩)] w fun e w' => e = .returned (.tuple #[]) ∧ Blk w' g (digL st0 x 0 0).toArray 171 ∧ Kp [g] w w' := by
  have c0 : w.cell? ⟨g, 0, none⟩ = some (.int .u32 s.a) := hg.cell rfl
  have c1 : w.cell? ⟨g, 1, none⟩ = some (.int .u32 s.b) := hg.cell rfl
  have c2 : w.cell? ⟨g, 2, none⟩ = some (.int .u32 s.c) := hg.cell rfl
  have c3 : w.cell? ⟨g, 3, none⟩ = some (.int .u32 s.d) := hg.cell rfl
  have c4 : w.cell? ⟨g, 4, none⟩ = some (.int .u32 s.e) := hg.cell rfl
  have c5 : w.cell? ⟨g, 5, none⟩ = some (.int .u32 s.f) := hg.cell rfl
  have c6 : w.cell? ⟨g, 6, none⟩ = some (.int .u32 s.g) := hg.cell rfl
  have c7 : w.cell? ⟨g, 7, none⟩ = some (.int .u32 s.h) := hg.cell rfl
  have c72 := hg.cell (digL_nx hx)
  have c73 := hg.cell (digL_len hx)
  have c74 := hg.cell (digL_is hx)
  have f0 := hg.free 0
  have f1 := hg.free 1
  have f2 := hg.free 2
  have f3 := hg.free 3
  have f4 := hg.free 4
  have f5 := hg.free 5
  have f6 := hg.free 6
  have f7 := hg.free 7
  have f72 := hg.free 72
  have f73 := hg.free 73
  obtain ⟨cs, ecs⟩ : ∃ cs, cs = (digL s x nx len).toArray := ⟨_, rfl⟩
  rw [← ecs] at hg
  have HG := Lib.hid hg
  have HX := Lib.hid hx
  have EC := Lib.hid ecs
  clear hg hx ecs
  go_enter Tryz.func103, Tryz.ntmps103
  go_wp2
  go_end0
  refine ⟨rfl, ?_, ?_⟩
  · have h := HG.out
    replace h := h.set 0 (.int .u32 1779033703)
    replace h := h.set 1 (.int .u32 3144134277)
    replace h := h.set 2 (.int .u32 1013904242)
    replace h := h.set 3 (.int .u32 2773480762)
    replace h := h.set 4 (.int .u32 1359893119)
    replace h := h.set 5 (.int .u32 2600822924)
    replace h := h.set 6 (.int .u32 528734635)
    replace h := h.set 7 (.int .u32 1541459225)
    replace h := h.set 72 (.int .i64 0)
    replace h := h.set 73 (.int .u64 0)
    have e : ((((((((digL s x nx len).toArray.setIfInBounds 0 (.int .u32 1779033703)).setIfInBounds 1 (.int .u32 3144134277)).setIfInBounds 2 (.int .u32 1013904242)).setIfInBounds 3 (.int .u32 2773480762)).setIfInBounds 4 (.int .u32 1359893119)).setIfInBounds 5 (.int .u32 2600822924)).setIfInBounds 6 (.int .u32 528734635)).setIfInBounds 7 (.int .u32 1541459225) = (digL st0 x nx len).toArray := by
      simp [digL, st0]
    rw [EC.out, e, digL_setNx HX.out, digL_setLen HX.out] at h
    exact h
  · iterate 10 refine Kp.set ?_ (.inl (by simp)) _
    exact Kp.refl _ _

theorem new_any (w : World) : Calls Tryz.prog 89 #[] w fun e w' => e = .returned (.pointer (some ⟨w.heap.size, 0, none⟩)) ∧ Blk w' w.heap.size (digL st0 zero64 0 0).toArray 171 ∧ Kp [] w w' := by
  go_enter Tryz.func89, Tryz.ntmps89
  go_wp2_with fail
  have hb := Blk.new w Tryz.zeroCells171 171
  rw [digL_zero] at hb ⊢
  refine (reset_any _ stZ zero64 0 0 _ (by decide) hb).mono ?_
  rintro e w1 ⟨rfl, h1, k1⟩
  have HK := Lib.hid (And.intro h1 (((Kp.refl [] w).alloc (.cells (digL stZ zero64 0 0).toArray 171)).then k1 (fun i hi hm => by simp at hm; omega)))
  clear h1 k1 hb
  go_wp2
  go_ret
  exact ⟨rfl, HK.out⟩

/-- The lengths of the texts that are hashed. -/
def Len (n : Nat) : Prop := n = 2 ∨ n = 78 ∨ n = 142
/-- The words of the table. -/
def Tab (kt : Nat → Int) (w : World) : Prop := 10 < w.heap.size ∧ ∀ j, j < 64 → w.cell? ⟨10, j, none⟩ = some (.int .u32 (kt j))
theorem Tab.kp {kt : Nat → Int} {w w' : World} (h : Tab kt w) (k : Kp [] w w') : Tab kt w' := ⟨Nat.lt_of_lt_of_le h.1 k.size, fun j hj => (k.cell (p := ⟨10, j, none⟩) h.1 (by simp)).trans (h.2 j hj)⟩

/-- The buffer behind a text. -/
def bufOf (l : List Int) : List Int := splice zero64 0 (l.drop (64 * (l.length / 64)))
def lastOf (l : List Int) : List Int := splice (bufOf l) (l.length % 64) (padL (l.length % 64) (l.length : Int))
def midOf (kt : Nat → Int) (l : List Int) : St := (shaBlk kt 64 (fun j => l.getD j 0) zeroWords st0 (l.length / 64)).2
def endOf (kt : Nat → Int) (l : List Int) : St := (shaBlk kt 64 (fun j => (lastOf l).getD j 0) zeroWords (midOf kt l) 1).2
theorem bufOf_length (l : List Int) : (bufOf l).length = 64 := by
  unfold bufOf
  rw [length_splice _ _ _ (by simp [zero64]; omega)]
  simp [zero64]

theorem write_any (kt : Nat → Int) (g b o c : Nat) (l : List Int) (w : World) (hg : Blk w g (digL st0 zero64 0 0).toArray 171) (hn : Len l.length) (hb : b ≠ g) (hbl : b < w.heap.size) (hT : Tab kt w) (h10 : 10 ≠ g) (hc : l.length ≤ c) (hl : Bs l)
    (hp : ∀ j, j < l.length → w.cell? ⟨b, o + j, none⟩ = some (.int .u8 (l.getD j 0))) :
    Calls Tryz.prog 90 #[.pointer (some ⟨g, 0, none⟩), .slice (some ⟨b, o, none⟩) l.length c] w fun e w' => e = .returned (.tuple #[.int .i64 l.length, .nilIface]) ∧ Blk w' g (digL (midOf kt l) (bufOf l) (l.length % 64 : Nat) l.length).toArray 171 ∧ Kp [g] w w' := by
  by_cases h2 : l.length = 2
  · have h := write_short g b o c st0 zero64 l w (by decide) hg (by omega) (by omega) hb hc hp
    have e1 : midOf kt l = st0 := by unfold midOf; rw [h2]; rfl
    have e2 : bufOf l = splice zero64 0 l := by unfold bufOf; rw [h2]; rfl
    have e3 : l.length % 64 = l.length := by omega
    rw [e1, e2, e3]
    exact h
  · have ha : bits BinOp.andNot IntKind.i64 ((64 * (l.length / 64) + l.length % 64 : Nat) : Int) 63 = ((64 * (l.length / 64) : Nat) : Int) := by
      rcases hn with h | h | h
      · omega
      · rw [h]; kernel_rfl
      · rw [h]; kernel_rfl
    have hn' : l.length = 78 ∨ l.length = 142 := by unfold Len at hn; omega
    exact write_long g b o c (l.length / 64) (l.length % 64) st0 (midOf kt l) kt zero64 l w (by decide) hg (by omega) (by omega) (by omega) (by omega) (by omega) ha hb hbl hT.1 h10 hc (fun j hj => ⟨hp j hj, hl.at j⟩) hT.2 rfl
end Go.Proofs.YtfkaldaflnmfiaaGreatDoor
