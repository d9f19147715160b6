/- Contracts of the laws' own functions: a block by its number, a set by its powers, a vote as it is said. -/
import Derived.WalkKit
import Derived.WalkSpells
import Derived.WalkLawsBesides
import Derived.Handy
import Derived.Lib.Hide
import Derived.IntWalk
import Derived.LoopTactic
import Derived.Deep.QuietTactic
import Derived.Deep.RegionWith
import Derived.Deep.RegionHeld3
import Derived.BigRegion
import Derived.BigQuiet
import Derived.Test.YtfkaldaflnmfiaaGreatDoorKSw
import Derived.Test.YtfkaldaflnmfiaaGreatDoorKToSet
namespace Go.Proofs.YtfkaldaflnmfiaaGreatDoor
set_option linter.unusedSimpArgs false
set_option linter.unusedVariables false
open Go Go.RowKit

set_option maxRecDepth 100000 in
theorem sameID_any (t t' : Int) (vh vh' vp vp' : Value) (h h' m m' : List Int) (w : World) (hh : Byt w vh h) (hh' : Byt w vh' h') (hm : Byt w vp m) (hm' : Byt w vp' m') (bh : Bs h) (bh' : Bs h') (bm : Bs m) (bm' : Bs m') :
    Calls Tryz.prog 10 #[.agg #[vh, .int .i64 t, vp], .agg #[vh', .int .i64 t', vp']] w fun e w' => e = .returned (.bool (decide (h = h' ∧ t = t' ∧ m = m'))) ∧ Kp [] w w' := by
  have k2 := ((Kp.refl [] w).alloc (.cells #[vh, .int .i64 t, vp] 33)).alloc (.cells #[vh', .int .i64 t', vp'] 33)
  have r1 := run_string _ (hh.kp k2) 22 Tryz.underlying22
  have r2 := run_string _ (hh'.kp k2) 22 Tryz.underlying22
  have r3 := run_string _ (hm.kp k2) 22 Tryz.underlying22
  have r4 := run_string _ (hm'.kp k2) 22 Tryz.underlying22
  obtain ⟨a, n, c, rfl⟩ := hh.form
  obtain ⟨a', n', c', rfl⟩ := hh'.form
  obtain ⟨ap, np, cp, rfl⟩ := hm.form
  obtain ⟨ap', np', cp', rfl⟩ := hm'.form
  have e1 := strS_beq bh bh'
  have e2 := strS_beq bm bm'
  have K2 := Lib.hid k2
  clear hh hh' hm hm' bh bh' bm bm' k2
  by_cases q1 : h = h'
  · rw [decide_eq_true q1] at e1
    have Q1 := Lib.hid q1
    clear q1
    by_cases q2 : t = t'
    · have q2b : (t == t') = true := by rw [q2]; exact beq_self_eq_true _
      have Q2 := Lib.hid q2
      clear q2
      by_cases q3 : m = m'
      · rw [decide_eq_true q3] at e2
        have Q3 := Lib.hid q3
        clear q3
        go_enter Tryz.func10, Tryz.ntmps10
        go_wp2_with fail
        go_ret
        exact ⟨by rw [decide_eq_true (show h = h' ∧ t = t' ∧ m = m' from ⟨Q1.out, Q2.out, Q3.out⟩)]; rfl, K2.out⟩
      · rw [decide_eq_false q3] at e2
        have Q3 := Lib.hid q3
        clear q3
        go_enter Tryz.func10, Tryz.ntmps10
        go_wp2_with fail
        go_ret
        exact ⟨by rw [decide_eq_false (show ¬ (h = h' ∧ t = t' ∧ m = m') from fun h => Q3.out h.2.2)]; rfl, K2.out⟩
    · have q2b : (t == t') = false := by rw [beq_eq_false_iff_ne]; exact q2
      have Q2 := Lib.hid q2
      clear q2
      go_enter Tryz.func10, Tryz.ntmps10
      go_wp2_with fail
      go_ret
      exact ⟨by rw [decide_eq_false (show ¬ (h = h' ∧ t = t' ∧ m = m') from fun h => Q2.out h.2.1)]; rfl, K2.out⟩
  · rw [decide_eq_false q1] at e1
    have Q1 := Lib.hid q1
    clear q1
    go_enter Tryz.func10, Tryz.ntmps10
    go_wp2_with fail
    go_ret
    exact ⟨by rw [decide_eq_false (show ¬ (h = h' ∧ t = t' ∧ m = m') from fun h => Q1.out h.1)]; rfl, K2.out⟩

theorem mk32 (W : World) : (Instr.makeSlice 22 (.int .i64 32) (.int .i64 32)).run Tryz.prog W = .ok (.slice (some ⟨W.heap.size, 0, none⟩) 32 32) (W.alloc (.cells (Array.replicate 32 (.int .u8 0)) 5)) := by
  obtain ⟨i0, hi, hz0, hz1, hz2⟩ := info_parts info5
  have h := run_make (P := Tryz.prog) W 22 5 i0 (.int .u8 0) Tryz.underlying22 hi hz0 .i64 .i64 32 32 (by omega) (by omega) (by rw [hz2]; omega) (by omega)
  have e : madeCells (Value.int .u8 0).cells (((32 : Int).toNat) * i0.size) = Array.replicate 32 (.int .u8 0) := by
    rw [hz1, Nat.mul_one]
    apply Array.ext'
    rw [show (Value.int .u8 0).cells = #[.int .u8 0] from rfl, toList_madeCells_one]
    simp
  rw [e] at h
  simpa using h
theorem set_u8s (j : Nat) (x : Int) : (Array.replicate 32 (Value.int .u8 0)).setIfInBounds j (.int .u8 x) = (u8s ((List.replicate 32 0).set j x)).toArray := by
  apply Array.ext'
  rw [Array.toList_setIfInBounds]
  simp [u8s, List.map_set]
theorem byt_of_blk {W : World} {b n : Nat} {l : List Int} (h : Blk W b (u8s l).toArray 5) (hn : l.length = n) : Byt W (.slice (some ⟨b, 0, none⟩) n n) l := by
  subst hn
  refine Byt.of_cells (Nat.le_refl _) h.lt (fun j hj => ?_)
  rw [cell_of_row W b (0 + j) _ _ _ h, Nat.zero_add]
  simp [u8s, List.getD_eq_getElem?_getD, hj]
/-- A block by a number: its hash, the number of its parts, their root. -/
def idH (n : Int) : List Int := if n % 5 = 0 then [] else (List.replicate 32 0).set (n % 3).toNat (n % 5)
def idT (n : Int) : Int := if n % 5 = 0 then 0 else 1 + n % 2
def idP (n : Int) : List Int := if n % 5 = 0 then [] else (List.replicate 32 0).set 31 (n % 2)

set_option maxRecDepth 100000 in
theorem eviID_any (n : Int) (w : World) (h0 : 0 ≤ n) (h1 : n ≤ 255) :
    Calls Tryz.prog 20 #[.int .u8 n] w fun e w' => ∃ vh vp, e = .returned (.agg #[vh, .int .i64 (idT n), vp]) ∧ Byt w' vh (idH n) ∧ Byt w' vp (idP n) ∧ Kp [] w w' := by
  by_cases hz : n % 5 = 0
  · have hzb : (n % 5 == 0) = true := by rw [hz]; rfl
    have HZ := Lib.hid hz
    clear hz
    go_enter Tryz.func20, Tryz.ntmps20
    go_wp2_with fail
    have hb := Blk.new w #[.slice none 0 0, .int .i64 0, .slice none 0 0] 33
    have hi : (Tryz.prog.info? 33).map (·.size) = some 3 := by kernel_rfl
    refine bodyPost_ret (v := .agg #[.slice none 0 0, .int .i64 0, .slice none 0 0]) ?_ ?_ ?_
    · exact results_cell_row rfl _ _ w.heap.size 33 #[.slice none 0 0, .int .i64 0, .slice none 0 0] (0, 0) _ rfl hb Tryz.underlying33 rfl hi
    · rfl
    refine ⟨.slice none 0 0, .slice none 0 0, ?_, ?_, ?_, (Kp.refl [] w).alloc _⟩
    · unfold idT
      rw [if_pos HZ.out]
    · unfold idH
      rw [if_pos HZ.out]
      exact Byt.nil _
    · unfold idP
      rw [if_pos HZ.out]
      exact Byt.nil _
  · have hzb : (n % 5 == 0) = false := by rw [beq_eq_false_iff_ne]; exact hz
    have HZ := Lib.hid hz
    clear hz
    obtain ⟨j, hj⟩ : ∃ j : Nat, n % 3 = j := ⟨(n % 3).toNat, by omega⟩
    have hj0 : (0 : Int) ≤ (j : Int) := by omega
    have hj1 : (j : Int) < 32 := by omega
    have hj2 : j < 32 := by omega
    have mk := mk32
    go_enter Tryz.func20, Tryz.ntmps20
    go_wp2_with fail
    have hw0 : ∀ c : Array Value, (w.alloc (.cells c 33)).heap.size = w.heap.size + 1 := fun c => by simp
    have hw1 : ∀ c c' : Array Value, ((w.alloc (.cells c 33)).alloc (.cells c' 5)).heap.size = w.heap.size + 1 + 1 := fun c c' => by simp
    have hb := ((Blk.new w #[.slice (some ⟨w.heap.size + 1, 0, none⟩) 32 32, .int .i64 (1 + n % 2), .slice (some ⟨w.heap.size + 1 + 1, 0, none⟩) 32 32] 33).alloc (.cells ((Array.replicate 32 (Value.int .u8 0)).setIfInBounds j (.int .u8 (n % 5))) 5)).alloc (.cells ((Array.replicate 32 (Value.int .u8 0)).setIfInBounds 31 (.int .u8 (n % 2))) 5)
    have hb1 := (Blk.new (w.alloc (.cells #[.slice (some ⟨w.heap.size + 1, 0, none⟩) 32 32, .int .i64 (1 + n % 2), .slice (some ⟨w.heap.size + 1 + 1, 0, none⟩) 32 32] 33)) ((Array.replicate 32 (Value.int .u8 0)).setIfInBounds j (.int .u8 (n % 5))) 5).alloc (.cells ((Array.replicate 32 (Value.int .u8 0)).setIfInBounds 31 (.int .u8 (n % 2))) 5)
    have hb2 := Blk.new ((w.alloc (.cells #[.slice (some ⟨w.heap.size + 1, 0, none⟩) 32 32, .int .i64 (1 + n % 2), .slice (some ⟨w.heap.size + 1 + 1, 0, none⟩) 32 32] 33)).alloc (.cells ((Array.replicate 32 (Value.int .u8 0)).setIfInBounds j (.int .u8 (n % 5))) 5)) ((Array.replicate 32 (Value.int .u8 0)).setIfInBounds 31 (.int .u8 (n % 2))) 5
    rw [hw0] at hb1
    rw [hw1] at hb2
    rw [set_u8s] at hb1 hb2
    have hi : (Tryz.prog.info? 33).map (·.size) = some 3 := by kernel_rfl
    refine bodyPost_ret (v := .agg #[.slice (some ⟨w.heap.size + 1, 0, none⟩) 32 32, .int .i64 (1 + n % 2), .slice (some ⟨w.heap.size + 1 + 1, 0, none⟩) 32 32]) ?_ ?_ ?_
    · exact results_cell_row rfl _ _ w.heap.size 33 _ (0, 0) _ rfl hb Tryz.underlying33 rfl hi
    · rfl
    refine ⟨.slice (some ⟨w.heap.size + 1, 0, none⟩) 32 32, .slice (some ⟨w.heap.size + 1 + 1, 0, none⟩) 32 32, ?_, ?_, ?_, (((Kp.refl [] w).alloc _).alloc _).alloc _⟩
    · unfold idT
      rw [if_neg HZ.out]
    · unfold idH
      rw [if_neg HZ.out, hj, Int.toNat_natCast]
      rw [set_u8s]
      exact byt_of_blk hb1 (by simp)
    · unfold idP
      rw [if_neg HZ.out]
      rw [set_u8s]
      exact byt_of_blk hb2 (by simp)
end Go.Proofs.YtfkaldaflnmfiaaGreatDoor
