import Derived.Test.YtibpoiifebabnaaTmWalks
import Derived.WalkKit
import Derived.Test.YtibpoiifebabnaaTmKit
import Derived.WalkSpells
import Derived.Lib.Hide
import Derived.Laws.StructEq
import Derived.ChangeKeysEq
import Derived.WalkLawsBesides
import Derived.Below
import Derived.Handy
import Derived.Deep.QuietTactic
import Derived.BigQuiet
namespace Go.Proofs.Ytibpoiifebabnaa
open Go.RowKit
theorem tmEq (x y z : Int) (w : World) : (Op.equalIn 10000 29 (.agg #[.int .i64 x, .int .i64 y, .int .i64 z]) (.agg #[.int .i64 x, .int .i64 y, .int .i64 z])).run Try.prog w = .ok true w := by
  have h : ∀ a : Int, ∀ w, (Op.equalIn 9999 2 (.int .i64 a) (.int .i64 a)).run Try.prog w = .ok true w := fun a w => by
    rw [run_equalIn_int w 9998 2 .i64 .i64 a a Try.underlying2]; simp
  cases hi : Try.prog.info? 2 with
  | none => exact absurd (show (Try.prog.info? 2).isSome = true by kernel_rfl) (by rw [hi]; decide)
  | some i =>
    have hs : (Try.prog.info? 2).map (·.size) = some 1 := by kernel_rfl
    rw [hi] at hs
    have hs1 : i.size = 1 := by simpa using hs
    rw [show (10000 : Nat) = 9999 + 1 by rfl, run_equalIn_array w 9999 _ _ Try.underlying29 hi]
    have hp : ∀ (x y z : Int) (k : Nat), k < 3 → ∀ w, ∃ a, (part 2 #[.int .i64 x, .int .i64 y, .int .i64 z] (k * Try.prog.cellsOf 2)).run Try.prog w = .ok (.int .i64 a) w := by
      intro x y z k hk w
      have hk' : k = 0 ∨ k = 1 ∨ k = 2 := by omega
      rcases hk' with rfl | rfl | rfl
      · exact ⟨x, by kernel_rfl⟩
      · exact ⟨y, by kernel_rfl⟩
      · exact ⟨z, by kernel_rfl⟩
    have hl : List.range 3 = [0, 1, 2] := by decide
    rw [hl]
    obtain ⟨a0, e0⟩ := hp x y z 0 (by omega) w
    obtain ⟨a1, e1⟩ := hp x y z 1 (by omega) w
    obtain ⟨a2, e2⟩ := hp x y z 2 (by omega) w
    simp only [Op.eqItems, Sem.run_bind, e0, e1, e2, h, Result.andThen_ok, Bool.not_true, Bool.false_eq_true, if_false, Sem.run_pure]

theorem tmOne (w : World) :
    Calls Try.prog 5 #[tmConfig ⟨#[116]⟩ 1 2 3 4 5 6 7, .int .i64 1] w fun e w' => e = .returned (.agg #[.int .i64 3, .int .i64 7, .int .i64 11]) ∧ Below w.heap.size w w' := by
  have h := tmAll ⟨#[116]⟩ 1 2 3 4 5 6 7 1 w
  rw [show tmOf 1 2 (wrap32 1) = 3 by kernel_rfl, show tmOf 3 4 (wrap32 1) = 7 by kernel_rfl, show tmOf 5 6 (wrap32 1) = 11 by kernel_rfl] at h
  exact h

theorem tmOf_range (a b r : Int) (h0 : 0 ≤ r) (h1 : r ≤ 10000) : tmOf a b (wrap32 r) = wrap64 (a + wrap64 (r * b)) := by
  have e : wrap64 (wrap32 r) = r := by unfold wrap64 wrap32; omega
  unfold tmOf
  rw [e, Int.mul_comm]

theorem tmTwo (n0 n1 n2 n3 n4 n5 n6 r : Int) (h0 : 0 ≤ r) (h1 : r ≤ 10000) (w : World) :
    Calls Try.prog 5 #[tmConfig ⟨#[116]⟩ n0 n1 n2 n3 n4 n5 n6, .int .i64 r] w fun e w' => e = .returned (.agg #[.int .i64 (wrap64 (n0 + wrap64 (r * n1))), .int .i64 (wrap64 (n2 + wrap64 (r * n3))), .int .i64 (wrap64 (n4 + wrap64 (r * n5)))]) ∧ Below w.heap.size w w' := by
  have h := tmAll ⟨#[116]⟩ n0 n1 n2 n3 n4 n5 n6 r w
  rw [tmOf_range n0 n1 r h0 h1, tmOf_range n2 n3 r h0 h1, tmOf_range n4 n5 r h0 h1] at h
  exact h

set_option maxRecDepth 100000 in
theorem tmLaw (n0 n1 n2 n3 n4 n5 n6 : Int) (r : Int) (w : World) :
    Calls Try.prog 3 #[tmSeven n0 n1 n2 n3 n4 n5 n6, .int .i64 r] w fun e w' => e = .returned (.bool true) ∧ Below w.heap.size w w' := by
  unfold tmSeven
  go_enter Try.func3, Try.ntmps3
  go_wp2
  go_loop [12] (fun i => ∃ k : Nat, k ≤ 7 ∧ i = .int .i64 k ∧ tmUpTo n0 n1 n2 n3 n4 n5 n6 k) (fun i => 7 - (intOf i).toNat)
  case atStart => exact ⟨0, by omega, rfl, fun j h => by omega⟩
  case round =>
    obtain ⟨k, hk, rfl, hall⟩ := hrel
    by_cases hlt : k < 7
    · have hidx := tmIndex n0 n1 n2 n3 n4 n5 n6 k hlt
      by_cases hneg : tmNth n0 n1 n2 n3 n4 n5 n6 k < 0
      · go_wp2
        go_ret
        exact ⟨rfl, (Below.refl _ _).alloc (Nat.le_refl _) _⟩
      · by_cases hbig : 1099511627776 < tmNth n0 n1 n2 n3 n4 n5 n6 k
        · go_wp2
          go_ret
          exact ⟨rfl, (Below.refl _ _).alloc (Nat.le_refl _) _⟩
        · go_wp2
          go_round
          case rel => exact ⟨k + 1, by omega, by go_num, fun j hj => by
            by_cases e : j = k
            · subst e; omega
            · exact hall j (by omega)⟩
          case measure => simp [intOf]; omega
    · obtain rfl : k = 7 := by omega
      have b0 := hall 0 (by omega)
      have b1 := hall 1 (by omega)
      have b2 := hall 2 (by omega)
      have b3 := hall 3 (by omega)
      have b4 := hall 4 (by omega)
      have b5 := hall 5 (by omega)
      simp only [tmNth] at b0 b1 b2 b3 b4 b5
      clear hall
      by_cases hneg : r < 0
      · go_wp2
        go_ret
        exact ⟨rfl, (Below.refl _ _).alloc (Nat.le_refl _) _⟩
      · by_cases hbig : 10000 < r
        · go_wp2
          go_ret
          exact ⟨rfl, (Below.refl _ _).alloc (Nat.le_refl _) _⟩
        · go_wp2_with (first | (refine kit_build rfl 28 _ rfl (some 29) rfl #[.string ⟨#[116]⟩, .slice none 0 0, .int .i64 0, .int .i64 1, .int .i64 0, .int .i64 0, .int .i64 0, .int .i64 0, .int .i64 (-1), .int .i64 n0, .int .i64 n1, .int .i64 n2, .int .i64 n3, .int .i64 n4, .int .i64 n5, .int .i64 n6, .bool false, .slice none 0 0, .slice none 0 0, .slice none 0 0] ?_ ?_; · kernel_rfl) | (refine kit_build rfl 28 _ rfl (some 31) rfl #[.string ⟨#[116]⟩, .slice none 0 0, .int .i64 0, .int .i64 1, .int .i64 0, .int .i64 0, .int .i64 0, .int .i64 0, .int .i64 (-1), .int .i64 1, .int .i64 2, .int .i64 3, .int .i64 4, .int .i64 5, .int .i64 6, .int .i64 7, .bool false, .slice none 0 0, .slice none 0 0, .slice none 0 0] ?_ ?_; · kernel_rfl) | (refine kit_store_last rfl 28 _ _ rfl rfl _ #[.string ⟨#[116]⟩, .slice none 0 0, .int .i64 0, .int .i64 1, .int .i64 0, .int .i64 0, .int .i64 0, .int .i64 0, .int .i64 (-1), .int .i64 n0, .int .i64 n1, .int .i64 n2, .int .i64 n3, .int .i64 n4, .int .i64 n5, .int .i64 n6, .bool false, .slice none 0 0, .slice none 0 0, .slice none 0 0] _ rfl rfl ?_ ?_ ?_ ?_ ?_; (· simp); (· kernel_rfl); (· kernel_rfl); (· kernel_rfl)))
          refine (tmOne _).mono ?_
          rintro e w1 ⟨rfl, hb1⟩
          have hc1 : Hid (w1.heap[w.heap.size + 1]? = some (.cells #[.string ⟨#[116]⟩, .slice none 0 0, .int .i64 0, .int .i64 1, .int .i64 0, .int .i64 0, .int .i64 0, .int .i64 0, .int .i64 (-1), .int .i64 n0, .int .i64 n1, .int .i64 n2, .int .i64 n3, .int .i64 n4, .int .i64 n5, .int .i64 n6, .bool false, .slice none 0 0, .slice none 0 0, .slice none 0 0] 28 (0, 0))) := Lib.hid (heap_below (by simpa using heap_alloc_last (w.alloc _) _) hb1)
          have hs1 : w.heap.size + 2 ≤ w1.heap.size := by have := hb1.size; simp at this; omega
          go_wp2_with (first | (refine kit_load rfl 28 _ rfl (some 33) rfl _ rfl #[.string ⟨#[116]⟩, .slice none 0 0, .int .i64 0, .int .i64 1, .int .i64 0, .int .i64 0, .int .i64 0, .int .i64 0, .int .i64 (-1), .int .i64 n0, .int .i64 n1, .int .i64 n2, .int .i64 n3, .int .i64 n4, .int .i64 n5, .int .i64 n6, .bool false, .slice none 0 0, .slice none 0 0, .slice none 0 0] ?_ _ Try.underlying28 rfl ?_ ?_; (· exact heap_old (Hid.out hc1) _); (· kernel_rfl)))
          refine (tmTwo n0 n1 n2 n3 n4 n5 n6 r (by omega) (by omega) _).mono ?_
          rintro e w2 ⟨rfl, hb2⟩
          have hn2 : w2.heap[w.heap.size]? = some (.cells #[.int .i64 n0, .int .i64 n1, .int .i64 n2, .int .i64 n3, .int .i64 n4, .int .i64 n5, .int .i64 n6] 22 (0, 0)) := heap_below (heap_old (heap_below (heap_old (heap_alloc_last w _) _) hb1) _) hb2
          have ht2 : w2.heap[w1.heap.size]? = some (.cells #[.int .i64 3, .int .i64 7, .int .i64 11] 29 (0, 0)) := heap_below (heap_alloc_last w1 _) hb2
          have k0 : w2.cell? ⟨w.heap.size, 0, none⟩ = some (.int .i64 n0) := cell_of_row _ _ 0 _ _ _ hn2
          have k1 : w2.cell? ⟨w.heap.size, 1, none⟩ = some (.int .i64 n1) := cell_of_row _ _ 1 _ _ _ hn2
          have k2 : w2.cell? ⟨w.heap.size, 2, none⟩ = some (.int .i64 n2) := cell_of_row _ _ 2 _ _ _ hn2
          have k3 : w2.cell? ⟨w.heap.size, 3, none⟩ = some (.int .i64 n3) := cell_of_row _ _ 3 _ _ _ hn2
          have k4 : w2.cell? ⟨w.heap.size, 4, none⟩ = some (.int .i64 n4) := cell_of_row _ _ 4 _ _ _ hn2
          have k5 : w2.cell? ⟨w.heap.size, 5, none⟩ = some (.int .i64 n5) := cell_of_row _ _ 5 _ _ _ hn2
          have q0 : w2.cell? ⟨w1.heap.size, 0, none⟩ = some (.int .i64 3) := cell_of_row _ _ 0 _ _ _ ht2
          have q1 : w2.cell? ⟨w1.heap.size, 1, none⟩ = some (.int .i64 7) := cell_of_row _ _ 1 _ _ _ ht2
          have q2 : w2.cell? ⟨w1.heap.size, 2, none⟩ = some (.int .i64 11) := cell_of_row _ _ 2 _ _ _ ht2
          have hs2 : w1.heap.size < w2.heap.size := by have := hb2.size; simp at this; omega
          have hs3 : w.heap.size < w2.heap.size := by omega
          have hbel : Below w.heap.size w w2 := ((((Below.refl _ _).alloc (Nat.le_refl _) _).alloc (by simp) _).trans (hb1.mono (by simp; omega))).alloc (by omega) _ |>.trans (hb2.mono (by simp; omega))
          have HH := Lib.hid hbel
          clear hbel hn2 ht2 hc1
          have keq := tmEq
          go_wp2
          go_ret
          exact ⟨rfl, HH.out.alloc (by omega) _⟩

end Go.Proofs.Ytibpoiifebabnaa
