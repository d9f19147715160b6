/- How the durations of the timeouts are worked out: contracts of the functions below the law. -/
import Derived.Test.YtibpoiifebabnaaProg
import Derived.WalkKit
import Derived.WalkSpells
import Derived.WalkLawsBesides
import Derived.Below
import Derived.Handy
import Derived.Deep.QuietTactic
import Derived.BigQuiet
namespace Go.Proofs.Ytibpoiifebabnaa
open Go.RowKit

/-- What one timeout comes to. -/
def tmOf (a b r : Int) : Int := wrap64 (a + wrap64 (b * wrap64 r))

theorem tmTime (a b r : Int) (w : World) : Calls Try.prog 11 #[.int .i64 a, .int .i64 b, .int .i32 r] w fun e w' => e = .returned (.int .i64 (tmOf a b r)) ∧ w = w' := by
  go_enter Try.func11, Try.ntmps11
  go_wp2
  go_ret
  exact ⟨rfl, rfl⟩

theorem tmPropose (g : Nat) (a b : Int) (r : Int) (w : World) (h0 : w.cell? ⟨g, 0, none⟩ = some (.int .i64 a)) (h1 : w.cell? ⟨g, 1, none⟩ = some (.int .i64 b)) :
    Calls Try.prog 7 #[.pointer (some ⟨g, 0, none⟩), .int .i32 r] w fun e w' => e = .returned (.int .i64 (tmOf a b r)) ∧ ∃ n, w' = w.drewN n := by
  go_enter Try.func7, Try.ntmps7
  go_wp2
  go_quiet ((go_at_call 11; exact Calls.quiet_of_same ((tmTime _ _ _ _).mono fun _ _ ⟨h, k⟩ => ⟨h, k.symm⟩)))
  go_wp2
  go_ret
  exact ⟨rfl, _, rfl⟩

theorem tmPrevote (g : Nat) (a b : Int) (r : Int) (w : World) (h0 : w.cell? ⟨g, 2, none⟩ = some (.int .i64 a)) (h1 : w.cell? ⟨g, 3, none⟩ = some (.int .i64 b)) :
    Calls Try.prog 8 #[.pointer (some ⟨g, 0, none⟩), .int .i32 r] w fun e w' => e = .returned (.int .i64 (tmOf a b r)) ∧ ∃ n, w' = w.drewN n := by
  go_enter Try.func8, Try.ntmps8
  go_wp2
  go_quiet ((go_at_call 11; exact Calls.quiet_of_same ((tmTime _ _ _ _).mono fun _ _ ⟨h, k⟩ => ⟨h, k.symm⟩)))
  go_wp2
  go_ret
  exact ⟨rfl, _, rfl⟩

theorem tmPrecommit (g : Nat) (a b : Int) (r : Int) (w : World) (h0 : w.cell? ⟨g, 4, none⟩ = some (.int .i64 a)) (h1 : w.cell? ⟨g, 5, none⟩ = some (.int .i64 b)) :
    Calls Try.prog 9 #[.pointer (some ⟨g, 0, none⟩), .int .i32 r] w fun e w' => e = .returned (.int .i64 (tmOf a b r)) ∧ ∃ n, w' = w.drewN n := by
  go_enter Try.func9, Try.ntmps9
  go_wp2
  go_quiet ((go_at_call 11; exact Calls.quiet_of_same ((tmTime _ _ _ _).mono fun _ _ ⟨h, k⟩ => ⟨h, k.symm⟩)))
  go_wp2
  go_ret
  exact ⟨rfl, _, rfl⟩

/-- The configuration that the law makes. -/
def tmConfig (s : ByteArray) (n0 n1 n2 n3 n4 n5 n6 : Int) : Value :=
  .agg #[.string s, .slice none 0 0, .int .i64 0, .int .i64 1, .int .i64 0, .int .i64 0, .int .i64 0, .int .i64 0, .int .i64 (-1), .int .i64 n0, .int .i64 n1, .int .i64 n2, .int .i64 n3, .int .i64 n4, .int .i64 n5, .int .i64 n6, .bool false, .slice none 0 0, .slice none 0 0, .slice none 0 0]

set_option maxRecDepth 100000 in
theorem tmAll (s : ByteArray) (n0 n1 n2 n3 n4 n5 n6 : Int) (r : Int) (w : World) :
    Calls Try.prog 5 #[tmConfig s n0 n1 n2 n3 n4 n5 n6, .int .i64 r] w fun e w' => e = .returned (.agg #[.int .i64 (tmOf n0 n1 (wrap32 r)), .int .i64 (tmOf n2 n3 (wrap32 r)), .int .i64 (tmOf n4 n5 (wrap32 r))]) ∧ Below w.heap.size w w' := by
  unfold tmConfig
  go_enter Try.func5, Try.ntmps5
  go_wp2_with fail
  refine (tmPropose _ n0 n1 _ _ ?_ ?_).mono ?_
  · go_simp
  · go_simp
  rintro e w' ⟨rfl, n, rfl⟩
  go_wp2_with fail
  refine (tmPrevote _ n2 n3 _ _ ?_ ?_).mono ?_
  · go_simp
  · go_simp
  rintro e w' ⟨rfl, n, rfl⟩
  go_wp2_with fail
  refine (tmPrecommit _ n4 n5 _ _ ?_ ?_).mono ?_
  · go_simp
  · go_simp
  rintro e w' ⟨rfl, n, rfl⟩
  go_wp2
  go_returns
  refine ⟨rfl, ?_⟩
  go_grown
  exact below_drewN ((((Below.refl _ _).alloc (Nat.le_refl _) _).alloc (by simp) _).alloc (by simp; omega) _) _

/-- The seven numbers as an array of the program's. -/
def tmSeven (n0 n1 n2 n3 n4 n5 n6 : Int) : Value := .agg #[.int .i64 n0, .int .i64 n1, .int .i64 n2, .int .i64 n3, .int .i64 n4, .int .i64 n5, .int .i64 n6]

/-- The k-th of seven numbers. -/
def tmNth (n0 n1 n2 n3 n4 n5 n6 : Int) : Nat → Int
  | 0 => n0
  | 1 => n1
  | 2 => n2
  | 3 => n3
  | 4 => n4
  | 5 => n5
  | _ => n6

theorem tmIndex0 (n0 n1 n2 n3 n4 n5 n6 : Int) (w : World) : (Instr.index 22 (.agg #[.int .i64 n0, .int .i64 n1, .int .i64 n2, .int .i64 n3, .int .i64 n4, .int .i64 n5, .int .i64 n6]) (.int .i64 0)).run Try.prog w = .ok (.int .i64 n0) w := by kernel_rfl
theorem tmIndex1 (n0 n1 n2 n3 n4 n5 n6 : Int) (w : World) : (Instr.index 22 (.agg #[.int .i64 n0, .int .i64 n1, .int .i64 n2, .int .i64 n3, .int .i64 n4, .int .i64 n5, .int .i64 n6]) (.int .i64 1)).run Try.prog w = .ok (.int .i64 n1) w := by kernel_rfl
theorem tmIndex2 (n0 n1 n2 n3 n4 n5 n6 : Int) (w : World) : (Instr.index 22 (.agg #[.int .i64 n0, .int .i64 n1, .int .i64 n2, .int .i64 n3, .int .i64 n4, .int .i64 n5, .int .i64 n6]) (.int .i64 2)).run Try.prog w = .ok (.int .i64 n2) w := by kernel_rfl
theorem tmIndex3 (n0 n1 n2 n3 n4 n5 n6 : Int) (w : World) : (Instr.index 22 (.agg #[.int .i64 n0, .int .i64 n1, .int .i64 n2, .int .i64 n3, .int .i64 n4, .int .i64 n5, .int .i64 n6]) (.int .i64 3)).run Try.prog w = .ok (.int .i64 n3) w := by kernel_rfl
theorem tmIndex4 (n0 n1 n2 n3 n4 n5 n6 : Int) (w : World) : (Instr.index 22 (.agg #[.int .i64 n0, .int .i64 n1, .int .i64 n2, .int .i64 n3, .int .i64 n4, .int .i64 n5, .int .i64 n6]) (.int .i64 4)).run Try.prog w = .ok (.int .i64 n4) w := by kernel_rfl
theorem tmIndex5 (n0 n1 n2 n3 n4 n5 n6 : Int) (w : World) : (Instr.index 22 (.agg #[.int .i64 n0, .int .i64 n1, .int .i64 n2, .int .i64 n3, .int .i64 n4, .int .i64 n5, .int .i64 n6]) (.int .i64 5)).run Try.prog w = .ok (.int .i64 n5) w := by kernel_rfl
theorem tmIndex6 (n0 n1 n2 n3 n4 n5 n6 : Int) (w : World) : (Instr.index 22 (.agg #[.int .i64 n0, .int .i64 n1, .int .i64 n2, .int .i64 n3, .int .i64 n4, .int .i64 n5, .int .i64 n6]) (.int .i64 6)).run Try.prog w = .ok (.int .i64 n6) w := by kernel_rfl

theorem tmIndex (n0 n1 n2 n3 n4 n5 n6 : Int) (k : Nat) (hk : k < 7) (w : World) :
    (Instr.index 22 (.agg #[.int .i64 n0, .int .i64 n1, .int .i64 n2, .int .i64 n3, .int .i64 n4, .int .i64 n5, .int .i64 n6]) (.int .i64 (k : Int))).run Try.prog w = .ok (.int .i64 (tmNth n0 n1 n2 n3 n4 n5 n6 k)) w := by
  have h : k = 0 ∨ k = 1 ∨ k = 2 ∨ k = 3 ∨ k = 4 ∨ k = 5 ∨ k = 6 := by omega
  rcases h with rfl | rfl | rfl | rfl | rfl | rfl | rfl
  · exact tmIndex0 n0 n1 n2 n3 n4 n5 n6 w
  · exact tmIndex1 n0 n1 n2 n3 n4 n5 n6 w
  · exact tmIndex2 n0 n1 n2 n3 n4 n5 n6 w
  · exact tmIndex3 n0 n1 n2 n3 n4 n5 n6 w
  · exact tmIndex4 n0 n1 n2 n3 n4 n5 n6 w
  · exact tmIndex5 n0 n1 n2 n3 n4 n5 n6 w
  · exact tmIndex6 n0 n1 n2 n3 n4 n5 n6 w

/-- The first k numbers lie in the range that the law speaks of. -/
def tmUpTo (n0 n1 n2 n3 n4 n5 n6 : Int) (k : Nat) : Prop := ∀ j, j < k → 0 ≤ tmNth n0 n1 n2 n3 n4 n5 n6 j ∧ tmNth n0 n1 n2 n3 n4 n5 n6 j ≤ 1099511627776


end Go.Proofs.Ytibpoiifebabnaa
