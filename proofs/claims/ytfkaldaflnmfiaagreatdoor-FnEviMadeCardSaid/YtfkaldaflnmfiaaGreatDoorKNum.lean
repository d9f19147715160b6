/- Contracts of the sums that stop at the ends of int64, within small bounds. -/
import Derived.WalkKit
import Derived.WalkSpells
import Derived.WalkLawsBesides
import Derived.Handy
import Derived.Lib.Hide
import Derived.IntWalk
import Derived.Test.YtfkaldaflnmfiaaGreatDoorKNat2
namespace Go.Proofs.YtfkaldaflnmfiaaGreatDoor
set_option linter.unusedSimpArgs false
set_option linter.unusedVariables false
open Go Go.RowKit

set_option maxRecDepth 100000 in
theorem safeAdd_any (a b : Int) (w : World) (ha : -1000000000 ≤ a ∧ a ≤ 1000000000) (hb : -1000000000 ≤ b ∧ b ≤ 1000000000) :
    Calls Tryz.prog 106 #[.int .i64 a, .int .i64 b] w fun e w' => e = .returned (.tuple #[.int .i64 (a + b), .bool false]) ∧ w = w' := by
  obtain ⟨a0, a1⟩ := ha
  obtain ⟨b0, b1⟩ := hb
  by_cases h1 : 0 < b
  · have h2 : ¬ b < 0 := by omega
    go_enter Tryz.func106, Tryz.ntmps106
    go_wp2
    go_ret2
    exact ⟨rfl, rfl⟩
  · by_cases h2 : b < 0
    · go_enter Tryz.func106, Tryz.ntmps106
      go_wp2
      go_ret2
      exact ⟨rfl, rfl⟩
    · go_enter Tryz.func106, Tryz.ntmps106
      go_wp2
      go_ret2
      exact ⟨rfl, rfl⟩

set_option maxRecDepth 100000 in
theorem safeAddClip_any (a b : Int) (w : World) (ha : -1000000000 ≤ a ∧ a ≤ 1000000000) (hb : -1000000000 ≤ b ∧ b ≤ 1000000000) :
    Calls Tryz.prog 92 #[.int .i64 a, .int .i64 b] w fun e w' => e = .returned (.int .i64 (a + b)) ∧ w = w' := by
  have H := Lib.hid (safeAdd_any a b w ha hb)
  clear ha hb
  go_enter Tryz.func92, Tryz.ntmps92
  go_wp2_with (go_at_call 106; refine H.out.mono ?_; rintro e w' ⟨rfl, rfl⟩)
  go_ret
  exact ⟨rfl, rfl⟩

set_option maxRecDepth 100000 in
theorem safeSub_any (a b : Int) (w : World) (ha : -1000000000 ≤ a ∧ a ≤ 1000000000) (hb : -1000000000 ≤ b ∧ b ≤ 1000000000) :
    Calls Tryz.prog 113 #[.int .i64 a, .int .i64 b] w fun e w' => e = .returned (.tuple #[.int .i64 (a - b), .bool false]) ∧ w = w' := by
  obtain ⟨a0, a1⟩ := ha
  obtain ⟨b0, b1⟩ := hb
  by_cases h1 : 0 < b
  · have h2 : ¬ b < 0 := by omega
    go_enter Tryz.func113, Tryz.ntmps113
    go_wp2
    go_ret2
    exact ⟨rfl, rfl⟩
  · by_cases h2 : b < 0
    · go_enter Tryz.func113, Tryz.ntmps113
      go_wp2
      go_ret2
      exact ⟨rfl, rfl⟩
    · go_enter Tryz.func113, Tryz.ntmps113
      go_wp2
      go_ret2
      exact ⟨rfl, rfl⟩

set_option maxRecDepth 100000 in
theorem safeSubClip_any (a b : Int) (w : World) (ha : -1000000000 ≤ a ∧ a ≤ 1000000000) (hb : -1000000000 ≤ b ∧ b ≤ 1000000000) :
    Calls Tryz.prog 101 #[.int .i64 a, .int .i64 b] w fun e w' => e = .returned (.int .i64 (a - b)) ∧ w = w' := by
  have H := Lib.hid (safeSub_any a b w ha hb)
  clear ha hb
  go_enter Tryz.func101, Tryz.ntmps101
  go_wp2_with (go_at_call 113; refine H.out.mono ?_; rintro e w' ⟨rfl, rfl⟩)
  go_ret
  exact ⟨rfl, rfl⟩
end Go.Proofs.YtfkaldaflnmfiaaGreatDoor
