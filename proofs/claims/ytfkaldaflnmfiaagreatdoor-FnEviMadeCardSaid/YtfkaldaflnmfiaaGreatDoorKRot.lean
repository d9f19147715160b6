/- Contract of the rotation of 32 bits, at the ten distances that the package's hash uses. -/
import Derived.Test.YtfkaldaflnmfiaaGreatDoorProg
import Derived.WalkKit
import Derived.WalkSpells
import Derived.WalkLawsBesides
import Derived.Deep.QuietTactic
namespace Go.Proofs.YtfkaldaflnmfiaaGreatDoor
set_option linter.unusedSimpArgs false
set_option linter.unusedVariables false
open Go.RowKit

/-- 32 bits turned to the left by k places; k below 0: to the right. -/
def rotL (k : Int) (a : Int) : Int := bits BinOp.or IntKind.u32 (IntKind.u32.wrap (a * 2 ^ (32 - (-k).toNat))) (a / 2 ^ (-k).toNat)

theorem u32_wrap_range (a : Int) : 0 ≤ IntKind.u32.wrap a ∧ IntKind.u32.wrap a ≤ 4294967295 := by
  simp only [IntKind.wrap, IntKind.bits, IntKind.signed]
  simp
  omega

theorem bits_u32_range (op : BinOp) (a b : Int) : 0 ≤ bits op IntKind.u32 a b ∧ bits op IntKind.u32 a b ≤ 4294967295 := by
  unfold bits
  split <;> exact u32_wrap_range _

theorem rotL_range (k : Int) (a : Int) : 0 ≤ rotL k a ∧ rotL k a ≤ 4294967295 := bits_u32_range _ _ _

theorem rot_17 (a : Int) (w : World) : Calls Tryz.prog 122 #[.int .u32 a, .int .i64 (-17)] w fun e w' => e = .returned (.int .u32 (rotL (-17) a)) ∧ w = w' := by
  have e1 : bits BinOp.and IntKind.u64 (IntKind.u64.wrap (-17)) 31 = 15 := by kernel_rfl
  have e2 : IntKind.u64.wrap (32 - 15) = 17 := by kernel_rfl
  go_enter Tryz.func122, Tryz.ntmps122
  go_wp2
  go_ret
  exact ⟨rfl, rfl⟩

theorem rot_19 (a : Int) (w : World) : Calls Tryz.prog 122 #[.int .u32 a, .int .i64 (-19)] w fun e w' => e = .returned (.int .u32 (rotL (-19) a)) ∧ w = w' := by
  have e1 : bits BinOp.and IntKind.u64 (IntKind.u64.wrap (-19)) 31 = 13 := by kernel_rfl
  have e2 : IntKind.u64.wrap (32 - 13) = 19 := by kernel_rfl
  go_enter Tryz.func122, Tryz.ntmps122
  go_wp2
  go_ret
  exact ⟨rfl, rfl⟩

theorem rot_7 (a : Int) (w : World) : Calls Tryz.prog 122 #[.int .u32 a, .int .i64 (-7)] w fun e w' => e = .returned (.int .u32 (rotL (-7) a)) ∧ w = w' := by
  have e1 : bits BinOp.and IntKind.u64 (IntKind.u64.wrap (-7)) 31 = 25 := by kernel_rfl
  have e2 : IntKind.u64.wrap (32 - 25) = 7 := by kernel_rfl
  go_enter Tryz.func122, Tryz.ntmps122
  go_wp2
  go_ret
  exact ⟨rfl, rfl⟩

theorem rot_18 (a : Int) (w : World) : Calls Tryz.prog 122 #[.int .u32 a, .int .i64 (-18)] w fun e w' => e = .returned (.int .u32 (rotL (-18) a)) ∧ w = w' := by
  have e1 : bits BinOp.and IntKind.u64 (IntKind.u64.wrap (-18)) 31 = 14 := by kernel_rfl
  have e2 : IntKind.u64.wrap (32 - 14) = 18 := by kernel_rfl
  go_enter Tryz.func122, Tryz.ntmps122
  go_wp2
  go_ret
  exact ⟨rfl, rfl⟩

theorem rot_6 (a : Int) (w : World) : Calls Tryz.prog 122 #[.int .u32 a, .int .i64 (-6)] w fun e w' => e = .returned (.int .u32 (rotL (-6) a)) ∧ w = w' := by
  have e1 : bits BinOp.and IntKind.u64 (IntKind.u64.wrap (-6)) 31 = 26 := by kernel_rfl
  have e2 : IntKind.u64.wrap (32 - 26) = 6 := by kernel_rfl
  go_enter Tryz.func122, Tryz.ntmps122
  go_wp2
  go_ret
  exact ⟨rfl, rfl⟩

theorem rot_11 (a : Int) (w : World) : Calls Tryz.prog 122 #[.int .u32 a, .int .i64 (-11)] w fun e w' => e = .returned (.int .u32 (rotL (-11) a)) ∧ w = w' := by
  have e1 : bits BinOp.and IntKind.u64 (IntKind.u64.wrap (-11)) 31 = 21 := by kernel_rfl
  have e2 : IntKind.u64.wrap (32 - 21) = 11 := by kernel_rfl
  go_enter Tryz.func122, Tryz.ntmps122
  go_wp2
  go_ret
  exact ⟨rfl, rfl⟩

theorem rot_25 (a : Int) (w : World) : Calls Tryz.prog 122 #[.int .u32 a, .int .i64 (-25)] w fun e w' => e = .returned (.int .u32 (rotL (-25) a)) ∧ w = w' := by
  have e1 : bits BinOp.and IntKind.u64 (IntKind.u64.wrap (-25)) 31 = 7 := by kernel_rfl
  have e2 : IntKind.u64.wrap (32 - 7) = 25 := by kernel_rfl
  go_enter Tryz.func122, Tryz.ntmps122
  go_wp2
  go_ret
  exact ⟨rfl, rfl⟩

theorem rot_2 (a : Int) (w : World) : Calls Tryz.prog 122 #[.int .u32 a, .int .i64 (-2)] w fun e w' => e = .returned (.int .u32 (rotL (-2) a)) ∧ w = w' := by
  have e1 : bits BinOp.and IntKind.u64 (IntKind.u64.wrap (-2)) 31 = 30 := by kernel_rfl
  have e2 : IntKind.u64.wrap (32 - 30) = 2 := by kernel_rfl
  go_enter Tryz.func122, Tryz.ntmps122
  go_wp2
  go_ret
  exact ⟨rfl, rfl⟩

theorem rot_13 (a : Int) (w : World) : Calls Tryz.prog 122 #[.int .u32 a, .int .i64 (-13)] w fun e w' => e = .returned (.int .u32 (rotL (-13) a)) ∧ w = w' := by
  have e1 : bits BinOp.and IntKind.u64 (IntKind.u64.wrap (-13)) 31 = 19 := by kernel_rfl
  have e2 : IntKind.u64.wrap (32 - 19) = 13 := by kernel_rfl
  go_enter Tryz.func122, Tryz.ntmps122
  go_wp2
  go_ret
  exact ⟨rfl, rfl⟩

theorem rot_22 (a : Int) (w : World) : Calls Tryz.prog 122 #[.int .u32 a, .int .i64 (-22)] w fun e w' => e = .returned (.int .u32 (rotL (-22) a)) ∧ w = w' := by
  have e1 : bits BinOp.and IntKind.u64 (IntKind.u64.wrap (-22)) 31 = 10 := by kernel_rfl
  have e2 : IntKind.u64.wrap (32 - 10) = 22 := by kernel_rfl
  go_enter Tryz.func122, Tryz.ntmps122
  go_wp2
  go_ret
  exact ⟨rfl, rfl⟩

/-- The distances at which the contract stands. -/
def rotAt (k : Int) : Prop := k = -17 ∨ k = -19 ∨ k = -7 ∨ k = -18 ∨ k = -6 ∨ k = -11 ∨ k = -25 ∨ k = -2 ∨ k = -13 ∨ k = -22

theorem rot_any (k : Int) (hk : rotAt k) (a : Int) (w : World) : Calls Tryz.prog 122 #[.int .u32 a, .int .i64 k] w fun e w' => e = .returned (.int .u32 (rotL k a)) ∧ w = w' := by
  rcases hk with rfl | rfl | rfl | rfl | rfl | rfl | rfl | rfl | rfl | rfl
  · exact rot_17 a w
  · exact rot_19 a w
  · exact rot_7 a w
  · exact rot_18 a w
  · exact rot_6 a w
  · exact rot_11 a w
  · exact rot_25 a w
  · exact rot_2 a w
  · exact rot_13 a w
  · exact rot_22 a w

theorem rot_quiet (k : Int) (hk : rotAt k) (a : Int) (w : World) (n : Nat) : Calls Tryz.prog 122 #[.int .u32 a, .int .i64 k] (w.drewN n) fun e w' => e = .returned (.int .u32 (rotL k a)) ∧ ∃ m, w' = w.drewN m :=
  Calls.quiet_of_same ((rot_any k hk a _).mono fun _ _ ⟨h, e⟩ => ⟨h, e.symm⟩)

end Go.Proofs.YtfkaldaflnmfiaaGreatDoor
