/- The law of comparing heights, rounds and steps answers true at every input of its parameters' kinds. Conditions: none. -/
import Derived.Test.YtibpoiifebabnaaPFnTimOrderx1
namespace Go.Proofs.Ytibpoiifebabnaa.Pure
open Go.RowKit Go.Proofs.Ytibpoiifebabnaa.PFnTimOrder Go.Proofs.YtibpoiifebabnaaW.PrintWords Go.Proofs.YtibpoiifebabnaaW.PrintLast

theorem order_b32 {a : Int} (h : (Lit.int .i32 a).wf = true) : -2147483648 ≤ a ∧ a ≤ 2147483647 := by
  simpa [Lit.wf, IntKind.min, IntKind.max, IntKind.bits, IntKind.signed] using h

theorem order_b8 {a : Int} (h : (Lit.int .u8 a).wf = true) : 0 ≤ a ∧ a ≤ 255 := by
  simpa [Lit.wf, IntKind.min, IntKind.max, IntKind.bits, IntKind.signed] using h

theorem order_i32 {a : Int} (h : (Lit.int .i32 a).wf = true) : wrap64 a = a ∧ wrap32 a = a := by
  have b := order_b32 h
  unfold wrap64 wrap32
  omega

theorem order_u8 {a : Int} (h : (Lit.int .u8 a).wf = true) : wrap64 a = a ∧ a % 256 = a := by
  have b := order_b8 h
  unfold wrap64
  omega

theorem order_one : impl_CompareHRS.f 1 0 1 2 0 1 = some (-1) := by decide

theorem FnTimOrder : laws_FnTimOrder.Pure := by
  intro a0 a1 a2 a3 a4 a5 _ h1 h2 _ h4 h5
  obtain ⟨e1, f1⟩ := order_i32 h1
  obtain ⟨e4, f4⟩ := order_i32 h4
  obtain ⟨e2, f2⟩ := order_u8 h2
  obtain ⟨e5, f5⟩ := order_u8 h5
  unfold laws_FnTimOrder.f
  rw [e1, e2, e4, e5, order_one]
  unfold impl_CompareHRS.f consensus_CompareHRS.f
  rw [f1, f2, f4, f5]
  by_cases c0 : a0 = a3
  · subst c0
    by_cases c1 : a1 = a4
    · subst c1
      by_cases c2 : a2 = a5
      · subst c2; simp
      · by_cases d2 : a2 < a5
        · simp [c2, d2]
        · have d3 : a5 < a2 := by omega
          simp [c2, d2, d3]
    · by_cases d1 : a1 < a4
      · simp [c1, d1]
      · have d3 : a4 < a1 := by omega
        simp [c1, d1, d3]
  · by_cases d0 : a0 < a3
    · simp [c0, d0]
    · have d3 : a3 < a0 := by omega
      simp [c0, d0, d3]

end Go.Proofs.Ytibpoiifebabnaa.Pure
