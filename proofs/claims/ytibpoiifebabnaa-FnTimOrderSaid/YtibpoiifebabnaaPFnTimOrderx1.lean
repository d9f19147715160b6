-- PRINTED BY print.sh 35421559b90ae4d0a3588c463048766b98c2df88dd9212a6774a882060cdf62d: not written by this session
import Derived.Test.YtibpoiifebabnaaPFnTimOrderx0
namespace Go.Proofs.Ytibpoiifebabnaa.PFnTimOrder
open Go.RowKit Go.Proofs.YtibpoiifebabnaaW.PrintWords Go.Proofs.YtibpoiifebabnaaW.PrintLast Go.Proofs.YtibpoiifebabnaaW.PrintMore
attribute [local go_sem] max2_int min2_int max_two min_two max_three min_three max_four min_four   -- for this text's walks alone
set_option linter.unusedVariables false
set_option linter.unusedSimpArgs false

/-! ### consensus_CompareHRS: function 10 -/
def consensus_CompareHRS.f (a0 : Int) (a1 : Int) (a2 : Int) (a3 : Int) (a4 : Int) (a5 : Int) : Option (Int) := if a0 < a3 then (some (-1)) else (if a0 > a3 then (some 1) else (if a1 < a4 then (some (-1)) else (if a1 > a4 then (some 1) else (if a2 < a5 then (some (-1)) else (if a2 > a5 then (some 1) else (some 0))))))
set_option maxHeartbeats 8000000 in
set_option maxRecDepth 100000 in
theorem consensus_CompareHRS.calls (a0 : Int) (a1 : Int) (a2 : Int) (a3 : Int) (a4 : Int) (a5 : Int) (r : Int) (w : World) (h : consensus_CompareHRS.f a0 a1 a2 a3 a4 a5 = some r) :
    Calls Try.prog 10 #[.int .i64 a0, .int .i32 a1, .int .u8 a2, .int .i64 a3, .int .i32 a4, .int .u8 a5] w fun e w' => e = .returned (.int .i64 r) ∧ Drawn0 w w' := by
  have H : (if a0 < a3 then (some (-1)) else (if a0 > a3 then (some 1) else (if a1 < a4 then (some (-1)) else (if a1 > a4 then (some 1) else (if a2 < a5 then (some (-1)) else (if a2 > a5 then (some 1) else (some 0))))))) = some r := h
  clear h
  by_cases c7 : a0 < a3
  · rw [if_pos c7] at H
    have c7b0 : decide (a0 < a3) = true := decide_eq_true c7
    clear c7
    obtain rfl := Option.some.inj H
    go_enter Try.func10, Try.ntmps10
    go_wp2
    go_ret
    exact ⟨by first | rfl | (simp; done) | (simp [*]; done), by repeat (first | exact Drawn0.refl _ | apply Drawn0.step)⟩
  · rw [if_neg c7] at H
    have c7b0 : decide (a0 < a3) = false := decide_eq_false c7
    clear c7
    by_cases c8 : a0 > a3
    · rw [if_pos c8] at H
      have c8b0 : decide (a3 < a0) = true := decide_eq_true c8
      clear c8
      obtain rfl := Option.some.inj H
      go_enter Try.func10, Try.ntmps10
      go_wp2
      go_ret
      exact ⟨by first | rfl | (simp; done) | (simp [*]; done), by repeat (first | exact Drawn0.refl _ | apply Drawn0.step)⟩
    · rw [if_neg c8] at H
      have c8b0 : decide (a3 < a0) = false := decide_eq_false c8
      clear c8
      by_cases c9 : a1 < a4
      · rw [if_pos c9] at H
        have c9b0 : decide (a1 < a4) = true := decide_eq_true c9
        clear c9
        obtain rfl := Option.some.inj H
        go_enter Try.func10, Try.ntmps10
        go_wp2
        go_ret
        exact ⟨by first | rfl | (simp; done) | (simp [*]; done), by repeat (first | exact Drawn0.refl _ | apply Drawn0.step)⟩
      · rw [if_neg c9] at H
        have c9b0 : decide (a1 < a4) = false := decide_eq_false c9
        clear c9
        by_cases c10 : a1 > a4
        · rw [if_pos c10] at H
          have c10b0 : decide (a4 < a1) = true := decide_eq_true c10
          clear c10
          obtain rfl := Option.some.inj H
          go_enter Try.func10, Try.ntmps10
          go_wp2
          go_ret
          exact ⟨by first | rfl | (simp; done) | (simp [*]; done), by repeat (first | exact Drawn0.refl _ | apply Drawn0.step)⟩
        · rw [if_neg c10] at H
          have c10b0 : decide (a4 < a1) = false := decide_eq_false c10
          clear c10
          by_cases c11 : a2 < a5
          · rw [if_pos c11] at H
            have c11b0 : decide (a2 < a5) = true := decide_eq_true c11
            clear c11
            obtain rfl := Option.some.inj H
            go_enter Try.func10, Try.ntmps10
            go_wp2
            go_ret
            exact ⟨by first | rfl | (simp; done) | (simp [*]; done), by repeat (first | exact Drawn0.refl _ | apply Drawn0.step)⟩
          · rw [if_neg c11] at H
            have c11b0 : decide (a2 < a5) = false := decide_eq_false c11
            clear c11
            by_cases c12 : a2 > a5
            · rw [if_pos c12] at H
              have c12b0 : decide (a5 < a2) = true := decide_eq_true c12
              clear c12
              obtain rfl := Option.some.inj H
              go_enter Try.func10, Try.ntmps10
              go_wp2
              go_ret
              exact ⟨by first | rfl | (simp; done) | (simp [*]; done), by repeat (first | exact Drawn0.refl _ | apply Drawn0.step)⟩
            · rw [if_neg c12] at H
              have c12b0 : decide (a5 < a2) = false := decide_eq_false c12
              clear c12
              obtain rfl := Option.some.inj H
              go_enter Try.func10, Try.ntmps10
              go_wp2
              go_ret
              exact ⟨by first | rfl | (simp; done) | (simp [*]; done), by repeat (first | exact Drawn0.refl _ | apply Drawn0.step)⟩

/-! ### impl_CompareHRS: function 6 -/
def impl_CompareHRS.f (a0 : Int) (a1 : Int) (a2 : Int) (a3 : Int) (a4 : Int) (a5 : Int) : Option (Int) := (consensus_CompareHRS.f a0 (wrap32 (a1)) ((a2) % 256) a3 (wrap32 (a4)) ((a5) % 256)).bind fun t101 => (some t101)
set_option maxHeartbeats 8000000 in
set_option maxRecDepth 100000 in
theorem impl_CompareHRS.calls (a0 : Int) (a1 : Int) (a2 : Int) (a3 : Int) (a4 : Int) (a5 : Int) (r : Int) (w : World) (h : impl_CompareHRS.f a0 a1 a2 a3 a4 a5 = some r) :
    Calls Try.prog 6 #[.int .i64 a0, .int .i64 a1, .int .i64 a2, .int .i64 a3, .int .i64 a4, .int .i64 a5] w fun e w' => e = .returned (.int .i64 r) ∧ Drawn0 w w' := by
  have H : ((consensus_CompareHRS.f a0 (wrap32 (a1)) ((a2) % 256) a3 (wrap32 (a4)) ((a5) % 256)).bind fun t101 => (some t101)) = some r := h
  clear h
  replace H := Option.bind_eq_some_iff.mp H
  obtain ⟨t101, A70, H⟩ := H
  replace H : (some t101) = some r := H
  have A7 := Aside0.mk A70
  clear A70
  obtain rfl := Option.some.inj H
  go_enter Try.func6, Try.ntmps6
  go_wp2_with (first | ((with_reducible refine gate_callee (f := 10) rfl ?_); refine goesL_ (some 23) rfl rfl Try.func10 (by kernel_rfl) rfl #[.int .i64 a0, .int .i32 (wrap32 (a1)), .int .u8 ((a2) % 256), .int .i64 a3, .int .i32 (wrap32 (a4)), .int .u8 ((a5) % 256)] rfl (by (try simp only [List.map_toArray, List.map_cons, List.map_nil]); first | done | rfl | (simp only [List.length_drop, List.length_take]; rfl)) ?_; (with_reducible refine (consensus_CompareHRS.calls a0 (wrap32 (a1)) ((a2) % 256) a3 (wrap32 (a4)) ((a5) % 256) t101 _ A7.out).mono ?_); rintro e w' ⟨rfl, ⟨nd, rfl⟩⟩; refine ⟨_, rfl, ?_⟩))
  go_ret
  exact ⟨by first | rfl | (simp; done) | (simp [*]; done), by repeat (first | exact Drawn0.refl _ | apply Drawn0.step)⟩

/-! ### laws_FnTimOrder: function 4 -/
def laws_FnTimOrder.f (a0 : Int) (a1 : Int) (a2 : Int) (a3 : Int) (a4 : Int) (a5 : Int) : Option (Bool) := if a0 = a3 then (if a1 = a4 then (if a2 = a5 then ((impl_CompareHRS.f a0 (wrap64 (a1)) (wrap64 (a2)) a3 (wrap64 (a4)) (wrap64 (a5))).bind fun t102 => (if t102 = 0 then ((impl_CompareHRS.f 1 0 1 2 0 1).bind fun t103 => (some (t103 == (-1)))) else (some false))) else (if a2 < a5 then ((impl_CompareHRS.f a0 (wrap64 (a1)) (wrap64 (a2)) a3 (wrap64 (a4)) (wrap64 (a5))).bind fun t104 => (if t104 = (-1) then ((impl_CompareHRS.f 1 0 1 2 0 1).bind fun t105 => (some (t105 == (-1)))) else (some false))) else ((impl_CompareHRS.f a0 (wrap64 (a1)) (wrap64 (a2)) a3 (wrap64 (a4)) (wrap64 (a5))).bind fun t106 => (if t106 = 1 then ((impl_CompareHRS.f 1 0 1 2 0 1).bind fun t107 => (some (t107 == (-1)))) else (some false))))) else (if a1 < a4 then ((impl_CompareHRS.f a0 (wrap64 (a1)) (wrap64 (a2)) a3 (wrap64 (a4)) (wrap64 (a5))).bind fun t108 => (if t108 = (-1) then ((impl_CompareHRS.f 1 0 1 2 0 1).bind fun t109 => (some (t109 == (-1)))) else (some false))) else ((impl_CompareHRS.f a0 (wrap64 (a1)) (wrap64 (a2)) a3 (wrap64 (a4)) (wrap64 (a5))).bind fun t110 => (if t110 = 1 then ((impl_CompareHRS.f 1 0 1 2 0 1).bind fun t111 => (some (t111 == (-1)))) else (some false))))) else (if a0 < a3 then ((impl_CompareHRS.f a0 (wrap64 (a1)) (wrap64 (a2)) a3 (wrap64 (a4)) (wrap64 (a5))).bind fun t112 => (if t112 = (-1) then ((impl_CompareHRS.f 1 0 1 2 0 1).bind fun t113 => (some (t113 == (-1)))) else (some false))) else ((impl_CompareHRS.f a0 (wrap64 (a1)) (wrap64 (a2)) a3 (wrap64 (a4)) (wrap64 (a5))).bind fun t114 => (if t114 = 1 then ((impl_CompareHRS.f 1 0 1 2 0 1).bind fun t115 => (some (t115 == (-1)))) else (some false))))
set_option maxHeartbeats 8000000 in
set_option maxRecDepth 100000 in
theorem laws_FnTimOrder.calls (a0 : Int) (a1 : Int) (a2 : Int) (a3 : Int) (a4 : Int) (a5 : Int) (r : Bool) (w : World) (h : laws_FnTimOrder.f a0 a1 a2 a3 a4 a5 = some r) :
    Calls Try.prog 4 #[.int .i64 a0, .int .i32 a1, .int .u8 a2, .int .i64 a3, .int .i32 a4, .int .u8 a5] w fun e w' => e = .returned (.bool r) ∧ Drawn0 w w' := by
  have H : (if a0 = a3 then (if a1 = a4 then (if a2 = a5 then ((impl_CompareHRS.f a0 (wrap64 (a1)) (wrap64 (a2)) a3 (wrap64 (a4)) (wrap64 (a5))).bind fun t102 => (if t102 = 0 then ((impl_CompareHRS.f 1 0 1 2 0 1).bind fun t103 => (some (t103 == (-1)))) else (some false))) else (if a2 < a5 then ((impl_CompareHRS.f a0 (wrap64 (a1)) (wrap64 (a2)) a3 (wrap64 (a4)) (wrap64 (a5))).bind fun t104 => (if t104 = (-1) then ((impl_CompareHRS.f 1 0 1 2 0 1).bind fun t105 => (some (t105 == (-1)))) else (some false))) else ((impl_CompareHRS.f a0 (wrap64 (a1)) (wrap64 (a2)) a3 (wrap64 (a4)) (wrap64 (a5))).bind fun t106 => (if t106 = 1 then ((impl_CompareHRS.f 1 0 1 2 0 1).bind fun t107 => (some (t107 == (-1)))) else (some false))))) else (if a1 < a4 then ((impl_CompareHRS.f a0 (wrap64 (a1)) (wrap64 (a2)) a3 (wrap64 (a4)) (wrap64 (a5))).bind fun t108 => (if t108 = (-1) then ((impl_CompareHRS.f 1 0 1 2 0 1).bind fun t109 => (some (t109 == (-1)))) else (some false))) else ((impl_CompareHRS.f a0 (wrap64 (a1)) (wrap64 (a2)) a3 (wrap64 (a4)) (wrap64 (a5))).bind fun t110 => (if t110 = 1 then ((impl_CompareHRS.f 1 0 1 2 0 1).bind fun t111 => (some (t111 == (-1)))) else (some false))))) else (if a0 < a3 then ((impl_CompareHRS.f a0 (wrap64 (a1)) (wrap64 (a2)) a3 (wrap64 (a4)) (wrap64 (a5))).bind fun t112 => (if t112 = (-1) then ((impl_CompareHRS.f 1 0 1 2 0 1).bind fun t113 => (some (t113 == (-1)))) else (some false))) else ((impl_CompareHRS.f a0 (wrap64 (a1)) (wrap64 (a2)) a3 (wrap64 (a4)) (wrap64 (a5))).bind fun t114 => (if t114 = 1 then ((impl_CompareHRS.f 1 0 1 2 0 1).bind fun t115 => (some (t115 == (-1)))) else (some false))))) = some r := h
  clear h
  by_cases c7 : a0 = a3
  · rw [if_pos c7] at H
    have c7b0 : (a0 == a3) = true := beq_iff_eq.mpr c7
    have c7b1 : (a0 != a3) = false := bne_eq_false_iff_eq.mpr c7
    clear c7
    by_cases c8 : a1 = a4
    · rw [if_pos c8] at H
      have c8b0 : (a1 == a4) = true := beq_iff_eq.mpr c8
      have c8b1 : (a1 != a4) = false := bne_eq_false_iff_eq.mpr c8
      clear c8
      by_cases c9 : a2 = a5
      · rw [if_pos c9] at H
        have c9b0 : (a2 == a5) = true := beq_iff_eq.mpr c9
        have c9b1 : (a2 != a5) = false := bne_eq_false_iff_eq.mpr c9
        clear c9
        replace H := Option.bind_eq_some_iff.mp H
        obtain ⟨t102, A100, H⟩ := H
        replace H : (if t102 = 0 then ((impl_CompareHRS.f 1 0 1 2 0 1).bind fun t103 => (some (t103 == (-1)))) else (some false)) = some r := H
        have A10 := Aside0.mk A100
        clear A100
        by_cases c11 : t102 = 0
        · rw [if_pos c11] at H
          have c11b0 : (t102 == 0) = true := beq_iff_eq.mpr c11
          have c11b1 : (t102 != 0) = false := bne_eq_false_iff_eq.mpr c11
          clear c11
          replace H := Option.bind_eq_some_iff.mp H
          obtain ⟨t103, A120, H⟩ := H
          replace H : (some (t103 == (-1))) = some r := H
          have A12 := Aside0.mk A120
          clear A120
          obtain rfl := Option.some.inj H
          go_enter Try.func4, Try.ntmps4
          go_wp2_with (first | ((with_reducible refine gate_callee (f := 6) rfl ?_); refine goesL_ (some 45) rfl rfl Try.func6 (by kernel_rfl) rfl #[.int .i64 a0, .int .i64 (wrap64 (a1)), .int .i64 (wrap64 (a2)), .int .i64 a3, .int .i64 (wrap64 (a4)), .int .i64 (wrap64 (a5))] rfl (by (try simp only [List.map_toArray, List.map_cons, List.map_nil]); first | done | rfl | (simp only [List.length_drop, List.length_take]; rfl)) ?_; (with_reducible refine (impl_CompareHRS.calls a0 (wrap64 (a1)) (wrap64 (a2)) a3 (wrap64 (a4)) (wrap64 (a5)) t102 _ A10.out).mono ?_); rintro e w' ⟨rfl, ⟨nd, rfl⟩⟩; refine ⟨_, rfl, ?_⟩) | (go_at_call 6; (with_reducible refine (impl_CompareHRS.calls 1 0 1 2 0 1 t103 _ A12.out).mono ?_); rintro e w' ⟨rfl, ⟨nd, rfl⟩⟩))
          go_ret
          exact ⟨by first | rfl | (simp; done) | (simp [*]; done), by repeat (first | exact Drawn0.refl _ | apply Drawn0.step)⟩
        · rw [if_neg c11] at H
          have c11b0 : (t102 == 0) = false := beq_eq_false_iff_ne.mpr c11
          have c11b1 : (t102 != 0) = true := bne_iff_ne.mpr c11
          obtain rfl := Option.some.inj H
          go_enter Try.func4, Try.ntmps4
          go_wp2_with (first | ((with_reducible refine gate_callee (f := 6) rfl ?_); refine goesL_ (some 45) rfl rfl Try.func6 (by kernel_rfl) rfl #[.int .i64 a0, .int .i64 (wrap64 (a1)), .int .i64 (wrap64 (a2)), .int .i64 a3, .int .i64 (wrap64 (a4)), .int .i64 (wrap64 (a5))] rfl (by (try simp only [List.map_toArray, List.map_cons, List.map_nil]); first | done | rfl | (simp only [List.length_drop, List.length_take]; rfl)) ?_; (with_reducible refine (impl_CompareHRS.calls a0 (wrap64 (a1)) (wrap64 (a2)) a3 (wrap64 (a4)) (wrap64 (a5)) t102 _ A10.out).mono ?_); rintro e w' ⟨rfl, ⟨nd, rfl⟩⟩; refine ⟨_, rfl, ?_⟩))
          go_ret
          exact ⟨by first | rfl | (simp; done) | (simp [*]; done), by repeat (first | exact Drawn0.refl _ | apply Drawn0.step)⟩
      · rw [if_neg c9] at H
        have c9b0 : (a2 == a5) = false := beq_eq_false_iff_ne.mpr c9
        have c9b1 : (a2 != a5) = true := bne_iff_ne.mpr c9
        by_cases c13 : a2 < a5
        · rw [if_pos c13] at H
          have c13b0 : decide (a2 < a5) = true := decide_eq_true c13
          clear c13
          replace H := Option.bind_eq_some_iff.mp H
          obtain ⟨t104, A140, H⟩ := H
          replace H : (if t104 = (-1) then ((impl_CompareHRS.f 1 0 1 2 0 1).bind fun t105 => (some (t105 == (-1)))) else (some false)) = some r := H
          have A14 := Aside0.mk A140
          clear A140
          by_cases c15 : t104 = (-1)
          · rw [if_pos c15] at H
            have c15b0 : (t104 == (-1)) = true := beq_iff_eq.mpr c15
            have c15b1 : (t104 != (-1)) = false := bne_eq_false_iff_eq.mpr c15
            clear c15
            replace H := Option.bind_eq_some_iff.mp H
            obtain ⟨t105, A160, H⟩ := H
            replace H : (some (t105 == (-1))) = some r := H
            have A16 := Aside0.mk A160
            clear A160
            obtain rfl := Option.some.inj H
            go_enter Try.func4, Try.ntmps4
            go_wp2_with (first | ((with_reducible refine gate_callee (f := 6) rfl ?_); refine goesL_ (some 45) rfl rfl Try.func6 (by kernel_rfl) rfl #[.int .i64 a0, .int .i64 (wrap64 (a1)), .int .i64 (wrap64 (a2)), .int .i64 a3, .int .i64 (wrap64 (a4)), .int .i64 (wrap64 (a5))] rfl (by (try simp only [List.map_toArray, List.map_cons, List.map_nil]); first | done | rfl | (simp only [List.length_drop, List.length_take]; rfl)) ?_; (with_reducible refine (impl_CompareHRS.calls a0 (wrap64 (a1)) (wrap64 (a2)) a3 (wrap64 (a4)) (wrap64 (a5)) t104 _ A14.out).mono ?_); rintro e w' ⟨rfl, ⟨nd, rfl⟩⟩; refine ⟨_, rfl, ?_⟩) | (go_at_call 6; (with_reducible refine (impl_CompareHRS.calls 1 0 1 2 0 1 t105 _ A16.out).mono ?_); rintro e w' ⟨rfl, ⟨nd, rfl⟩⟩))
            go_ret
            exact ⟨by first | rfl | (simp; done) | (simp [*]; done), by repeat (first | exact Drawn0.refl _ | apply Drawn0.step)⟩
          · rw [if_neg c15] at H
            have c15b0 : (t104 == (-1)) = false := beq_eq_false_iff_ne.mpr c15
            have c15b1 : (t104 != (-1)) = true := bne_iff_ne.mpr c15
            obtain rfl := Option.some.inj H
            go_enter Try.func4, Try.ntmps4
            go_wp2_with (first | ((with_reducible refine gate_callee (f := 6) rfl ?_); refine goesL_ (some 45) rfl rfl Try.func6 (by kernel_rfl) rfl #[.int .i64 a0, .int .i64 (wrap64 (a1)), .int .i64 (wrap64 (a2)), .int .i64 a3, .int .i64 (wrap64 (a4)), .int .i64 (wrap64 (a5))] rfl (by (try simp only [List.map_toArray, List.map_cons, List.map_nil]); first | done | rfl | (simp only [List.length_drop, List.length_take]; rfl)) ?_; (with_reducible refine (impl_CompareHRS.calls a0 (wrap64 (a1)) (wrap64 (a2)) a3 (wrap64 (a4)) (wrap64 (a5)) t104 _ A14.out).mono ?_); rintro e w' ⟨rfl, ⟨nd, rfl⟩⟩; refine ⟨_, rfl, ?_⟩))
            go_ret
            exact ⟨by first | rfl | (simp; done) | (simp [*]; done), by repeat (first | exact Drawn0.refl _ | apply Drawn0.step)⟩
        · rw [if_neg c13] at H
          have c13b0 : decide (a2 < a5) = false := decide_eq_false c13
          clear c13
          replace H := Option.bind_eq_some_iff.mp H
          obtain ⟨t106, A170, H⟩ := H
          replace H : (if t106 = 1 then ((impl_CompareHRS.f 1 0 1 2 0 1).bind fun t107 => (some (t107 == (-1)))) else (some false)) = some r := H
          have A17 := Aside0.mk A170
          clear A170
          by_cases c18 : t106 = 1
          · rw [if_pos c18] at H
            have c18b0 : (t106 == 1) = true := beq_iff_eq.mpr c18
            have c18b1 : (t106 != 1) = false := bne_eq_false_iff_eq.mpr c18
            clear c18
            replace H := Option.bind_eq_some_iff.mp H
            obtain ⟨t107, A190, H⟩ := H
            replace H : (some (t107 == (-1))) = some r := H
            have A19 := Aside0.mk A190
            clear A190
            obtain rfl := Option.some.inj H
            go_enter Try.func4, Try.ntmps4
            go_wp2_with (first | ((with_reducible refine gate_callee (f := 6) rfl ?_); refine goesL_ (some 45) rfl rfl Try.func6 (by kernel_rfl) rfl #[.int .i64 a0, .int .i64 (wrap64 (a1)), .int .i64 (wrap64 (a2)), .int .i64 a3, .int .i64 (wrap64 (a4)), .int .i64 (wrap64 (a5))] rfl (by (try simp only [List.map_toArray, List.map_cons, List.map_nil]); first | done | rfl | (simp only [List.length_drop, List.length_take]; rfl)) ?_; (with_reducible refine (impl_CompareHRS.calls a0 (wrap64 (a1)) (wrap64 (a2)) a3 (wrap64 (a4)) (wrap64 (a5)) t106 _ A17.out).mono ?_); rintro e w' ⟨rfl, ⟨nd, rfl⟩⟩; refine ⟨_, rfl, ?_⟩) | (go_at_call 6; (with_reducible refine (impl_CompareHRS.calls 1 0 1 2 0 1 t107 _ A19.out).mono ?_); rintro e w' ⟨rfl, ⟨nd, rfl⟩⟩))
            go_ret
            exact ⟨by first | rfl | (simp; done) | (simp [*]; done), by repeat (first | exact Drawn0.refl _ | apply Drawn0.step)⟩
          · rw [if_neg c18] at H
            have c18b0 : (t106 == 1) = false := beq_eq_false_iff_ne.mpr c18
            have c18b1 : (t106 != 1) = true := bne_iff_ne.mpr c18
            obtain rfl := Option.some.inj H
            go_enter Try.func4, Try.ntmps4
            go_wp2_with (first | ((with_reducible refine gate_callee (f := 6) rfl ?_); refine goesL_ (some 45) rfl rfl Try.func6 (by kernel_rfl) rfl #[.int .i64 a0, .int .i64 (wrap64 (a1)), .int .i64 (wrap64 (a2)), .int .i64 a3, .int .i64 (wrap64 (a4)), .int .i64 (wrap64 (a5))] rfl (by (try simp only [List.map_toArray, List.map_cons, List.map_nil]); first | done | rfl | (simp only [List.length_drop, List.length_take]; rfl)) ?_; (with_reducible refine (impl_CompareHRS.calls a0 (wrap64 (a1)) (wrap64 (a2)) a3 (wrap64 (a4)) (wrap64 (a5)) t106 _ A17.out).mono ?_); rintro e w' ⟨rfl, ⟨nd, rfl⟩⟩; refine ⟨_, rfl, ?_⟩))
            go_ret
            exact ⟨by first | rfl | (simp; done) | (simp [*]; done), by repeat (first | exact Drawn0.refl _ | apply Drawn0.step)⟩
    · rw [if_neg c8] at H
      have c8b0 : (a1 == a4) = false := beq_eq_false_iff_ne.mpr c8
      have c8b1 : (a1 != a4) = true := bne_iff_ne.mpr c8
      by_cases c20 : a1 < a4
      · rw [if_pos c20] at H
        have c20b0 : decide (a1 < a4) = true := decide_eq_true c20
        clear c20
        replace H := Option.bind_eq_some_iff.mp H
        obtain ⟨t108, A210, H⟩ := H
        replace H : (if t108 = (-1) then ((impl_CompareHRS.f 1 0 1 2 0 1).bind fun t109 => (some (t109 == (-1)))) else (some false)) = some r := H
        have A21 := Aside0.mk A210
        clear A210
        by_cases c22 : t108 = (-1)
        · rw [if_pos c22] at H
          have c22b0 : (t108 == (-1)) = true := beq_iff_eq.mpr c22
          have c22b1 : (t108 != (-1)) = false := bne_eq_false_iff_eq.mpr c22
          clear c22
          replace H := Option.bind_eq_some_iff.mp H
          obtain ⟨t109, A230, H⟩ := H
          replace H : (some (t109 == (-1))) = some r := H
          have A23 := Aside0.mk A230
          clear A230
          obtain rfl := Option.some.inj H
          go_enter Try.func4, Try.ntmps4
          go_wp2_with (first | ((with_reducible refine gate_callee (f := 6) rfl ?_); refine goesL_ (some 45) rfl rfl Try.func6 (by kernel_rfl) rfl #[.int .i64 a0, .int .i64 (wrap64 (a1)), .int .i64 (wrap64 (a2)), .int .i64 a3, .int .i64 (wrap64 (a4)), .int .i64 (wrap64 (a5))] rfl (by (try simp only [List.map_toArray, List.map_cons, List.map_nil]); first | done | rfl | (simp only [List.length_drop, List.length_take]; rfl)) ?_; (with_reducible refine (impl_CompareHRS.calls a0 (wrap64 (a1)) (wrap64 (a2)) a3 (wrap64 (a4)) (wrap64 (a5)) t108 _ A21.out).mono ?_); rintro e w' ⟨rfl, ⟨nd, rfl⟩⟩; refine ⟨_, rfl, ?_⟩) | (go_at_call 6; (with_reducible refine (impl_CompareHRS.calls 1 0 1 2 0 1 t109 _ A23.out).mono ?_); rintro e w' ⟨rfl, ⟨nd, rfl⟩⟩))
          go_ret
          exact ⟨by first | rfl | (simp; done) | (simp [*]; done), by repeat (first | exact Drawn0.refl _ | apply Drawn0.step)⟩
        · rw [if_neg c22] at H
          have c22b0 : (t108 == (-1)) = false := beq_eq_false_iff_ne.mpr c22
          have c22b1 : (t108 != (-1)) = true := bne_iff_ne.mpr c22
          obtain rfl := Option.some.inj H
          go_enter Try.func4, Try.ntmps4
          go_wp2_with (first | ((with_reducible refine gate_callee (f := 6) rfl ?_); refine goesL_ (some 45) rfl rfl Try.func6 (by kernel_rfl) rfl #[.int .i64 a0, .int .i64 (wrap64 (a1)), .int .i64 (wrap64 (a2)), .int .i64 a3, .int .i64 (wrap64 (a4)), .int .i64 (wrap64 (a5))] rfl (by (try simp only [List.map_toArray, List.map_cons, List.map_nil]); first | done | rfl | (simp only [List.length_drop, List.length_take]; rfl)) ?_; (with_reducible refine (impl_CompareHRS.calls a0 (wrap64 (a1)) (wrap64 (a2)) a3 (wrap64 (a4)) (wrap64 (a5)) t108 _ A21.out).mono ?_); rintro e w' ⟨rfl, ⟨nd, rfl⟩⟩; refine ⟨_, rfl, ?_⟩))
          go_ret
          exact ⟨by first | rfl | (simp; done) | (simp [*]; done), by repeat (first | exact Drawn0.refl _ | apply Drawn0.step)⟩
      · rw [if_neg c20] at H
        have c20b0 : decide (a1 < a4) = false := decide_eq_false c20
        clear c20
        replace H := Option.bind_eq_some_iff.mp H
        obtain ⟨t110, A240, H⟩ := H
        replace H : (if t110 = 1 then ((impl_CompareHRS.f 1 0 1 2 0 1).bind fun t111 => (some (t111 == (-1)))) else (some false)) = some r := H
        have A24 := Aside0.mk A240
        clear A240
        by_cases c25 : t110 = 1
        · rw [if_pos c25] at H
          have c25b0 : (t110 == 1) = true := beq_iff_eq.mpr c25
          have c25b1 : (t110 != 1) = false := bne_eq_false_iff_eq.mpr c25
          clear c25
          replace H := Option.bind_eq_some_iff.mp H
          obtain ⟨t111, A260, H⟩ := H
          replace H : (some (t111 == (-1))) = some r := H
          have A26 := Aside0.mk A260
          clear A260
          obtain rfl := Option.some.inj H
          go_enter Try.func4, Try.ntmps4
          go_wp2_with (first | ((with_reducible refine gate_callee (f := 6) rfl ?_); refine goesL_ (some 45) rfl rfl Try.func6 (by kernel_rfl) rfl #[.int .i64 a0, .int .i64 (wrap64 (a1)), .int .i64 (wrap64 (a2)), .int .i64 a3, .int .i64 (wrap64 (a4)), .int .i64 (wrap64 (a5))] rfl (by (try simp only [List.map_toArray, List.map_cons, List.map_nil]); first | done | rfl | (simp only [List.length_drop, List.length_take]; rfl)) ?_; (with_reducible refine (impl_CompareHRS.calls a0 (wrap64 (a1)) (wrap64 (a2)) a3 (wrap64 (a4)) (wrap64 (a5)) t110 _ A24.out).mono ?_); rintro e w' ⟨rfl, ⟨nd, rfl⟩⟩; refine ⟨_, rfl, ?_⟩) | (go_at_call 6; (with_reducible refine (impl_CompareHRS.calls 1 0 1 2 0 1 t111 _ A26.out).mono ?_); rintro e w' ⟨rfl, ⟨nd, rfl⟩⟩))
          go_ret
          exact ⟨by first | rfl | (simp; done) | (simp [*]; done), by repeat (first | exact Drawn0.refl _ | apply Drawn0.step)⟩
        · rw [if_neg c25] at H
          have c25b0 : (t110 == 1) = false := beq_eq_false_iff_ne.mpr c25
          have c25b1 : (t110 != 1) = true := bne_iff_ne.mpr c25
          obtain rfl := Option.some.inj H
          go_enter Try.func4, Try.ntmps4
          go_wp2_with (first | ((with_reducible refine gate_callee (f := 6) rfl ?_); refine goesL_ (some 45) rfl rfl Try.func6 (by kernel_rfl) rfl #[.int .i64 a0, .int .i64 (wrap64 (a1)), .int .i64 (wrap64 (a2)), .int .i64 a3, .int .i64 (wrap64 (a4)), .int .i64 (wrap64 (a5))] rfl (by (try simp only [List.map_toArray, List.map_cons, List.map_nil]); first | done | rfl | (simp only [List.length_drop, List.length_take]; rfl)) ?_; (with_reducible refine (impl_CompareHRS.calls a0 (wrap64 (a1)) (wrap64 (a2)) a3 (wrap64 (a4)) (wrap64 (a5)) t110 _ A24.out).mono ?_); rintro e w' ⟨rfl, ⟨nd, rfl⟩⟩; refine ⟨_, rfl, ?_⟩))
          go_ret
          exact ⟨by first | rfl | (simp; done) | (simp [*]; done), by repeat (first | exact Drawn0.refl _ | apply Drawn0.step)⟩
  · rw [if_neg c7] at H
    have c7b0 : (a0 == a3) = false := beq_eq_false_iff_ne.mpr c7
    have c7b1 : (a0 != a3) = true := bne_iff_ne.mpr c7
    by_cases c27 : a0 < a3
    · rw [if_pos c27] at H
      have c27b0 : decide (a0 < a3) = true := decide_eq_true c27
      clear c27
      replace H := Option.bind_eq_some_iff.mp H
      obtain ⟨t112, A280, H⟩ := H
      replace H : (if t112 = (-1) then ((impl_CompareHRS.f 1 0 1 2 0 1).bind fun t113 => (some (t113 == (-1)))) else (some false)) = some r := H
      have A28 := Aside0.mk A280
      clear A280
      by_cases c29 : t112 = (-1)
      · rw [if_pos c29] at H
        have c29b0 : (t112 == (-1)) = true := beq_iff_eq.mpr c29
        have c29b1 : (t112 != (-1)) = false := bne_eq_false_iff_eq.mpr c29
        clear c29
        replace H := Option.bind_eq_some_iff.mp H
        obtain ⟨t113, A300, H⟩ := H
        replace H : (some (t113 == (-1))) = some r := H
        have A30 := Aside0.mk A300
        clear A300
        obtain rfl := Option.some.inj H
        go_enter Try.func4, Try.ntmps4
        go_wp2_with (first | ((with_reducible refine gate_callee (f := 6) rfl ?_); refine goesL_ (some 45) rfl rfl Try.func6 (by kernel_rfl) rfl #[.int .i64 a0, .int .i64 (wrap64 (a1)), .int .i64 (wrap64 (a2)), .int .i64 a3, .int .i64 (wrap64 (a4)), .int .i64 (wrap64 (a5))] rfl (by (try simp only [List.map_toArray, List.map_cons, List.map_nil]); first | done | rfl | (simp only [List.length_drop, List.length_take]; rfl)) ?_; (with_reducible refine (impl_CompareHRS.calls a0 (wrap64 (a1)) (wrap64 (a2)) a3 (wrap64 (a4)) (wrap64 (a5)) t112 _ A28.out).mono ?_); rintro e w' ⟨rfl, ⟨nd, rfl⟩⟩; refine ⟨_, rfl, ?_⟩) | (go_at_call 6; (with_reducible refine (impl_CompareHRS.calls 1 0 1 2 0 1 t113 _ A30.out).mono ?_); rintro e w' ⟨rfl, ⟨nd, rfl⟩⟩))
        go_ret
        exact ⟨by first | rfl | (simp; done) | (simp [*]; done), by repeat (first | exact Drawn0.refl _ | apply Drawn0.step)⟩
      · rw [if_neg c29] at H
        have c29b0 : (t112 == (-1)) = false := beq_eq_false_iff_ne.mpr c29
        have c29b1 : (t112 != (-1)) = true := bne_iff_ne.mpr c29
        obtain rfl := Option.some.inj H
        go_enter Try.func4, Try.ntmps4
        go_wp2_with (first | ((with_reducible refine gate_callee (f := 6) rfl ?_); refine goesL_ (some 45) rfl rfl Try.func6 (by kernel_rfl) rfl #[.int .i64 a0, .int .i64 (wrap64 (a1)), .int .i64 (wrap64 (a2)), .int .i64 a3, .int .i64 (wrap64 (a4)), .int .i64 (wrap64 (a5))] rfl (by (try simp only [List.map_toArray, List.map_cons, List.map_nil]); first | done | rfl | (simp only [List.length_drop, List.length_take]; rfl)) ?_; (with_reducible refine (impl_CompareHRS.calls a0 (wrap64 (a1)) (wrap64 (a2)) a3 (wrap64 (a4)) (wrap64 (a5)) t112 _ A28.out).mono ?_); rintro e w' ⟨rfl, ⟨nd, rfl⟩⟩; refine ⟨_, rfl, ?_⟩))
        go_ret
        exact ⟨by first | rfl | (simp; done) | (simp [*]; done), by repeat (first | exact Drawn0.refl _ | apply Drawn0.step)⟩
    · rw [if_neg c27] at H
      have c27b0 : decide (a0 < a3) = false := decide_eq_false c27
      clear c27
      replace H := Option.bind_eq_some_iff.mp H
      obtain ⟨t114, A310, H⟩ := H
      replace H : (if t114 = 1 then ((impl_CompareHRS.f 1 0 1 2 0 1).bind fun t115 => (some (t115 == (-1)))) else (some false)) = some r := H
      have A31 := Aside0.mk A310
      clear A310
      by_cases c32 : t114 = 1
      · rw [if_pos c32] at H
        have c32b0 : (t114 == 1) = true := beq_iff_eq.mpr c32
        have c32b1 : (t114 != 1) = false := bne_eq_false_iff_eq.mpr c32
        clear c32
        replace H := Option.bind_eq_some_iff.mp H
        obtain ⟨t115, A330, H⟩ := H
        replace H : (some (t115 == (-1))) = some r := H
        have A33 := Aside0.mk A330
        clear A330
        obtain rfl := Option.some.inj H
        go_enter Try.func4, Try.ntmps4
        go_wp2_with (first | ((with_reducible refine gate_callee (f := 6) rfl ?_); refine goesL_ (some 45) rfl rfl Try.func6 (by kernel_rfl) rfl #[.int .i64 a0, .int .i64 (wrap64 (a1)), .int .i64 (wrap64 (a2)), .int .i64 a3, .int .i64 (wrap64 (a4)), .int .i64 (wrap64 (a5))] rfl (by (try simp only [List.map_toArray, List.map_cons, List.map_nil]); first | done | rfl | (simp only [List.length_drop, List.length_take]; rfl)) ?_; (with_reducible refine (impl_CompareHRS.calls a0 (wrap64 (a1)) (wrap64 (a2)) a3 (wrap64 (a4)) (wrap64 (a5)) t114 _ A31.out).mono ?_); rintro e w' ⟨rfl, ⟨nd, rfl⟩⟩; refine ⟨_, rfl, ?_⟩) | (go_at_call 6; (with_reducible refine (impl_CompareHRS.calls 1 0 1 2 0 1 t115 _ A33.out).mono ?_); rintro e w' ⟨rfl, ⟨nd, rfl⟩⟩))
        go_ret
        exact ⟨by first | rfl | (simp; done) | (simp [*]; done), by repeat (first | exact Drawn0.refl _ | apply Drawn0.step)⟩
      · rw [if_neg c32] at H
        have c32b0 : (t114 == 1) = false := beq_eq_false_iff_ne.mpr c32
        have c32b1 : (t114 != 1) = true := bne_iff_ne.mpr c32
        obtain rfl := Option.some.inj H
        go_enter Try.func4, Try.ntmps4
        go_wp2_with (first | ((with_reducible refine gate_callee (f := 6) rfl ?_); refine goesL_ (some 45) rfl rfl Try.func6 (by kernel_rfl) rfl #[.int .i64 a0, .int .i64 (wrap64 (a1)), .int .i64 (wrap64 (a2)), .int .i64 a3, .int .i64 (wrap64 (a4)), .int .i64 (wrap64 (a5))] rfl (by (try simp only [List.map_toArray, List.map_cons, List.map_nil]); first | done | rfl | (simp only [List.length_drop, List.length_take]; rfl)) ?_; (with_reducible refine (impl_CompareHRS.calls a0 (wrap64 (a1)) (wrap64 (a2)) a3 (wrap64 (a4)) (wrap64 (a5)) t114 _ A31.out).mono ?_); rintro e w' ⟨rfl, ⟨nd, rfl⟩⟩; refine ⟨_, rfl, ?_⟩))
        go_ret
        exact ⟨by first | rfl | (simp; done) | (simp [*]; done), by repeat (first | exact Drawn0.refl _ | apply Drawn0.step)⟩

/-- THE ONE PURE STATEMENT of laws_FnTimOrder: yours. -/
def laws_FnTimOrder.Pure : Prop := ∀ (a0 : Int) (a1 : Int) (a2 : Int) (a3 : Int) (a4 : Int) (a5 : Int), (Lit.int .i64 a0).wf = true → (Lit.int .i32 a1).wf = true → (Lit.int .u8 a2).wf = true → (Lit.int .i64 a3).wf = true → (Lit.int .i32 a4).wf = true → (Lit.int .u8 a5).wf = true → laws_FnTimOrder.f a0 a1 a2 a3 a4 a5 = some true
theorem laws_FnTimOrder.walk (P : laws_FnTimOrder.Pure) (a0 : Int) (a1 : Int) (a2 : Int) (a3 : Int) (a4 : Int) (a5 : Int) (w : World) (w0 : (Lit.int .i64 a0).wf = true) (w1 : (Lit.int .i32 a1).wf = true) (w2 : (Lit.int .u8 a2).wf = true) (w3 : (Lit.int .i64 a3).wf = true) (w4 : (Lit.int .i32 a4).wf = true) (w5 : (Lit.int .u8 a5).wf = true) :
    Calls Try.prog 4 #[.int .i64 a0, .int .i32 a1, .int .u8 a2, .int .i64 a3, .int .i32 a4, .int .u8 a5] w fun e w' => e = .returned (.bool true) ∧ Below w.heap.size w w' := by
  have h := P a0 a1 a2 a3 a4 a5 w0 w1 w2 w3 w4 w5
  refine (laws_FnTimOrder.calls a0 a1 a2 a3 a4 a5 true w h).mono ?_
  rintro e w' ⟨rfl, hd⟩
  exact ⟨rfl, hd.below⟩

end Go.Proofs.Ytibpoiifebabnaa.PFnTimOrder
