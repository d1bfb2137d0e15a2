-- PRINTED BY print.sh 35421559b90ae4d0a3588c463048766b98c2df88dd9212a6774a882060cdf62d: not written by this session
import Derived.Test.YtnjbfebeigginaaPFintMulx0
namespace Go.Proofs.Ytnjbfebeigginaa.PFintMul
open Go.RowKit Go.Proofs.YtnjbfebeigginaaW.PrintWords Go.Proofs.YtnjbfebeigginaaW.PrintLast Go.Proofs.YtnjbfebeigginaaW.PrintMore
attribute [local go_sem] max2_int min2_int max_two min_two max_three min_three max_four min_four   -- for this text's walks alone
set_option linter.unusedVariables false
set_option linter.unusedSimpArgs false

/-! ### govalues_fint_mul: function 13 -/
def govalues_fint_mul.f (a0 : Int) (a1 : Int) : Option (Int × Bool) := if a1 = 0 then (some (0, true)) else (if (IntKind.u64.wrap (Int.tdiv (IntKind.u64.wrap (a0 * a1)) a1)) = a0 then (if (IntKind.u64.wrap (a0 * a1)) > 9999999999999999999 then (some (0, false)) else (some (IntKind.u64.wrap (a0 * a1), true))) else (some (0, false)))
set_option maxHeartbeats 8000000 in
set_option maxRecDepth 100000 in
theorem govalues_fint_mul.calls (a0 : Int) (a1 : Int) (r1 : Int) (r2 : Bool) (w : World) (h : govalues_fint_mul.f a0 a1 = some (r1, r2)) :
    Calls Try.prog 13 #[.int .u64 a0, .int .u64 a1] w fun e w' => e = .returned (.tuple #[.int .u64 r1, .bool r2]) ∧ Drawn0 w w' := by
  have H : (if a1 = 0 then (some (0, true)) else (if (IntKind.u64.wrap (Int.tdiv (IntKind.u64.wrap (a0 * a1)) a1)) = a0 then (if (IntKind.u64.wrap (a0 * a1)) > 9999999999999999999 then (some (0, false)) else (some (IntKind.u64.wrap (a0 * a1), true))) else (some (0, false)))) = some (r1, r2) := h
  clear h
  by_cases c3 : a1 = 0
  · rw [if_pos c3] at H
    have c3b0 : (a1 == 0) = true := beq_iff_eq.mpr c3
    have c3b1 : (a1 != 0) = false := bne_eq_false_iff_eq.mpr c3
    clear c3
    simp only [Option.some.injEq, Prod.mk.injEq] at H
    obtain ⟨rfl, rfl⟩ := H
    go_enter Try.func13, Try.ntmps13
    go_wp2
    go_ret2
    exact ⟨by first | rfl | (simp; done) | (simp [*]; done), by repeat (first | exact Drawn0.refl _ | apply Drawn0.step)⟩
  · rw [if_neg c3] at H
    have c3b0 : (a1 == 0) = false := beq_eq_false_iff_ne.mpr c3
    have c3b1 : (a1 != 0) = true := bne_iff_ne.mpr c3
    by_cases c4 : (IntKind.u64.wrap (Int.tdiv (IntKind.u64.wrap (a0 * a1)) a1)) = a0
    · rw [if_pos c4] at H
      have c4b0 : ((IntKind.u64.wrap (Int.tdiv (IntKind.u64.wrap (a0 * a1)) a1)) == a0) = true := beq_iff_eq.mpr c4
      have c4b1 : ((IntKind.u64.wrap (Int.tdiv (IntKind.u64.wrap (a0 * a1)) a1)) != a0) = false := bne_eq_false_iff_eq.mpr c4
      clear c4
      by_cases c5 : (IntKind.u64.wrap (a0 * a1)) > 9999999999999999999
      · rw [if_pos c5] at H
        have c5b0 : decide (9999999999999999999 < (IntKind.u64.wrap (a0 * a1))) = true := decide_eq_true c5
        clear c5
        simp only [Option.some.injEq, Prod.mk.injEq] at H
        obtain ⟨rfl, rfl⟩ := H
        go_enter Try.func13, Try.ntmps13
        go_wp2
        go_ret2
        exact ⟨by first | rfl | (simp; done) | (simp [*]; done), by repeat (first | exact Drawn0.refl _ | apply Drawn0.step)⟩
      · rw [if_neg c5] at H
        have c5b0 : decide (9999999999999999999 < (IntKind.u64.wrap (a0 * a1))) = false := decide_eq_false c5
        clear c5
        simp only [Option.some.injEq, Prod.mk.injEq] at H
        obtain ⟨rfl, rfl⟩ := H
        go_enter Try.func13, Try.ntmps13
        go_wp2
        go_ret2
        exact ⟨by first | rfl | (simp; done) | (simp [*]; done), by repeat (first | exact Drawn0.refl _ | apply Drawn0.step)⟩
    · rw [if_neg c4] at H
      have c4b0 : ((IntKind.u64.wrap (Int.tdiv (IntKind.u64.wrap (a0 * a1)) a1)) == a0) = false := beq_eq_false_iff_ne.mpr c4
      have c4b1 : ((IntKind.u64.wrap (Int.tdiv (IntKind.u64.wrap (a0 * a1)) a1)) != a0) = true := bne_iff_ne.mpr c4
      simp only [Option.some.injEq, Prod.mk.injEq] at H
      obtain ⟨rfl, rfl⟩ := H
      go_enter Try.func13, Try.ntmps13
      go_wp2
      go_ret2
      exact ⟨by first | rfl | (simp; done) | (simp [*]; done), by repeat (first | exact Drawn0.refl _ | apply Drawn0.step)⟩

/-! ### govalues_ZzFintMul: function 9 -/
def govalues_ZzFintMul.f (a0 : Int) (a1 : Int) : Option (Int × Bool) := (govalues_fint_mul.f a0 a1).bind fun bt101 => (some (bt101.1, bt101.2))
set_option maxHeartbeats 8000000 in
set_option maxRecDepth 100000 in
theorem govalues_ZzFintMul.calls (a0 : Int) (a1 : Int) (r1 : Int) (r2 : Bool) (w : World) (h : govalues_ZzFintMul.f a0 a1 = some (r1, r2)) :
    Calls Try.prog 9 #[.int .u64 a0, .int .u64 a1] w fun e w' => e = .returned (.tuple #[.int .u64 r1, .bool r2]) ∧ Drawn0 w w' := by
  have H : ((govalues_fint_mul.f a0 a1).bind fun bt101 => (some (bt101.1, bt101.2))) = some (r1, r2) := h
  clear h
  replace H := Option.bind_eq_some_iff.mp H
  obtain ⟨⟨t101, t102⟩, A30, H⟩ := H
  replace H : (some (t101, t102)) = some (r1, r2) := H
  have A3 := Aside0.mk A30
  clear A30
  simp only [Option.some.injEq, Prod.mk.injEq] at H
  obtain ⟨rfl, rfl⟩ := H
  go_enter Try.func9, Try.ntmps9
  go_wp2_with (first | ((with_reducible refine gate_callee (f := 13) rfl ?_); refine goesL_ (some 11) rfl rfl Try.func13 (by kernel_rfl) rfl #[.int .u64 a0, .int .u64 a1] rfl (by (try simp only [List.map_toArray, List.map_cons, List.map_nil]); first | done | rfl | (simp only [List.length_drop, List.length_take]; rfl)) ?_; (with_reducible refine (govalues_fint_mul.calls a0 a1 t101 t102 _ A3.out).mono ?_); rintro e w' ⟨rfl, ⟨nd, rfl⟩⟩; refine ⟨_, rfl, ?_⟩))
  go_ret2
  exact ⟨by first | rfl | (simp; done) | (simp [*]; done), by repeat (first | exact Drawn0.refl _ | apply Drawn0.step)⟩

/-! ### impl_FintMul: function 4 -/
def impl_FintMul.f (a0 : Int) (a1 : Int) : Option (Int × Bool) := if a0 > 9999999999999999999 then (some (0, false)) else (if a1 > 9999999999999999999 then (some (0, false)) else ((govalues_ZzFintMul.f a0 a1).bind fun bt103 => (some (bt103.1, bt103.2))))
set_option maxHeartbeats 8000000 in
set_option maxRecDepth 100000 in
theorem impl_FintMul.calls (a0 : Int) (a1 : Int) (r1 : Int) (r2 : Bool) (w : World) (h : impl_FintMul.f a0 a1 = some (r1, r2)) :
    Calls Try.prog 4 #[.int .u64 a0, .int .u64 a1] w fun e w' => e = .returned (.tuple #[.int .u64 r1, .bool r2]) ∧ Drawn0 w w' := by
  have H : (if a0 > 9999999999999999999 then (some (0, false)) else (if a1 > 9999999999999999999 then (some (0, false)) else ((govalues_ZzFintMul.f a0 a1).bind fun bt103 => (some (bt103.1, bt103.2))))) = some (r1, r2) := h
  clear h
  by_cases c3 : a0 > 9999999999999999999
  · rw [if_pos c3] at H
    have c3b0 : decide (9999999999999999999 < a0) = true := decide_eq_true c3
    clear c3
    simp only [Option.some.injEq, Prod.mk.injEq] at H
    obtain ⟨rfl, rfl⟩ := H
    go_enter Try.func4, Try.ntmps4
    go_wp2
    go_ret2
    exact ⟨by first | rfl | (simp; done) | (simp [*]; done), by repeat (first | exact Drawn0.refl _ | apply Drawn0.step)⟩
  · rw [if_neg c3] at H
    have c3b0 : decide (9999999999999999999 < a0) = false := decide_eq_false c3
    clear c3
    by_cases c4 : a1 > 9999999999999999999
    · rw [if_pos c4] at H
      have c4b0 : decide (9999999999999999999 < a1) = true := decide_eq_true c4
      clear c4
      simp only [Option.some.injEq, Prod.mk.injEq] at H
      obtain ⟨rfl, rfl⟩ := H
      go_enter Try.func4, Try.ntmps4
      go_wp2
      go_ret2
      exact ⟨by first | rfl | (simp; done) | (simp [*]; done), by repeat (first | exact Drawn0.refl _ | apply Drawn0.step)⟩
    · rw [if_neg c4] at H
      have c4b0 : decide (9999999999999999999 < a1) = false := decide_eq_false c4
      clear c4
      replace H := Option.bind_eq_some_iff.mp H
      obtain ⟨⟨t103, t104⟩, A50, H⟩ := H
      replace H : (some (t103, t104)) = some (r1, r2) := H
      have A5 := Aside0.mk A50
      clear A50
      simp only [Option.some.injEq, Prod.mk.injEq] at H
      obtain ⟨rfl, rfl⟩ := H
      go_enter Try.func4, Try.ntmps4
      go_wp2_with (first | ((with_reducible refine gate_callee (f := 9) rfl ?_); refine goesL_ (some 14) rfl rfl Try.func9 (by kernel_rfl) rfl #[.int .u64 a0, .int .u64 a1] rfl (by (try simp only [List.map_toArray, List.map_cons, List.map_nil]); first | done | rfl | (simp only [List.length_drop, List.length_take]; rfl)) ?_; (with_reducible refine (govalues_ZzFintMul.calls a0 a1 t103 t104 _ A5.out).mono ?_); rintro e w' ⟨rfl, ⟨nd, rfl⟩⟩; refine ⟨_, rfl, ?_⟩))
      go_ret2
      exact ⟨by first | rfl | (simp; done) | (simp [*]; done), by repeat (first | exact Drawn0.refl _ | apply Drawn0.step)⟩

end Go.Proofs.Ytnjbfebeigginaa.PFintMul
