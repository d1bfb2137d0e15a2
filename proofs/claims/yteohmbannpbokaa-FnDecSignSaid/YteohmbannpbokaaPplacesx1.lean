-- PRINTED BY print.sh 35421559b90ae4d0a3588c463048766b98c2df88dd9212a6774a882060cdf62d: not written by this session
import Derived.Test.YteohmbannpbokaaPplacesx0
namespace Go.Proofs.Yteohmbannpbokaa.Pplaces
open Go.RowKit Go.Proofs.YteohmbannpbokaaW.PrintWords Go.Proofs.YteohmbannpbokaaW.PrintLast Go.Proofs.YteohmbannpbokaaW.PrintMore
attribute [local go_sem] max2_int min2_int max_two min_two max_three min_three max_four min_four   -- for this text's walks alone
set_option linter.unusedVariables false
set_option linter.unusedSimpArgs false

/-! ### impl_places: function 33 -/
def impl_places.f (a0 : Int) : Option (Bool) := if a0 ≥ (-400) then (some (decide (a0 ≤ 400))) else (some false)
set_option maxHeartbeats 8000000 in
set_option maxRecDepth 100000 in
theorem impl_places.calls (a0 : Int) (r : Bool) (w : World) (h : impl_places.f a0 = some r) :
    Calls Try.prog 33 #[.int .i64 a0] w fun e w' => e = .returned (.bool r) ∧ Drawn0 w w' := by
  have H : (if a0 ≥ (-400) then (some (decide (a0 ≤ 400))) else (some false)) = some r := h
  clear h
  by_cases c2 : a0 ≥ (-400)
  · rw [if_pos c2] at H
    have c2b0 : decide ((-400) ≤ a0) = true := decide_eq_true c2
    clear c2
    obtain rfl := Option.some.inj H
    go_enter Try.func33, Try.ntmps33
    go_wp2
    go_ret
    exact ⟨by first | rfl | (simp; done) | (simp [*]; done), by repeat (first | exact Drawn0.refl _ | apply Drawn0.step)⟩
  · rw [if_neg c2] at H
    have c2b0 : decide ((-400) ≤ a0) = false := decide_eq_false c2
    clear c2
    obtain rfl := Option.some.inj H
    go_enter Try.func33, Try.ntmps33
    go_wp2
    go_ret
    exact ⟨by first | rfl | (simp; done) | (simp [*]; done), by repeat (first | exact Drawn0.refl _ | apply Drawn0.step)⟩

/-- THE ONE PURE STATEMENT of impl_places: yours. -/
def impl_places.Pure : Prop := ∀ (a0 : Int), (Lit.int .i64 a0).wf = true → impl_places.f a0 = some true
theorem impl_places.walk (P : impl_places.Pure) (a0 : Int) (w : World) (w0 : (Lit.int .i64 a0).wf = true) :
    Calls Try.prog 33 #[.int .i64 a0] w fun e w' => e = .returned (.bool true) ∧ Below w.heap.size w w' := by
  have h := P a0 w0
  refine (impl_places.calls a0 true w h).mono ?_
  rintro e w' ⟨rfl, hd⟩
  exact ⟨rfl, hd.below⟩

end Go.Proofs.Yteohmbannpbokaa.Pplaces
