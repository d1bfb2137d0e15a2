/-
  The package's whole numbers of at most 19 digits, divided by a power of ten and rounded.
-/
import Derived.Test.YtnjbfebeigginaaDoorSpecRound
import Derived.Test.YtnjbfebeigginaaDoorGvWalk1
import Derived.Lib.Zigzag
set_option linter.unusedVariables false
set_option linter.unusedSimpArgs false
namespace Go.Proofs.YtnjbfebeigginaaDoor.GvWalk
open Go.RowKit Go.Proofs.YtnjbfebeigginaaDoorW.PrintWords Go.Proofs.YtnjbfebeigginaaDoorW.PrintLast Go.Proofs.YtnjbfebeigginaaDoorW.PrintMore Go.Proofs.YtnjbfebeigginaaDoor.Digs Go.Proofs.YtnjbfebeigginaaDoor.StrLaw Go.Proofs.YtnjbfebeigginaaDoor.NatLaw Go.Proofs.YtnjbfebeigginaaDoor.NatWalk Go.Proofs.YtnjbfebeigginaaDoor.SpecWalk

theorem rnd_zero (t : Bool) (d : Nat) (hd : 0 < d) : rnd t 0 d = 0 := by unfold rnd; rw [Nat.zero_mod, if_pos rfl, Nat.zero_div]
theorem rnd_one (t : Bool) (n : Nat) : rnd t n 1 = n := by unfold rnd; rw [Nat.mod_one, if_pos rfl, Nat.div_one]
theorem rnd_small (n d : Nat) (h0 : 0 < n) (h : n < d) : rnd false n d = 0 ∧ rnd true n d = 1 := by
  unfold rnd
  have hz : ¬ n = 0 := Nat.pos_iff_ne_zero.mp h0
  rw [Nat.mod_eq_of_lt h, if_neg hz, if_neg hz, Nat.div_eq_of_lt h]
  exact ⟨rfl, rfl⟩

/-- A number divided by another one, in the walk's words. -/
structure Divs (x p : Nat) (P Q R : Int) : Prop where
  mk :: (hp : P = (p : Int)) (hq : Q = ((x / p : Nat) : Int)) (hr : R = ((x % p : Nat) : Int)) (p0 : 0 < P) (pm : P ≤ 10000000000000000000) (quo : (x : Int) / P = Q) (mul : IntKind.u64.wrap (Q * P) = Q * P) (sub : IntKind.u64.wrap ((x : Int) - Q * P) = R) (q0 : 0 ≤ Q) (q1 : Q ≤ 9999999999999999999) (r0 : 0 ≤ R) (r1 : R < P)
theorem divs_qr (x p q r : Nat) (h : p * q + r = x) (hr : r < p) (hq : q ≤ x) (hx : x ≤ 9999999999999999999) : IntKind.u64.wrap ((q : Int) * (p : Int)) = (q : Int) * (p : Int) ∧ IntKind.u64.wrap ((x : Int) - (q : Int) * (p : Int)) = (r : Int) ∧ 0 ≤ (q : Int) ∧ (q : Int) ≤ 9999999999999999999 ∧ 0 ≤ (r : Int) ∧ (r : Int) < (p : Int) := by
  have hsub : (q : Int) * (p : Int) = ((p * q : Nat) : Int) := by rw [Int.natCast_mul, Int.mul_comm]
  rw [hsub]
  generalize p * q = m at *
  refine ⟨IntWalk.u64_in _ (by omega), ?_, by omega, by omega, by omega, by omega⟩
  have : (x : Int) - (m : Int) = (r : Int) := by omega
  rw [this]; exact IntWalk.u64_in _ (by omega)
theorem divs_n (x p : Nat) (hp : 0 < p) (hpm : p ≤ 10000000000000000000) (hx : x ≤ 9999999999999999999) : ∃ P Q R, Divs x p P Q R := by
  obtain ⟨h1, h2, h3, h4, h5, h6⟩ := divs_qr x p (x / p) (x % p) (Nat.div_add_mod x p) (Nat.mod_lt x hp) (Nat.div_le_self x p) hx
  exact ⟨_, _, _, rfl, rfl, rfl, by omega, by omega, rfl, h1, h2, h3, h4, h5, h6⟩

set_option maxHeartbeats 1000000 in
/-- Rounded up. -/
theorem rshUp_n (x s : Nat) (w : World) (hp : Pows w) (hx : x ≤ 9999999999999999999) (hs : s ≤ 9223372036854775807) :
    Calls Tryd.prog 57 #[.int .u64 x, .int .i64 s] w fun e w' => e = .returned (.int .u64 ((rnd true x (10 ^ s) : Nat) : Int)) ∧ w' = w := by
  have HX := Aside0.mk hx
  clear hx
  by_cases hx0 : x = 0
  · subst hx0
    rw [rnd_zero _ _ (Nat.pow_pos (by decide))]
    clear hs
    go_enter Tryd.func57, Tryd.ntmps57
    go_wp2
    go_ret
    exact ⟨rfl, rfl⟩
  · have hx1 : ((x : Int) == 0) = false := beq_eq_false_iff_ne.mpr (by omega)
    by_cases hs0 : s = 0
    · subst hs0
      rw [Nat.pow_zero, rnd_one]
      go_enter Tryd.func57, Tryd.ntmps57
      go_wp2
      go_ret
      exact ⟨rfl, rfl⟩
    · by_cases hs2 : 20 ≤ s
      · rw [(rnd_small x (10 ^ s) (by omega) (by have h1 := pow_mono hs2; have h2 := HX.out; omega)).2]
        go_enter Tryd.func57, Tryd.ntmps57
        go_wp2
        go_ret
        exact ⟨rfl, rfl⟩
      · have hc := hp.out s (by omega)
        obtain ⟨P, Q, R, hD⟩ := divs_n x (10 ^ s) (Nat.pow_pos (by decide)) (by have := pow_mono (show s ≤ 19 by omega); omega) HX.out
        have hrnd : ((rnd true x (10 ^ s) : Nat) : Int) = if R = 0 then Q else Q + 1 := by
          rw [hD.hq, hD.hr]; unfold rnd
          generalize x % 10 ^ s = r at *
          generalize x / 10 ^ s = q at *
          by_cases h : r = 0
          · have h' : (r : Int) = 0 := by omega
            simp [h, h']
          · have h' : ¬ (r : Int) = 0 := by omega
            simp [h, h']
        rw [hrnd]
        obtain ⟨e1, -, -, hP0, hPm, hquo, hmul, hsub, hQ0, hQ1, hR0, hR1⟩ := hD
        rw [← e1] at hc
        have hP1 : ¬ P = 0 := by omega
        clear e1 hrnd
        have hxm := HX.out
        by_cases hz : R = 0
        · subst hz
          go_enter Tryd.func57, Tryd.ntmps57
          go_wp2
          go_ret
          exact ⟨rfl, rfl⟩
        · rw [if_neg hz]
          have hz2 : 0 < R := by omega
          go_enter Tryd.func57, Tryd.ntmps57
          go_wp2
          go_ret
          exact ⟨rfl, rfl⟩

/-- The digit left is odd. -/
theorem isOdd_n (q : Nat) (w : World) (hq : q < 18446744073709551616) : Calls Tryd.prog 64 #[.int .u64 q] w fun e w' => e = .returned (.bool (decide (q % 2 = 1))) ∧ w = w' := by
  have h : (Go.bits .and .u64 (q : Int) 1 != 0) = decide (q % 2 = 1) := by
    rw [Lib.u64_and1 _ (by omega) (by omega), Bool.eq_iff_iff, bne_iff_ne, decide_eq_true_iff]; omega
  go_enter Tryd.func64, Tryd.ntmps64
  go_wp2
  go_ret
  exact ⟨by rw [← h]; rfl, rfl⟩
/-- Whether half to even rounds up. -/
def evens (x d : Nat) : Bool := decide (d < 2 * (x % d)) || (decide (d = 2 * (x % d)) && decide (x / d % 2 = 1))
set_option maxHeartbeats 1000000 in
/-- Rounded half to even. -/
theorem rshEven_n (x s : Nat) (w : World) (hp : Pows w) (hx : x ≤ 9999999999999999999) (hs : s ≤ 9223372036854775807) :
    Calls Tryd.prog 56 #[.int .u64 x, .int .i64 s] w fun e w' => e = .returned (.int .u64 ((rnd (evens x (10 ^ s)) x (10 ^ s) : Nat) : Int)) ∧ w' = w := by
  have HX := Aside0.mk hx
  clear hx
  by_cases hx0 : x = 0
  · subst hx0
    rw [rnd_zero _ _ (Nat.pow_pos (by decide))]
    clear hs
    go_enter Tryd.func56, Tryd.ntmps56
    go_wp2
    go_ret
    exact ⟨rfl, rfl⟩
  · have hx1 : ((x : Int) == 0) = false := beq_eq_false_iff_ne.mpr (by omega)
    by_cases hs0 : s = 0
    · subst hs0
      rw [Nat.pow_zero, rnd_one]
      go_enter Tryd.func56, Tryd.ntmps56
      go_wp2
      go_ret
      exact ⟨rfl, rfl⟩
    · by_cases hs2 : 20 ≤ s
      · have hlt : 2 * x < 10 ^ s := by have h1 := pow_mono hs2; have h2 := HX.out; omega
        have he : evens x (10 ^ s) = false := by
          unfold evens
          rw [Nat.mod_eq_of_lt (show x < 10 ^ s by omega), decide_eq_false (by omega), decide_eq_false (by omega)]; rfl
        rw [he, (rnd_small x (10 ^ s) (by omega) (by omega)).1]
        go_enter Tryd.func56, Tryd.ntmps56
        go_wp2
        go_ret
        exact ⟨rfl, rfl⟩
      · have hc := hp.out s (by omega)
        have heven : 10 ^ s = 2 * (5 * 10 ^ (s - 1)) := by
          have : 10 ^ s = 10 ^ (s - 1) * 10 := by rw [← Nat.pow_succ]; congr 1; omega
          omega
        obtain ⟨P, Q, R, hD⟩ := divs_n x (10 ^ s) (Nat.pow_pos (by decide)) (by have := pow_mono (show s ≤ 19 by omega); omega) HX.out
        obtain ⟨H, hH⟩ : ∃ H : Int, P = 2 * H := ⟨((5 * 10 ^ (s - 1) : Nat) : Int), by rw [hD.hp, heven]; omega⟩
        have hev : evens x (10 ^ s) = (decide (H < R) || (decide (H = R) && decide (x / 10 ^ s % 2 = 1))) := by
          unfold evens
          have h1 := hD.hp; have h2 := hD.hr
          rw [show decide (10 ^ s < 2 * (x % 10 ^ s)) = decide (H < R) by rw [Bool.eq_iff_iff, decide_eq_true_iff, decide_eq_true_iff]; omega]
          rw [show decide (10 ^ s = 2 * (x % 10 ^ s)) = decide (H = R) by rw [Bool.eq_iff_iff, decide_eq_true_iff, decide_eq_true_iff]; omega]
        have hrnd : ∀ t : Bool, ((rnd t x (10 ^ s) : Nat) : Int) = if R = 0 then Q else if t = true then Q + 1 else Q := by
          intro t
          rw [hD.hq, hD.hr]; unfold rnd
          generalize x % 10 ^ s = r at *
          generalize x / 10 ^ s = q at *
          by_cases h : r = 0
          · have h' : (r : Int) = 0 := by omega
            simp [h, h']
          · have h' : ¬ (r : Int) = 0 := by omega
            cases t <;> simp [h, h']
        rw [hrnd, hev]
        have HO := Aside0.mk (fun w => isOdd_n (x / 10 ^ s) w (by have := Nat.div_le_self x (10 ^ s); have := HX.out; omega))
        rw [← hD.hq] at HO
        generalize hoo : decide (x / 10 ^ s % 2 = 1) = o at *
        obtain ⟨e1, -, -, hP0, hPm, hquo, hmul, hsub, hQ0, hQ1, hR0, hR1⟩ := hD
        rw [← e1] at hc
        have hP1 : ¬ P = 0 := by omega
        have hH2 : P / 2 = H := by omega
        have hH0 : 0 < H := by omega
        clear e1 hrnd hev heven hoo
        have hxm := HX.out
        rcases Int.lt_trichotomy H R with hlt | heq | hgt
        · rw [if_neg (by omega), decide_eq_true hlt]
          have hH3 := Aside0.mk hH
          clear hH
          go_enter Tryd.func56, Tryd.ntmps56
          go_wp2
          go_ret
          exact ⟨rfl, rfl⟩
        · subst heq
          rw [if_neg (by omega), decide_eq_true (show H = H from rfl), decide_eq_false (show ¬ H < H by omega)]
          clear hH
          cases o
          · go_enter Tryd.func56, Tryd.ntmps56
            go_wp2_with (go_at_call 64; refine (HO.out _).mono ?_; rintro e w1 ⟨rfl, rfl⟩)
            go_ret
            exact ⟨rfl, rfl⟩
          · go_enter Tryd.func56, Tryd.ntmps56
            go_wp2_with (go_at_call 64; refine (HO.out _).mono ?_; rintro e w1 ⟨rfl, rfl⟩)
            go_ret
            exact ⟨rfl, rfl⟩
        · rw [decide_eq_false (show ¬ H < R by omega), decide_eq_false (show ¬ H = R by omega)]
          have hne : (H == R) = false := beq_eq_false_iff_ne.mpr (by omega)
          have hle : ¬ H < R := by omega
          clear hH
          rw [show (if R = 0 then Q else if (false || (false && o)) = true then Q + 1 else Q) = Q by split <;> simp]
          go_enter Tryd.func56, Tryd.ntmps56
          go_wp2
          go_ret
          exact ⟨rfl, rfl⟩

theorem intEven_n (x s : Nat) (w : World) (hp : Pows w) (hx : x ≤ 9999999999999999999) (hs : s ≤ 9223372036854775807) :
    Calls Tryd.prog 16 #[.int .u64 x, .int .i64 s] w fun e w' => e = .returned (.int .u64 ((rnd (evens x (10 ^ s)) x (10 ^ s) : Nat) : Int)) ∧ w' = w := by
  have HR := Aside0.mk (rshEven_n x s w hp hx hs)
  have hle : (x : Int) ≤ 9999999999999999999 := by omega
  clear hx hs hp
  generalize rnd (evens x (10 ^ s)) x (10 ^ s) = z at *
  go_enter Tryd.func16, Tryd.ntmps16
  go_wp2_with (first | (go_at_call 56; refine HR.out.mono ?_; rintro e w1 ⟨rfl, rfl⟩) | (go_at_call 36; go_in))
  go_ret
  exact ⟨rfl, rfl⟩

theorem intUp_n (x s : Nat) (w : World) (hp : Pows w) (hx : x ≤ 9999999999999999999) (hs : s ≤ 9223372036854775807) :
    Calls Tryd.prog 17 #[.int .u64 x, .int .i64 s] w fun e w' => e = .returned (.int .u64 ((rnd true x (10 ^ s) : Nat) : Int)) ∧ w' = w := by
  have HR := Aside0.mk (rshUp_n x s w hp hx hs)
  have hle : (x : Int) ≤ 9999999999999999999 := by omega
  clear hx hs hp
  generalize rnd true x (10 ^ s) = z at *
  go_enter Tryd.func17, Tryd.ntmps17
  go_wp2_with (first | (go_at_call 57; refine HR.out.mono ?_; rintro e w1 ⟨rfl, rfl⟩) | (go_at_call 37; go_in))
  go_ret
  exact ⟨rfl, rfl⟩

theorem intDown_n (x s : Nat) (w : World) (hp : Pows w) (hx : x ≤ 9999999999999999999) (hs : s ≤ 9223372036854775807) :
    Calls Tryd.prog 18 #[.int .u64 x, .int .i64 s] w fun e w' => e = .returned (.int .u64 ((x / 10 ^ s : Nat) : Int)) ∧ w' = w := by
  have HR := Aside0.mk (rshDown_n x s w hp hx hs)
  have hle : (x : Int) ≤ 9999999999999999999 := by omega
  clear hx hs hp
  generalize x / 10 ^ s = z at *
  go_enter Tryd.func18, Tryd.ntmps18
  go_wp2_with (first | (go_at_call 51; refine HR.out.mono ?_; rintro e w1 ⟨rfl, rfl⟩) | (go_at_call 38; go_in))
  go_ret
  exact ⟨rfl, rfl⟩

end Go.Proofs.YtnjbfebeigginaaDoor.GvWalk
