/-
  The reference's calls over natural numbers of any length, told by the numbers alone: made from a machine number, multiplied, compared, their decimal digits counted; nothing that was there is changed.
-/

import Derived.Test.YtnjbfebeigginaaNatLaw1
import Derived.Test.YtnjbfebeigginaaStrWalk
set_option linter.unusedVariables false
set_option linter.unusedSimpArgs false
namespace Go.Proofs.Ytnjbfebeigginaa.NatWalk
open Go.RowKit Go.Proofs.YtnjbfebeigginaaW.PrintWords Go.Proofs.YtnjbfebeigginaaW.PrintLast Go.Proofs.YtnjbfebeigginaaW.PrintMore Go.Proofs.Ytnjbfebeigginaa.Digs Go.Proofs.Ytnjbfebeigginaa.StrLaw Go.Proofs.Ytnjbfebeigginaa.NatLaw
open Go.Proofs.Ytnjbfebeigginaa.PNatMul Go.Proofs.Ytnjbfebeigginaa.PNatCmp Go.Proofs.Ytnjbfebeigginaa.PNatFrom

/-- A value that reads as a number's limbs. -/
structure Rdg (w : World) (v : Value) (n : Nat) : Prop where
  mk :: (out : ∃ A c, v = .slice A (digs n).length c ∧ (digs n).length ≤ c ∧ Kd.C (Kd.int .u32) w A (digs n).length (digs n))
theorem Rdg.below {w w1 : World} {v : Value} {n : Nat} (h : Rdg w v n) (hb : Below w.heap.size w w1) : Rdg w1 v n := by
  obtain ⟨A, c, e, hl, hc⟩ := h
  exact ⟨A, c, e, hl, Kd.C_below hc hb⟩
theorem Rdg.since {B : Nat} {w0 w w1 : World} {v : Value} {n : Nat} (h : Rdg w v n) (hb : Below w.heap.size w w1) : Rdg w1 v n := h.below hb
theorem Rdg.of_R {w : World} {v : Value} {n e base : Nat} {ok : Nat → Prop} (h : Kd.R (Kd.int .u32) e w base ok v (digs n)) : Rdg w v n := ⟨Kd.R_reads h⟩
theorem Rdg.of_V {w : World} {v : Value} {n e base : Nat} {ok : Nat → Prop} (h : Kd.V (Kd.int .u32) e w base ok v (digs n)) : Rdg w v n := by
  obtain ⟨A, c, e, hl, hf⟩ := h
  exact ⟨A, c, e, hl, Kd.F_now hf⟩
theorem Rdg.nil (w : World) : Rdg w (.slice none 0 0) 0 := by
  refine Rdg.of_R (e := 0) (base := 0) (ok := fun _ => True) ?_
  rw [digs_zero]
  exact Kd.R_nil _ _ _ _ _

theorem from_n (n : Nat) (w : World) (h : n < 18446744073709551616) : Calls Try.prog 8 #[.int .u64 n] w fun e w' => ∃ v, e = .returned v ∧ Rdg w' v n ∧ Below w.heap.size w w' := by
  obtain ⟨k, hk⟩ := (from_ev n h).rounds
  refine (spec_NatFrom.calls k n (digs n) w hk).mono ?_
  rintro e w' ⟨v, rfl, hr, hb⟩
  exact ⟨v, rfl, Rdg.of_R hr, hb⟩
theorem mul_n (a b : Nat) (v u : Value) (w : World) (hv : Rdg w v a) (hu : Rdg w u b) (hl : (digs a).length + (digs b).length ≤ 4000000000) :
    Calls Try.prog 7 #[v, u] w fun e w' => ∃ v, e = .returned v ∧ Rdg w' v (a * b) ∧ Below w.heap.size w w' := by
  obtain ⟨A, c, rfl, hl0, hc0⟩ := hv
  obtain ⟨A1, c1, rfl, hl1, hc1⟩ := hu
  obtain ⟨k, hk⟩ := (mul_ev a b hl).rounds
  refine (spec_NatMul.calls k A c (digs a) A1 c1 (digs b) (digs (a * b)) w hc0 hl0 hc1 hl1 hk).mono ?_
  rintro e w' ⟨v, rfl, hr, hb⟩
  exact ⟨v, rfl, Rdg.of_V hr, hb⟩
theorem cmp_n (a b : Nat) (v u : Value) (w : World) (hv : Rdg w v a) (hu : Rdg w u b) (hl : (digs a).length ≤ 4000000000) :
    Calls Try.prog 11 #[v, u] w fun e w' => e = .returned (.int .i64 (cmpN a b)) ∧ Below w.heap.size w w' := by
  obtain ⟨A, c, rfl, hl0, hc0⟩ := hv
  obtain ⟨A1, c1, rfl, hl1, hc1⟩ := hu
  obtain ⟨k, hk⟩ := (cmp_ev a b hl).rounds
  refine (spec_NatCmp.calls k A c (digs a) A1 c1 (digs b) _ w hc0 hl0 hc1 hl1 hk).mono ?_
  rintro e w' ⟨rfl, hb⟩
  exact ⟨rfl, hb.below⟩

theorem size_text {n : Nat} (h : n ≠ 0) : (text n).size = nd n := by
  rw [text_pos h]
  simp [strOfNums, ByteArray.size, dbyt_len]
set_option maxHeartbeats 1000000 in
theorem digits_n (n : Nat) (v : Value) (w : World) (hv : Rdg w v n) (hl : ((digs n).length : Int) ≤ 4000000000) :
    Calls Try.prog 10 #[v] w fun e w' => e = .returned (.int .i64 (nd n)) ∧ Below w.heap.size w w' := by
  obtain ⟨A, c, rfl, hl0, hc0⟩ := hv
  by_cases h : n = 0
  · subst h
    have hz : (((digs 0).length : Int) == 0) = true := by rw [digs_zero]; rfl
    have HZ := Aside0.mk nd_zero
    clear hl hl0 hc0
    generalize (digs 0).length = m at *
    go_enter Try.func10, Try.ntmps10
    go_wp2
    go_ret
    exact ⟨by rw [HZ.out]; rfl, Below.refl _ _⟩
  · have hz : (((digs n).length : Int) == 0) = false := beq_eq_false_iff_ne.mpr (by have := len_pos h; omega)
    have hc := StrWalk.string_calls n A c w hc0 hl0 hl
    have HS := Aside0.mk (size_text h)
    have hsz : (text n).size ≤ 9223372036854775807 := by rw [HS.out]; have := nd_le_len n; omega
    clear hc0 hl0 hl h
    generalize (digs n).length = m at *
    generalize text n = s at *
    go_enter Try.func10, Try.ntmps10
    go_wp2_with (go_at_call 14; refine hc.mono ?_; rintro e w' ⟨rfl, hb⟩; have HB := Aside0.mk hb; clear hb)
    go_ret
    exact ⟨by first | rfl | (rw [HS.out]; rfl) | rw [HS.out], HB.out⟩
end Go.Proofs.Ytnjbfebeigginaa.NatWalk
