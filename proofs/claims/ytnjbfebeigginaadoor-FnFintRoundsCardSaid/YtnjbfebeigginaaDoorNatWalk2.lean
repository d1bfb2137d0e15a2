/-
  The reference's calls over natural numbers of any length, told by the numbers alone, and where the limbs of what they return lie; nothing that was there is changed.
-/

import Derived.Test.YtnjbfebeigginaaDoorNatLaw2
import Derived.Test.YtnjbfebeigginaaDoorStrWalk
set_option linter.unusedVariables false
set_option linter.unusedSimpArgs false
namespace Go.Proofs.YtnjbfebeigginaaDoor.NatWalk
open Go.RowKit Go.Proofs.YtnjbfebeigginaaDoorW.PrintWords Go.Proofs.YtnjbfebeigginaaDoorW.PrintLast Go.Proofs.YtnjbfebeigginaaDoorW.PrintMore Go.Proofs.YtnjbfebeigginaaDoor.Digs Go.Proofs.YtnjbfebeigginaaDoor.StrLaw Go.Proofs.YtnjbfebeigginaaDoor.NatLaw
open Go.Proofs.YtnjbfebeigginaaDoor.PFnFixTrunc

/-- A value that reads as a number's limbs, which lie in blocks of ok alone. -/
structure Rdv (w : World) (ok : Nat → Prop) (v : Value) (n : Nat) : Prop where
  mk :: (out : Kd.V (Kd.int .u32) 0 w 0 ok v (digs n))
section
variable {w w1 : World} {ok ok' : Nat → Prop} {v : Value} {n : Nat}
theorem Rdv.form (h : Rdv w ok v n) : ∃ A c, v = .slice A (digs n).length c ∧ (digs n).length ≤ c ∧ Kd.C (Kd.int .u32) w A (digs n).length (digs n) := by
  obtain ⟨A, c, e, hl, hf⟩ := h
  exact ⟨A, c, e, hl, Kd.F_now hf⟩
theorem Rdv.mono (h : Rdv w ok v n) (ho : ∀ k, ok k → ok' k) : Rdv w ok' v n := ⟨Kd.V_mono h.out ho⟩
theorem Rdv.bound (h : Rdv w ok v n) : Rdv w (fun k => ok k ∧ k < w.heap.size) v n := ⟨Kd.V_bound h.out⟩
theorem Rdv.below (h : Rdv w ok v n) (hb : Below w.heap.size w w1) : Rdv w1 ok v n := ⟨Kd.V_below h.out hb⟩
theorem Rdv.far (h : Rdv w ok v n) {p : Addr} (ho : ∀ k, ok k → k ≠ p.block) (u : Value) : Rdv (w.setCell p u) ok v n := ⟨Kd.V_far h.out ho u⟩
theorem Rdv.far2 {g : Nat} (h : Rdv w ok v n) (ho : ∀ k, ok k → k ≠ g) (x y : Value) : Rdv ((w.setCell ⟨g, 0, none⟩ x).setCell ⟨g, 1, none⟩ y) ok v n :=
  (h.far (p := ⟨g, 0, none⟩) ho x).far (p := ⟨g, 1, none⟩) ho y
theorem Rdv.far3 {g : Nat} (h : Rdv w ok v n) (ho : ∀ k, ok k → k ≠ g) (x y z : Value) : Rdv (((w.setCell ⟨g, 0, none⟩ x).setCell ⟨g, 1, none⟩ y).setCell ⟨g, 2, none⟩ z) ok v n :=
  (h.far2 ho x y).far (p := ⟨g, 2, none⟩) ho z
theorem Rdv.drew (h : Rdv w ok v n) : Rdv w.drew ok v n := ⟨Kd.V_drew h.out⟩
theorem Rdv.of_R {e base : Nat} (h : Kd.R (Kd.int .u32) e w base ok v (digs n)) : Rdv w (fun k => base ≤ k) v n :=
  have h1 : Kd.V (Kd.int .u32) e w 0 (fun k => base ≤ k) v (digs n) := Kd.R_V (Kd.R_mono (Kd.R_bound h) (fun _ hk => hk.2.1))
  ⟨h1⟩
theorem Rdv.of_V {e base : Nat} (h : Kd.V (Kd.int .u32) e w base ok v (digs n)) : Rdv w ok v n := ⟨h⟩
theorem Rdv.nil (w : World) : Rdv w (fun _ => False) (.slice none 0 0) 0 := ⟨by rw [digs_zero]; exact Kd.V_nil _ _ _ _ _⟩
end

theorem from_n (n : Nat) (w : World) (h : n < 18446744073709551616) : Calls Tryd.prog 11 #[.int .u64 n] w fun e w' => ∃ v, e = .returned v ∧ Rdv w' (fun k => w.heap.size ≤ k) v n ∧ Below w.heap.size w w' := by
  obtain ⟨k, hk⟩ := (from_ev n h).rounds
  refine (spec_NatFrom.calls k n (digs n) w hk).mono ?_
  rintro e w' ⟨v, rfl, hr, hb⟩
  exact ⟨v, rfl, Rdv.of_R hr, hb⟩
theorem pow10_n (n : Nat) (w : World) (h : n ≤ 1000000) : Calls Tryd.prog 12 #[.int .i64 n] w fun e w' => ∃ v, e = .returned v ∧ Rdv w' (fun k => w.heap.size ≤ k) v (10 ^ n) ∧ Below w.heap.size w w' := by
  obtain ⟨k, hk⟩ := (pow10_ev n h).rounds
  refine (spec_Pow10.calls k n (digs (10 ^ n)) w hk).mono ?_
  rintro e w' ⟨v, rfl, hr, hb⟩
  exact ⟨v, rfl, Rdv.of_R hr, hb⟩
theorem mul_n (a b : Nat) (oa ob : Nat → Prop) (v u : Value) (w : World) (hv : Rdv w oa v a) (hu : Rdv w ob u b) (hl : (digs a).length + (digs b).length ≤ 4000000000) :
    Calls Tryd.prog 30 #[v, u] w fun e w' => ∃ v, e = .returned v ∧ Rdv w' (fun k => w.heap.size ≤ k) v (a * b) ∧ Below w.heap.size w w' := by
  obtain ⟨A, c, rfl, hl0, hc0⟩ := hv.form
  obtain ⟨A1, c1, rfl, hl1, hc1⟩ := hu.form
  obtain ⟨k, hk⟩ := (mul_ev a b hl).rounds
  refine (spec_NatMul.calls k A c (digs a) A1 c1 (digs b) (digs (a * b)) w hc0 hl0 hc1 hl1 hk).mono ?_
  rintro e w' ⟨v, rfl, hr, hb⟩
  exact ⟨v, rfl, Rdv.of_V hr, hb⟩
theorem cmp_n (a b : Nat) (oa ob : Nat → Prop) (v u : Value) (w : World) (hv : Rdv w oa v a) (hu : Rdv w ob u b) (hl : (digs a).length ≤ 4000000000) :
    Calls Tryd.prog 14 #[v, u] w fun e w' => e = .returned (.int .i64 (cmpN a b)) ∧ Drawn0 w w' := by
  obtain ⟨A, c, rfl, hl0, hc0⟩ := hv.form
  obtain ⟨A1, c1, rfl, hl1, hc1⟩ := hu.form
  obtain ⟨k, hk⟩ := (cmp_ev a b hl).rounds
  exact spec_NatCmp.calls k A c (digs a) A1 c1 (digs b) _ w hc0 hl0 hc1 hl1 hk
theorem trim_n (l : List Int) (hd : Dig l) (hl : l.length ≤ 4000000000) (n : Nat) (hn : val l = n) (ok : Nat → Prop) (v : Value) (w : World) (hv : Kd.V (Kd.int .u32) 0 w 0 ok v l) :
    Calls Tryd.prog 53 #[v] w fun e w' => ∃ v, e = .returned v ∧ Rdv w' (fun k => ok k ∨ w.heap.size ≤ k) v n ∧ Below w.heap.size w w' := by
  obtain ⟨A, c, rfl⟩ := Kd.V_slice hv
  obtain ⟨k, hk⟩ := (trim_ev l.length l rfl hl hd n hn).rounds
  refine (spec_natTrim.calls k ok A c l (digs n) w hv hk).mono ?_
  rintro e w' ⟨v, rfl, hr, hb⟩
  exact ⟨v, rfl, Rdv.of_V hr, hb⟩
theorem short_n (n b : Nat) (oa : Nat → Prop) (v : Value) (w : World) (hv : Rdv w oa v n) (hb0 : 0 < b) (hb1 : b < 4294967296) (hl : (digs n).length ≤ 4000000000) :
    Calls Tryd.prog 46 #[v, .int .u32 b] w fun e w' => ∃ v, e = .returned (.tuple #[v, .int .u32 ((n % b : Nat) : Int)]) ∧ Rdv w' (fun k => w.heap.size ≤ k) v (n / b) ∧ Below w.heap.size w w' := by
  obtain ⟨A, c, rfl, hl0, hc0⟩ := hv.form
  obtain ⟨k, hk⟩ := (short_ev n b hb0 hb1 hl).rounds
  refine (spec_natShort.calls k A c (digs n) b _ _ w hc0 hl0 hk).mono ?_
  rintro e w' ⟨v, rfl, hr, hb⟩
  exact ⟨v, rfl, Rdv.of_V hr, hb⟩

theorem size_text {n : Nat} (h : n ≠ 0) : (text n).size = nd n := by
  rw [text_pos h]
  simp [strOfNums, ByteArray.size, dbyt_len]
set_option maxHeartbeats 1000000 in
theorem digits_n (n : Nat) (oa : Nat → Prop) (v : Value) (w : World) (hv : Rdv w oa v n) (hl : ((digs n).length : Int) ≤ 4000000000) :
    Calls Tryd.prog 43 #[v] w fun e w' => e = .returned (.int .i64 (nd n)) ∧ Below w.heap.size w w' := by
  obtain ⟨A, c, rfl, hl0, hc0⟩ := hv.form
  clear hv
  by_cases h : n = 0
  · subst h
    have hz : (((digs 0).length : Int) == 0) = true := by rw [digs_zero]; rfl
    have HZ := Aside0.mk nd_zero
    clear hl hl0 hc0
    generalize (digs 0).length = m at *
    go_enter Tryd.func43, Tryd.ntmps43
    go_wp2
    go_ret
    exact ⟨by rw [HZ.out]; rfl, Below.refl _ _⟩
  · have hz : (((digs n).length : Int) == 0) = false := beq_eq_false_iff_ne.mpr (by have := len_pos h; omega)
    have hc := StrWalk.string_calls n A c w hc0 hl0 hl
    have HS := Aside0.mk (size_text h)
    have hsz : (text n).size ≤ 9223372036854775807 := by rw [HS.out]; have := nd_le_len n; omega
    clear hc0 hl0 hl h
    generalize (digs n).length = m at *
    generalize text n = s at *
    go_enter Tryd.func43, Tryd.ntmps43
    go_wp2_with (go_at_call 61; refine hc.mono ?_; rintro e w' ⟨rfl, hb⟩; have HB := Aside0.mk hb; clear hb)
    go_ret
    exact ⟨by first | rfl | (rw [HS.out]; rfl) | rw [HS.out], HB.out⟩
end Go.Proofs.YtnjbfebeigginaaDoor.NatWalk
