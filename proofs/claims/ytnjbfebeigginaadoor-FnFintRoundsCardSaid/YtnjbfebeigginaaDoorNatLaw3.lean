/-
  The reference's guess of a digit of a quotient: at least the digit, and one limb.
-/
import Derived.Test.YtnjbfebeigginaaDoorNatWalk3
import Derived.Test.YtnjbfebeigginaaDoorPnatGuessx1
set_option linter.unusedVariables false
set_option linter.unusedSimpArgs false
namespace Go.Proofs.YtnjbfebeigginaaDoor.NatLaw
open Go.RowKit Go.Proofs.YtnjbfebeigginaaDoorW.PrintWords Go.Proofs.YtnjbfebeigginaaDoorW.PrintLast Go.Proofs.YtnjbfebeigginaaDoorW.PrintMore Go.Proofs.YtnjbfebeigginaaDoor.Digs Go.Proofs.YtnjbfebeigginaaDoor.StrLaw Go.Proofs.YtnjbfebeigginaaDoor.PnatGuess

/-- The plain law of the guess: the top of what is divided over the divisor's top limb is at least the digit. -/
theorem guess_top {r y p yt : Nat} (hp : 0 < p) (ht : 0 < yt) (hy : yt * p ≤ y) : r / y ≤ (r / p) / yt := by
  have hy0 : 0 < y := Nat.lt_of_lt_of_le (Nat.mul_pos ht hp) hy
  rw [Nat.le_div_iff_mul_le ht, Nat.le_div_iff_mul_le hp, Nat.mul_assoc]
  exact Nat.le_trans (Nat.mul_le_mul_left _ hy) (Nat.div_mul_le_self r y)
theorem guess_limb {r y : Nat} (hy : 0 < y) (hr : r < y * 1000000000) : r / y ≤ 999999999 := by
  have := (Nat.div_lt_iff_lt_mul hy).mpr (by rw [Nat.mul_comm]; exact hr)
  omega
/-- A limb of a number. -/
theorem rd_digs : ∀ (i n : Nat), rd (digs n) (i : Int) = ((n / 1000000000 ^ i % 1000000000 : Nat) : Int) := by
  intro i
  induction i with
  | zero =>
    intro n
    rw [rd_nat]
    by_cases h : n = 0
    · subst h; rw [digs_zero]; rfl
    · rw [digs_pos h, Nat.pow_zero, Nat.div_one]; rfl
  | succ i ih =>
    intro n
    rw [rd_nat]
    by_cases h : n = 0
    · subst h; rw [digs_zero, Nat.zero_div]; rfl
    · rw [digs_pos h, List.getD_cons_succ, ← rd_nat, ih, Nat.pow_succ, Nat.mul_comm (1000000000 ^ i), Nat.div_div_eq_div_mul]
theorem div_pow_lt {n L : Nat} (h : (digs n).length ≤ L + 1) : n / 1000000000 ^ L < 1000000000 := by
  rw [Nat.div_lt_iff_lt_mul (Nat.pow_pos (by decide))]
  have h1 := lt_of_len n
  have h2 : 1000000000 ^ (digs n).length ≤ 1000000000 ^ (L + 1) := Nat.pow_le_pow_right (by decide) h
  rw [Nat.pow_succ, Nat.mul_comm] at h2
  omega
theorem guess_mn {q t : Nat} (h1 : q ≤ t) (h2 : q ≤ 999999999) : (q : Int) ≤ mn (t : Int) 999999999 ∧ mn (t : Int) 999999999 ≤ 999999999 := by
  unfold mn
  split <;> omega
theorem guess_ev (r y : Nat) (hy : 0 < y) (hr : r < y * 1000000000) (hl : (digs y).length ≤ 4000000000) : ∃ g : Int, spec_natGuess.f (digs r) (digs y) = some g ∧ ((r / y : Nat) : Int) ≤ g ∧ g ≤ 999999999 := by
  obtain ⟨L, hL⟩ : ∃ L, (digs y).length = L + 1 := ⟨(digs y).length - 1, by have := len_pos (n := y) (by omega); omega⟩
  have hrl : (digs r).length ≤ L + 2 := by
    refine len_digs_le (Nat.lt_of_lt_of_le hr ?_)
    have h1 := lt_of_len y
    rw [hL] at h1
    rw [show L + 2 = (L + 1) + 1 by omega, Nat.pow_succ 1000000000 (L + 1)]
    exact Nat.mul_le_mul_right _ (Nat.le_of_lt h1)
  have hw : wrap64 (((L + 1 : Nat) : Int) - 1) = ((L : Nat) : Int) := by rw [w64 _ (by omega) (by omega)]; omega
  have hyt : y / 1000000000 ^ L < 1000000000 := div_pow_lt (by omega)
  have hyt0 : 0 < y / 1000000000 ^ L := by
    refine Nat.div_pos ?_ (Nat.pow_pos (by decide))
    apply Classical.byContradiction
    intro h
    have := len_digs_le (Nat.not_le.mp h)
    omega
  have hq := guess_limb hy hr
  have ht := guess_top (r := r) (p := 1000000000 ^ L) (yt := y / 1000000000 ^ L) (Nat.pow_pos (by decide)) hyt0 (Nat.div_mul_le_self y _)
  unfold spec_natGuess.f
  rw [hL, hw, rd_digs L y, rd_digs L r, rd_digs (L + 1) r, Nat.mod_eq_of_lt hyt]
  by_cases h1 : ((digs r).length : Int) < ((L + 1 : Nat) : Int)
  · rw [if_pos h1]
    refine ⟨0, rfl, ?_, by decide⟩
    rw [Nat.div_eq_of_lt (len_digs_lt (by omega))]
    decide
  · rw [if_neg h1, if_pos (by omega), if_pos (by omega)]
    have hT := Nat.div_add_mod (r / 1000000000 ^ L) 1000000000
    rw [Nat.div_div_eq_div_mul, ← Nat.pow_succ] at hT
    have hwy : IntKind.u64.wrap ((y / 1000000000 ^ L : Nat) : Int) = ((y / 1000000000 ^ L : Nat) : Int) := wu64 _ (by omega) (by omega)
    have hm := Nat.mod_lt (r / 1000000000 ^ L) (show 0 < 1000000000 by decide)
    by_cases h2 : ((digs r).length : Int) > ((L + 1 : Nat) : Int)
    · have h3 : r / 1000000000 ^ (L + 1) < 1000000000 := div_pow_lt (by omega)
      rw [if_pos h2, if_pos (by omega), if_pos (by omega), if_pos (by omega), Nat.mod_eq_of_lt h3, hwy, if_neg (by omega)]
      generalize r / 1000000000 ^ (L + 1) = A at *
      generalize hM : r / 1000000000 ^ L % 1000000000 = M at *
      generalize hTT : r / 1000000000 ^ L = T at *
      generalize y / 1000000000 ^ L = Y at *
      rw [wu64 (A : Int) (by omega) (by omega), wu64 (M : Int) (by omega) (by omega), wu64 ((A : Int) * 1000000000) (by omega) (by omega), wu64 ((M : Int) + (A : Int) * 1000000000) (by omega) (by omega), show (M : Int) + (A : Int) * 1000000000 = ((T : Nat) : Int) by omega]
      have hTY : T / Y ≤ T := Nat.div_le_self _ _
      have htd : Int.tdiv (T : Int) (Y : Int) = ((T / Y : Nat) : Int) := rfl
      rw [htd]
      clear htd
      generalize T / Y = G at *
      rw [wu64 (G : Int) (by omega) (by omega)]
      exact ⟨_, rfl, guess_mn ht hq⟩
    · have h3 : r / 1000000000 ^ L < 1000000000 := div_pow_lt (by omega)
      rw [if_neg h2, if_pos (by omega), Nat.mod_eq_of_lt h3, hwy, if_neg (by omega)]
      generalize r / 1000000000 ^ L = T at *
      generalize y / 1000000000 ^ L = Y at *
      have hTY : T / Y ≤ T := Nat.div_le_self _ _
      have htd : Int.tdiv (T : Int) (Y : Int) = ((T / Y : Nat) : Int) := rfl
      rw [wu64 (T : Int) (by omega) (by omega), htd]
      clear htd
      generalize T / Y = G at *
      rw [wu64 (G : Int) (by omega) (by omega)]
      exact ⟨_, rfl, guess_mn ht hq⟩

/-! ### the quotient, limb by limb -/
/-- What holds when t limbs are still to come: what is found, what is left, what is to come. -/
structure DivInv (x : List Int) (X Y : Nat) (q : List Int) (R : Nat) (i : Int) : Prop where
  mk :: (out : ∃ t : Nat, i = (t : Int) - 1 ∧ t ≤ x.length ∧ Dig q ∧ q.length = x.length ∧ R < Y ∧ (∀ m : Nat, m < t → rd q m = 0) ∧ val q * Y + R * 1000000000 ^ t + val (x.take t) = X)
theorem DivInv.start {x : List Int} {X Y : Nat} (hx : val x = X) (hY : 0 < Y) : DivInv x X Y (List.replicate x.length 0) 0 ((x.length : Int) - 1) :=
  ⟨x.length, rfl, Nat.le_refl _, Dig.rep _, by simp, hY, fun m _ => rd_rep _ m, by rw [val_rep, List.take_length, hx]; simp⟩
theorem DivInv.bound {x q : List Int} {X Y R : Nat} {i : Int} (h : DivInv x X Y q R i) : -1 ≤ i ∧ i < x.length ∧ q.length = x.length ∧ R < Y := by
  obtain ⟨t, rfl, ht, _, hl, hR, _, _⟩ := h
  exact ⟨by omega, by omega, hl, hR⟩
theorem DivInv.step {x q : List Int} {X Y R : Nat} {i : Int} (h : DivInv x X Y q R i) (hi : 0 ≤ i) (hx : Dig x) {R1 : Nat} (h1 : (R1 : Int) = rd x i + R * 1000000000) :
    DivInv x X Y (q.set i.toNat ((R1 / Y : Nat) : Int)) (R1 % Y) (i - 1) ∧ R1 < Y * 1000000000 := by
  obtain ⟨t, rfl, ht, hD, hl, hR, hz, hv⟩ := h
  obtain ⟨m, rfl⟩ : ∃ m, t = m + 1 := ⟨t - 1, by omega⟩
  have e : ((m + 1 : Nat) : Int) - 1 = (m : Int) := by omega
  rw [e] at h1 ⊢
  have hxm := dig_rd hx (m : Int)
  have hlim : R1 < Y * 1000000000 := by omega
  have hY : 0 < Y := by omega
  have hq := guess_limb hY hlim
  refine ⟨⟨m, rfl, by omega, hD.set _ ⟨Int.natCast_nonneg _, by have : ((R1 / Y : Nat) : Int) ≤ 999999999 := Int.ofNat_le.mpr hq; omega⟩, by simpa using hl, Nat.mod_lt _ hY, ?_, ?_⟩, hlim⟩
  · intro j hj
    rw [show ((m : Int)).toNat = m by omega, rd_set_ne (by omega)]
    exact hz j (by omega)
  · rw [show ((m : Int)).toNat = m by omega, val_set q m _ (by omega), hz m (by omega)]
    rw [val_take_succ (by omega), pw_succ] at hv
    have hdm : ((R1 : Nat) : Int) = Y * ((R1 / Y : Nat) : Int) + ((R1 % Y : Nat) : Int) := by
      exact_mod_cast (Nat.div_add_mod R1 Y).symm
    grind
theorem DivInv.done {x q : List Int} {X Y R : Nat} {i : Int} (h : DivInv x X Y q R i) (hi : ¬ 0 ≤ i) : Dig q ∧ val q = ((X / Y : Nat) : Int) ∧ R = X % Y := by
  obtain ⟨t, rfl, ht, hD, hl, hR, hz, hv⟩ := h
  obtain rfl : t = 0 := by omega
  obtain ⟨Q, hQ⟩ := Int.eq_ofNat_of_zero_le (val_nonneg hD)
  rw [hQ] at hv ⊢
  simp only [List.take_zero, val, Int.pow_zero, Int.mul_one, Int.add_zero] at hv
  have hv' : Q * Y + R = X := by exact_mod_cast hv
  have hY : 0 < Y := by omega
  refine ⟨hD, ?_, ?_⟩
  · rw [← hv', Nat.add_comm, Nat.add_mul_div_right _ _ hY, Nat.div_eq_of_lt hR, Nat.zero_add]
  · rw [← hv', Nat.add_comm, Nat.add_mul_mod_self_right, Nat.mod_eq_of_lt hR]
end Go.Proofs.YtnjbfebeigginaaDoor.NatLaw
