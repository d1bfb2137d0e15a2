/-
 Words for this claim.
-/
import Derived.Test.YteohmbannpbokaaGreatDoorJ15
set_option linter.unusedVariables false
namespace Go.Proofs.YteohmbannpbokaaGreatDoor.ExpLaw
def atn (z : Rat) : Nat → Rat
 | 0 => 0
 | m + 1 => atn z m + z ^ (2 * m + 1) / ((2 * m + 1 : Nat) : Rat)
def geo (z : Rat) : Nat → Rat
 | 0 => 0
 | m + 1 => geo z m + z ^ (2 * m)
theorem atn_zero (M : Nat) : atn 0 M = 0 := by
 induction M with
 | zero => rfl
 | succ m ih => rw [atn, ih, Rat.pow_succ]; grind
theorem geo_mul (z : Rat) (M : Nat) : geo z M * (1 - z * z) = 1 - z ^ (2 * M) := by
 induction M with
 | zero => rw [geo, Rat.pow_zero]; grind
 | succ m ih =>
   rw [geo, Nat.mul_succ, pow_add, Rat.pow_succ, Rat.pow_succ, Rat.pow_zero]
   grind
theorem pow_diff {a b : Rat} (h : 0 ≤ a) (hab : a ≤ b) (k : Nat) : (b - a) * (((k + 1 : Nat) : Rat) * a ^ k) ≤ b ^ (k + 1) - a ^ (k + 1) ∧ b ^ (k + 1) - a ^ (k + 1) ≤ (b - a) * (((k + 1 : Nat) : Rat) * b ^ k) := by
 induction k with
 | zero =>
   rw [Rat.pow_succ, Rat.pow_succ, Rat.pow_zero, Rat.pow_zero]
   constructor <;> grind
 | succ k ih =>
   obtain ⟨h1, h2⟩ := ih
   have ha := pow_nonneg h (k + 1)
   have hb := pow_nonneg (Rat.le_trans h hab) (k + 1)
   have hp := pow_le h hab (k + 1)
   rw [cast_succ (k + 1), Rat.pow_succ b (k + 1), Rat.pow_succ a (k + 1)]
   have g1 := Rat.mul_le_mul_of_nonneg_right h1 h
   have g2 := Rat.mul_le_mul_of_nonneg_right h2 (Rat.le_trans h hab)
   have g3 : (b - a) * (((k + 1 : Nat) : Rat) * a ^ k) * a = (b - a) * ((k + 1 : Nat) : Rat) * a ^ (k + 1) := by rw [Rat.pow_succ]; grind
   have g4 : (b - a) * (((k + 1 : Nat) : Rat) * b ^ k) * b = (b - a) * ((k + 1 : Nat) : Rat) * b ^ (k + 1) := by rw [Rat.pow_succ]; grind
   rw [g3] at g1
   rw [g4] at g2
   have g5 := Rat.mul_le_mul_of_nonneg_left hp (by grind : 0 ≤ b - a)
   generalize b ^ (k + 1) = B at *
   generalize a ^ (k + 1) = A at *
   generalize ((k + 1 : Nat) : Rat) = K at *
   constructor
   · have : B * b - A * a = (B - A) * a + (b - a) * B := by grind
     rw [this]
     have e : (b - a) * ((K + 1) * A) = (b - a) * K * A + (b - a) * A := by grind
     rw [e]
     grind
   · have : B * b - A * a = (B - A) * b + (b - a) * A := by grind
     rw [this]
     have e : (b - a) * ((K + 1) * B) = (b - a) * K * B + (b - a) * B := by grind
     rw [e]
     grind
theorem atn_diff {a b : Rat} (h : 0 ≤ a) (hab : a ≤ b) (M : Nat) : (b - a) * geo a M ≤ atn b M - atn a M ∧ atn b M - atn a M ≤ (b - a) * geo b M := by
 induction M with
 | zero => rw [atn, atn, geo, geo]; constructor <;> grind
 | succ m ih =>
   obtain ⟨h1, h2⟩ := ih
   obtain ⟨k1, k2⟩ := pow_diff h hab (2 * m)
   have hp : 0 < ((2 * m + 1 : Nat) : Rat) := cast_pos (by omega)
   rw [atn, atn, geo, geo]
   generalize ((2 * m + 1 : Nat) : Rat) = K at *
   have e1 : b ^ (2 * m + 1) / K * K = b ^ (2 * m + 1) := div_mul (by grind)
   have e2 : a ^ (2 * m + 1) / K * K = a ^ (2 * m + 1) := div_mul (by grind)
   generalize b ^ (2 * m + 1) / K = x at *
   generalize a ^ (2 * m + 1) / K = y at *
   generalize b ^ (2 * m + 1) = B1 at *
   generalize a ^ (2 * m + 1) = A1 at *
   have j1 : (b - a) * a ^ (2 * m) ≤ x - y := by
     apply Rat.not_lt.1
     intro hlt
     have := Rat.mul_lt_mul_of_pos_right hlt hp
     grind
   have j2 : x - y ≤ (b - a) * b ^ (2 * m) := by
     apply Rat.not_lt.1
     intro hlt
     have := Rat.mul_lt_mul_of_pos_right hlt hp
     grind
   constructor
   · have : (b - a) * (geo a m + a ^ (2 * m)) = (b - a) * geo a m + (b - a) * a ^ (2 * m) := by grind
     rw [this]; grind
   · have : (b - a) * (geo b m + b ^ (2 * m)) = (b - a) * geo b m + (b - a) * b ^ (2 * m) := by grind
     rw [this]; grind
theorem sq_le {a b : Rat} (h : 0 ≤ a) (hab : a ≤ b) : a * a ≤ b * b := mul_le_mul hab hab h (by grind)
theorem near_one {z : Rat} (hz : 0 ≤ z) (hz1 : z ≤ 1 / 3) {e : Rat} (he : 0 < e) : ∃ N : Nat, 0 < N ∧ z / N ≤ 1 / 18 ∧ (1 + 18 * (z / N) * (z / N)) ^ N ≤ 1 + e := by
 obtain ⟨d, hd0, hd1, hde⟩ : ∃ d : Rat, 0 < d ∧ d ≤ 1 ∧ d ≤ e := by
   rcases Rat.le_total (a := e) (b := 1) with h | h
   · exact ⟨e, by grind, by grind, by grind⟩
   · exact ⟨1, by grind, by grind, by grind⟩
 obtain ⟨n1, h1⟩ := small z (d := d / 12) (by grind)
 obtain ⟨n2, h2⟩ := small z (d := 1 / 18) (by grind)
 refine ⟨n1 + n2 + 1, by omega, ?_, ?_⟩
 · exact (h2 _ (by omega)).2.2
 · obtain ⟨hp, _, k1⟩ := h1 (n1 + n2 + 1) (by omega)
   have k2 := (h2 (n1 + n2 + 1) (by omega)).2.2
   have e1 : z / ((n1 + n2 + 1 : Nat) : Rat) * ((n1 + n2 + 1 : Nat) : Rat) = z := div_mul (by grind)
   have hx0 : 0 ≤ z / ((n1 + n2 + 1 : Nat) : Rat) := by
     apply Rat.not_lt.1
     intro hlt
     have := Rat.mul_lt_mul_of_pos_right hlt hp
     grind
   refine Rat.le_trans (pow_small (d := d) ?_ (by grind) hd1 ?_ ?_) (by grind)
   · have := Rat.mul_nonneg hx0 hx0; grind
   · generalize z / ((n1 + n2 + 1 : Nat) : Rat) = x at *
     generalize ((n1 + n2 + 1 : Nat) : Rat) = n at *
     have e2 : n * (18 * x * x) = 18 * (z * x) := by rw [← e1]; grind
     rw [e2]
     have := mul_le_mul hz1 k1 hz (by grind)
     grind
   · have := sq_le hx0 k2
     grind
theorem ln_low {z : Rat} (hz : 0 ≤ z) (hz1 : z ≤ 1 / 3) (M : Nat) : ELe (2 * atn z M) ((1 + z) / (1 - z)) := by
 have hpos : 0 ≤ (1 + z) / (1 - z) := by
   have e : (1 + z) / (1 - z) * (1 - z) = 1 + z := div_mul (by grind)
   apply Rat.not_lt.1
   intro hlt
   have := Rat.mul_lt_mul_of_pos_right hlt (by grind : 0 < 1 - z)
   grind
 refine ELe.close hpos (fun e he => ?_)
 obtain ⟨N, hN, hN1, hN2⟩ := near_one hz hz1 he
 have hNp : 0 < (N : Rat) := cast_pos hN
 have e1 : z / N * N = z := div_mul (by grind)
 have hd0 : 0 ≤ z / N := by
   apply Rat.not_lt.1
   intro hlt
   have := Rat.mul_lt_mul_of_pos_right hlt hNp
   grind
 refine ⟨(1 + z) / (1 - z) * (1 + 18 * (z / N) * (z / N)) ^ N, ?_, Rat.mul_le_mul_of_nonneg_left hN2 hpos⟩
 generalize z / N = d at *
 have main : ∀ i : Nat, i ≤ N → ELe (2 * atn (i * d) M) ((1 + i * d) / (1 - i * d) * (1 + 18 * d * d) ^ i) := by
   intro i
   induction i with
   | zero =>
     intro _
     rw [Rat.pow_zero]
     have e : ((0 : Nat) : Rat) * d = 0 := by simp
     rw [e, atn_zero]
     exact ELe.zero.mono (by grind) (by grind)
   | succ i ih =>
     intro hi
     have ih := ih (by omega)
     have hiN := Rat.mul_le_mul_of_nonneg_right (cast_le hi) hd0
     rw [cast_succ] at hiN ⊢
     have hi0 := Rat.mul_nonneg (cast_nonneg i) hd0
     have ea : ((i : Rat) + 1) * d = i * d + d := by grind
     rw [ea] at hiN ⊢
     generalize (i : Rat) * d = a at *
     have hb : a + d ≤ 1 / 3 := by grind
     have hD := (atn_diff hi0 (by grind : a ≤ a + d) M).2
     have hG := geo_mul (a + d) M
     have hpw := pow_nonneg (by grind : 0 ≤ a + d) (2 * M)
     have hsq : (a + d) * (a + d) ≤ 1 / 3 * (1 / 3) := sq_le (by grind) hb
     have hE0 : 0 < 1 - (a + d) * (a + d) := by grind
     have eu : 2 * d / (1 - (a + d) * (a + d)) * (1 - (a + d) * (a + d)) = 2 * d := div_mul (by grind)
     have hu1 : 2 * (atn (a + d) M - atn a M) ≤ 2 * d / (1 - (a + d) * (a + d)) := by
       apply Rat.not_lt.1
       intro hlt
       have h1 := Rat.mul_lt_mul_of_pos_right hlt hE0
       have h2 : (a + d - a) * geo (a + d) M * (1 - (a + d) * (a + d)) ≤ d := by
         have h3 : (a + d - a) * geo (a + d) M * (1 - (a + d) * (a + d)) = d * (1 - (a + d) ^ (2 * M)) := by rw [← hG]; grind
         rw [h3]
         have := Rat.mul_nonneg hd0 hpw
         grind
       have h3 := Rat.mul_le_mul_of_nonneg_right hD (by grind : 0 ≤ 1 - (a + d) * (a + d))
       rw [eu] at h1
       grind
     generalize hu : 2 * d / (1 - (a + d) * (a + d)) = u at *
     have hu0 : 0 ≤ u := by
       apply Rat.not_lt.1
       intro hlt
       have := Rat.mul_lt_mul_of_pos_right hlt hE0
       grind
     have hu2 : u ≤ 9 / 4 * d := by
       apply Rat.not_lt.1
       intro hlt
       have h1 := Rat.mul_lt_mul_of_pos_right hlt hE0
       have h2 : 8 / 9 * (9 / 4 * d) ≤ (1 - (a + d) * (a + d)) * (9 / 4 * d) := Rat.mul_le_mul_of_nonneg_right (by grind) (by grind)
       grind
     have hu3 : u * u ≤ 6 * (d * d) := by
       have := sq_le hu0 hu2
       have := Rat.mul_nonneg hd0 hd0
       grind
     have hdd : d * d ≤ 1 / 18 * (1 / 18) := sq_le hd0 hN1
     have hdd0 := Rat.mul_nonneg hd0 hd0
     have hfac : 1 ≤ (1 - u * u) * (1 + 18 * d * d) := by
       have h1 := Rat.mul_le_mul_of_nonneg_right hu3 (by grind : 0 ≤ 1 + 18 * d * d)
       have h2 := Rat.mul_le_mul_of_nonneg_left hdd hdd0
       grind
     have hD0 : 0 < (1 + a) * (1 - (a + d)) := Rat.mul_pos (by grind) (by grind)
     have hDu : (1 + a) * (1 - (a + d)) * (1 + u) ≤ (1 + (a + d)) * (1 - a) := by
       have h1 : (1 + a) * (1 - (a + d)) * u ≤ 2 * d := by
         have h2 : (1 + a) * (1 - (a + d)) ≤ 1 - (a + d) * (a + d) := by
           have : 0 ≤ d * (1 - (a + d)) := Rat.mul_nonneg hd0 (by grind)
           grind
         have := Rat.mul_le_mul_of_nonneg_right h2 hu0
         grind
       grind
     have eR : (1 + (a + d)) * (1 - a) * (1 + 18 * d * d) / ((1 + a) * (1 - (a + d))) * ((1 + a) * (1 - (a + d))) = (1 + (a + d)) * (1 - a) * (1 + 18 * d * d) := div_mul (by grind)
     have hstep : ELe u ((1 + (a + d)) * (1 - a) * (1 + 18 * d * d) / ((1 + a) * (1 - (a + d)))) := by
       refine ELe.small (by grind) ?_
       apply Rat.not_lt.1
       intro hlt
       have h1 := Rat.mul_lt_mul_of_pos_right hlt hD0
       have h2 : (1 + a) * (1 - (a + d)) ≤ (1 + (a + d)) * (1 - a) * (1 + 18 * d * d) * (1 - u) := by
         have h3 := Rat.mul_le_mul_of_nonneg_right hDu (by
           have := Rat.mul_nonneg (by grind : 0 ≤ 1 - u) (by grind : 0 ≤ 1 + 18 * d * d)
           exact this : 0 ≤ (1 - u) * (1 + 18 * d * d))
         have h4 := Rat.mul_le_mul_of_nonneg_left hfac (by grind : 0 ≤ (1 + a) * (1 - (a + d)))
         grind
       clear hDu hfac hE0 eu hu1 hG hD ih hu hu2 hu3
       generalize (1 + (a + d)) * (1 - a) * (1 + 18 * d * d) / ((1 + a) * (1 - (a + d))) = R at *
       generalize (1 + (a + d)) * (1 - a) * (1 + 18 * d * d) = X at *
       generalize (1 + a) * (1 - (a + d)) = D at *
       have h3 : R * (1 - u) * D = X * (1 - u) := by rw [← eR]; grind
       rw [h3] at h1
       grind
     have hR0 : 0 ≤ (1 + (a + d)) * (1 - a) * (1 + 18 * d * d) / ((1 + a) * (1 - (a + d))) := by
       apply Rat.not_lt.1
       intro hlt
       have h1 := Rat.mul_lt_mul_of_pos_right hlt hD0
       have h2 : 0 ≤ (1 + (a + d)) * (1 - a) * (1 + 18 * d * d) := Rat.mul_nonneg (Rat.mul_nonneg (by grind) (by grind)) (by grind)
       rw [eR] at h1
       grind
     have hK0 : 0 ≤ (1 + a) / (1 - a) := by
       have e : (1 + a) / (1 - a) * (1 - a) = 1 + a := div_mul (by grind)
       apply Rat.not_lt.1
       intro hlt
       have := Rat.mul_lt_mul_of_pos_right hlt (by grind : 0 < 1 - a)
       grind
     have hP0 := pow_nonneg (by grind : 0 ≤ 1 + 18 * d * d) i
     refine (ih.add hstep (Rat.mul_nonneg hK0 hP0) hR0).mono (by grind) ?_
     rw [Rat.pow_succ]
     have e3 : (1 + a) / (1 - a) * ((1 + (a + d)) * (1 - a) * (1 + 18 * d * d) / ((1 + a) * (1 - (a + d)))) = (1 + (a + d)) / (1 - (a + d)) * (1 + 18 * d * d) := by
       have h1 : (1 : Rat) - a ≠ 0 := by grind
       have h2 : (1 : Rat) + a ≠ 0 := by grind
       have h3 : (1 : Rat) - (a + d) ≠ 0 := by grind
       have h4 : (1 + a) * (1 - (a + d)) ≠ 0 := by grind
       generalize 1 + 18 * d * d = F
       clear hDu hfac hE0 eu hu1 hG hD ih eR hstep hR0
       grind
     have e4 : (1 + a) / (1 - a) * (1 + 18 * d * d) ^ i * ((1 + (a + d)) * (1 - a) * (1 + 18 * d * d) / ((1 + a) * (1 - (a + d)))) = (1 + (a + d)) / (1 - (a + d)) * (1 + 18 * d * d) * (1 + 18 * d * d) ^ i := by
       rw [← e3]
       generalize (1 + (a + d)) * (1 - a) * (1 + 18 * d * d) / ((1 + a) * (1 - (a + d))) = R
       generalize (1 + 18 * d * d) ^ i = P
       generalize (1 + a) / (1 - a) = K
       grind
     rw [e4]
     generalize (1 + 18 * d * d) ^ i = P
     generalize (1 + (a + d)) / (1 - (a + d)) = K
     grind
 have h := main N (Nat.le_refl _)
 rwa [show (N : Rat) * d = z by rw [← e1]; grind] at h
theorem div_nonneg {a b : Rat} (ha : 0 ≤ a) (hb : 0 < b) : 0 ≤ a / b := by
 have e : a / b * b = a := div_mul (by grind)
 apply Rat.not_lt.1
 intro hlt
 have := Rat.mul_lt_mul_of_pos_right hlt hb
 grind
theorem le_div {a b c : Rat} (hb : 0 < b) (h : c * b ≤ a) : c ≤ a / b := by
 have e : a / b * b = a := div_mul (by grind)
 apply Rat.not_lt.1
 intro hlt
 have := Rat.mul_lt_mul_of_pos_right hlt hb
 grind
theorem div_le {a b c : Rat} (hb : 0 < b) (h : a ≤ c * b) : a / b ≤ c := by
 have e : a / b * b = a := div_mul (by grind)
 apply Rat.not_lt.1
 intro hlt
 have := Rat.mul_lt_mul_of_pos_right hlt hb
 grind
theorem ln_high {z : Rat} (hz : 0 ≤ z) (hz1 : z ≤ 1 / 3) (M : Nat) : ELe (-(2 * atn z M + 9 / 4 * (z * z ^ (2 * M)))) ((1 - z) / (1 + z)) := by
 have hpos : 0 ≤ (1 - z) / (1 + z) := div_nonneg (by grind) (by grind)
 refine ELe.close hpos (fun e he => ?_)
 obtain ⟨N, hN, hN1, hN2⟩ := near_one hz hz1 he
 have hNp : 0 < (N : Rat) := cast_pos hN
 have e1 : z / N * N = z := div_mul (by grind)
 have hd0 : 0 ≤ z / N := div_nonneg hz hNp
 refine ⟨(1 - z) / (1 + z) * (1 + 18 * (z / N) * (z / N)) ^ N, ?_, Rat.mul_le_mul_of_nonneg_left hN2 hpos⟩
 generalize z / N = d at *
 have hZ0 := pow_nonneg hz (2 * M)
 have main : ∀ i : Nat, i ≤ N → ELe (-(2 * atn (i * d) M + 9 / 4 * (i * d * z ^ (2 * M)))) ((1 - i * d) / (1 + i * d) * (1 + 18 * d * d) ^ i) := by
   intro i
   induction i with
   | zero =>
     intro _
     rw [Rat.pow_zero]
     have e : ((0 : Nat) : Rat) * d = 0 := by simp
     rw [e, atn_zero]
     exact ELe.zero.mono (by grind) (by grind)
   | succ i ih =>
     intro hi
     have ih := ih (by omega)
     have hiN := Rat.mul_le_mul_of_nonneg_right (cast_le hi) hd0
     rw [cast_succ] at hiN ⊢
     have hi0 := Rat.mul_nonneg (cast_nonneg i) hd0
     have ea : ((i : Rat) + 1) * d = i * d + d := by grind
     rw [ea] at hiN ⊢
     generalize (i : Rat) * d = a at *
     have hbz : a + d ≤ z := by grind
     have hb : a + d ≤ 1 / 3 := by grind
     have hD := (atn_diff hi0 (by grind : a ≤ a + d) M).1
     have hG := geo_mul a M
     have hpz := pow_le hi0 (by grind : a ≤ z) (2 * M)
     have hpw := pow_nonneg hi0 (2 * M)
     have hsq : a * a ≤ 1 / 3 * (1 / 3) := sq_le (by grind) (by grind)
     have hD0 : 0 < (1 + (a + d)) * (1 - a) := Rat.mul_pos (by grind) (by grind)
     have eu : 2 * d / ((1 + (a + d)) * (1 - a)) * ((1 + (a + d)) * (1 - a)) = 2 * d := div_mul (by grind)
     generalize hu : 2 * d / ((1 + (a + d)) * (1 - a)) = u at *
     have hu0 : 0 ≤ u := by rw [← hu]; exact div_nonneg (by grind) hD0
     have hu2 : u ≤ 3 * d := by
       rw [← hu]
       refine div_le hD0 ?_
       have : 2 / 3 * (3 * d) ≤ (1 + (a + d)) * (1 - a) * (3 * d) := by
         refine Rat.mul_le_mul_of_nonneg_right ?_ (by grind)
         have h1 : 0 ≤ d * (1 - a) := Rat.mul_nonneg hd0 (by grind)
         have h2 : a * a ≤ 1 / 3 * (1 / 3) := hsq
         grind
       grind
     have hu3 : u * u ≤ 9 * (d * d) := by
       have := sq_le hu0 hu2
       grind
     have hdd : d * d ≤ 1 / 18 * (1 / 18) := sq_le hd0 hN1
     have hdd0 := Rat.mul_nonneg hd0 hd0
     have hfac : 1 ≤ (1 - u * u) * (1 + 18 * d * d) := by
       have h1 := Rat.mul_le_mul_of_nonneg_right hu3 (by grind : 0 ≤ 1 + 18 * d * d)
       have h2 := Rat.mul_le_mul_of_nonneg_left hdd hdd0
       grind
     have hgrow : u ≤ 2 * (atn (a + d) M - atn a M) + 9 / 4 * (d * z ^ (2 * M)) := by
       have hE0 : 0 < 1 - a * a := by grind
       have h1 : u ≤ 2 * d / (1 - a * a) := by
         refine le_div hE0 ?_
         have h2 : 1 - a * a ≤ (1 + (a + d)) * (1 - a) := by
           have h1 : 0 ≤ d * (1 - a) := Rat.mul_nonneg hd0 (by grind)
           grind
         have := Rat.mul_le_mul_of_nonneg_left h2 hu0
         grind
       have h2 : 2 * d / (1 - a * a) ≤ 2 * (d * geo a M) + 9 / 4 * (d * a ^ (2 * M)) := by
         refine div_le hE0 ?_
         have h3 : d * a ^ (2 * M) * (8 / 9) ≤ d * a ^ (2 * M) * (1 - a * a) := Rat.mul_le_mul_of_nonneg_left (by grind) (Rat.mul_nonneg hd0 hpw)
         have h4 : d * geo a M * (1 - a * a) = d * (1 - a ^ (2 * M)) := by rw [← hG]; grind
         generalize d * geo a M = G at *
         have h5 : (2 * G + 9 / 4 * (d * a ^ (2 * M))) * (1 - a * a) = 2 * (G * (1 - a * a)) + 9 / 4 * (d * a ^ (2 * M) * (1 - a * a)) := by grind
         rw [h5, h4]
         grind
       have h3 := Rat.mul_le_mul_of_nonneg_left hpz hd0
       have h4 : (a + d - a) * geo a M = d * geo a M := by grind
       rw [h4] at hD
       grind
     have hD1 : (1 - (a + d)) * (1 + a) = (1 + (a + d)) * (1 - a) * (1 - u) := by
       have h1 : (1 + (a + d)) * (1 - a) * (1 - u) = (1 + (a + d)) * (1 - a) - u * ((1 + (a + d)) * (1 - a)) := by grind
       rw [h1, eu]
       grind
     have hstep : ELe (-u) ((1 - u) * (1 + 18 * d * d)) := by
       refine ELe.small (by grind) ?_
       have : (1 - u) * (1 + 18 * d * d) * (1 - -u) = (1 - u * u) * (1 + 18 * d * d) := by grind
       rw [this]
       exact hfac
     have hK0 : 0 ≤ (1 - a) / (1 + a) := div_nonneg (by grind) (by grind)
     have hP0 := pow_nonneg (by grind : 0 ≤ 1 + 18 * d * d) i
     have hS0 : 0 ≤ (1 - u) * (1 + 18 * d * d) := Rat.mul_nonneg (by grind) (by grind)
     refine (ih.add hstep (Rat.mul_nonneg hK0 hP0) hS0).mono ?_ ?_
     · generalize z ^ (2 * M) = Z at *
       generalize atn (a + d) M = A1 at *
       generalize atn a M = A0 at *
       clear hD1 hu hfac hu3 eu hD hG hpz
       grind
     · rw [Rat.pow_succ]
       have e3 : (1 - a) / (1 + a) * (1 - u) = (1 - (a + d)) / (1 + (a + d)) := by
         have h1 : (1 : Rat) + a ≠ 0 := by grind
         have h3 : (1 : Rat) + (a + d) ≠ 0 := by grind
         have k1 : (1 - a) / (1 + a) * (1 + a) = 1 - a := div_mul h1
         have k2 : (1 - (a + d)) / (1 + (a + d)) * (1 + (a + d)) = 1 - (a + d) := div_mul h3
         generalize (1 - a) / (1 + a) = K1 at *
         generalize (1 - (a + d)) / (1 + (a + d)) = K2 at *
         have h4 : (K1 * (1 - u) - K2) * ((1 + a) * (1 + (a + d))) = 0 := by
           have h5 : (K1 * (1 - u) - K2) * ((1 + a) * (1 + (a + d))) = K1 * (1 + a) * ((1 + (a + d)) * (1 - u)) - K2 * (1 + (a + d)) * (1 + a) := by grind
           rw [h5, k1, k2, hD1]
           grind
         have h6 : (1 + a) * (1 + (a + d)) ≠ 0 := by grind
         rcases Rat.mul_eq_zero.1 h4 with h | h
         · grind
         · exact absurd h h6
       have e4 : (1 - a) / (1 + a) * (1 + 18 * d * d) ^ i * ((1 - u) * (1 + 18 * d * d)) = (1 - (a + d)) / (1 + (a + d)) * (1 + 18 * d * d) * (1 + 18 * d * d) ^ i := by
         rw [← e3]
         generalize (1 + 18 * d * d) ^ i = P
         generalize (1 - a) / (1 + a) = K
         grind
       rw [e4]
       generalize (1 + 18 * d * d) ^ i = P
       generalize (1 - (a + d)) / (1 + (a + d)) = K
       grind
 have h := main N (Nat.le_refl _)
 rwa [show (N : Rat) * d = z by rw [← e1]; grind] at h
def cho : Nat → Nat → Nat
 | _, 0 => 1
 | 0, _ + 1 => 0
 | n + 1, i + 1 => cho n i + cho n (i + 1)
theorem cho_more : ∀ n i : Nat, n < i → cho n i = 0
 | _, 0, h => absurd h (by omega)
 | 0, i + 1, _ => rfl
 | n + 1, i + 1, h => by rw [cho, cho_more n i (by omega), cho_more n (i + 1) (by omega)]
theorem cho_step : ∀ n i : Nat, (i + 1) * cho n (i + 1) + i * cho n i = n * cho n i
 | 0, 0 => by simp [cho]
 | 0, i + 1 => by simp [cho]
 | n + 1, 0 => by
   have h := cho_step n 0
   simp only [cho] at h ⊢
   cases n <;> simp_all [cho]; omega
 | n + 1, i + 1 => by
   have h1 := cho_step n (i + 1)
   have h2 := cho_step n i
   simp only [cho] at *
   grind
def sm (f : Nat → Rat) : Nat → Rat
 | 0 => 0
 | k + 1 => sm f k + f k
theorem binom_part (w : Rat) (n k : Nat) : sm (fun i => (cho (n + 1) i : Rat) * w ^ i) (k + 1) = sm (fun i => (cho n i : Rat) * w ^ i) (k + 1) + w * sm (fun i => (cho n i : Rat) * w ^ i) k := by
 induction k with
 | zero => simp [sm, cho]; grind
 | succ k ih =>
   rw [sm, ih]
   have e1 : sm (fun i => (cho n i : Rat) * w ^ i) (k + 1 + 1) = sm (fun i => (cho n i : Rat) * w ^ i) (k + 1) + (cho n (k + 1) : Rat) * w ^ (k + 1) := rfl
   have e2 : sm (fun i => (cho n i : Rat) * w ^ i) (k + 1) = sm (fun i => (cho n i : Rat) * w ^ i) k + (cho n k : Rat) * w ^ k := rfl
   have e3 : ((cho (n + 1) (k + 1) : Nat) : Rat) = (cho n k : Rat) + (cho n (k + 1) : Rat) := by rw [cho, Rat.natCast_add]
   rw [e1, e3, Rat.pow_succ]
   generalize sm (fun i => (cho n i : Rat) * w ^ i) (k + 1) = X at *
   generalize sm (fun i => (cho n i : Rat) * w ^ i) k = Y at *
   subst e2
   grind
theorem binom (w : Rat) (n : Nat) : sm (fun i => (cho n i : Rat) * w ^ i) (n + 1) = (1 + w) ^ n := by
 induction n with
 | zero => simp [sm, cho, Rat.pow_zero]; grind
 | succ n ih =>
   rw [binom_part, Rat.pow_succ, ← ih]
   have e1 : sm (fun i => (cho n i : Rat) * w ^ i) (n + 1 + 1) = sm (fun i => (cho n i : Rat) * w ^ i) (n + 1) + (cho n (n + 1) : Rat) * w ^ (n + 1) := rfl
   rw [e1, cho_more n (n + 1) (by omega)]
   generalize sm (fun i => (cho n i : Rat) * w ^ i) (n + 1) = X
   simp
   grind
def ty (y : Rat) : Nat → Rat
 | 0 => 1
 | i + 1 => ty y i * y / ((i + 1 : Nat) : Rat)
theorem ty_nonneg {u : Rat} (h : 0 ≤ u) (i : Nat) : 0 ≤ ty u i := by
 induction i with
 | zero => rw [ty]; decide
 | succ i ih => rw [ty]; exact div_nonneg (Rat.mul_nonneg ih h) (cast_pos (by omega))
theorem abs_mul {x a y b : Rat} (h1 : -a ≤ x) (h2 : x ≤ a) (h3 : -b ≤ y) (h4 : y ≤ b) : -(a * b) ≤ x * y ∧ x * y ≤ a * b := by
 have ha : 0 ≤ a := by grind
 have hb : 0 ≤ b := by grind
 have p1 := Rat.mul_nonneg (by grind : 0 ≤ a - x) (by grind : 0 ≤ b + y)
 have p2 := Rat.mul_nonneg (by grind : 0 ≤ a + x) (by grind : 0 ≤ b - y)
 have p3 := Rat.mul_nonneg (by grind : 0 ≤ a - x) (by grind : 0 ≤ b - y)
 have p4 := Rat.mul_nonneg (by grind : 0 ≤ a + x) (by grind : 0 ≤ b + y)
 constructor <;> grind
theorem abs_div {x a k : Rat} (hk : 0 < k) (h1 : -a ≤ x) (h2 : x ≤ a) : -(a / k) ≤ x / k ∧ x / k ≤ a / k := by
 have e1 : x / k * k = x := div_mul (by grind)
 have e2 : a / k * k = a := div_mul (by grind)
 constructor
 · apply Rat.not_lt.1
   intro hlt
   have := Rat.mul_lt_mul_of_pos_right hlt hk
   grind
 · apply Rat.not_lt.1
   intro hlt
   have := Rat.mul_lt_mul_of_pos_right hlt hk
   grind
theorem ty_abs {y u : Rat} (h1 : -u ≤ y) (h2 : y ≤ u) (i : Nat) : -(ty u i) ≤ ty y i ∧ ty y i ≤ ty u i := by
 induction i with
 | zero => rw [ty, ty]; constructor <;> grind
 | succ i ih =>
   rw [ty, ty]
   obtain ⟨k1, k2⟩ := abs_mul ih.1 ih.2 h1 h2
   exact abs_div (cast_pos (by omega)) k1 k2
theorem ty_le {u : Rat} (h : 0 ≤ u) (i : Nat) : ty u (i + 1) ≤ ty u i * u := by
 rw [ty]
 refine div_le (cast_pos (by omega)) ?_
 have h1 := Rat.mul_nonneg (ty_nonneg h i) h
 have h2 : (1 : Rat) ≤ ((i + 1 : Nat) : Rat) := by have := cast_le (by omega : 1 ≤ i + 1); simpa using this
 have := Rat.mul_le_mul_of_nonneg_left h2 h1
 grind
theorem part_beside {y : Rat} {n : Nat} (hn : 0 < n) (i : Nat) (hi : i ≤ n) : ∃ q : Rat, 0 ≤ q ∧ q ≤ 1 ∧ n - (i : Rat) * i ≤ q * n ∧ (cho n i : Rat) * (y / n) ^ i = q * ty y i := by
 induction i with
 | zero => exact ⟨1, by decide, by decide, by simp; grind, by simp [cho, ty, Rat.pow_zero]⟩
 | succ i ih =>
   obtain ⟨q, h0, h1, h2, h3⟩ := ih (by omega)
   have hnp : 0 < (n : Rat) := cast_pos hn
   have hip := cast_nonneg i
   have hin : ((i : Nat) : Rat) + 1 ≤ n := by have := cast_le hi; rwa [cast_succ] at this
   have hs : ((i + 1 : Nat) : Rat) * (cho n (i + 1) : Rat) + (i : Rat) * (cho n i : Rat) = (n : Rat) * (cho n i : Rat) := by
     have := congrArg (fun k : Nat => (k : Rat)) (cho_step n i)
     simpa [Rat.natCast_add, Rat.natCast_mul] using this
   rw [ty, Rat.pow_succ]
   rw [cast_succ] at hs ⊢
   generalize (cho n (i + 1) : Rat) = C1 at *
   generalize (cho n i : Rat) = C at *
   generalize (y / n) ^ i = P at *
   generalize hY : ty y i = T at *
   refine ⟨q * (1 - i / n), ?_, ?_, ?_, ?_⟩
   · have : (i : Rat) / n ≤ 1 := div_le hnp (by grind)
     exact Rat.mul_nonneg h0 (by grind)
   · have : 0 ≤ (i : Rat) / n := div_nonneg hip hnp
     have := mul_le_mul h1 (by grind : 1 - (i : Rat) / n ≤ 1) h0 (by decide)
     grind
   · have e1 : (i : Rat) / n * n = i := div_mul (by grind)
     have e2 : q * (1 - (i : Rat) / n) * n = q * n - q * i := by
       have : q * (1 - (i : Rat) / n) * n = q * n - q * ((i : Rat) / n * n) := by grind
       rw [this, e1]
     rw [e2]
     have := Rat.mul_le_mul_of_nonneg_right h1 hip
     grind
   · have e1 : (i : Rat) / n * n = i := div_mul (by grind)
     have e3 : y / n * n = y := div_mul (by grind)
     have e4 : T * y / ((i : Rat) + 1) * ((i : Rat) + 1) = T * y := div_mul (by grind)
     have key : (C1 * (P * (y / n)) - q * (1 - i / n) * (T * y / ((i : Rat) + 1))) * (((i : Rat) + 1) * n) = 0 := by
       have k1 : (C1 * (P * (y / n)) - q * (1 - i / n) * (T * y / ((i : Rat) + 1))) * (((i : Rat) + 1) * n) = (((i : Rat) + 1) * C1) * P * (y / n * n) - q * (n - i / n * n) * (T * y / ((i : Rat) + 1) * ((i : Rat) + 1)) := by grind
       rw [k1, e1, e3, e4]
       have k2 : ((i : Rat) + 1) * C1 = (n - i) * C := by grind
       rw [k2]
       have k3 : (n - (i : Rat)) * C * P * y = (n - i) * (C * P) * y := by grind
       rw [k3, h3]
       grind
     have hne : ((i : Rat) + 1) * n ≠ 0 := by
       have := Rat.mul_pos (by grind : 0 < (i : Rat) + 1) hnp
       grind
     rcases Rat.mul_eq_zero.1 key with h | h
     · grind
     · exact absurd h hne
def tay (y : Rat) (N : Nat) : Rat := sm (ty y) N
theorem tay_more {y u : Rat} (hu : u ≤ 1 / 8) (h1 : -u ≤ y) (h2 : y ≤ u) (N k : Nat) : -(8 / 7 * (ty u N)) ≤ tay y (N + k) - tay y N ∧ tay y (N + k) - tay y N ≤ 8 / 7 * ty u N := by
 have hu0 : 0 ≤ u := by grind
 have main : -(8 / 7 * (ty u N - ty u (N + k))) ≤ tay y (N + k) - tay y N ∧ tay y (N + k) - tay y N ≤ 8 / 7 * (ty u N - ty u (N + k)) := by
   induction k with
   | zero => rw [Nat.add_zero]; constructor <;> grind
   | succ k ih =>
     have e : tay y (N + (k + 1)) = tay y (N + k) + ty y (N + k) := rfl
     have h3 := ty_abs h1 h2 (N + k)
     have h4 : ty u (N + k + 1) ≤ ty u (N + k) * u := ty_le hu0 _
     have h5 := ty_nonneg hu0 (N + k)
     have h6 := Rat.mul_le_mul_of_nonneg_left hu h5
     rw [e, ← Nat.add_assoc]
     constructor <;> grind
 have h5 := ty_nonneg hu0 (N + k)
 constructor <;> grind
theorem pow_beside {y u : Rat} (hu : u ≤ 1 / 8) (h1 : -u ≤ y) (h2 : y ≤ u) (n : Nat) (hn : 0 < n) (N : Nat) (hN : N ≤ n + 1) : -(2 * ((N : Rat) * N / n) + 8 / 7 * ty u N) ≤ (1 + y / n) ^ n - tay y N ∧ (1 + y / n) ^ n - tay y N ≤ 2 * ((N : Rat) * N / n) + 8 / 7 * ty u N := by
 have hu0 : 0 ≤ u := by grind
 have hnp : 0 < (n : Rat) := cast_pos hn
 have low : ∀ k, k ≤ N → -((N : Rat) * N / n * tay u k) ≤ sm (fun i => (cho n i : Rat) * (y / n) ^ i) k - tay y k ∧ sm (fun i => (cho n i : Rat) * (y / n) ^ i) k - tay y k ≤ (N : Rat) * N / n * tay u k := by
   intro k
   induction k with
   | zero => intro _; show -((N : Rat) * N / n * 0) ≤ (0 : Rat) - 0 ∧ (0 : Rat) - 0 ≤ (N : Rat) * N / n * 0; constructor <;> grind
   | succ k ih =>
     intro hk
     obtain ⟨i1, i2⟩ := ih (by omega)
     obtain ⟨q, q0, q1, q2, q3⟩ := part_beside (y := y) hn k (by omega)
     have e1 : sm (fun i => (cho n i : Rat) * (y / n) ^ i) (k + 1) = sm (fun i => (cho n i : Rat) * (y / n) ^ i) k + q * ty y k := by rw [sm, q3]
     have e2 : tay y (k + 1) = tay y k + ty y k := rfl
     have e3 : tay u (k + 1) = tay u k + ty u k := rfl
     rw [e1, e2, e3]
     have hq : 1 - q ≤ (N : Rat) * N / n := by
       refine le_div hnp ?_
       have hkN := cast_le (by omega : k ≤ N)
       have := mul_le_mul hkN hkN (cast_nonneg k) (cast_nonneg N)
       grind
     have hT := ty_abs h1 h2 k
     have hU := ty_nonneg hu0 k
     obtain ⟨m1, m2⟩ := abs_mul (x := 1 - q) (a := (N : Rat) * N / n) (y := ty y k) (b := ty u k) (by grind) hq hT.1 hT.2
     constructor <;> grind
 obtain ⟨l1, l2⟩ := low N (Nat.le_refl _)
 have htu : tay u N ≤ 2 := by
   have h := (tay_more hu (by grind : -u ≤ u) Rat.le_refl 0 N).2
   rw [Nat.zero_add] at h
   have e0 : tay u 0 = 0 := rfl
   have e1 : ty u 0 = 1 := rfl
   rw [e0, e1] at h
   grind
 have hq0 : 0 ≤ (N : Rat) * N / n := div_nonneg (Rat.mul_nonneg (cast_nonneg N) (cast_nonneg N)) hnp
 have hNN := Rat.mul_le_mul_of_nonneg_left htu hq0
 have high : ∀ k, N + k ≤ n + 1 → -(8 / 7 * (ty u N - ty u (N + k))) ≤ sm (fun i => (cho n i : Rat) * (y / n) ^ i) (N + k) - sm (fun i => (cho n i : Rat) * (y / n) ^ i) N ∧ sm (fun i => (cho n i : Rat) * (y / n) ^ i) (N + k) - sm (fun i => (cho n i : Rat) * (y / n) ^ i) N ≤ 8 / 7 * (ty u N - ty u (N + k)) := by
   intro k
   induction k with
   | zero => intro _; rw [Nat.add_zero]; constructor <;> grind
   | succ k ih =>
     intro hk
     obtain ⟨i1, i2⟩ := ih (by omega)
     obtain ⟨q, q0, q1, q2, q3⟩ := part_beside (y := y) hn (N + k) (by omega)
     have e1 : sm (fun i => (cho n i : Rat) * (y / n) ^ i) (N + (k + 1)) = sm (fun i => (cho n i : Rat) * (y / n) ^ i) (N + k) + q * ty y (N + k) := by rw [← Nat.add_assoc, sm, q3]
     have h4 : ty u (N + k + 1) ≤ ty u (N + k) * u := ty_le hu0 _
     have h5 := ty_nonneg hu0 (N + k)
     have h6 := Rat.mul_le_mul_of_nonneg_left hu h5
     have hT := ty_abs h1 h2 (N + k)
     obtain ⟨m1, m2⟩ := abs_mul (x := q) (a := 1) (y := ty y (N + k)) (b := ty u (N + k)) (by grind) q1 hT.1 hT.2
     rw [e1, ← Nat.add_assoc]
     constructor <;> grind
 obtain ⟨g1, g2⟩ := high (n + 1 - N) (by omega)
 rw [show N + (n + 1 - N) = n + 1 by omega, binom] at g1 g2
 have h5 := ty_nonneg hu0 (n + 1)
 constructor <;> grind
theorem exp_high {y u : Rat} (hu : u ≤ 1 / 8) (h1 : -u ≤ y) (h2 : y ≤ u) (N : Nat) (r : Rat) (h : tay y N + 8 / 7 * ty u N ≤ r) (hr : 1 / 2 ≤ r) : ELe y r := by
 intro e he
 obtain ⟨n0, h0⟩ := small (2 * ((N : Rat) * N)) (d := e / 2) (by grind)
 refine ⟨n0 + N + 1, fun n hn => ?_⟩
 obtain ⟨hp, _, k1⟩ := h0 n (by omega)
 have k2 := (pow_beside hu h1 h2 n (by omega) N (by omega)).2
 have e1 : 2 * ((N : Rat) * N / n) = 2 * ((N : Rat) * N) / n := by grind
 rw [e1] at k2
 have := Rat.mul_le_mul_of_nonneg_right hr (by grind : 0 ≤ e)
 grind
theorem exp_low {y u : Rat} (hu : u ≤ 1 / 8) (h1 : -u ≤ y) (h2 : y ≤ u) (N : Nat) (r : Rat) (h : r ≤ tay y N - 8 / 7 * ty u N) (hr : 1 / 2 ≤ r) : ELe (-y) (1 / r) := by
 intro e he
 obtain ⟨d, hd0, hd1, hde⟩ : ∃ d : Rat, 0 < d ∧ d ≤ 1 ∧ d ≤ e := by
   rcases Rat.le_total (a := e) (b := 1) with h | h
   · exact ⟨e, by grind, by grind, by grind⟩
   · exact ⟨1, by grind, by grind, by grind⟩
 obtain ⟨n0, h0⟩ := small (2 * ((N : Rat) * N)) (d := d / 8) (by grind)
 refine ⟨n0 + N + 1, fun n hn => ?_⟩
 obtain ⟨hp, _, k1⟩ := h0 n (by omega)
 have hn1 : (1 : Rat) ≤ n := by have := cast_le (by omega : 1 ≤ n); simpa using this
 have k2 := (pow_beside hu h1 h2 n (by omega) N (by omega)).1
 have e1 : 2 * ((N : Rat) * N / n) = 2 * ((N : Rat) * N) / n := by grind
 rw [e1] at k2
 have e2 : -y / n = -(y / n) := by grind
 rw [e2]
 have e3 : y / n * n = y := div_mul (by grind)
 have b1 : y / n ≤ 1 := div_le hp (by grind)
 have b2 : -1 ≤ y / n := le_div hp (by grind)
 generalize y / n = x at *
 have h3 : (1 + x) ^ n * (1 + -x) ^ n ≤ 1 := by
   rw [← mul_pow]
   have hs := sq_nonneg x
   have h1 : x * x ≤ 1 := by
     have := (abs_mul b2 b1 b2 b1).2
     grind
   exact pow_le_one (by grind) (by grind) n
 have h4 := pow_nonneg (a := 1 + -x) (by grind) n
 generalize (1 + -x) ^ n = B at *
 generalize (1 + x) ^ n = A at *
 have hA : r - d / 8 ≤ A := by grind
 have h5 := Rat.mul_le_mul_of_nonneg_right hA h4
 have hrp : 0 < r := by grind
 have e4 : 1 / r * r = 1 := div_mul (by grind)
 have h6 : B * r ≤ 1 + d := by
   have h7 : B * (r / 2) ≤ (r - d / 8) * B := by
     have := Rat.mul_le_mul_of_nonneg_right (by grind : r / 2 ≤ r - d / 8) h4
     grind
   have hB : B * r ≤ 2 := by grind
   have hB4 : B ≤ 4 := by
     have := Rat.mul_le_mul_of_nonneg_left hr h4
     grind
   have h8 := Rat.mul_le_mul_of_nonneg_right hB4 (by grind : 0 ≤ d / 8)
   grind
 apply Rat.not_lt.1
 intro hlt
 have h9 := Rat.mul_lt_mul_of_pos_right hlt hrp
 have e5 : 1 / r * (1 + e) * r = 1 + e := by
   have : 1 / r * (1 + e) * r = 1 / r * r * (1 + e) := by grind
   rw [this, e4]
   grind
 rw [e5] at h9
 grind
theorem natCast_mul (m n : Nat) : ((m * n : Nat) : Rat) = (m : Rat) * n := Rat.natCast_mul m n
theorem natCast_add (m n : Nat) : ((m + n : Nat) : Rat) = (m : Rat) + n := Rat.natCast_add m n
theorem div_floor (a : Nat) {b : Nat} (hb : 0 < b) : ((a / b : Nat) : Rat) ≤ (a : Rat) / b ∧ (a : Rat) / b ≤ ((a / b : Nat) : Rat) + 1 := by
 have hp : 0 < (b : Rat) := cast_pos hb
 have h1 : ((a / b * b : Nat) : Rat) ≤ (a : Rat) := cast_le (Nat.div_mul_le_self a b)
 have h2 : (a : Rat) ≤ (((a / b + 1) * b : Nat) : Rat) := cast_le (Nat.le_of_lt (by
   have := Nat.lt_div_mul_add (a := a) hb
   rw [Nat.add_mul]; omega))
 rw [natCast_mul] at h1 h2
 rw [cast_succ] at h2
 exact ⟨le_div hp h1, div_le hp h2⟩
def pws (p q T : Nat) : Nat → Nat
 | 0 => T * p / q
 | k + 1 => pws p q T k * (p * p) / (q * q)
def sms (p q T : Nat) : Nat → Nat
 | 0 => 0
 | k + 1 => sms p q T k + pws p q T k / (2 * k + 1)
theorem z_bound {p q : Nat} (hq : 0 < q) (h : 3 * p ≤ q) : 0 ≤ (p : Rat) / q ∧ (p : Rat) / q ≤ 1 / 3 := by
 have hp : 0 < (q : Rat) := cast_pos hq
 refine ⟨div_nonneg (cast_nonneg p) hp, div_le hp ?_⟩
 have : ((3 * p : Nat) : Rat) ≤ (q : Rat) := cast_le h
 rw [natCast_mul] at this
 have e : ((3 : Nat) : Rat) = 3 := rfl
 rw [e] at this
 grind
theorem pws_beside {p q : Nat} (hq : 0 < q) (h : 3 * p ≤ q) (T k : Nat) : (pws p q T k : Rat) ≤ T * (((p : Rat) / q) ^ (2 * k) * ((p : Rat) / q)) ∧ T * (((p : Rat) / q) ^ (2 * k) * ((p : Rat) / q)) ≤ pws p q T k + 9 / 8 := by
 obtain ⟨z0, z1⟩ := z_bound hq h
 have hqp : 0 < (q : Rat) := cast_pos hq
 have ez : (p : Rat) / q * q = p := div_mul (by grind)
 induction k with
 | zero =>
   obtain ⟨f1, f2⟩ := div_floor (T * p) hq
   rw [natCast_mul] at f1 f2
   have e : (T : Rat) * p / q = T * ((p : Rat) / q) := by grind
   rw [e] at f1 f2
   rw [Nat.mul_zero, Rat.pow_zero, pws]
   constructor <;> grind
 | succ k ih =>
   obtain ⟨i1, i2⟩ := ih
   obtain ⟨f1, f2⟩ := div_floor (pws p q T k * (p * p)) (Nat.mul_pos hq hq)
   rw [pws]
   rw [natCast_mul, natCast_mul, natCast_mul] at f1 f2
   generalize (p : Rat) / q = z at *
   have e : (pws p q T k : Rat) * ((p : Rat) * p) / ((q : Rat) * q) = pws p q T k * (z * z) := by
     rw [← ez]
     have : (q : Rat) * q ≠ 0 := by have := Rat.mul_pos hqp hqp; grind
     have e2 : (pws p q T k : Rat) * (z * q * (z * q)) / ((q : Rat) * q) * ((q : Rat) * q) = pws p q T k * (z * q * (z * q)) := div_mul this
     generalize (pws p q T k : Rat) * (z * q * (z * q)) / ((q : Rat) * q) = D at *
     have e3 : (D - pws p q T k * (z * z)) * ((q : Rat) * q) = 0 := by grind
     rcases Rat.mul_eq_zero.1 e3 with h | h
     · grind
     · exact absurd h this
   rw [e] at f1 f2
   have ep : z ^ (2 * (k + 1)) = z ^ (2 * k) * (z * z) := by
     rw [Nat.mul_succ, pow_add, Rat.pow_succ, Rat.pow_succ, Rat.pow_zero]; grind
   rw [ep]
   have hzz : 0 ≤ z * z := Rat.mul_nonneg z0 z0
   have hz9 : z * z ≤ 1 / 3 * (1 / 3) := sq_le z0 z1
   have g1 := Rat.mul_le_mul_of_nonneg_right i1 hzz
   have g2 := Rat.mul_le_mul_of_nonneg_right i2 hzz
   generalize z ^ (2 * k) = Z at *
   generalize ((pws p q T k * (p * p) / (q * q) : Nat) : Rat) = F at *
   generalize (pws p q T k : Rat) = W at *
   have e4 : (T : Rat) * (Z * z) * (z * z) = T * (Z * (z * z) * z) := by grind
   rw [e4] at g1 g2
   have e5 : (W + 9 / 8) * (z * z) = W * (z * z) + 9 / 8 * (z * z) := by grind
   rw [e5] at g2
   constructor
   · exact Rat.le_trans f1 g1
   · grind
theorem sms_beside {p q : Nat} (hq : 0 < q) (h : 3 * p ≤ q) (T n : Nat) : (sms p q T n : Rat) ≤ T * atn ((p : Rat) / q) n ∧ T * atn ((p : Rat) / q) n ≤ sms p q T n + 17 / 8 * n := by
 induction n with
 | zero => rw [sms, atn]; constructor <;> simp <;> grind
 | succ n ih =>
   obtain ⟨i1, i2⟩ := ih
   obtain ⟨w1, w2⟩ := pws_beside hq h T n
   obtain ⟨f1, f2⟩ := div_floor (pws p q T n) (by omega : 0 < 2 * n + 1)
   rw [sms, atn, natCast_add, cast_succ n]
   have hk : (1 : Rat) ≤ ((2 * n + 1 : Nat) : Rat) := by have := cast_le (by omega : 1 ≤ 2 * n + 1); simpa using this
   rw [Rat.pow_succ]
   generalize ((2 * n + 1 : Nat) : Rat) = K at *
   generalize (p : Rat) / q = z at *
   generalize z ^ (2 * n) * z = Z at *
   generalize (pws p q T n : Rat) = W at *
   generalize ((pws p q T n / (2 * n + 1) : Nat) : Rat) = F at *
   have hK : 0 < K := by grind
   have eZ : Z / K * K = Z := div_mul (by grind)
   have eW : W / K * K = W := div_mul (by grind)
   have a1 : W / K ≤ T * (Z / K) := by
     apply Rat.not_lt.1
     intro hlt
     have h1 := Rat.mul_lt_mul_of_pos_right hlt hK
     have h3 : T * (Z / K) * K = T * Z := by grind
     rw [h3, eW] at h1
     grind
   have a2 : T * (Z / K) ≤ W / K + 9 / 8 := by
     apply Rat.not_lt.1
     intro hlt
     have h1 := Rat.mul_lt_mul_of_pos_right hlt hK
     have h2 : (W / K + 9 / 8) * K = W + 9 / 8 * K := by grind
     rw [h2] at h1
     have h3 : T * (Z / K) * K = T * Z := by grind
     rw [h3] at h1
     grind
   have e : (T : Rat) * (atn z n + Z / K) = T * atn z n + T * (Z / K) := by grind
   rw [e]
   constructor <;> grind
theorem doubled_low {p q T n : Nat} (hq : 0 < q) (h : 3 * p ≤ q) (hT : 0 < T) : ELe (((2 * sms p q T n : Nat) : Rat) / T) ((1 + (p : Rat) / q) / (1 - (p : Rat) / q)) := by
 obtain ⟨z0, z1⟩ := z_bound hq h
 refine (ln_low z0 z1 n).mono ?_ Rat.le_refl
 have h1 := (sms_beside hq h T n).1
 refine div_le (cast_pos hT) ?_
 rw [natCast_mul]
 have e : ((2 : Nat) : Rat) = 2 := rfl
 rw [e]
 grind
theorem doubled_high {p q T n : Nat} (hq : 0 < q) (h : 3 * p ≤ q) (hT : 0 < T) (hn : pws p q T n = 0) : ELe (-(((2 * sms p q T n + (5 * n + 10) : Nat) : Rat) / T)) ((1 - (p : Rat) / q) / (1 + (p : Rat) / q)) := by
 obtain ⟨z0, z1⟩ := z_bound hq h
 refine (ln_high z0 z1 n).mono ?_ Rat.le_refl
 have h1 := (sms_beside hq h T n).2
 have h2 := (pws_beside hq h T n).2
 rw [hn] at h2
 have e0 : ((0 : Nat) : Rat) = 0 := rfl
 rw [e0] at h2
 have hT0 : 0 < (T : Rat) := cast_pos hT
 have hn0 := cast_nonneg n
 have key : (2 * atn ((p : Rat) / q) n + 9 / 4 * ((p : Rat) / q * ((p : Rat) / q) ^ (2 * n))) ≤ ((2 * sms p q T n + (5 * n + 10) : Nat) : Rat) / T := by
   refine le_div hT0 ?_
   rw [natCast_add, natCast_add, natCast_mul, natCast_mul]
   have e2 : ((2 : Nat) : Rat) = 2 := rfl
   have e5 : ((5 : Nat) : Rat) = 5 := rfl
   have e10 : ((10 : Nat) : Rat) = 10 := rfl
   rw [e2, e5, e10]
   generalize (p : Rat) / q = z at *
   generalize atn z n = A at *
   generalize z ^ (2 * n) = Z at *
   have e3 : (2 * A + 9 / 4 * (z * Z)) * T = 2 * (T * A) + 9 / 4 * (T * (Z * z)) := by grind
   rw [e3]
   grind
 grind
theorem frac_z {a b : Nat} (hb : 0 < b) (hab : b ≤ a) : (1 + ((a - b : Nat) : Rat) / ((a + b : Nat) : Rat)) / (1 - ((a - b : Nat) : Rat) / ((a + b : Nat) : Rat)) = (a : Rat) / b ∧ (1 - ((a - b : Nat) : Rat) / ((a + b : Nat) : Rat)) / (1 + ((a - b : Nat) : Rat) / ((a + b : Nat) : Rat)) = (b : Rat) / a := by
 have hbp : 0 < (b : Rat) := cast_pos hb
 have hap : 0 < (a : Rat) := cast_pos (by omega)
 have e1 : ((a - b : Nat) : Rat) + b = a := by rw [← natCast_add]; congr 1; omega
 rw [natCast_add]
 generalize ((a - b : Nat) : Rat) = d at *
 have hs : (a : Rat) + b ≠ 0 := by grind
 have ed : d / ((a : Rat) + b) * ((a : Rat) + b) = d := div_mul hs
 generalize d / ((a : Rat) + b) = z at *
 have k1 : (1 + z) * ((a : Rat) + b) = 2 * a := by grind
 have k2 : (1 - z) * ((a : Rat) + b) = 2 * b := by grind
 have n1 : 1 + z ≠ 0 := by intro h; rw [h] at k1; grind
 have n2 : 1 - z ≠ 0 := by intro h; rw [h] at k2; grind
 have c : (1 + z) * b = (1 - z) * a := by
   have e3 : ((1 + z) * b - (1 - z) * a) * ((a : Rat) + b) = 0 := by
     have : ((1 + z) * b - (1 - z) * a) * ((a : Rat) + b) = (1 + z) * ((a : Rat) + b) * b - (1 - z) * ((a : Rat) + b) * a := by grind
     rw [this, k1, k2]; grind
   rcases Rat.mul_eq_zero.1 e3 with h | h
   · grind
   · exact absurd h hs
 constructor
 · have e4 : (1 + z) / (1 - z) * (1 - z) = 1 + z := div_mul n2
   have e5 : (a : Rat) / b * b = a := div_mul (by grind)
   generalize (1 + z) / (1 - z) = X at *
   generalize (a : Rat) / b = Y at *
   have e6 : (X - Y) * ((1 - z) * b) = 0 := by
     have : (X - Y) * ((1 - z) * b) = X * (1 - z) * b - (1 - z) * (Y * b) := by grind
     rw [this, e4, e5, c]; grind
   rcases Rat.mul_eq_zero.1 e6 with h | h
   · grind
   · rcases Rat.mul_eq_zero.1 h with h | h
     · exact absurd h n2
     · grind
 · have e4 : (1 - z) / (1 + z) * (1 + z) = 1 - z := div_mul n1
   have e5 : (b : Rat) / a * a = b := div_mul (by grind)
   generalize (1 - z) / (1 + z) = X at *
   generalize (b : Rat) / a = Y at *
   have e6 : (X - Y) * ((1 + z) * a) = 0 := by
     have : (X - Y) * ((1 + z) * a) = X * (1 + z) * a - (1 + z) * (Y * a) := by grind
     rw [this, e4, e5, ← c]; grind
   rcases Rat.mul_eq_zero.1 e6 with h | h
   · grind
   · rcases Rat.mul_eq_zero.1 h with h | h
     · exact absurd h n1
     · grind
end Go.Proofs.YteohmbannpbokaaGreatDoor.ExpLaw
