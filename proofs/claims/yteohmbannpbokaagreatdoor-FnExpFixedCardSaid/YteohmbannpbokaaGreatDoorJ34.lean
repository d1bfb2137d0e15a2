/-
 Words for this claim.
 The package's power of e in bits: its numbers of bits.
 The package's power of e in bits: bounds, and what its calls do.
 The package's power of e in bits: its four numbers apart.
-/
import Derived.Test.YteohmbannpbokaaGreatDoorJ33
import Derived.Laws.Cover2
import Derived.Laws.FloatArith
set_option linter.unusedVariables false
namespace Go.Proofs.YteohmbannpbokaaGreatDoor.ExpLaw
theorem sq_pow (p : Rat) (k : Nat) : (p * p) ^ k = p ^ (2 * k) := by
 rw [pow_mul]
 congr 1
 rw [show 2 = 0 + 1 + 1 from rfl, Rat.pow_succ, Rat.pow_succ, Rat.pow_zero]; grind
theorem pow_bounds {x : Rat} {m : Nat} (h0 : 0 ≤ x) (h1 : x ≤ 1 / 8) (h : m * x ≤ 23 / 40) : 1 / 6 ≤ (1 - x) ^ (2 * m) ∧ (1 + x) ^ (2 * m) ≤ 6 := by
 have hb := bern (x := -x) (by grind) m
 have e1 : (1 : Rat) + -x = 1 - x := by grind
 rw [e1] at hb
 have hy : (17 / 40 : Rat) ≤ (1 - x) ^ m := by grind
 have hsq := sq_le (by grind : (0 : Rat) ≤ 17 / 40) hy
 have e2 : (1 - x) ^ (2 * m) = (1 - x) ^ m * (1 - x) ^ m := by
   rw [show 2 * m = m + m by omega, pow_add]
 have lo : (1 / 6 : Rat) ≤ (1 - x) ^ (2 * m) := by rw [e2]; grind
 refine ⟨lo, ?_⟩
 have hm : (1 - x) ^ (2 * m) * (1 + x) ^ (2 * m) = ((1 - x) * (1 + x)) ^ (2 * m) := (mul_pow _ _ _).symm
 have hx2 : 0 ≤ x * x := sq_nonneg x
 have hxx : x * x ≤ 1 := by have := sq_le h0 h1; grind
 have hle : ((1 - x) * (1 + x)) ^ (2 * m) ≤ 1 := pow_le_one (by grind) (by grind) _
 have hP := pow_nonneg (a := 1 + x) (by grind) (2 * m)
 have := Rat.mul_le_mul_of_nonneg_right lo hP
 rw [hm] at this
 grind
theorem sqs_beside {g : Nat} {e : Rat} (he : e * 2 ^ g = 1) : ∀ (k : Nat) (s : Int) (p d : Rat), 0 ≤ s → 0 ≤ d → 2 ^ k * (d + 6 * e) ≤ 1 → (s : Rat) / 2 ^ g ≤ p → p * (1 - d) ≤ (s : Rat) / 2 ^ g → (∀ i ≤ k, 1 / 6 ≤ p ^ (2 ^ i)) →
   0 ≤ sqs g k s ∧ (sqs g k s : Rat) / 2 ^ g ≤ p ^ (2 ^ k) ∧ p ^ (2 ^ k) * (1 - 2 ^ k * (d + 6 * e)) ≤ (sqs g k s : Rat) / 2 ^ g := by
 have hp := two_pow_pos g
 have he0 : 0 < e := by
   apply Rat.not_le.1
   intro hle
   have := Rat.mul_le_mul_of_nonneg_right hle (by grind : (0 : Rat) ≤ 2 ^ g)
   grind
 intro k
 induction k with
 | zero =>
   intro s p d hs hd hk h1 h2 hpw
   have e1 : p ^ (2 ^ 0) = p := by
     show p ^ (0 + 1) = p
     rw [Rat.pow_succ, Rat.pow_zero]; grind
   rw [e1, Rat.pow_zero]
   rw [Rat.pow_zero] at hk
   have hp0 := hpw 0 (by omega)
   rw [e1] at hp0
   have hm : 0 ≤ p * e := Rat.mul_nonneg (by grind) (by grind)
   refine ⟨hs, h1, ?_⟩
   rw [sqs]
   grind
 | succ k ih =>
   intro s p d hs hd hk h1 h2 hpw
   have hk1 : (1 : Rat) ≤ 2 ^ k := one_le_pow (by decide) k
   rw [Rat.pow_succ] at hk
   have hp0 : 1 / 6 ≤ p := by
     have := hpw 0 (by omega)
     have e1 : p ^ (2 ^ 0) = p := by
       show p ^ (0 + 1) = p
       rw [Rat.pow_succ, Rat.pow_zero]; grind
     rwa [e1] at this
   have hp1 : 1 / 6 ≤ p * p := by
     have := hpw 1 (by omega)
     have e1 : p ^ (2 ^ 1) = p * p := by
       show p ^ (0 + 1 + 1) = p * p
       rw [Rat.pow_succ, Rat.pow_succ, Rat.pow_zero]; grind
     rwa [e1] at this
   have hd1 : d ≤ 1 := by
     have hde : 0 ≤ d + 6 * e := by grind
     have := Rat.mul_le_mul_of_nonneg_right (c := d + 6 * e) (show (1 : Rat) ≤ 2 ^ k * 2 by grind) hde
     grind
   have hss : 0 ≤ s * s / 2 ^ g := Int.ediv_nonneg (Int.mul_nonneg hs hs) (Int.le_of_lt (Int.pow_pos (by decide)))
   obtain ⟨f1, f2⟩ := shift_floor (s * s) g
   rw [Rat.intCast_mul] at f1 f2
   have hs0 : (0 : Rat) ≤ (s : Rat) / 2 ^ g := div_nonneg (by have := icast_le hs; simpa using this) hp
   have eS : (s : Rat) * s / 2 ^ g = ((s : Rat) / 2 ^ g) * ((s : Rat) / 2 ^ g) * 2 ^ g := by grind
   rw [eS] at f1 f2
   have q1 : ((s * s / 2 ^ g : Int) : Rat) / 2 ^ g ≤ p * p := by
     apply div_le hp
     have := sq_le hs0 h1
     have := Rat.mul_le_mul_of_nonneg_right this (by grind : (0 : Rat) ≤ 2 ^ g)
     grind
   have q2 : p * p * (1 - (2 * d + 6 * e)) ≤ ((s * s / 2 ^ g : Int) : Rat) / 2 ^ g := by
     apply le_div hp
     have h3 : 0 ≤ p * (1 - d) := Rat.mul_nonneg (by grind) (by grind)
     have h4 := sq_le h3 h2
     have h5 : p * p * (1 - 2 * d) ≤ p * (1 - d) * (p * (1 - d)) := by
       have : 0 ≤ p * p * (d * d) := Rat.mul_nonneg (by grind) (sq_nonneg d)
       grind
     have h6 : 1 / 6 * e ≤ p * p * e := Rat.mul_le_mul_of_nonneg_right hp1 (by grind)
     have h7 : p * p * (1 - (2 * d + 6 * e)) ≤ (s : Rat) / 2 ^ g * ((s : Rat) / 2 ^ g) - e := by grind
     have h8 := Rat.mul_le_mul_of_nonneg_right h7 (by grind : (0 : Rat) ≤ 2 ^ g)
     grind
   have := ih (s * s / 2 ^ g) (p * p) (2 * d + 6 * e) hss (by grind) (by grind) q1 q2 (fun i hi => by
     have := hpw (i + 1) (by omega)
     rwa [sq_pow, ← Nat.pow_succ'])
   rw [sq_pow, ← Nat.pow_succ'] at this
   rw [sqs, Rat.pow_succ]
   have e3 : (2 : Rat) ^ k * (2 * d + 6 * e + 6 * e) = 2 ^ k * 2 * (d + 6 * e) := by grind
   rw [e3] at this
   exact this
theorem pow_diff_at {a b : Rat} (h : 0 ≤ a) (hab : a ≤ b) (hb : 1 / 2 ≤ b) (n : Nat) : b ^ n - a ^ n ≤ (b - a) * (n * (2 * b ^ n)) := by
 cases n with
 | zero =>
   rw [Rat.pow_zero, Rat.pow_zero]
   have : ((0 : Nat) : Rat) = 0 := rfl
   rw [this]; grind
 | succ k =>
   have := (pow_diff h hab k).2
   have hP := pow_nonneg (a := b) (by grind) k
   have h1 : b ^ k ≤ 2 * b ^ (k + 1) := by
     rw [Rat.pow_succ]
     have := Rat.mul_le_mul_of_nonneg_right hb hP
     grind
   have h2 := Rat.mul_le_mul_of_nonneg_left h1 (cast_nonneg (k + 1))
   have h3 := Rat.mul_le_mul_of_nonneg_left h2 (by grind : 0 ≤ b - a)
   grind
theorem mul_w {m u D : Rat} (g1 : u * (2 * m) ≤ 1) (g2 : D * (2 * m) ≤ 1 / 100000) : m * (8 / 7 * u + 2 * D) ≤ 23 / 40 := by grind
theorem six_e {J D e : Rat} (h : D * J ≤ 1 / 100000) (hD : D = 153 * e) : J * (0 + 6 * e) ≤ 1 := by
 rw [hD] at h
 have e1 : J * (0 + 6 * e) = 6 / 153 * (153 * e * J) := by grind
 rw [e1]
 generalize 153 * e * J = K at *
 grind
theorem last_low {D B J Y X I Q S : Rat} (hI : 0 < I) (hB : 0 < B) (hDJ0 : 0 ≤ D * (B * J)) (hDJ : D * (B * J) ≤ 1 / 100) (hY : Y ≤ 6) (d1 : Y - X ≤ D * (J * (2 * Y))) (q1 : S ≤ Y) (f1 : Q ≤ S * B) (ei : I * X = 1) : I * (Q - 2) < B := by
 have k1 : D * (B * J) * Y ≤ 1 / 100 * 6 := by
   have := Rat.mul_le_mul_of_nonneg_left hY hDJ0
   grind
 have k2 : B * (Y - X) ≤ 12 / 100 := by
   have := Rat.mul_le_mul_of_nonneg_left d1 (by grind : 0 ≤ B)
   grind
 have k3 : S * B ≤ Y * B := Rat.mul_le_mul_of_nonneg_right q1 (by grind)
 have k4 : Q - 2 < B * X := by grind
 have h := Rat.mul_lt_mul_of_pos_left k4 hI
 have : I * (B * X) = B := by grind
 rw [this] at h
 exact h
theorem last_high {D B J Y Z Q S e : Rat} (hB : 0 < B) (hDJ0 : 0 ≤ D * (B * J)) (hDJ : D * (B * J) ≤ 1 / 100) (eD : D = 153 * e) (hY : Y ≤ 6) (hZ : Z ≤ 6) (d2 : Z - Y ≤ D * (J * (2 * Z))) (q2 : Y * (1 - J * (0 + 6 * e)) ≤ S) (f2 : S * B ≤ Q + 1) : Z * B < Q + 2 := by
 have k1 : D * (B * J) * Z ≤ 1 / 100 * 6 := by
   have := Rat.mul_le_mul_of_nonneg_left hZ hDJ0
   grind
 have k2 : B * (Z - Y) ≤ 12 / 100 := by
   have := Rat.mul_le_mul_of_nonneg_left d2 (by grind : 0 ≤ B)
   grind
 have k3 := Rat.mul_le_mul_of_nonneg_right q2 (by grind : 0 ≤ B)
 have k4 : D * (B * J) * Y ≤ 1 / 100 * 6 := by
   have := Rat.mul_le_mul_of_nonneg_left hY hDJ0
   grind
 have k5 : Y * (1 - J * (0 + 6 * e)) * B = Y * B - 6 / 153 * (D * (B * J) * Y) := by rw [eD]; grind
 rw [k5] at k3
 generalize D * (B * J) * Y = K at *
 have k6 : B * (Z - Y) = Z * B - Y * B := by grind
 rw [k6] at k2
 generalize Y * B = YB at *
 generalize Z * B = ZB at *
 generalize S * B = SB at *
 clear k5 k6 eD d2 k1
 grind
theorem alg_law {x : Int} {b j g N : Nat} (h1 : -1 ≤ (x : Rat) / 2 ^ b) (h2 : (x : Rat) / 2 ^ b ≤ 1) (hj : 5 ≤ j) (hb : 20 ≤ b) (hg : b + j + 14 ≤ g) (hN : N ≤ 60) (hz : trm (x * 2 ^ (g - b - j)) g N = 0) :
   0 ≤ tsum (x * 2 ^ (g - b - j)) g N ∧ 0 ≤ sqs g j (tsum (x * 2 ^ (g - b - j)) g N) / 2 ^ (g - b) ∧
   (∃ s : Rat, 0 < s ∧ ELe (-((x : Rat) / 2 ^ b)) s ∧ s * (((sqs g j (tsum (x * 2 ^ (g - b - j)) g N) / 2 ^ (g - b) : Int) : Rat) - 2) < 2 ^ b) ∧
   (∀ k ≤ j, 0 < sqs g k (tsum (x * 2 ^ (g - b - j)) g N) ∧ sqs g k (tsum (x * 2 ^ (g - b - j)) g N) ≤ 6 * 2 ^ g) ∧
   ∃ t : Rat, 0 < t ∧ ELe ((x : Rat) / 2 ^ b) t ∧ t * 2 ^ b < ((sqs g j (tsum (x * 2 ^ (g - b - j)) g N) / 2 ^ (g - b) : Int) : Rat) + 2 := by
 have hgp := two_pow_pos g
 have hbp := two_pow_pos b
 have hjp := two_pow_pos j
 have ej : (2 : Rat) ^ j = 2 ^ 5 * 2 ^ (j - 5) := by rw [← pow_add]; congr 1; omega
 have e32 : (2 : Rat) ^ 5 = 32 := by
   rw [show 5 = 0 + 1 + 1 + 1 + 1 + 1 from rfl, Rat.pow_succ, Rat.pow_succ, Rat.pow_succ, Rat.pow_succ, Rat.pow_succ, Rat.pow_zero]; grind
 have hj32 : (32 : Rat) ≤ 2 ^ j := by
   have := one_le_pow (a := 2) (by decide) (j - 5)
   rw [ej, e32]; grind
 have eg : (2 : Rat) ^ g = 2 ^ b * 2 ^ j * 2 ^ (g - b - j) := by rw [← pow_add, ← pow_add]; congr 1; omega
 have eg2 : (2 : Rat) ^ (g - b - j) = 2 ^ 14 * 2 ^ (g - b - j - 14) := by rw [← pow_add]; congr 1; omega
 have e14 : (2 : Rat) ^ 14 = 16384 := by
   have := cast_pow2 14
   rw [← this]; rfl
 have hgbj : (16384 : Rat) ≤ 2 ^ (g - b - j) := by
   have := one_le_pow (a := 2) (by decide) (g - b - j - 14)
   rw [eg2, e14]; grind
 have hb20 : (1024 : Rat) ≤ 2 ^ b := by
   have h : (2 : Rat) ^ b = 2 ^ 10 * 2 ^ (b - 10) := by rw [← pow_add]; congr 1; omega
   have e10 : (2 : Rat) ^ 10 = 1024 := by
     have := cast_pow2 10
     rw [← this]; rfl
   have := one_le_pow (a := 2) (by decide) (b - 10)
   rw [h, e10]; grind
 have ex : ((x * 2 ^ (g - b - j) : Int) : Rat) / 2 ^ g = (x : Rat) / 2 ^ b / 2 ^ j := by
   have hk := two_pow_pos (g - b - j)
   rw [Rat.intCast_mul, icast_pow2, eg]; grind
 generalize hA : (x : Rat) / 2 ^ b = a at *
 have ea : a / 2 ^ j * 2 ^ j = a := div_mul (by grind)
 have y1 : -(1 / 32) ≤ a / 2 ^ j := le_div hjp (by grind)
 have y2 : a / 2 ^ j ≤ 1 / 32 := div_le hjp (by grind)
 obtain ⟨s1, s2, u, u1, u2, u3, u4, u5⟩ := start_law (xr := x * 2 ^ (g - b - j)) (g := g) (by rw [ex]; exact y1) (by rw [ex]; exact y2) hN hz (by omega)
 rw [ex] at s1 s2 u1 u2 u3
 have hu : u * 2 ^ j ≤ 1 := by rcases u3 with h | h <;> rw [h] <;> grind
 have hu0 : 0 ≤ u := by grind
 have eD : (153 : Rat) / 2 ^ g * 2 ^ g = 153 := div_mul (by grind)
 generalize hD : (153 : Rat) / 2 ^ g = D at *
 have hD0 : 0 < D := by
   apply Rat.not_le.1
   intro hle
   have := Rat.mul_le_mul_of_nonneg_right hle (by grind : (0 : Rat) ≤ 2 ^ g)
   grind
 have hDj : D * (2 ^ b * 2 ^ j) ≤ 1 / 100 := by
   rw [eg] at eD
   have hm : 0 ≤ D * (2 ^ b * 2 ^ j) := Rat.mul_nonneg (by grind) (Rat.mul_nonneg (by grind) (by grind))
   have := Rat.mul_le_mul_of_nonneg_left hgbj hm
   grind
 have hDj1 : D * 2 ^ j ≤ 1 / 100000 := by
   have hm : 0 ≤ D * 2 ^ j := Rat.mul_nonneg (by grind) (by grind)
   have := Rat.mul_le_mul_of_nonneg_left hb20 hm
   grind
 have hDs : D ≤ 1 / 3200000 := by
   have := Rat.mul_le_mul_of_nonneg_left hj32 (by grind : 0 ≤ D)
   grind
 generalize hT : tsum (x * 2 ^ (g - b - j)) g N = T at *
 have eT : (T : Rat) / 2 ^ g * 2 ^ g = T := div_mul (by grind)
 generalize hs0 : (T : Rat) / 2 ^ g = p at *
 have hu32 : u ≤ 1 / 32 := by grind
 have hp9 : 9 / 10 ≤ p := by grind
 obtain ⟨w, hw⟩ : ∃ w : Rat, w = 8 / 7 * u + 2 * D := ⟨_, rfl⟩
 obtain ⟨m, hm⟩ : ∃ m : Nat, m = 2 ^ (j - 1) := ⟨_, rfl⟩
 have hm2 : 2 ^ j = 2 * m := by rw [hm, ← Nat.pow_succ']; congr 1; omega
 have hm3 : (2 : Rat) ^ j = 2 * m := by rw [← cast_pow2, hm2, Rat.natCast_mul]; rfl
 have hmw : (m : Rat) * w ≤ 23 / 40 := by
   have g1 : u * (2 * (m : Rat)) ≤ 1 := by rw [← hm3]; exact hu
   have g2 : D * (2 * (m : Rat)) ≤ 1 / 100000 := by rw [← hm3]; exact hDj1
   rw [hw]
   exact mul_w g1 g2
 obtain ⟨lo, hi⟩ := pow_bounds (x := w) (m := m) (by grind) (by grind) hmw
 rw [← hm2] at lo hi
 have hw1 : 0 ≤ 1 - w := by grind
 have hpow : ∀ i ≤ j, 1 / 6 ≤ p ^ (2 ^ i) := by
   intro i hi'
   have a1 : (1 - w) ^ (2 ^ i) ≤ p ^ (2 ^ i) := pow_le hw1 (by grind) _
   have a2 : (1 - w) ^ (2 ^ j) ≤ (1 - w) ^ (2 ^ i) := by
     have hle : 2 ^ i ≤ 2 ^ j := Nat.pow_le_pow_right (by decide) hi'
     rw [show 2 ^ j = 2 ^ i + (2 ^ j - 2 ^ i) by omega, pow_add]
     have b1 := pow_nonneg hw1 (2 ^ i)
     have b2 := pow_le_one hw1 (by grind : 1 - w ≤ 1) (2 ^ j - 2 ^ i)
     have := Rat.mul_le_mul_of_nonneg_left b2 b1
     grind
   grind
 have hpn : p ^ (2 ^ j) ≤ 6 := Rat.le_trans (pow_le (by grind) (by grind) _) hi
 have hqn : (p + D) ^ (2 ^ j) ≤ 6 := Rat.le_trans (pow_le (by grind) (by grind) _) hi
 have hrn : 1 / 6 ≤ (p - D) ^ (2 ^ j) := Rat.le_trans lo (pow_le hw1 (by grind) _)
 have hT0 : 0 ≤ T := by
   have : (0 : Rat) ≤ (T : Rat) := by
     rw [← eT]
     exact Rat.mul_nonneg (by grind) (by grind)
   exact Rat.intCast_le_intCast.1 (by simpa using this)
 have he : (1 / 2 ^ g : Rat) * 2 ^ g = 1 := div_mul (by grind)
 have eDe : D = 153 * (1 / 2 ^ g) := by rw [← hD]; grind
 generalize (1 / 2 ^ g : Rat) = e at *
 obtain ⟨q0, q1, q2⟩ := sqs_beside he j T p 0 hT0 (by grind) (six_e hDj1 eDe) (by rw [hs0]; grind) (by rw [hs0]; grind) hpow
 have hall : ∀ k ≤ j, 0 < sqs g k T ∧ sqs g k T ≤ 6 * 2 ^ g := by
   intro k hk
   have he0 : 0 ≤ e := by grind
   have hkj : (2 : Rat) ^ k ≤ 2 ^ j := by
     rw [← cast_pow2, ← cast_pow2]
     exact cast_le (Nat.pow_le_pow_right (by decide) hk)
   have h6 : (2 : Rat) ^ k * (0 + 6 * e) ≤ 1 := by
     have h1 := six_e hDj1 eDe
     have h2 := Rat.mul_le_mul_of_nonneg_right hkj (by grind : 0 ≤ 0 + 6 * e)
     exact Rat.le_trans h2 h1
   obtain ⟨r0, r1, r2⟩ := sqs_beside he k T p 0 hT0 (by grind) h6 (by rw [hs0]; grind) (by rw [hs0]; grind) (fun i hi' => hpow i (Nat.le_trans hi' hk))
   have small : (2 : Rat) ^ k * (0 + 6 * e) ≤ 1 / 2 := by
     have h1 : (2 : Rat) ^ j * (0 + 6 * e) ≤ 1 / 2 := by
       have e1 : (2 : Rat) ^ j * (0 + 6 * e) = 6 / 153 * (D * 2 ^ j) := by rw [eDe]; grind
       rw [e1]
       grind
     have h2 := Rat.mul_le_mul_of_nonneg_right hkj (by grind : 0 ≤ 0 + 6 * e)
     exact Rat.le_trans h2 h1
   have hpk := hpow k hk
   have pos : 0 < sqs g k T := by
     apply Classical.byContradiction
     intro hc
     have hz : sqs g k T = 0 := by omega
     rw [hz] at r2
     have e0 : ((0 : Int) : Rat) / 2 ^ g = 0 := by
       have : ((0 : Int) : Rat) = 0 := rfl
       rw [this]; grind
     rw [e0] at r2
     have h3 := Rat.mul_le_mul_of_nonneg_right hpk (by grind : 0 ≤ 1 - 2 ^ k * (0 + 6 * e))
     grind
   refine ⟨pos, ?_⟩
   have b1 : p ^ (2 ^ k) ≤ (1 + w) ^ (2 ^ k) := pow_le (by grind) (by grind) _
   have b2 : (1 + w) ^ (2 ^ k) ≤ (1 + w) ^ (2 ^ j) := by
     have hle : 2 ^ k ≤ 2 ^ j := Nat.pow_le_pow_right (by decide) hk
     rw [show 2 ^ j = 2 ^ k + (2 ^ j - 2 ^ k) by omega, pow_add]
     have c1 := pow_nonneg (a := 1 + w) (by grind) (2 ^ k)
     have c2 := one_le_pow (a := 1 + w) (by grind) (2 ^ j - 2 ^ k)
     have := Rat.mul_le_mul_of_nonneg_left c2 c1
     grind
   have b3 : (sqs g k T : Rat) / 2 ^ g ≤ 6 := Rat.le_trans r1 (Rat.le_trans b1 (Rat.le_trans b2 hi))
   have b4 : (sqs g k T : Rat) ≤ 6 * 2 ^ g := by
     have h2 := Rat.mul_le_mul_of_nonneg_right b3 (by grind : (0 : Rat) ≤ 2 ^ g)
     rwa [div_mul (by grind)] at h2
   apply Rat.intCast_le_intCast.1
   rw [Rat.intCast_mul, icast_pow2]
   exact b4
 have hq : 0 ≤ sqs g j T / 2 ^ (g - b) := Int.ediv_nonneg q0 (Int.le_of_lt (Int.pow_pos (by decide)))
 obtain ⟨f1, f2⟩ := shift_floor (sqs g j T) (g - b)
 have eQ : (sqs g j T : Rat) / 2 ^ (g - b) = (sqs g j T : Rat) / 2 ^ g * 2 ^ b := by
   have : (2 : Rat) ^ g = 2 ^ b * 2 ^ (g - b) := by rw [← pow_add]; congr 1; omega
   have hk := two_pow_pos (g - b)
   rw [this]; grind
 rw [eQ] at f1 f2
 generalize (sqs g j T : Rat) / 2 ^ g = S at *
 generalize hR : sqs g j T / 2 ^ (g - b) = R at *
 generalize (R : Rat) = Q at *
 have en : ((2 ^ j : Nat) : Rat) = 2 ^ j := cast_pow2 j
 have d1 := pow_diff_at (a := p - D) (b := p) (by grind) (by grind) (by grind) (2 ^ j)
 have d2 := pow_diff_at (a := p) (b := p + D) (by grind) (by grind) (by grind) (2 ^ j)
 rw [en] at d1 d2
 have e1 : p - (p - D) = D := by grind
 have e2 : p + D - p = D := by grind
 rw [e1] at d1
 rw [e2] at d2
 have hpn0 : 0 ≤ p ^ (2 ^ j) := pow_nonneg (by grind) _
 have hZ0 : 0 < (p + D) ^ (2 ^ j) := by
   have k1 := pow_le (a := p) (b := p + D) (by grind) (by grind) (2 ^ j)
   have k2 := hpow j (Nat.le_refl _)
   generalize (p + D) ^ (2 ^ j) = Z' at *
   generalize p ^ (2 ^ j) = Y' at *
   exact (Rat.not_le.1 (fun hle => absurd (Rat.le_trans k2 (Rat.le_trans k1 hle)) (by grind)))
 have hqn0 : 0 ≤ (p + D) ^ (2 ^ j) := pow_nonneg (by grind) _
 have P1 := s2.pow (div_nonneg (by grind) (by grind)) (2 ^ j)
 have P2 := s1.pow (by grind) (2 ^ j)
 rw [en] at P1 P2
 have ea1 : (2 : Rat) ^ j * -(a / 2 ^ j) = -a := by grind
 have ea2 : (2 : Rat) ^ j * (a / 2 ^ j) = a := by grind
 rw [ea1] at P1
 rw [ea2] at P2
 have ei : (1 / (p - D)) ^ (2 ^ j) * (p - D) ^ (2 ^ j) = 1 := by
   rw [← mul_pow, div_mul (by grind), one_pow]
 generalize (1 / (p - D)) ^ (2 ^ j) = I at *
 generalize (p - D) ^ (2 ^ j) = X at *
 generalize p ^ (2 ^ j) = Y at *
 generalize (p + D) ^ (2 ^ j) = Z at *
 generalize (2 : Rat) ^ j = J at *
 generalize (2 : Rat) ^ b = B at *
 have hI : 0 < I := by
   apply Rat.not_le.1
   intro hle
   have := Rat.mul_le_mul_of_nonneg_right hle (by grind : (0 : Rat) ≤ X)
   grind
 have hDJ0 : 0 ≤ D * (B * J) := Rat.mul_nonneg (by grind) (Rat.mul_nonneg (by grind) (by grind))
 refine ⟨hT0, hq, ⟨I, hI, P1, ?_⟩, hall, Z, ?_, P2, ?_⟩
 · exact last_low hI hbp hDJ0 hDj hpn d1 q1 f1 ei
 · exact hZ0
 · exact last_high hbp hDJ0 hDj eDe hpn hqn d2 q2 f2
theorem floor_abs {a : Int} {G t : Nat} (hG : 0 < G) (h : 32 * a.natAbs ≤ t * G) : 32 * (a / (G : Int)).natAbs ≤ t + 31 := by
 have h1 : a / (G : Int) * G ≤ a := Int.ediv_mul_le a (by omega)
 have h2 : a < (a / (G : Int) + 1) * G := Int.lt_ediv_add_one_mul_self a (by omega)
 generalize a / (G : Int) = F at *
 apply Classical.byContradiction
 intro hc
 rcases Int.le_total 0 F with hF | hF
 · have h3 : (t : Int) + 1 ≤ 32 * F := by omega
   have h4 := Int.mul_le_mul_of_nonneg_right h3 (show (0 : Int) ≤ (G : Int) by omega)
   have h5 : (32 * a.natAbs : Int) ≤ t * G := by exact_mod_cast h
   have h6 : 32 * F * (G : Int) = 32 * (F * G) := Int.mul_assoc _ _ _
   rw [h6, Int.add_mul, Int.one_mul] at h4
   have h7 : a ≤ (a.natAbs : Int) := Int.le_natAbs
   omega
 · have h3 : (t : Int) ≤ 32 * (-F - 1) := by omega
   have h4 := Int.mul_le_mul_of_nonneg_right h3 (show (0 : Int) ≤ (G : Int) by omega)
   have h5 : (32 * a.natAbs : Int) ≤ t * G := by exact_mod_cast h
   have h6 : 32 * (-F - 1) * (G : Int) = -32 * ((F + 1) * G) := by
     rw [Int.mul_assoc, show -F - 1 = -(F + 1) by omega, Int.neg_mul]; omega
   rw [h6] at h4
   have h7 : -a ≤ (a.natAbs : Int) := by omega
   omega
theorem pow_cast (g : Nat) : (2 : Int) ^ g = ((2 ^ g : Nat) : Int) := by simp
theorem trm_small {X : Int} {g : Nat} (hX : 32 * X.natAbs ≤ 2 ^ g) (i : Nat) : ∃ m, 32 * m ≤ (trm X g i).natAbs + 31 ∧ (trm X g (i + 1)).natAbs = m / (i + 1) := by
 have hp : 0 < 2 ^ g := Nat.pow_pos (by decide)
 refine ⟨(trm X g i * X / 2 ^ g).natAbs, ?_, ?_⟩
 · rw [pow_cast]
   refine floor_abs hp ?_
   rw [Int.natAbs_mul, ← Nat.mul_assoc, Nat.mul_comm 32, Nat.mul_assoc]
   exact Nat.mul_le_mul_left _ hX
 · rw [trm, Int.natAbs_tdiv]
   rfl
theorem trm_first {X : Int} {g : Nat} (hX : 32 * X.natAbs ≤ 2 ^ g) (hg : 5 ≤ g) : 32 * (trm X g 1).natAbs ≤ 2 ^ g := by
 obtain ⟨m, h1, h2⟩ := trm_small hX 0
 have e0 : (trm X g 0).natAbs = 2 ^ g := by rw [trm, pow_cast]; simp
 rw [e0] at h1
 have e : 2 ^ g = 32 * 2 ^ (g - 5) := by
   rw [show (32 : Nat) = 2 ^ 5 from rfl, ← Nat.pow_add]; congr 1; omega
 rw [e] at h1 ⊢
 rw [h2]
 simp only [Nat.zero_add, Nat.div_one]
 omega
theorem trm_half {X : Int} {g : Nat} (hX : 32 * X.natAbs ≤ 2 ^ g) {i : Nat} (hi : 1 ≤ i) : 2 * (trm X g (i + 1)).natAbs ≤ (trm X g i).natAbs := by
 obtain ⟨m, h1, h2⟩ := trm_small hX i
 rw [h2]
 have h3 : m / (i + 1) ≤ m / 2 := Nat.div_le_div_left (by omega) (by decide)
 omega
theorem trm_le {X : Int} {g : Nat} (hX : 32 * X.natAbs ≤ 2 ^ g) (hg : 5 ≤ g) : ∀ i, 1 ≤ i → 32 * (trm X g i).natAbs ≤ 2 ^ g
 | 0, h => absurd h (by decide)
 | 1, _ => trm_first hX hg
 | i + 2, _ => by
   have h1 := trm_le hX hg (i + 1) (by omega)
   have h2 : 2 * (trm X g (i + 2)).natAbs ≤ (trm X g (i + 1)).natAbs := trm_half hX (by omega)
   omega
theorem trm_pow {X : Int} {g : Nat} (hX : 32 * X.natAbs ≤ 2 ^ g) : ∀ i, 5 * i ≤ g → (trm X g i).natAbs ≤ 2 ^ (g - 5 * i)
 | 0, _ => by rw [trm, pow_cast]; simp
 | i + 1, h => by
   have h1 := trm_pow hX i (by omega)
   obtain ⟨m, h2, h3⟩ := trm_small hX i
   have e : 2 ^ (g - 5 * i) = 32 * 2 ^ (g - 5 * (i + 1)) := by
     rw [show (32 : Nat) = 2 ^ 5 from rfl, ← Nat.pow_add]; congr 1; omega
   have h4 : m / (i + 1) ≤ m := Nat.div_le_self _ _
   rw [h3]
   omega
theorem trm_end {X : Int} {g : Nat} (hX : 32 * X.natAbs ≤ 2 ^ g) (hg : 5 ≤ g) : trm X g (g / 5 + 1) = 0 := by
 have h1 := trm_pow hX (g / 5) (by omega)
 obtain ⟨m, h2, h3⟩ := trm_small hX (g / 5)
 have h4 : 2 ^ (g - 5 * (g / 5)) ≤ 2 ^ 4 := Nat.pow_le_pow_right (by decide) (by omega)
 have h5 : m ≤ 1 := by
   have : (2 : Nat) ^ 4 = 16 := by decide
   omega
 have h6 : m / (g / 5 + 1) = 0 := Nat.div_eq_of_lt (by omega)
 rw [h6] at h3
 exact Int.natAbs_eq_zero.1 h3
theorem tsum_near {X : Int} {g : Nat} (hX : 32 * X.natAbs ≤ 2 ^ g) (hg : 5 ≤ g) : ∀ i, 1 ≤ i → 16 * (2 * (trm X g i).natAbs + (tsum X g i - 2 ^ g).natAbs) ≤ 2 ^ g
 | 0, h => absurd h (by decide)
 | 1, _ => by
   have h := trm_first hX hg
   have e : tsum X g 1 = 2 ^ g := by simp [tsum, trm]
   rw [e]
   simp only [Int.sub_self, Int.natAbs_zero]
   omega
 | i + 2, _ => by
   have h1 := tsum_near hX hg (i + 1) (by omega)
   have h2 : 2 * (trm X g (i + 2)).natAbs ≤ (trm X g (i + 1)).natAbs := trm_half hX (by omega)
   have e : tsum X g (i + 2) = tsum X g (i + 1) + trm X g (i + 1) := rfl
   rw [e]
   omega
theorem tsum_big {X : Int} {g : Nat} (hX : 32 * X.natAbs ≤ 2 ^ g) (hg : 5 ≤ g) {i : Nat} (hi : 1 ≤ i) : 0 < tsum X g i ∧ (trm X g i).natAbs < (tsum X g i).natAbs ∧ tsum X g i ≤ 2 * 2 ^ g := by
 have h := tsum_near hX hg i hi
 have hp : 0 < 2 ^ g := Nat.pow_pos (by decide)
 rw [pow_cast] at *
 omega
end Go.Proofs.YteohmbannpbokaaGreatDoor.ExpLaw
set_option linter.unusedSimpArgs false
namespace Go.Proofs.YteohmbannpbokaaGreatDoor.WordWalk
open Go.RowKit Go.Proofs.YteohmbannpbokaaGreatDoorW.PrintWords Go.Proofs.YteohmbannpbokaaGreatDoorW.PrintLast Go.Proofs.YteohmbannpbokaaGreatDoorW.PrintMore Go.Proofs.YteohmbannpbokaaGreatDoor.SpecWalk Go.Proofs.YteohmbannpbokaaGreatDoor.BigWalk
def rootForced (n : Nat) : (todo root : Nat) → Nat
 | 0, root => root
 | todo + 1, 0 => rootForced n todo (if (0 + 1 <<< todo) * (0 + 1 <<< todo) ≤ n then 0 + 1 <<< todo else 0)
 | todo + 1, k + 1 => rootForced n todo (if (k + 1 + 1 <<< todo) * (k + 1 + 1 <<< todo) ≤ n then k + 1 + 1 <<< todo else k + 1)
theorem root_forced (n : Nat) : ∀ todo root, Ieee.Datum.rootFrom n todo root = rootForced n todo root
 | 0, root => by rw [Ieee.Datum.rootFrom, rootForced]
 | todo + 1, 0 => by rw [Ieee.Datum.rootFrom, rootForced, ← root_forced n todo]
 | todo + 1, k + 1 => by rw [Ieee.Datum.rootFrom, rootForced, ← root_forced n todo]
def rootDatum (digits : Nat) : Ieee.Datum → Option Ieee.Datum
 | .nan .. => none
 | .infinity s => if s then none else some (.infinity s)
 | .number s m i =>
   if m = 0 then some (.number s m i)
   else if s then none
   else
     let more := 2 * digits - m.log2
     let more := more + ((i - more) % 2).toNat
     let n := m <<< more
     let whole := rootForced n (n.log2 / 2 + 1) 0
     some (.number false (2 * whole + (whole * whole != n).toNat) ((i - more) / 2 - 1))
theorem root_datum (digits : Nat) (d : Ieee.Datum) : d.root digits = rootDatum digits d := by
 cases d with
 | nan => rfl
 | infinity => rfl
 | number s m i => simp only [Ieee.Datum.root, rootDatum, root_forced]
def rootOf (b : Nat) : Option (Nat × Int) :=
 match (rootDatum (FloatKind.f64.format.fractionBits + 2) (FloatKind.f64.format.read (floatOfInt .f64 (b : Int)))).map FloatKind.f64.format.write with
 | some r => (floatToIntVal .f64 r .u64).map (fun J => (r, J))
 | none => none
def rootOk (b : Nat) : Bool := match rootOf b with | some (_, J) => decide (4 ≤ J) && decide (J ≤ 14) | none => false
theorem root_all0 : ∀ b : Fin 13, rootOk (b.val + 20) = true := by decide +kernel
theorem root_all1 : ∀ b : Fin 13, rootOk (b.val + 33) = true := by decide +kernel
theorem root_all2 : ∀ b : Fin 13, rootOk (b.val + 46) = true := by decide +kernel
theorem root_all3 : ∀ b : Fin 13, rootOk (b.val + 59) = true := by decide +kernel
theorem root_all4 : ∀ b : Fin 13, rootOk (b.val + 72) = true := by decide +kernel
theorem root_all5 : ∀ b : Fin 13, rootOk (b.val + 85) = true := by decide +kernel
theorem root_all6 : ∀ b : Fin 13, rootOk (b.val + 98) = true := by decide +kernel
theorem root_all7 : ∀ b : Fin 13, rootOk (b.val + 111) = true := by decide +kernel
theorem root_all8 : ∀ b : Fin 13, rootOk (b.val + 124) = true := by decide +kernel
theorem root_all9 : ∀ b : Fin 13, rootOk (b.val + 137) = true := by decide +kernel
theorem root_all10 : ∀ b : Fin 13, rootOk (b.val + 150) = true := by decide +kernel
theorem root_all11 : ∀ b : Fin 13, rootOk (b.val + 163) = true := by decide +kernel
theorem root_all12 : ∀ b : Fin 13, rootOk (b.val + 176) = true := by decide +kernel
theorem root_all13 : ∀ b : Fin 12, rootOk (b.val + 189) = true := by decide +kernel
theorem root_all (b : Nat) (h0 : 20 ≤ b) (h1 : b ≤ 200) : rootOk b = true := by
 by_cases h0q : b < 33
 · have h := root_all0 ⟨b - 20, by omega⟩
   rwa [show b - 20 + 20 = b by omega] at h
 by_cases h1q : b < 46
 · have h := root_all1 ⟨b - 33, by omega⟩
   rwa [show b - 33 + 33 = b by omega] at h
 by_cases h2q : b < 59
 · have h := root_all2 ⟨b - 46, by omega⟩
   rwa [show b - 46 + 46 = b by omega] at h
 by_cases h3q : b < 72
 · have h := root_all3 ⟨b - 59, by omega⟩
   rwa [show b - 59 + 59 = b by omega] at h
 by_cases h4q : b < 85
 · have h := root_all4 ⟨b - 72, by omega⟩
   rwa [show b - 72 + 72 = b by omega] at h
 by_cases h5q : b < 98
 · have h := root_all5 ⟨b - 85, by omega⟩
   rwa [show b - 85 + 85 = b by omega] at h
 by_cases h6q : b < 111
 · have h := root_all6 ⟨b - 98, by omega⟩
   rwa [show b - 98 + 98 = b by omega] at h
 by_cases h7q : b < 124
 · have h := root_all7 ⟨b - 111, by omega⟩
   rwa [show b - 111 + 111 = b by omega] at h
 by_cases h8q : b < 137
 · have h := root_all8 ⟨b - 124, by omega⟩
   rwa [show b - 124 + 124 = b by omega] at h
 by_cases h9q : b < 150
 · have h := root_all9 ⟨b - 137, by omega⟩
   rwa [show b - 137 + 137 = b by omega] at h
 by_cases h10q : b < 163
 · have h := root_all10 ⟨b - 150, by omega⟩
   rwa [show b - 150 + 150 = b by omega] at h
 by_cases h11q : b < 176
 · have h := root_all11 ⟨b - 163, by omega⟩
   rwa [show b - 163 + 163 = b by omega] at h
 by_cases h12q : b < 189
 · have h := root_all12 ⟨b - 176, by omega⟩
   rwa [show b - 176 + 176 = b by omega] at h
 by_cases h13q : b < 201
 · have h := root_all13 ⟨b - 189, by omega⟩
   rwa [show b - 189 + 189 = b by omega] at h
 omega
theorem sqrt_root (x : Nat) : FloatKind.f64.format.sqrt x = (rootDatum (FloatKind.f64.format.fractionBits + 2) (FloatKind.f64.format.read x)).map FloatKind.f64.format.write := by
 unfold Ieee.Format.sqrt
 rw [root_datum]
theorem root_of (b : Nat) (h0 : 20 ≤ b) (h1 : b ≤ 200) : ∃ (r J : Nat), FloatKind.f64.format.sqrt (floatOfInt .f64 (b : Int)) = some r ∧ floatToIntVal .f64 r .u64 = some (J : Int) ∧ 4 ≤ J ∧ J ≤ 14 := by
 have h := root_all b h0 h1
 unfold rootOk rootOf at h
 rw [← sqrt_root] at h
 generalize FloatKind.f64.format.sqrt (floatOfInt .f64 (b : Int)) = o at *
 cases o with
 | none => exact absurd h (by decide)
 | some r =>
   simp only at h
   generalize hf : floatToIntVal .f64 r .u64 = q at *
   cases q with
   | none => exact absurd h (by simp)
   | some J =>
     simp only [Option.map_some, Bool.and_eq_true, decide_eq_true_eq] at h
     obtain ⟨n, rfl⟩ := Int.eq_ofNat_of_zero_le (show 0 ≤ J by omega)
     exact ⟨r, n, rfl, hf, by omega, by omega⟩
theorem Sqrt_n (x r : Nat) (h : FloatKind.f64.format.sqrt x = some r) (w : World) :
   Calls Tryz.prog 70 #[.float .f64 x] w fun e w' => e = .returned (.float .f64 r) ∧ w' = w := by
 have e0 : Extern.MathSqrt.sqrt #[.float .f64 x] = (match FloatKind.f64.format.sqrt x with
   | some r => pure (.float .f64 r)
   | none => do pure (.float .f64 (← choose (.nanBits .f64 x x)))) := rfl
 rw [h] at e0
 have HA : ∀ w : World, (callFunc 97 #[.float .f64 x]).run Tryz.prog w = .ok (.value (.float .f64 r)) w := by
   intro w
   rw [run_callFunc_extern (fn := Tryz.f97) (e := Extern.MathSqrt.sqrt) Tryz.func97 (by kernel_rfl) (by kernel_rfl) (by kernel_rfl) (by kernel_rfl), e0]
   rfl
 have HA := Aside0.mk HA
 clear h e0
 go_enter Tryz.func70, Tryz.ntmps70
 go_wp2_with (first | simp only [HA.out] | go_in)
 go_ret
 exact ⟨rfl, rfl⟩
end Go.Proofs.YteohmbannpbokaaGreatDoor.WordWalk
namespace Go.Proofs.YteohmbannpbokaaGreatDoor.WordWalk
open Go.RowKit Go.Proofs.YteohmbannpbokaaGreatDoorW.PrintWords Go.Proofs.YteohmbannpbokaaGreatDoorW.PrintLast Go.Proofs.YteohmbannpbokaaGreatDoorW.PrintMore Go.Proofs.YteohmbannpbokaaGreatDoor.SpecWalk Go.Proofs.YteohmbannpbokaaGreatDoor.BigWalk Go.Proofs.YteohmbannpbokaaGreatDoor.ExpLaw
theorem bits_bound {x : Nat} (h0 : 2048 ≤ x) (h1 : x < 16384) : 12 ≤ Lib.bitLen x ∧ Lib.bitLen x ≤ 14 := by
 rw [Lib.bitLen_shift 11 x (by omega) (by omega)]
 have h : ∀ k : Fin 8, 0 < k.val → 1 ≤ Lib.bitLen k.val ∧ Lib.bitLen k.val ≤ 3 := by decide
 have := h ⟨x / 2 ^ 11, by omega⟩ (by show 0 < x / 2 ^ 11; omega)
 simp only at this
 omega
theorem small4 {n : Nat} (h : n ≤ 2 ^ 250) : (W64.digs n).length ≤ 4 := by
 refine W64.len_digs_le ?_
 have : (2 : Nat) ^ 250 < 18446744073709551616 ^ 4 := by decide
 omega
theorem pow_le250 {k : Nat} (h : k ≤ 250) : 2 ^ k ≤ 2 ^ 250 := Nat.pow_le_pow_right (by decide) h
structure Xr (w : World) (B g : Nat) (x : Int) : Prop where
 mk :: (out : (x = 0 ∧ Box w g [.bool false, .slice none 0 0] ∧ Blk w g) ∨ ∃ a, B ≤ a ∧ Zm w g a x)
theorem xr_lsh (gz gx : Nat) (X : Int) (ok : Nat → Prop) (v : Value) (s : Nat) (w : World) (hz : Box w gz [.bool false, .slice none 0 0]) (hzb : Blk w gz) (hx : Box w gx [.bool (decide (X < 0)), v]) (hv : Wdv w ok v X.natAbs) (hne : gz ≠ gx) (hs : 0 < s) (hs2 : s ≤ 1000) (hl : (W64.digs X.natAbs).length ≤ 100) :
   Calls Tryz.prog 25 #[.pointer (some ⟨gz, 0, none⟩), .pointer (some ⟨gx, 0, none⟩), .int .u64 s] w fun e w' => e = .returned (.pointer (some ⟨gz, 0, none⟩)) ∧ Xr w' w.heap.size gz (X * 2 ^ s) ∧ KeptP w w' (fun k => k = gz) := by
 by_cases h0 : X = 0
 · subst h0
   obtain ⟨A, c, rfl, _, _⟩ := hv.form
   have e : (W64.digs (0 : Int).natAbs).length = 0 := by rw [show (0 : Int).natAbs = 0 from rfl, W64.digs_zero]; rfl
   rw [e] at hx
   refine (Lsh_new0 gz gx A c s w hz hzb hx hne hs hs2).mono ?_
   rintro e w' ⟨rfl, h1, h2, h3⟩
   exact ⟨rfl, ⟨.inl ⟨Int.zero_mul _, h1, h2⟩⟩, h3⟩
 · refine (Lsh_new gz gx X ok v s w hz hzb hx hv hne h0 hs hs2 hl).mono ?_
   rintro e w' ⟨rfl, a', h1, h2, h3⟩
   exact ⟨rfl, ⟨.inr ⟨a', h1, h2⟩⟩, h3⟩
theorem xr_rsh (g B : Nat) (x : Int) (s : Nat) (w : World) (h : Xr w B g x) (hs : 0 < s) (hs2 : s ≤ 1000) (hb : x.natAbs ≤ 2 ^ 250) (hg : B ≤ g) :
   Calls Tryz.prog 72 #[.pointer (some ⟨g, 0, none⟩), .pointer (some ⟨g, 0, none⟩), .int .u64 s] w fun e w' => e = .returned (.pointer (some ⟨g, 0, none⟩)) ∧ Xr w' B g (x / 2 ^ s) ∧ KeptP w w' (fun k => B ≤ k) := by
 rcases h.out with ⟨rfl, h1, h2⟩ | ⟨a, h1, h2⟩
 · refine (Rsh_nil g s w h1 h2 hs hs2).mono ?_
   rintro e w' ⟨rfl, h3, h4, h5⟩
   exact ⟨rfl, ⟨.inl ⟨by simp, h3, h4⟩⟩, h5.mono (fun k hk => by rw [hk]; exact hg)⟩
 · by_cases hx : x < 0
   · have hl : (W64.digs ((x.natAbs - 1) / 2 ^ s)).length ≤ 4 := small4 (Nat.le_trans (Nat.div_le_self _ _) (by omega))
     refine (Rsh_neg g a x s w h2 hx hs hs2 hl).mono ?_
     rintro e w' ⟨rfl, h3, h4⟩
     exact ⟨rfl, ⟨.inr ⟨a, h1, h3⟩⟩, h4.mono (fun k hk => by rcases hk with hk | hk <;> rw [hk]; exact hg; exact h1)⟩
   · refine (Rsh_pos g a x s w h2 (by omega) hs hs2).mono ?_
     rintro e w' ⟨rfl, h3, h4⟩
     exact ⟨rfl, ⟨.inr ⟨a, h1, h3⟩⟩, h4.mono (fun k hk => by rcases hk with hk | hk <;> rw [hk]; exact hg; exact h1)⟩
theorem Rsh_any (g a : Nat) (x : Int) (s : Nat) (w : World) (h : Zm w g a x) (hs : 0 < s) (hs2 : s ≤ 1000) (hb : x.natAbs / 2 ^ s ≤ 2 ^ 250) :
   Calls Tryz.prog 72 #[.pointer (some ⟨g, 0, none⟩), .pointer (some ⟨g, 0, none⟩), .int .u64 s] w fun e w' => e = .returned (.pointer (some ⟨g, 0, none⟩)) ∧ Zm w' g a (x / 2 ^ s) ∧ KeptP w w' (fun k => k = g ∨ k = a) := by
 by_cases hx : x < 0
 · have hl : (W64.digs ((x.natAbs - 1) / 2 ^ s)).length ≤ 4 := small4 (Nat.le_trans (Nat.div_le_div_right (by omega)) hb)
   exact Rsh_neg g a x s w h hx hs hs2 hl
 · exact Rsh_pos g a x s w h (by omega) hs hs2
theorem oneInt_n (w : World) : Calls Tryz.prog 73 #[] w fun e w' => ∃ g ga, e = .returned (.pointer (some ⟨g, 0, none⟩)) ∧ w.heap.size ≤ g ∧ w.heap.size ≤ ga ∧ Zi w' g ga false 1 ∧ Below w.heap.size w w' := by
 have HN := Aside0.mk (NewInt_zi 1 w (by decide) (by decide))
 have e : ((1 : Nat) : Int) = 1 := rfl
 rw [e] at HN
 clear e
 go_enter Tryz.func73, Tryz.ntmps73
 go_wp2_with (go_at_call 23; refine HN.out.mono ?_; rintro e w1 ⟨g, ga, rfl, h⟩; have HH := Aside0.mk h; clear h)
 go_ret
 exact ⟨g, ga, rfl, HH.out⟩
theorem lsh_one (gz gx ga s : Nat) (w : World) (hz : Box w gz [.bool false, .slice none 0 0]) (hzb : Blk w gz) (hx : Zi w gx ga false 1) (hne : gz ≠ gx) (hs : 0 < s) (hs2 : s ≤ 1000) :
   Calls Tryz.prog 25 #[.pointer (some ⟨gz, 0, none⟩), .pointer (some ⟨gx, 0, none⟩), .int .u64 s] w fun e w' => e = .returned (.pointer (some ⟨gz, 0, none⟩)) ∧ ∃ a', w.heap.size ≤ a' ∧ Zm w' gz a' (2 ^ s) ∧ KeptP w w' (fun k => k = gz) := by
 obtain ⟨v, hb, hn⟩ := hx.out
 have h := Lsh_new gz gx 1 (fun k => k = ga) v s w hz hzb (by rw [show decide ((1 : Int) < 0) = false from rfl]; exact hb) hn.wdv hne (by decide) hs hs2 (by rw [show (1 : Int).natAbs = 1 from rfl, W64.digs_one (by decide) (by decide)]; decide)
 rw [Int.one_mul] at h
 exact h
structure Ap (a b c d : Nat) : Prop where
 mk :: (ac : a ≠ c) (ad : a ≠ d) (bc : b ≠ c) (bd : b ≠ d)
theorem Ap.symm {a b c d : Nat} (h : Ap a b c d) : Ap c d a b := ⟨Ne.symm h.ac, Ne.symm h.bc, Ne.symm h.ad, Ne.symm h.bd⟩
theorem Ap.out {a b c d : Nat} (h : Ap a b c d) : ¬ (a = c ∨ a = d) ∧ ¬ (b = c ∨ b = d) := ⟨fun e => e.elim h.ac h.ad, fun e => e.elim h.bc h.bd⟩
theorem Ap.upd {a b c d d' n : Nat} (h : Ap a b c d) (hd : d' = d ∨ n ≤ d') (ha : a < n) (hb : b < n) : Ap a b c d' := by
 rcases hd with rfl | hd
 · exact h
 · exact ⟨h.ac, by omega, h.bc, by omega⟩
structure ExpSt (w0 w : World) (gX ax : Nat) (x : Int) (gS aS : Nat) (s : Int) (gT aT : Nat) (t : Int) (gI aI : Nat) (i : Int) : Prop where
 mk :: (zx : Zz w gX ax x) (zs : Zm w gS aS s) (zt : Zm w gT aT t) (zi : Zz w gI aI i) (thr : Thr w) (bel : Below w0.heap.size w0 w) (xs : Ap gX ax gS aS) (xt : Ap gX ax gT aT) (xi : Ap gX ax gI aI) (st : Ap gS aS gT aT) (si : Ap gS aS gI aI) (ti : Ap gT aT gI aI) (lx : ax < w.heap.size) (li : aI < w.heap.size) (nI : aI ≠ gI) (ls : w0.heap.size ≤ gS ∧ w0.heap.size ≤ aS) (lt : w0.heap.size ≤ gT ∧ w0.heap.size ≤ aT) (lI : w0.heap.size ≤ gI ∧ w0.heap.size ≤ aI) (h3 : 3 ≤ w0.heap.size)
theorem below_pair {w0 w w' : World} {a b : Nat} (h : Below w0.heap.size w0 w) (hk : KeptP w w' (fun k => k = a ∨ k = b)) (ha : w0.heap.size ≤ a) (hb : w0.heap.size ≤ b) : Below w0.heap.size w0 w' :=
 ⟨hk.os.trans h.os, hk.tape.trans h.tape, hk.output.trans h.output, Nat.le_trans h.size hk.size, fun k hlt => (hk.block k (Nat.lt_of_lt_of_le hlt h.size) (fun e => by rcases e with rfl | rfl <;> omega)).trans (h.block k hlt)⟩
section
variable {w0 w w' : World} {gX ax gS aS gT aT gI aI a' : Nat} {x s t i z : Int}
theorem ExpSt.setT (h : ExpSt w0 w gX ax x gS aS s gT aT t gI aI i) (hz : Zm w' gT a' z) (ha : a' = aT ∨ w.heap.size ≤ a') (hk : KeptP w w' (fun k => k = gT ∨ k = aT)) : ExpSt w0 w' gX ax x gS aS s gT a' z gI aI i := by
 have hsz := h.bel.size
 have hs := h.zs.lt
 have hxl := h.zx.blk.lt
 have hil := h.zi.blk.lt
 refine ⟨h.zx.kept hk h.xt.out.1 h.xt.out.2, h.zs.kept hk h.st.out.1 h.st.out.2, hz, h.zi.kept hk h.ti.symm.out.1 h.ti.symm.out.2, h.thr.kept hk (fun k e => by have := h.lt; have := h.h3; rcases e with rfl | rfl <;> omega), below_pair h.bel hk h.lt.1 h.lt.2, h.xs, h.xt.upd ha hxl h.lx, h.xi, h.st.upd ha hs.1 hs.2, h.si, (h.ti.symm.upd ha hil h.li).symm, Nat.lt_of_lt_of_le h.lx hk.size, Nat.lt_of_lt_of_le h.li hk.size, h.nI, h.ls, ⟨h.lt.1, ?_⟩, h.lI, h.h3⟩
 rcases ha with rfl | ha
 · exact h.lt.2
 · omega
theorem ExpSt.setS (h : ExpSt w0 w gX ax x gS aS s gT aT t gI aI i) (hz : Zm w' gS a' z) (ha : a' = aS ∨ w.heap.size ≤ a') (hk : KeptP w w' (fun k => k = gS ∨ k = aS)) : ExpSt w0 w' gX ax x gS a' z gT aT t gI aI i := by
 have hsz := h.bel.size
 have ht := h.zt.lt
 have hxl := h.zx.blk.lt
 have hil := h.zi.blk.lt
 refine ⟨h.zx.kept hk h.xs.out.1 h.xs.out.2, hz, h.zt.kept hk h.st.symm.out.1 h.st.symm.out.2, h.zi.kept hk h.si.symm.out.1 h.si.symm.out.2, h.thr.kept hk (fun k e => by have := h.ls; have := h.h3; rcases e with rfl | rfl <;> omega), below_pair h.bel hk h.ls.1 h.ls.2, h.xs.upd ha hxl h.lx, h.xt, h.xi, (h.st.symm.upd ha ht.1 ht.2).symm, (h.si.symm.upd ha hil h.li).symm, h.ti, Nat.lt_of_lt_of_le h.lx hk.size, Nat.lt_of_lt_of_le h.li hk.size, h.nI, ⟨h.ls.1, ?_⟩, h.lt, h.lI, h.h3⟩
 rcases ha with rfl | ha
 · exact h.ls.2
 · omega
theorem ExpSt.setI (h : ExpSt w0 w gX ax x gS aS s gT aT t gI aI i) (hz : Zz w' gI a' z) (ha : a' = aI ∨ w.heap.size ≤ a') (hn : a' ≠ gI) (hl : a' < w'.heap.size) (hk : KeptP w w' (fun k => k = gI ∨ k = aI)) : ExpSt w0 w' gX ax x gS aS s gT aT t gI a' z := by
 have hsz := h.bel.size
 have ht := h.zt.lt
 have hs := h.zs.lt
 have hxl := h.zx.blk.lt
 refine ⟨h.zx.kept hk h.xi.out.1 h.xi.out.2, h.zs.kept hk h.si.out.1 h.si.out.2, h.zt.kept hk h.ti.out.1 h.ti.out.2, hz, h.thr.kept hk (fun k e => by have := h.lI; have := h.h3; rcases e with rfl | rfl <;> omega), below_pair h.bel hk h.lI.1 h.lI.2, h.xs, h.xt, h.xi.upd ha hxl h.lx, h.st, h.si.upd ha hs.1 hs.2, h.ti.upd ha ht.1 ht.2, Nat.lt_of_lt_of_le h.lx hk.size, hl, hn, h.ls, h.lt, ⟨h.lI.1, ?_⟩, h.h3⟩
 rcases ha with rfl | ha
 · exact h.lI.2
 · omega
end
theorem Xr.mono {w : World} {B B' g : Nat} {x : Int} (h : Xr w B' g x) (hB : B ≤ B') : Xr w B g x := by
 rcases h.out with h | ⟨a, h1, h2⟩
 · exact ⟨.inl h⟩
 · exact ⟨.inr ⟨a, Nat.le_trans hB h1, h2⟩⟩
theorem Xr.zz {w : World} {B g : Nat} {x : Int} (h : Xr w B g x) (hg : B ≤ g) : ∃ a, B ≤ a ∧ a < w.heap.size ∧ Zz w g a x := by
 rcases h.out with ⟨rfl, h1, h2⟩ | ⟨a, h1, h2⟩
 · exact ⟨g, hg, h2.lt, ⟨⟨_, h1, ⟨.inl ⟨rfl, rfl⟩⟩⟩, h2⟩⟩
 · exact ⟨a, h1, h2.lt.2, h2.zz⟩
theorem bel_kept {B : Nat} {w0 w w' : World} {P : Nat → Prop} (h : Below B w0 w) (hk : KeptP w w' P) (hP : ∀ k, P k → B ≤ k) (hB : B ≤ w.heap.size) : Below B w0 w' :=
 ⟨hk.os.trans h.os, hk.tape.trans h.tape, hk.output.trans h.output, Nat.le_trans h.size hk.size, fun k hlt => (hk.block k (by omega) (fun e => by have := hP k e; omega)).trans (h.block k hlt)⟩
set_option maxHeartbeats 1000000 in
theorem Sign_zm (g a : Nat) (z : Int) (w : World) (h : Zm w g a z) :
   Calls Tryz.prog 52 #[.pointer (some ⟨g, 0, none⟩)] w fun e w' => ∃ r : Int, e = .returned (.int .i64 r) ∧ w' = w ∧ Aside0 (r = 0 ↔ z = 0) := by
 obtain ⟨c, hc5, hb, hn⟩ := h.out
 have c0 := hb.c0; have c1 := hb.c1
 have hle := hn.le
 have hmx := hn.max
 clear h hb hn hc5
 by_cases h0 : z = 0
 · subst h0
   rw [show (0 : Int).natAbs = 0 from rfl, W64.digs_zero, List.length_nil] at c1
   clear c0 hle hmx
   go_enter Tryz.func52, Tryz.ntmps52
   go_wp2
   go_ret
   exact ⟨0, rfl, rfl, ⟨by simp⟩⟩
 · have hp := W64.len_pos (show z.natAbs ≠ 0 by omega)
   have i1 : 0 < ((W64.digs z.natAbs).length : Int) := by omega
   have i2 : (((W64.digs z.natAbs).length : Int) == 0) = false := beq_eq_false_iff_ne.mpr (by omega)
   have HE1 := Aside0.mk (show ((1 : Int) = 0 ↔ z = 0) from ⟨fun h => absurd h (by decide), fun h => absurd h h0⟩)
   have HE2 := Aside0.mk (show ((-1 : Int) = 0 ↔ z = 0) from ⟨fun h => absurd h (by decide), fun h => absurd h h0⟩)
   generalize (W64.digs z.natAbs).length = l at *
   by_cases hz : z < 0
   · rw [decide_eq_true hz] at c0
     clear hz h0 hp hle hmx
     go_enter Tryz.func52, Tryz.ntmps52
     go_wp2
     go_ret
     exact ⟨-1, rfl, rfl, HE2⟩
   · rw [decide_eq_false hz] at c0
     clear hz h0 hp hle hmx
     go_enter Tryz.func52, Tryz.ntmps52
     go_wp2
     go_ret
     exact ⟨1, rfl, rfl, HE1⟩
theorem Add_any (gz az gx ax : Nat) (s t : Int) (w : World) (hs : Zm w gz az s) (ht : Zm w gx ax t) (hap : Ap gz az gx ax) (h0 : 0 < s) (ht0 : t ≠ 0) (hlt : t.natAbs < s.natAbs) (hl1 : (W64.digs s.natAbs).length ≤ 4) :
   Calls Tryz.prog 76 #[.pointer (some ⟨gz, 0, none⟩), .pointer (some ⟨gz, 0, none⟩), .pointer (some ⟨gx, 0, none⟩)] w fun e w' => e = .returned (.pointer (some ⟨gz, 0, none⟩)) ∧ Zm w' gz az (s + t) ∧ KeptP w w' (fun k => k = gz ∨ k = az) := by
 by_cases h : 0 < t
 · exact Add_pos gz az gx ax s t w hs ht hap.ac hap.bc hap.ad hap.bd h0 h hlt hl1
 · exact Add_neg gz az gx ax s t w hs ht hap.ac hap.bc hap.ad hap.bd h0 (by omega) hlt hl1
theorem sqs_last (g : Nat) : ∀ (k : Nat) (s : Int), sqs g (k + 1) s = sqs g k s * sqs g k s / 2 ^ g
 | 0, s => rfl
 | k + 1, s => by
   show sqs g (k + 1) (s * s / 2 ^ g) = _
   rw [sqs_last g k]
   rfl
end Go.Proofs.YteohmbannpbokaaGreatDoor.WordWalk
