/-
 Two words divided by one, with its reciprocal (plain law).
 Two words divided by one, with its reciprocal; the reciprocal of a word of at most six bits.
 A row divided by a word where it stands.
 Numbers in blocks whose room is told: divided by a small word where they stand.
 A power of ten by squares.
-/
import Derived.Test.YteohmbannpbokaaGreatDoorJ29
import Derived.Test.YteohmbannpbokaaGreatDoorJ22
import Derived.Test.YteohmbannpbokaaGreatDoorJ26
set_option linter.unusedVariables false
set_option linter.unusedSimpArgs false
namespace Go.Proofs.YteohmbannpbokaaGreatDoor.WordWalk
theorem two_guess {d m x1 x0 : Int} (hd0 : 0 < d) (hd1 : d < 18446744073709551616) (hm0 : 0 ≤ m)
   (hv1 : m * d + 18446744073709551616 * d ≤ 340282366920938463463374607431768211455) (hv2 : 340282366920938463463374607431768211456 ≤ m * d + 18446744073709551616 * d + d)
   (h10 : 0 ≤ x1) (h11 : x1 < d) (h00 : 0 ≤ x0) (h01 : x0 < 18446744073709551616) {T : Int} (hT : T = (m * x1 + x0) / 18446744073709551616 + x1) :
   0 ≤ T ∧ T < 18446744073709551616 ∧ 0 ≤ x1 * 18446744073709551616 + x0 - d * T ∧ x1 * 18446744073709551616 + x0 - d * T < 18446744073709551616 + d := by
 have hP : 0 ≤ m * x1 := Int.mul_nonneg hm0 h10
 have hT0 : 0 ≤ T := by omega
 have t1 : 18446744073709551616 * (T - x1) ≤ m * x1 + x0 := by omega
 have t2 : m * x1 + x0 + 1 ≤ 18446744073709551616 * (T - x1) + 18446744073709551616 := by omega
 have k1 := Int.mul_le_mul_of_nonneg_right hv1 h10
 have k2 := Int.mul_le_mul_of_nonneg_right hv2 h10
 have k3 := Int.mul_le_mul_of_nonneg_left t1 (Int.le_of_lt hd0)
 have k4 := Int.mul_le_mul_of_nonneg_left t2 (Int.le_of_lt hd0)
 have e1 : (m * d + 18446744073709551616 * d) * x1 = d * (m * x1) + 18446744073709551616 * (d * x1) := by
   rw [Int.add_mul, Int.mul_comm m d, Int.mul_assoc, Int.mul_assoc]
 have e2 : (m * d + 18446744073709551616 * d + d) * x1 = d * (m * x1) + 18446744073709551616 * (d * x1) + d * x1 := by
   rw [Int.add_mul, e1]
 have e3 : d * (18446744073709551616 * (T - x1)) = 18446744073709551616 * (d * T) - 18446744073709551616 * (d * x1) := by
   rw [Int.mul_left_comm, Int.mul_sub, Int.mul_sub]
 have e4 : d * (m * x1 + x0) = d * (m * x1) + d * x0 := Int.mul_add _ _ _
 have e5 : d * (m * x1 + x0 + 1) = d * (m * x1) + d * x0 + d := by rw [Int.mul_add, e4, Int.mul_one]
 have e6 : d * (18446744073709551616 * (T - x1) + 18446744073709551616) = 18446744073709551616 * (d * T) - 18446744073709551616 * (d * x1) + 18446744073709551616 * d := by
   rw [Int.mul_add, e3, Int.mul_comm d 18446744073709551616]
 rw [e1] at k1
 rw [e2] at k2
 rw [e3, e4] at k3
 rw [e5, e6] at k4
 have k5 := Int.mul_le_mul_of_nonneg_right (show 0 ≤ 18446744073709551616 - d by omega) h00
 have k6 := Int.mul_le_mul_of_nonneg_left (show x0 ≤ 18446744073709551615 by omega) (show 0 ≤ 18446744073709551616 - d by omega)
 have k7 := Int.mul_le_mul_of_nonneg_left (show x1 ≤ 18446744073709551615 by omega) (Int.le_of_lt hd0)
 rw [Int.zero_mul, Int.sub_mul] at k5
 rw [Int.sub_mul, Int.sub_mul] at k6
 have lo : 0 ≤ x1 * 18446744073709551616 + x0 - d * T := by
   clear e1 e2 e3 e4 e5 e6 k2 k4 k6 k7 hT t1 t2
   generalize d * T = a3 at *
   generalize d * x1 = a1 at *
   generalize d * x0 = a2 at *
   generalize d * (m * x1) = A at *
   omega
 have hi : x1 * 18446744073709551616 + x0 - d * T < 18446744073709551616 + d := by
   clear e1 e2 e3 e4 e5 e6 k1 k3 k5 hT t1 t2 lo
   generalize d * T = a3 at *
   generalize d * x1 = a1 at *
   generalize d * x0 = a2 at *
   generalize d * (m * x1) = A at *
   omega
 refine ⟨hT0, ?_, lo, hi⟩
 apply Classical.byContradiction
 intro hc
 have h := Int.mul_le_mul_of_nonneg_left (show 18446744073709551616 ≤ T by omega) (Int.le_of_lt hd0)
 omega
theorem two_rest {x1 x0 DQ R d : Int} (hR : R = x1 * 18446744073709551616 + x0 - DQ) (h0 : 0 ≤ R) (h1 : R < 18446744073709551616 + d) (hd : d < 18446744073709551616) :
   (R < 18446744073709551616 → (x1 - DQ / 18446744073709551616 - -((x0 - DQ % 18446744073709551616 - 0) / 18446744073709551616)) % 18446744073709551616 = 0 ∧ (x0 - DQ % 18446744073709551616 - 0) % 18446744073709551616 = R) ∧
   (18446744073709551616 ≤ R → (x1 - DQ / 18446744073709551616 - -((x0 - DQ % 18446744073709551616 - 0) / 18446744073709551616)) % 18446744073709551616 = 1 ∧ (x0 - DQ % 18446744073709551616 - 0) % 18446744073709551616 = R - 18446744073709551616) := by
 omega
theorem two_div {X d q r : Int} (hd : 0 < d) (h : d * q + r = X) (h0 : 0 ≤ r) (h1 : r < d) : X / d = q ∧ X % d = r := by
 subst h
 exact ⟨by rw [Int.add_comm, Int.add_mul_ediv_left _ _ (by omega), Int.ediv_eq_zero_of_lt h0 h1, Int.zero_add], by rw [Int.add_comm, Int.add_mul_emod_self_left, Int.emod_eq_of_lt h0 h1]⟩
end Go.Proofs.YteohmbannpbokaaGreatDoor.WordWalk
namespace Go.Proofs.YteohmbannpbokaaGreatDoor.WordWalk
open Go.RowKit Go.Proofs.YteohmbannpbokaaGreatDoorW.PrintWords Go.Proofs.YteohmbannpbokaaGreatDoorW.PrintLast Go.Proofs.YteohmbannpbokaaGreatDoorW.PrintMore Go.Proofs.YteohmbannpbokaaGreatDoor.SpecWalk Go.Proofs.YteohmbannpbokaaGreatDoor.BigWalk
theorem Mul_n (x y : Int) (hx : Word x) (hy : Word y) (w : World) :
   Calls Tryz.prog 107 #[.int .u64 x, .int .u64 y] w fun e w' => e = .returned (.tuple #[.int .u64 (x * y / 18446744073709551616), .int .u64 (x * y % 18446744073709551616)]) ∧ w' = w := by
 obtain ⟨a, rfl⟩ := Int.eq_ofNat_of_zero_le hx.lo
 obtain ⟨b, rfl⟩ := Int.eq_ofNat_of_zero_le hy.lo
 have h := Tryz.bits_Mul a b (by have := hx.hi; omega) (by have := hy.hi; omega) w
 have e3 : (a : Int) * (b : Int) = ((a * b : Nat) : Int) := (Int.natCast_mul a b).symm
 rw [e3]
 have e1 : ((a * b / 18446744073709551616 : Nat) : Int) = ((a * b : Nat) : Int) / 18446744073709551616 := by simp
 have e2 : ((a * b % 18446744073709551616 : Nat) : Int) = ((a * b : Nat) : Int) % 18446744073709551616 := by simp
 rw [e1, e2] at h
 exact h
structure Recip (y s : Nat) (m : Int) : Prop where
 mk :: (s0 : 0 < s) (s1 : s < 64) (len : Lib.bitLen y = 64 - s) (d0 : 9223372036854775808 ≤ (y : Int) * 2 ^ s) (d1 : (y : Int) * 2 ^ s < 18446744073709551616) (m0 : 0 ≤ m) (m1 : m < 18446744073709551616) (v1 : m * ((y : Int) * 2 ^ s) + 18446744073709551616 * ((y : Int) * 2 ^ s) ≤ 340282366920938463463374607431768211455) (v2 : 340282366920938463463374607431768211456 ≤ m * ((y : Int) * 2 ^ s) + 18446744073709551616 * ((y : Int) * 2 ^ s) + (y : Int) * 2 ^ s)
structure DivFacts (y s : Nat) (m x1 x0 X1 X0 d : Int) (P Q t1 t0 z c T dq1 dq0 r0 b r1 b2 : Int) (R : Int) : Prop where
 mk :: (X1eq : X1 = x1 * P % 18446744073709551616 + x0 / Q) (wX1 : Word X1) (wX0 : Word X0) (wd : Word d) (wT : Word T) (wt0 : Word t0) (wt1 : Word t1) (c01 : 0 ≤ c ∧ c ≤ 1) (wq0 : Word dq0) (wq1 : Word dq1) (b01 : 0 ≤ b ∧ b ≤ 1) (et1 : t1 = m * X1 / 18446744073709551616) (et0 : t0 = m * X1 % 18446744073709551616) (ec : c = (t0 + X0 + 0) / 18446744073709551616) (eT : T = (t1 + X1 + c) % 18446744073709551616) (eq1 : dq1 = d * T / 18446744073709551616) (eq0 : dq0 = d * T % 18446744073709551616) (er0 : r0 = (X0 - dq0 - 0) % 18446744073709551616) (eb : b = -((X0 - dq0 - 0) / 18446744073709551616)) (er1 : r1 = (X1 - dq1 - b) % 18446744073709551616) (R0 : 0 ≤ R) (R1 : R < 18446744073709551616 + d) (lo : R < 18446744073709551616 → r1 = 0 ∧ r0 = R) (hi : 18446744073709551616 ≤ R → r1 = 1 ∧ r0 = R - 18446744073709551616) (sum : d * T + R = X1 * 18446744073709551616 + X0) (big : X1 * 18446744073709551616 + X0 < d * 18446744073709551616)
theorem div_facts {y s t : Nat} {m x1 x0 : Int} (h : Recip y s m) (hst : s + t = 64) (h10 : 0 ≤ x1) (h11 : x1 < y) (h00 : 0 ≤ x0) (h01 : x0 < 18446744073709551616) :
   ∃ X1 X0 t1 t0 z c T dq1 dq0 r0 b r1 b2 R : Int, DivFacts y s m x1 x0 X1 X0 ((y : Int) * 2 ^ s) (2 ^ s) (2 ^ t) t1 t0 z c T dq1 dq0 r0 b r1 b2 R ∧ X0 = x0 * 2 ^ s % 18446744073709551616 ∧ X1 * 18446744073709551616 + X0 = (x1 * 18446744073709551616 + x0) * 2 ^ s ∧ z = (t0 + X0 + 0) % 18446744073709551616 ∧ b2 = -((X1 - dq1 - b) / 18446744073709551616) := by
 have hH := halfs_of hst
 have hsp := hH.split x0
 have htp := hH.top h00 h01
 have hd1 := h.d1
 have hd0 := h.d0
 have hp0 := hH.p0
 have hx1p : x1 * 2 ^ s ≤ (y : Int) * 2 ^ s - 2 ^ s := by
   have := Int.mul_le_mul_of_nonneg_right (show x1 ≤ (y : Int) - 1 by omega) (Int.le_of_lt hp0)
   rwa [Int.sub_mul, Int.one_mul] at this
 have hx1n : 0 ≤ x1 * 2 ^ s := Int.mul_nonneg h10 (Int.le_of_lt hp0)
 have hmod : x1 * 2 ^ s % 18446744073709551616 = x1 * 2 ^ s := Int.emod_eq_of_lt hx1n (by omega)
 obtain ⟨X1, hX1⟩ : ∃ X1, X1 = x1 * 2 ^ s + x0 / 2 ^ t := ⟨_, rfl⟩
 obtain ⟨X0, hX0⟩ : ∃ X0, X0 = x0 * 2 ^ s % 18446744073709551616 := ⟨_, rfl⟩
 have hX0a : 0 ≤ X0 ∧ X0 < 18446744073709551616 := by rw [hX0]; exact ⟨Int.emod_nonneg _ (by decide), Int.emod_lt_of_pos _ (by decide)⟩
 have hX1a : 0 ≤ X1 ∧ X1 < (y : Int) * 2 ^ s := by omega
 have hall : X1 * 18446744073709551616 + X0 = (x1 * 18446744073709551616 + x0) * 2 ^ s := by
   rw [hX1, hX0, Int.add_mul, Int.add_mul, Int.mul_right_comm x1]
   omega
 obtain ⟨d, hd⟩ : ∃ d : Int, d = (y : Int) * 2 ^ s := ⟨_, rfl⟩
 have hv1 := h.v1
 have hv2 := h.v2
 have hm0 := h.m0
 have hm1 := h.m1
 rw [← hd] at hd0 hd1 hX1a hv1 hv2 ⊢
 obtain ⟨T, hT⟩ : ∃ T, T = (m * X1 + X0) / 18446744073709551616 + X1 := ⟨_, rfl⟩
 obtain ⟨T0, T1, R0, R1⟩ := two_guess (by omega) hd1 hm0 hv1 hv2 hX1a.1 hX1a.2 hX0a.1 hX0a.2 hT
 have hmX : 0 ≤ m * X1 := Int.mul_nonneg hm0 hX1a.1
 have hmX2 : m * X1 ≤ 18446744073709551615 * 18446744073709551615 := Int.mul_le_mul (by omega) (by omega) hX1a.1 (by omega)
 have hdT : 0 ≤ d * T := Int.mul_nonneg (by omega) T0
 have hdT2 : d * T ≤ 18446744073709551615 * 18446744073709551615 := Int.mul_le_mul (by omega) (by omega) T0 (by omega)
 obtain ⟨R, hR⟩ : ∃ R, R = X1 * 18446744073709551616 + X0 - d * T := ⟨_, rfl⟩
 rw [← hR] at R0 R1
 obtain ⟨lo, hi⟩ := two_rest hR R0 R1 hd1
 refine ⟨X1, X0, m * X1 / 18446744073709551616, m * X1 % 18446744073709551616, (m * X1 % 18446744073709551616 + X0 + 0) % 18446744073709551616, (m * X1 % 18446744073709551616 + X0 + 0) / 18446744073709551616, T, d * T / 18446744073709551616, d * T % 18446744073709551616, (X0 - d * T % 18446744073709551616 - 0) % 18446744073709551616, -((X0 - d * T % 18446744073709551616 - 0) / 18446744073709551616), (X1 - d * T / 18446744073709551616 - -((X0 - d * T % 18446744073709551616 - 0) / 18446744073709551616)) % 18446744073709551616, _, R, ⟨?_, ⟨hX1a.1, by omega⟩, ⟨hX0a.1, hX0a.2⟩, ⟨by omega, by omega⟩, ⟨T0, T1⟩, ?_, ?_, ?_, ?_, ?_, ?_, rfl, rfl, rfl, ?_, rfl, rfl, rfl, rfl, rfl, R0, R1, lo, hi, ?_, ?_⟩, hX0, hall, rfl, rfl⟩
 · rw [hmod]; exact hX1
 · clear hv1 hv2 hT hR lo hi hsp hall hX1 hX0 hd; exact ⟨by omega, by omega⟩
 · clear hv1 hv2 hT hR lo hi hsp hall hX1 hX0 hd; exact ⟨by omega, by omega⟩
 · clear hv1 hv2 hT hR lo hi hsp hall hX1 hX0 hd; exact ⟨by omega, by omega⟩
 · clear hv1 hv2 hT hR lo hi hsp hall hX1 hX0 hd; exact ⟨by omega, by omega⟩
 · clear hv1 hv2 hT hR lo hi hsp hall hX1 hX0 hd; exact ⟨by omega, by omega⟩
 · clear hv1 hv2 hT hR lo hi hsp hall hX1 hX0 hd; exact ⟨by omega, by omega⟩
 · rw [Int.add_zero]
   clear hv1 hv2 hR lo hi hsp hall hX1 hX0 hd
   omega
 · omega
 · have := Int.mul_le_mul_of_nonneg_right (show X1 + 1 ≤ d by omega) (show (0 : Int) ≤ 18446744073709551616 by decide)
   omega
theorem wrap_neg {x : Int} (h0 : -18446744073709551616 ≤ x) (h1 : x < 0) : IntKind.u64.wrap x = x + 18446744073709551616 := by rw [u64_w]; omega
theorem quo_lt {d q r X : Int} (hd : 0 < d) (h : d * q + r = X) (h0 : 0 ≤ r) (hb : X < d * 18446744073709551616) : q < 18446744073709551616 := by
 apply Classical.byContradiction
 intro hc
 have hk := Int.mul_le_mul_of_nonneg_left (show 18446744073709551616 ≤ q by omega) (show 0 ≤ d by omega)
 omega
set_option maxHeartbeats 4000000 in
set_option maxRecDepth 100000 in
theorem divWW_n (y s t : Nat) (m x1 x0 : Int) (w : World) (h : Recip y s m) (hst : s + t = 64) (h10 : 0 ≤ x1) (h11 : x1 < y) (h00 : 0 ≤ x0) (h01 : x0 < 18446744073709551616) :
   Calls Tryz.prog 156 #[.int .u64 x1, .int .u64 x0, .int .u64 y, .int .u64 m] w fun e w' => e = .returned (.tuple #[.int .u64 ((x1 * 18446744073709551616 + x0) / y), .int .u64 ((x1 * 18446744073709551616 + x0) % y)]) ∧ w' = w := by
 obtain ⟨X1, X0, t1, t0, z, c, T, dq1, dq0, r0, b, r1, b2, R, F, fX0, fall, fz, fb2⟩ := div_facts h hst h10 h11 h00 h01
 have hy0 : y ≠ 0 := by rintro rfl; have := h.d0; omega
 have hy1 : y < 18446744073709551616 := by
   have h1 := h.d1
   have h2 := (halfs_of hst).p0
   have h3 := Int.mul_le_mul_of_nonneg_left (show 1 ≤ (2 : Int) ^ s by omega) (show 0 ≤ (y : Int) by omega)
   omega
 have HL0 := fun w => nlz_n y w hy1 hy0
 rw [h.len, show (64 - ((64 - s : Nat) : Int)) = (s : Int) by have := h.s1; omega] at HL0
 have HL := Aside0.mk HL0
 have hwm : Word m := ⟨h.m0, h.m1⟩
 have HM1 := fun w => Mul_n m X1 hwm F.wX1 w
 rw [← F.et1, ← F.et0] at HM1
 have HM1 := Aside0.mk HM1
 have HA1 := fun w => Add_n t0 X0 0 F.wt0.lo F.wX0.lo (by decide) (by decide) w
 rw [← fz, ← F.ec] at HA1
 have HA1 := Aside0.mk HA1
 have HA2 := fun w => Add_n t1 X1 c F.wt1.lo F.wX1.lo F.c01.1 F.c01.2 w
 rw [← F.eT] at HA2
 generalize (t1 + X1 + c) / 18446744073709551616 = zz at HA2
 have HA2 := Aside0.mk HA2
 have HM2 := fun w => Mul_n ((y : Int) * 2 ^ s) T F.wd F.wT w
 rw [← F.eq1, ← F.eq0] at HM2
 have HM2 := Aside0.mk HM2
 have HS1 := fun w => Sub_n X0 dq0 0 F.wX0 F.wq0 (by decide) (by decide) w
 rw [← F.er0, ← F.eb] at HS1
 have HS1 := Aside0.mk HS1
 have HS2 := fun w => Sub_n X1 dq1 b F.wX1 F.wq1 F.b01.1 F.b01.2 w
 rw [← F.er1, ← fb2] at HS2
 have HS2 := Aside0.mk HS2
 have hP0 := (halfs_of hst).p0
 have HF : Aside0 ((X1 * 18446744073709551616 + X0) / ((y : Int) * 2 ^ s) = (x1 * 18446744073709551616 + x0) / y ∧ (X1 * 18446744073709551616 + X0) % ((y : Int) * 2 ^ s) / 2 ^ s = (x1 * 18446744073709551616 + x0) % y) := ⟨by
   rw [fall]
   exact ⟨Int.mul_ediv_mul_of_pos_left _ _ hP0, by
     rw [Int.mul_comm _ ((2 : Int) ^ s), Int.mul_comm _ ((2 : Int) ^ s), Int.mul_emod_mul_of_pos _ _ hP0, Int.mul_ediv_cancel_left _ (Int.ne_of_gt hP0)]⟩⟩
 have hor : bits .or .u64 (IntKind.u64.wrap (x1 * 2 ^ s)) (x0 / 2 ^ t) = X1 := by
   have ht := (halfs_of hst).top h00 h01
   rw [u64_w, or_sum hst ht.1 ht.2]; exact F.X1eq.symm
 have hw0 : IntKind.u64.wrap (x0 * 2 ^ s) = X0 := by rw [u64_w, ← fX0]
 have hwd : IntKind.u64.wrap ((y : Int) * 2 ^ s) = (y : Int) * 2 ^ s := by rw [u64_w]; exact Int.emod_eq_of_lt F.wd.lo F.wd.hi
 have hor := Aside0.mk hor
 have hw0 := Aside0.mk hw0
 have hwd := Aside0.mk (show ∀ Y : Int, Y = (y : Int) → IntKind.u64.wrap (Y * 2 ^ s) = (y : Int) * 2 ^ s from fun Y hY => by rw [hY]; exact hwd)
 have hsb : (s : Int) ≤ 63 := by have := h.s1; omega
 have htb : (t : Int) ≤ 63 := by have := h.s0; omega
 have hs0 : ((s : Int) == 0) = false := beq_eq_false_iff_ne.mpr (by have := h.s0; omega)
 have hts : (64 : Int) - (s : Int) = (t : Int) := by omega
 have hwts := Aside0.mk (show IntKind.u64.wrap (t : Int) = (t : Int) from wrap_id (by omega) (by omega))
 have hd0 := h.d0
 have hd1 := F.wd.hi
 have R0 := F.R0
 have R1 := F.R1
 have T0 := F.wT.lo
 have T1 := F.wT.hi
 have sum := F.sum
 have big := F.big
 have lo := Aside0.mk F.lo
 have hi := Aside0.mk F.hi
 clear F fX0 fall fz fb2 HL0 h h10 h11 h00 h01 hwm hy0 hy1 hst
 generalize (y : Int) * 2 ^ s = d at *
 generalize X1 * 18446744073709551616 + X0 = X at *
 generalize hP : (2 : Int) ^ s = P at *
 generalize hQ : (2 : Int) ^ t = Q at *
 by_cases c1 : R < 18446744073709551616
 · obtain ⟨rfl, rfl⟩ := lo.out c1
   by_cases c2 : d ≤ r0
   · have hsum : d * (T + 1) + (r0 - d) = X := by (try rw [Int.mul_add]); (try rw [Int.mul_add]); omega
     have hr : 0 ≤ r0 - d ∧ r0 - d < d := by omega
     have hq := quo_lt (by omega) hsum hr.1 big
     have HQ := Aside0.mk (two_div (by omega) hsum hr.1 hr.2)
     obtain ⟨f2, f3⟩ : IntKind.u64.wrap (T + 1) = T + 1 ∧ IntKind.u64.wrap (r0 - d) = r0 - d := ⟨wrap_id (by omega) (by omega), wrap_id (by omega) (by omega)⟩
     have e1 := hor.out
     have e2 := hw0.out
     have e3 := hwd.out _ rfl
     have e4 := hwts.out
     clear hsum hr hq sum big hd0 hd1 R0 R1 T0 T1 lo hi hor hw0 hwd hwts
     go_enter Tryz.func156, Tryz.ntmps156
     go_wp2_with (first | (go_at_call 137; (with_reducible refine (HL.out _).mono ?_); rintro e w1 ⟨rfl, rfl⟩) | (go_at_call 107; (with_reducible refine (HM1.out _).mono ?_); rintro e w1 ⟨rfl, rfl⟩) | (go_at_call 107; (with_reducible refine (HM2.out _).mono ?_); rintro e w1 ⟨rfl, rfl⟩) | (go_at_call 132; (with_reducible refine (HA1.out _).mono ?_); rintro e w1 ⟨rfl, rfl⟩) | (go_at_call 132; (with_reducible refine (HA2.out _).mono ?_); rintro e w1 ⟨rfl, rfl⟩) | (go_at_call 134; (with_reducible refine (HS1.out _).mono ?_); rintro e w1 ⟨rfl, rfl⟩) | (go_at_call 134; (with_reducible refine (HS2.out _).mono ?_); rintro e w1 ⟨rfl, rfl⟩))
     go_ret2
     exact ⟨by rw [← HF.out.1, ← HF.out.2, HQ.out.1, HQ.out.2]; rfl, rfl⟩
   · have hsum : d * (T) + (r0) = X := by (try rw [Int.mul_add]); (try rw [Int.mul_add]); omega
     have hr : 0 ≤ r0 ∧ r0 < d := by omega
     have hq := quo_lt (by omega) hsum hr.1 big
     have HQ := Aside0.mk (two_div (by omega) hsum hr.1 hr.2)
     have e1 := hor.out
     have e2 := hw0.out
     have e3 := hwd.out _ rfl
     have e4 := hwts.out
     clear hsum hr hq sum big hd0 hd1 R0 R1 T0 T1 lo hi hor hw0 hwd hwts
     go_enter Tryz.func156, Tryz.ntmps156
     go_wp2_with (first | (go_at_call 137; (with_reducible refine (HL.out _).mono ?_); rintro e w1 ⟨rfl, rfl⟩) | (go_at_call 107; (with_reducible refine (HM1.out _).mono ?_); rintro e w1 ⟨rfl, rfl⟩) | (go_at_call 107; (with_reducible refine (HM2.out _).mono ?_); rintro e w1 ⟨rfl, rfl⟩) | (go_at_call 132; (with_reducible refine (HA1.out _).mono ?_); rintro e w1 ⟨rfl, rfl⟩) | (go_at_call 132; (with_reducible refine (HA2.out _).mono ?_); rintro e w1 ⟨rfl, rfl⟩) | (go_at_call 134; (with_reducible refine (HS1.out _).mono ?_); rintro e w1 ⟨rfl, rfl⟩) | (go_at_call 134; (with_reducible refine (HS2.out _).mono ?_); rintro e w1 ⟨rfl, rfl⟩))
     go_ret2
     exact ⟨by rw [← HF.out.1, ← HF.out.2, HQ.out.1, HQ.out.2]; rfl, rfl⟩
 · obtain ⟨rfl, rfl⟩ := hi.out (by omega)
   have HW := Aside0.mk (show IntKind.u64.wrap (R - 18446744073709551616 - d) = R - d by rw [wrap_neg (by omega) (by omega)]; omega)
   by_cases c2 : d ≤ R - d
   · have hsum : d * (T + 1 + 1) + (R - d - d) = X := by (try rw [Int.mul_add]); (try rw [Int.mul_add]); omega
     have hr : 0 ≤ R - d - d ∧ R - d - d < d := by omega
     have hq := quo_lt (by omega) hsum hr.1 big
     have HQ := Aside0.mk (two_div (by omega) hsum hr.1 hr.2)
     obtain ⟨f2, f3, f4⟩ : IntKind.u64.wrap (T + 1) = T + 1 ∧ IntKind.u64.wrap (R - d - d) = R - d - d ∧ IntKind.u64.wrap (T + 1 + 1) = T + 1 + 1 := ⟨wrap_id (by omega) (by omega), wrap_id (by omega) (by omega), wrap_id (by omega) (by omega)⟩
     have f5 := HW.out
     have e1 := hor.out
     have e2 := hw0.out
     have e3 := hwd.out _ rfl
     have e4 := hwts.out
     clear hsum hr hq sum big hd0 hd1 R0 R1 T0 T1 lo hi hor hw0 hwd hwts
     go_enter Tryz.func156, Tryz.ntmps156
     go_wp2_with (first | (go_at_call 137; (with_reducible refine (HL.out _).mono ?_); rintro e w1 ⟨rfl, rfl⟩) | (go_at_call 107; (with_reducible refine (HM1.out _).mono ?_); rintro e w1 ⟨rfl, rfl⟩) | (go_at_call 107; (with_reducible refine (HM2.out _).mono ?_); rintro e w1 ⟨rfl, rfl⟩) | (go_at_call 132; (with_reducible refine (HA1.out _).mono ?_); rintro e w1 ⟨rfl, rfl⟩) | (go_at_call 132; (with_reducible refine (HA2.out _).mono ?_); rintro e w1 ⟨rfl, rfl⟩) | (go_at_call 134; (with_reducible refine (HS1.out _).mono ?_); rintro e w1 ⟨rfl, rfl⟩) | (go_at_call 134; (with_reducible refine (HS2.out _).mono ?_); rintro e w1 ⟨rfl, rfl⟩))
     go_ret2
     exact ⟨by rw [← HF.out.1, ← HF.out.2, HQ.out.1, HQ.out.2]; rfl, rfl⟩
   · have hsum : d * (T + 1) + (R - d) = X := by (try rw [Int.mul_add]); (try rw [Int.mul_add]); omega
     have hr : 0 ≤ R - d ∧ R - d < d := by omega
     have hq := quo_lt (by omega) hsum hr.1 big
     have HQ := Aside0.mk (two_div (by omega) hsum hr.1 hr.2)
     obtain f2 : IntKind.u64.wrap (T + 1) = T + 1 := wrap_id (by omega) (by omega)
     have f5 := HW.out
     have e1 := hor.out
     have e2 := hw0.out
     have e3 := hwd.out _ rfl
     have e4 := hwts.out
     clear hsum hr hq sum big hd0 hd1 R0 R1 T0 T1 lo hi hor hw0 hwd hwts
     go_enter Tryz.func156, Tryz.ntmps156
     go_wp2_with (first | (go_at_call 137; (with_reducible refine (HL.out _).mono ?_); rintro e w1 ⟨rfl, rfl⟩) | (go_at_call 107; (with_reducible refine (HM1.out _).mono ?_); rintro e w1 ⟨rfl, rfl⟩) | (go_at_call 107; (with_reducible refine (HM2.out _).mono ?_); rintro e w1 ⟨rfl, rfl⟩) | (go_at_call 132; (with_reducible refine (HA1.out _).mono ?_); rintro e w1 ⟨rfl, rfl⟩) | (go_at_call 132; (with_reducible refine (HA2.out _).mono ?_); rintro e w1 ⟨rfl, rfl⟩) | (go_at_call 134; (with_reducible refine (HS1.out _).mono ?_); rintro e w1 ⟨rfl, rfl⟩) | (go_at_call 134; (with_reducible refine (HS2.out _).mono ?_); rintro e w1 ⟨rfl, rfl⟩))
     go_ret2
     exact ⟨by rw [← HF.out.1, ← HF.out.2, HQ.out.1, HQ.out.2]; rfl, rfl⟩
theorem unop_facts {y s v : Nat} (hv : y * 2 ^ s = v * 4294967296) (h0 : 2147483648 ≤ v) (h1 : v < 4294967296) : IntKind.u64.wrap ((y : Int) * 2 ^ s) = (v : Int) * 4294967296 ∧ (y : Int) * 2 ^ s = (v : Int) * 4294967296 := by
 have e : (y : Int) * 2 ^ s = ((y * 2 ^ s : Nat) : Int) := by simp
 rw [e, hv]
 constructor
 · rw [Int.natCast_mul]; exact wrap_id (by omega) (by omega)
 · simp
theorem recip_of {y s v : Nat} {Q t : Int} (hv : y * 2 ^ s = v * 4294967296) (h0 : 2147483648 ≤ v) (h1 : v < 4294967296) (hs0 : 0 < s) (hs1 : s < 64) (hlen : Lib.bitLen y = 64 - s) (hQ : Word Q) (t0 : 0 ≤ t) (t1 : t < v) (hQt : (Q + 18446744073709551616) * v = 79228162514264337593543950335 - t) : Recip y s Q := by
 have e : (y : Int) * 2 ^ s = (v : Int) * 4294967296 := (unop_facts hv h0 h1).2
 have e2 : Q * ((v : Int) * 4294967296) + 18446744073709551616 * ((v : Int) * 4294967296) = ((Q + 18446744073709551616) * v) * 4294967296 := by
   rw [← Int.add_mul, Int.mul_assoc]
 rw [Int.add_mul] at hQt
 refine ⟨hs0, hs1, hlen, by rw [e]; omega, by rw [e]; omega, hQ.lo, hQ.hi, ?_, ?_⟩
 · rw [e, e2, Int.add_mul, hQt]; omega
 · rw [e, e2, Int.add_mul, hQt]; omega
theorem xor_all {v : Nat} (h0 : 2147483648 ≤ v) (h1 : v < 4294967296) : bits .xor .u64 IntKind.u64.max ((v : Int) * 4294967296) = 18446744073709551615 - (v : Int) * 4294967296 := by
 have e0 : IntKind.u64.max = ((18446744073709551615 : Nat) : Int) := by decide
 have e1 : (v : Int) * 4294967296 = ((v * 4294967296 : Nat) : Int) := by simp
 have ha : BitVec.ofInt 64 IntKind.u64.max = BitVec.allOnes 64 := by decide
 have hb : (BitVec.ofInt 64 ((v * 4294967296 : Nat) : Int)).toNat = v * 4294967296 := by
   rw [BitVec.ofInt_natCast, BitVec.toNat_ofNat]; exact Nat.mod_eq_of_lt (by omega)
 rw [e1]
 show IntKind.u64.wrap ((BitVec.ofInt 64 IntKind.u64.max ^^^ BitVec.ofInt 64 ((v * 4294967296 : Nat) : Int)).toNat : Int) = _
 rw [ha, BitVec.allOnes_xor, BitVec.toNat_not, hb]
 have e2 : (((2 ^ 64 - 1 - v * 4294967296 : Nat)) : Int) = 18446744073709551615 - ((v * 4294967296 : Nat) : Int) := by omega
 rw [e2]
 exact wrap_id (by omega) (by omega)
set_option maxHeartbeats 4000000 in
set_option maxRecDepth 100000 in
theorem recip_n (y s v : Nat) (w : World) (hv : y * 2 ^ s = v * 4294967296) (h0 : 2147483648 ≤ v) (h1 : v < 4294967296) (hs0 : 0 < s) (hs1 : s < 64) (hlen : Lib.bitLen y = 64 - s) :
   Calls Tryz.prog 155 #[.int .u64 y] w fun e w' => ∃ m : Int, e = .returned (.int .u64 m) ∧ w' = w ∧ Aside0 (Recip y s m) := by
 obtain ⟨f1, f2⟩ := unop_facts hv h0 h1
 have hy0 : y ≠ 0 := by rintro rfl; rw [Nat.zero_mul] at hv; omega
 have hy1 : y < 18446744073709551616 := by
   have := Nat.mul_le_mul_left y (show 1 ≤ 2 ^ s from Nat.pow_pos (by decide))
   omega
 have HL0 := fun w => nlz_n y w hy1 hy0
 rw [hlen, show (64 - ((64 - s : Nat) : Int)) = (s : Int) by omega] at HL0
 have HL := Aside0.mk HL0
 have HR := Aside0.mk (fun Q t (hQ : Word Q) t0 t1 h => recip_of (Q := Q) (t := t) hv h0 h1 hs0 hs1 hlen hQ t0 t1 h)
 have HB := Aside0.mk (fun w => bd64_norm v w h0 h1)
 have hsb : (s : Int) ≤ 63 := by omega
 have hx := xor_all h0 h1
 clear HL0 hv hs0 hs1 hlen hy0 hy1 f2
 generalize hP : (2 : Int) ^ s = P at *
 go_enter Tryz.func155, Tryz.ntmps155
 go_wp2_with (first | (go_at_call 137; (with_reducible refine (HL.out _).mono ?_); rintro e w1 ⟨rfl, rfl⟩) | (go_at_call 154; (with_reducible refine (bdiv_norm v _ HB.out).mono ?_); rintro e w1 ⟨Q, R, rfl, rfl, hq, t, t0, t1, ht⟩; have HQ := Aside0.mk (HR.out Q t hq t0 t1 ht); clear hq t0 t1 ht))
 go_ret
 exact ⟨Q, rfl, rfl, HQ⟩
structure DivRow (xs : List Int) (y : Int) (k : Nat) (out : List Int) (r : Int) : Prop where
 mk :: (le : k ≤ xs.length) (len : out.length = xs.length - k) (dig : W64.Dig out) (r0 : 0 ≤ r) (r1 : r < y) (val : W64.val (xs.drop k) = y * W64.val out + r)
theorem DivRow.start {xs : List Int} {y : Int} (hy : 0 < y) : DivRow xs y xs.length [] 0 :=
 ⟨Nat.le_refl _, by simp, W64.Dig.nil, Int.le_refl _, hy, by simp [W64.val]⟩
theorem DivRow.step {xs : List Int} {y : Int} {k : Nat} {out : List Int} {r : Int} (h : DivRow xs y (k + 1) out r) (hd : W64.Dig xs) :
   DivRow xs y k ((r * 18446744073709551616 + rd xs (k : Int)) / y :: out) ((r * 18446744073709551616 + rd xs (k : Int)) % y) := by
 obtain ⟨h1, h2, h3, h4, h5, h6⟩ := h
 have hk : k < xs.length := by omega
 have hx := W64.dig_rd hd (k : Int)
 have hy : 0 < y := by omega
 have e : W64.val (xs.drop k) = rd xs (k : Int) + 18446744073709551616 * W64.val (xs.drop (k + 1)) := by
   rw [List.drop_eq_getElem_cons hk, W64.rd_lt hk]; rfl
 have hr := Int.emod_add_mul_ediv (r * 18446744073709551616 + rd xs (k : Int)) y
 have hq0 : 0 ≤ (r * 18446744073709551616 + rd xs (k : Int)) / y := Int.ediv_nonneg (by omega) (by omega)
 have hq1 : (r * 18446744073709551616 + rd xs (k : Int)) / y < 18446744073709551616 := by
   refine Int.ediv_lt_of_lt_mul hy ?_
   have := Int.mul_le_mul_of_nonneg_right (show r + 1 ≤ y by omega) (show (0 : Int) ≤ 18446744073709551616 by decide)
   rw [Int.mul_comm 18446744073709551616 y]
   omega
 refine ⟨by omega, by simp [h2]; omega, W64.Dig.cons ⟨hq0, hq1⟩ h3, Int.emod_nonneg _ (by omega), Int.emod_lt_of_pos _ hy, ?_⟩
 rw [e, h6]
 show _ = y * ((r * 18446744073709551616 + rd xs (k : Int)) / y + 18446744073709551616 * W64.val out) + _
 rw [Int.mul_add 18446744073709551616, Int.mul_add y, Int.mul_left_comm y 18446744073709551616]
 generalize y * W64.val out = V at *
 generalize y * ((r * 18446744073709551616 + rd xs (k : Int)) / y) = Q at *
 omega
theorem DivRow.done {xs : List Int} {y : Int} {out : List Int} {r : Int} (h : DivRow xs y 0 out r) (hd : W64.Dig xs) : out.length = xs.length ∧ W64.Dig out ∧ W64.val out = W64.val xs / y ∧ r = W64.val xs % y := by
 obtain ⟨h1, h2, h3, h4, h5, h6⟩ := h
 rw [List.drop_zero] at h6
 have := two_div (d := y) (by omega) h6.symm h4 h5
 exact ⟨by omega, h3, this.1.symm, this.2.symm⟩
theorem digs_word2 {y : Nat} (h : (W64.digs y).length = 1) : y ≠ 0 ∧ y < 18446744073709551616 ∧ W64.digs y = [(y : Int)] := by
 have h0 : y ≠ 0 := by rintro rfl; rw [W64.digs_zero] at h; exact absurd h (by decide)
 have h1 := W64.lt_of_len y
 rw [h, Nat.pow_one] at h1
 exact ⟨h0, h1, W64.digs_one h0 h1⟩
theorem div_put {xs out rest : List Int} {k : Nat} (hk : k < xs.length) (v : Int) : ((xs.take (k + 1) ++ out) ++ rest).set k v = (xs.take k ++ (v :: out)) ++ rest := by
 rw [List.append_assoc, List.set_append_left _ _ (by simp; omega), W64.take_succ_rd hk, List.set_append_right _ _ (by simp; omega)]
 simp [Nat.min_eq_left (Nat.le_of_lt hk)]
theorem div_get {xs out rest : List Int} {k : Nat} (hk : k < xs.length) : rd ((xs.take (k + 1) ++ out) ++ rest) (k : Int) = rd xs (k : Int) := by
 rw [List.append_assoc, W64.rd_lt (by simp; omega), List.getElem_append_left (by simp; omega), W64.rd_lt hk]
 simp
set_option maxHeartbeats 4000000 in
set_option maxRecDepth 100000 in
theorem divWVW_n (g c cx y s v : Nat) (xs rest : List Int) (w : World) (hz : Buf w g (xs ++ rest)) (hd : W64.Dig xs) (hl : 2 ≤ xs.length) (hlm : xs.length ≤ 1000) (hv : y * 2 ^ s = v * 4294967296) (h0 : 2147483648 ≤ v) (h1 : v < 4294967296) (hs0 : 0 < s) (hs1 : s < 64) (hlen : Lib.bitLen y = 64 - s) :
   Calls Tryz.prog 136 #[.slice (some ⟨g, 0, none⟩) xs.length c, .int .u64 0, .slice (some ⟨g, 0, none⟩) xs.length cx, .int .u64 y] w fun e w' => ∃ out r, e = .returned (.int .u64 r) ∧ out.length = xs.length ∧ W64.Dig out ∧ W64.val out = W64.val xs / y ∧ r = W64.val xs % y ∧ Buf w' g (out ++ rest) ∧ KeptB w w' g := by
 have hy0 : 0 < (y : Int) := by
   have : y ≠ 0 := by rintro rfl; rw [Nat.zero_mul] at hv; omega
   omega
 have HR := Aside0.mk (fun w => recip_n y s v w hv h0 h1 hs0 hs1 hlen)
 have HW := Aside0.mk (fun (m x1 x0 : Int) (w : World) (h : Recip y s m) h10 h11 h00 h01 => divWW_n y s (64 - s) m x1 x0 w h (by omega) h10 h11 h00 h01)
 have HS := Aside0.mk (DivRow.start (xs := xs) hy0)
 have HZ := Aside0.mk (show Buf w g ((xs.take xs.length ++ []) ++ rest) by rw [List.take_length, List.append_nil]; exact hz)
 have HD := Aside0.mk hd
 have i1 : ((xs.length : Int) == 1) = false := beq_eq_false_iff_ne.mpr (by omega)
 have i2 : (xs.length : Int) ≤ 1000 := by omega
 have i3 : 2 ≤ (xs.length : Int) := by omega
 clear hz hd hl hlm hv h0 h1 hs0 hs1 hlen hy0
 generalize hm : xs.length = m at *
 have HM := Aside0.mk hm
 clear hm
 go_enter Tryz.func136, Tryz.ntmps136
 go_wp2_with (first | (go_at_call 155; (with_reducible refine (HR.out _).mono ?_); rintro e w1 ⟨rc, rfl, hw1, hrc⟩; subst w1))
 go_loopg [8, 12] m (fun gg v8 v12 w' => ∃ (out : List Int) (r i : Int), v8 = .int .u64 r ∧ v12 = .int .i64 i ∧ (-1 ≤ i ∧ i < m) ∧ Aside0 (i + 1 = (gg : Int)) ∧ Aside0 (DivRow xs y (i + 1).toNat out r) ∧ Aside0 (Buf w' g ((xs.take (i + 1).toNat ++ out) ++ rest)) ∧ Aside0 (KeptB w w' g))
 case atStart => exact ⟨[], 0, (m : Int) - 1, rfl, rfl, (by omega), ⟨by omega⟩, ⟨by rw [show ((m : Int) - 1 + 1).toNat = m by omega]; exact HS.out⟩, ⟨by rw [show ((m : Int) - 1 + 1).toNat = m by omega]; exact HZ.out⟩, ⟨KeptB.refl _ _⟩⟩
 case round =>
   clear HS HZ
   obtain ⟨out, r, i, rfl, rfl, ⟨i0, i1⟩, HG, HI, HB, HK⟩ := hrel
   by_cases hi : 0 ≤ i
   · have hk : i.toNat < xs.length := by have := HM.out; omega
     have hin : ((i.toNat : Nat) : Int) = i := by omega
     have hII := HI.out
     have hBB := HB.out
     rw [show (i + 1).toNat = i.toNat + 1 by omega] at hII hBB
     have hx := W64.dig_rd HD.out i
     have hst := hII.step HD.out
     rw [hin] at hst
     have hcx := hBB.cell (j := i.toNat) (by simp; omega)
     rw [div_get hk, hin] at hcx
     have hput := hBB.put i.toNat ((r * 18446744073709551616 + rd xs i) / y)
     rw [div_put hk] at hput
     have hfz := hBB.frozen i.toNat
     have HWW := Aside0.mk (fun w => HW.out rc r (rd xs i) w hrc.out hII.r0 hII.r1 hx.1 hx.2)
     have HST := Aside0.mk hst
     have HP := Aside0.mk hput
     have h0i : 0 ≤ i ∧ i < (m : Int) := ⟨hi, i1⟩
     clear HI HB hII hBB hst hput hx
     generalize (r * 18446744073709551616 + rd xs i) / y = q0 at *
     generalize (r * 18446744073709551616 + rd xs i) % y = q1 at *
     generalize rd xs i = x at *
     go_wp2_with (go_at_call 156; (with_reducible refine (HWW.out _).mono ?_); rintro e w1 ⟨rfl, hw1⟩; subst w1)
     go_roundg (gk - 1)
     case measure => have := HG.out; omega
     case rel => exact ⟨_, q1, i - 1, rfl, rfl, (by omega), ⟨by have := HG.out; omega⟩, ⟨by rw [show (i - 1 + 1).toNat = i.toNat by omega]; exact HST.out⟩, ⟨by rw [show (i - 1 + 1).toNat = i.toNat by omega]; exact HP.out⟩, ⟨HK.out.set _⟩⟩
   · obtain rfl : i = -1 := by omega
     have hII := HI.out
     have hBB := HB.out
     rw [show ((-1 : Int) + 1).toNat = 0 from rfl] at hII hBB
     rw [List.take_zero, List.nil_append] at hBB
     have HE := Aside0.mk (hII.done HD.out)
     have HBB := Aside0.mk hBB
     clear HI HB hII hBB
     go_wp2
     go_ret
     exact ⟨out, r, rfl, HE.out.1.trans HM.out, HE.out.2.1, HE.out.2.2.1, HE.out.2.2.2, HBB.out, HK.out⟩
theorem small_norm {y : Nat} (h0 : 0 < y) (h1 : y < 64) : ∃ s v : Nat, y * 2 ^ s = v * 4294967296 ∧ 2147483648 ≤ v ∧ v < 4294967296 ∧ 0 < s ∧ s < 64 ∧ Lib.bitLen y = 64 - s := by
 have h : ∀ y : Fin 64, 0 < y.val → y.val * 2 ^ (64 - Lib.bitLen y.val) = y.val * 2 ^ (32 - Lib.bitLen y.val) * 4294967296 ∧ 2147483648 ≤ y.val * 2 ^ (32 - Lib.bitLen y.val) ∧ y.val * 2 ^ (32 - Lib.bitLen y.val) < 4294967296 ∧ 0 < 64 - Lib.bitLen y.val ∧ 64 - Lib.bitLen y.val < 64 ∧ Lib.bitLen y.val = 64 - (64 - Lib.bitLen y.val) := by decide +kernel
 exact ⟨_, _, h ⟨y, h1⟩ h0⟩
theorem word_nat {k : Nat} (h : k < 18446744073709551616) : Word (k : Int) := ⟨Int.natCast_nonneg _, Int.ofNat_lt.2 h⟩
set_option maxHeartbeats 2000000 in
theorem divWVW_one (g c cx x y : Nat) (rest : List Int) (w : World) (hz : Buf w g ((x : Int) :: rest)) (hx : x < 18446744073709551616) (hy0 : 0 < y) (hy : y < 18446744073709551616) :
   Calls Tryz.prog 136 #[.slice (some ⟨g, 0, none⟩) 1 c, .int .u64 0, .slice (some ⟨g, 0, none⟩) 1 cx, .int .u64 y] w fun e w' => ∃ r : Nat, e = .returned (.int .u64 (r : Int)) ∧ r < y ∧ Buf w' g (((x / y : Nat) : Int) :: rest) ∧ KeptB w w' g := by
 have HB := Aside0.mk (fun w => bdiv_of 0 x y ((x / y : Nat) : Int) ((x % y : Nat) : Int) World.drew w (fun w => bd64_zero x y w hx hy0 hy) ⟨by omega, by omega⟩ ⟨by omega, by omega⟩ ⟨by omega, by omega⟩ (word_nat (Nat.lt_of_le_of_lt (Nat.div_le_self x y) hx)) (word_nat (Nat.lt_trans (Nat.mod_lt x hy0) hy)))
 have hc := hz.cell (j := 0) (by simp)
 rw [show rd ((x : Int) :: rest) ((0 : Nat) : Int) = (x : Int) from rfl] at hc
 have hfz := hz.frozen 0
 have hput := hz.drew.put 0 (((x / y : Nat) : Int))
 rw [List.set_cons_zero] at hput
 have HP := Aside0.mk hput
 have HR := Aside0.mk (Nat.mod_lt x hy0)
 clear hz hput hx hy0 hy
 generalize ((x / y : Nat) : Int) = q at *
 generalize x % y = r at *
 generalize (x : Int) = X at *
 generalize (y : Int) = Y at *
 go_enter Tryz.func136, Tryz.ntmps136
 go_wp2_with (go_at_call 154; refine (HB.out _).mono ?_; rintro e w1 ⟨rfl, hw1⟩; subst w1)
 go_ret
 exact ⟨r, rfl, HR.out, HP.out, (KeptB.refl _ _).drew.set _⟩
set_option maxHeartbeats 4000000 in
set_option maxRecDepth 100000 in
theorem divW_nc (g c n y : Nat) (w : World) (h : Nc w g c n) (hy0 : 0 < y) (hy : y < 64) :
   Calls Tryz.prog 122 #[.slice (some ⟨g, 0, none⟩) (W64.digs n).length c, .slice (some ⟨g, 0, none⟩) (W64.digs n).length c, .int .u64 y] w fun e w' => ∃ r : Nat, e = .returned (.tuple #[.slice (some ⟨g, 0, none⟩) (W64.digs (n / y)).length c, .int .u64 (r : Int)]) ∧ r < 64 ∧ Nc w' g c (n / y) ∧ KeptB w w' g := by
 have hmax := h.max
 have hle := h.le
 have hc0 : 0 < (c : Int) := by have := h.pos; omega
 have hcm : (c : Int) ≤ 1000 := by omega
 have hlc : ((W64.digs n).length : Int) ≤ (c : Int) := by omega
 have y0 : ((y : Int) == 0) = false := beq_eq_false_iff_ne.mpr (by omega)
 by_cases hy1 : y = 1
 · subst hy1
   have HS := Aside0.mk (set_same g c n w h)
   rw [Nat.div_one]
   clear h hmax hle y0
   generalize (W64.digs n).length = L at *
   go_enter Tryz.func122, Tryz.ntmps122
   go_wp2_with (go_at_call 67; (with_reducible refine HS.out.mono ?_); rintro e w1 ⟨rfl, h⟩; have HH := Aside0.mk h; clear h)
   go_ret2
   exact ⟨0, rfl, by decide, HH.out⟩
 · have y1 : ((y : Int) == 1) = false := beq_eq_false_iff_ne.mpr (by omega)
   by_cases hn : n = 0
   · subst hn
     have hz := h.zero
     have HZ := Aside0.mk hz
     rw [Nat.zero_div, W64.digs_zero, List.length_nil]
     clear h hz
     go_enter Tryz.func122, Tryz.ntmps122
     go_wp2
     go_ret2
     exact ⟨0, rfl, by decide, HZ.out, KeptB.refl _ _⟩
   · have hpos := W64.len_pos hn
     have i2 : (((W64.digs n).length : Int) == 0) = false := beq_eq_false_iff_ne.mpr (by omega)
     have hM := Aside0.mk (make_in g (W64.digs n).length (W64.digs n).length c w h.le h.le (by omega))
     obtain ⟨cs, hb, hcl, htk⟩ := h.out
     have hsplit : cs = W64.digs n ++ cs.drop (W64.digs n).length := by
       conv => lhs; rw [← List.take_append_drop (W64.digs n).length cs, htk]
     have hcl2 : (cs.drop (W64.digs n).length).length = c - (W64.digs n).length := by simp [hcl]
     have HN := Aside0.mk (fun (w1 : World) (out : List Int) (ho : out.length = (W64.digs n).length) (hd : W64.Dig out) (hv : W64.val out = ((n / y : Nat) : Int)) (hb1 : Buf w1 g (out ++ cs.drop (W64.digs n).length)) => norm_nc g (n / y) c _ out (W64.digs n).length w1 hb1 (by simp [ho, hcl]; omega) ho h.pos h.max hd hv)
     have HV : Aside0 (Calls Tryz.prog 136 #[.slice (some ⟨g, 0, none⟩) (W64.digs n).length c, .int .u64 0, .slice (some ⟨g, 0, none⟩) (W64.digs n).length c, .int .u64 y] w fun e w' => ∃ (r : Nat) (out : List Int), e = .returned (.int .u64 (r : Int)) ∧ r < 64 ∧ out.length = (W64.digs n).length ∧ W64.Dig out ∧ W64.val out = ((n / y : Nat) : Int) ∧ Buf w' g (out ++ cs.drop (W64.digs n).length) ∧ KeptB w w' g) := by
       by_cases h1 : (W64.digs n).length = 1
       · obtain ⟨_, hlt, hd⟩ := digs_word2 h1
         rw [hsplit, hd] at hb
         rw [hd]
         refine ⟨(divWVW_one g c c n y _ w hb hlt (by omega) (by omega)).mono ?_⟩
         rintro e w' ⟨r, rfl, hr, hb2, hk⟩
         have hle2 := Nat.div_le_self n y
         exact ⟨r, [((n / y : Nat) : Int)], rfl, by omega, rfl, Dig_one (word_nat (Nat.lt_of_le_of_lt hle2 hlt)).lo (word_nat (Nat.lt_of_le_of_lt hle2 hlt)).hi, by simp [W64.val], hb2, hk⟩
       · obtain ⟨s, v, f1, f2, f3, f4, f5, f6⟩ := small_norm hy0 hy
         rw [hsplit] at hb
         refine ⟨(divWVW_n g c c y s v (W64.digs n) _ w hb (W64.dig_digs n) (by omega) (by omega) f1 f2 f3 f4 f5 f6).mono ?_⟩
         rintro e w' ⟨out, r, rfl, ho, hd, hv, hr, hb2, hk⟩
         rw [W64.val_digs] at hv hr
         have e2 : (n : Int) % y = ((n % y : Nat) : Int) := by simp
         rw [e2] at hr
         have hlt := Nat.mod_lt n hy0
         exact ⟨n % y, out, by rw [hr], by omega, ho, hd, by rw [hv]; simp, hb2, hk⟩
     clear h hb hcl htk hsplit hcl2 hpos hmax hle hn
     generalize (W64.digs n).length = L at *
     go_enter Tryz.func122, Tryz.ntmps122
     go_wp2_with (first | (go_at_call 68; (with_reducible refine hM.out.mono ?_); rintro e w0 ⟨rfl, hw0⟩; subst w0) | (go_at_call 136; (with_reducible refine HV.out.mono ?_); rintro e w1 ⟨r, out, rfl, hr, h⟩; have HH := Aside0.mk h; have HR := Aside0.mk hr; clear h hr) | (go_at_call 61; (with_reducible refine (HN.out _ out HH.out.1 HH.out.2.1 HH.out.2.2.1 HH.out.2.2.2.1).mono ?_); rintro e w2 ⟨rfl, hw2, hn⟩; subst w2; have HNN := Aside0.mk hn; clear hn))
     go_ret2
     exact ⟨r, rfl, HR.out, HNN.out, HH.out.2.2.2.2⟩
set_option maxHeartbeats 4000000 in
theorem div_nc (g c n gy cy y : Nat) (w : World) (h : Nc w g c n) (hyn : Nc w gy cy y) (hne : gy ≠ g) (hy0 : 0 < y) (hy : y < 64) :
   Calls Tryz.prog 104 #[.slice (some ⟨g, 0, none⟩) (W64.digs n).length c, .pointer none, .slice none 0 0, .slice (some ⟨g, 0, none⟩) (W64.digs n).length c, .slice (some ⟨gy, 0, none⟩) (W64.digs y).length cy] w fun e w' => ∃ u, e = .returned (.tuple #[.slice (some ⟨g, 0, none⟩) (W64.digs (n / y)).length c, u]) ∧ Nc w' g c (n / y) ∧ KeptP w w' (fun k => k = g) := by
 have hd : W64.digs y = [(y : Int)] := W64.digs_one (by omega) (by omega)
 have hc := hyn.cells 0 (by rw [hd]; exact Nat.zero_lt_one)
 have e1 : rd (W64.digs y) ((0 : Nat) : Int) = (y : Int) := by rw [hd]; rfl
 rw [e1] at hc
 rw [hd]
 have HD := Aside0.mk (divW_nc g c n y w h hy0 hy)
 have HS := Aside0.mk (fun (r : Nat) (hr : r < 64) (w : World) => setWord_n 0 r (.slice none 0 0) w.heap.size w (by omega) (Zs.nil _ _) (Nat.le_refl _))
 have i1 : ((W64.digs n).length : Int) ≤ (c : Int) := by have := h.le; omega
 have i2 : (c : Int) ≤ 1000 := by have := h.max; omega
 have hlt := h.lt
 have HLT := Aside0.mk hlt
 clear h hyn hne hd e1 hy0 hlt
 have hyi : (y : Int) < 64 := by omega
 clear hy
 generalize (W64.digs n).length = L at *
 go_enter_defers Tryz.func104, Tryz.ntmps104
 go_wp2_with (first | (go_at_call 122; (with_reducible refine HD.out.mono ?_); rintro e w1 ⟨r, rfl, hr, hn, hk⟩; have HH := Aside0.mk (And.intro hr (And.intro hn hk)); clear hr hn hk) | (go_at_call 112; (with_reducible refine (HS.out r HH.out.1 _).mono ?_); rintro e w2 ⟨u, rfl, _, hb⟩; have HB := Aside0.mk hb; clear hb))
 exact ⟨_, results_tmp2 rfl _ _ _, u, rfl, HH.out.2.1.kept (P := fun _ => False) (KeptP.ofBelow HB.out) id, (KeptP.ofB (P := fun k => k = g) HH.out.2.2 rfl).then (KeptP.ofBelow HB.out)⟩
theorem _root_.Go.Proofs.YteohmbannpbokaaGreatDoor.WordWalk.Num.alloc {w : World} {g n : Nat} {v : Value} (h : Num w g n v) (o : Obj) : Num (w.alloc o) g n v :=
 h.kept (P := fun _ => False) (KeptP.ofBelow ((Below.refl _ _).alloc (Nat.le_refl _) _)) id
end Go.Proofs.YteohmbannpbokaaGreatDoor.WordWalk
