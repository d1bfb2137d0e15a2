/-
 Words for this claim.
 The reference's powers; twice the inverse hyperbolic tangent of a fraction.
 The reference's range for twice the inverse hyperbolic tangent.
-/
import Derived.Test.YteohmbannpbokaaGreatDoorJ16
import Derived.Test.YteohmbannpbokaaGreatDoorJ15
set_option linter.unusedVariables false
namespace Go.Proofs.YteohmbannpbokaaGreatDoor.ExpLaw
def dlow (p q T n : Nat) : Nat := 2 * sms p q T n
def dhigh (p q T n : Nat) : Nat := 2 * sms p q T n + (5 * n + 10)
def blow (a b T n : Nat) : Int := if b ≤ a then (dlow (a - b) (a + b) T n : Int) else -(dhigh (b - a) (a + b) T n : Int)
def bhigh (a b T n : Nat) : Int := if b ≤ a then (dhigh (a - b) (a + b) T n : Int) else -(dlow (b - a) (a + b) T n : Int)
def slow (a b T n : Nat) (k : Int) (n3 : Nat) : Int := blow a b T n + if 0 ≤ k then (dlow 1 3 T n3 : Int) * k else -(dhigh 1 3 T n3 : Int) * -k
def shigh (a b T n : Nat) (k : Int) (n3 : Nat) : Int := bhigh a b T n + if 0 ≤ k then (dhigh 1 3 T n3 : Int) * k else -(dlow 1 3 T n3 : Int) * -k
theorem base_law {a b T n : Nat} (ha : 0 < a) (hb : 0 < b) (h1 : 2 * b ≤ 3 * a) (h2 : 3 * a ≤ 4 * b) (hT : 0 < T) (hn : pws (if b ≤ a then a - b else b - a) (a + b) T n = 0) :
   ELe ((blow a b T n : Rat) / T) ((a : Rat) / b) ∧ ELe (-((bhigh a b T n : Rat) / T)) ((b : Rat) / a) := by
 by_cases hab : b ≤ a
 · rw [if_pos hab] at hn
   have hq : 0 < a + b := by omega
   have h3 : 3 * (a - b) ≤ a + b := by omega
   have l := doubled_low (T := T) (n := n) hq h3 hT
   have u := doubled_high (T := T) (n := n) hq h3 hT hn
   obtain ⟨e1, e2⟩ := frac_z hb hab
   rw [e1] at l
   rw [e2] at u
   unfold blow bhigh
   rw [if_pos hab, if_pos hab, Rat.intCast_natCast, Rat.intCast_natCast]
   exact ⟨l, u⟩
 · rw [if_neg hab] at hn
   have hba : a ≤ b := by omega
   have hq : 0 < b + a := by omega
   have h3 : 3 * (b - a) ≤ b + a := by omega
   rw [Nat.add_comm] at hn
   have l := doubled_low (T := T) (n := n) hq h3 hT
   have u := doubled_high (T := T) (n := n) hq h3 hT hn
   obtain ⟨e1, e2⟩ := frac_z ha hba
   rw [e1] at l
   rw [e2] at u
   unfold blow bhigh
   rw [if_neg hab, if_neg hab, Rat.intCast_neg, Rat.intCast_neg, Rat.intCast_natCast, Rat.intCast_natCast, Nat.add_comm a b]
   constructor
   · exact u.mono (by unfold dhigh; grind) Rat.le_refl
   · exact l.mono (by unfold dlow; grind) Rat.le_refl
theorem two_law {T n3 : Nat} (hT : 0 < T) (hn : pws 1 3 T n3 = 0) : ELe ((dlow 1 3 T n3 : Rat) / T) 2 ∧ ELe (-((dhigh 1 3 T n3 : Rat) / T)) (1 / 2) := by
 have l := doubled_low (p := 1) (q := 3) (T := T) (n := n3) (by omega) (by omega) hT
 have u := doubled_high (p := 1) (q := 3) (T := T) (n := n3) (by omega) (by omega) hT hn
 have e1 : ((1 : Nat) : Rat) = 1 := rfl
 have e3 : ((3 : Nat) : Rat) = 3 := rfl
 rw [e1, e3] at l u
 exact ⟨l.mono Rat.le_refl (by grind), u.mono Rat.le_refl (by grind)⟩
theorem two_pow_pos (k : Nat) : (0 : Rat) < 2 ^ k := by
 induction k with
 | zero => rw [Rat.pow_zero]; decide
 | succ k ih => rw [Rat.pow_succ]; grind
theorem half_pow (k : Nat) : (1 / 2 : Rat) ^ k * 2 ^ k = 1 := by
 rw [← mul_pow]
 have : (1 / 2 : Rat) * 2 = 1 := by grind
 rw [this, one_pow]
theorem cast_pow2 (k : Nat) : ((2 ^ k : Nat) : Rat) = 2 ^ k := by
 induction k with
 | zero => rw [Rat.pow_zero]; rfl
 | succ k ih => rw [Nat.pow_succ, natCast_mul, ih, Rat.pow_succ]; rfl
theorem span_law {a0 b0 h m T n n3 : Nat} (ha : 0 < a0) (hb : 0 < b0) (hhm : h = 0 ∨ m = 0) (h1 : 2 * (b0 * 2 ^ h) ≤ 3 * (a0 * 2 ^ m)) (h2 : 3 * (a0 * 2 ^ m) ≤ 4 * (b0 * 2 ^ h)) (hT : 0 < T)
   (hn : pws (if b0 * 2 ^ h ≤ a0 * 2 ^ m then a0 * 2 ^ m - b0 * 2 ^ h else b0 * 2 ^ h - a0 * 2 ^ m) (a0 * 2 ^ m + b0 * 2 ^ h) T n = 0) (hn3 : pws 1 3 T n3 = 0) :
   ELe ((slow (a0 * 2 ^ m) (b0 * 2 ^ h) T n ((h : Int) - m) n3 : Rat) / T) ((a0 : Rat) / b0) ∧ ELe (-((shigh (a0 * 2 ^ m) (b0 * 2 ^ h) T n ((h : Int) - m) n3 : Rat) / T)) ((b0 : Rat) / a0) := by
 have hap : 0 < a0 * 2 ^ m := Nat.mul_pos ha (Nat.two_pow_pos m)
 have hbp : 0 < b0 * 2 ^ h := Nat.mul_pos hb (Nat.two_pow_pos h)
 obtain ⟨b1, b2⟩ := base_law hap hbp h1 h2 hT hn
 obtain ⟨t1, t2⟩ := two_law hT hn3
 have ha0 : 0 < (a0 : Rat) := cast_pos ha
 have hb0 : 0 < (b0 : Rat) := cast_pos hb
 have hT0 : 0 < (T : Rat) := cast_pos hT
 rw [natCast_mul, natCast_mul, cast_pow2, cast_pow2] at b1 b2
 unfold slow shigh
 generalize blow (a0 * 2 ^ m) (b0 * 2 ^ h) T n = BL at *
 generalize bhigh (a0 * 2 ^ m) (b0 * 2 ^ h) T n = BH at *
 generalize dlow 1 3 T n3 = DL at *
 generalize dhigh 1 3 T n3 = DH at *
 have hr0 : ∀ x y : Rat, 0 < x → 0 < y → 0 ≤ x / y := fun x y hx hy => div_nonneg (by grind) hy
 rcases hhm with rfl | rfl
 ·
   rw [Rat.pow_zero] at b1 b2
   have p1 := t2.pow (by grind) m
   have p2 := t1.pow (by grind) m
   have q1 := b1.add p1 (hr0 _ _ (Rat.mul_pos ha0 (two_pow_pos m)) (by grind)) (pow_nonneg (by grind) m)
   have q2 := b2.add p2 (hr0 _ _ (by grind) (Rat.mul_pos ha0 (two_pow_pos m))) (pow_nonneg (by grind) m)
   have hk : (if (0 : Int) ≤ ((0 : Nat) : Int) - (m : Int) then (DL : Int) * (((0 : Nat) : Int) - m) else -(DH : Int) * -(((0 : Nat) : Int) - m)) = -(DH : Int) * m := by
     by_cases hm : m = 0
     · subst hm; simp
     · rw [if_neg (by omega)]; congr 1; omega
   have hk2 : (if (0 : Int) ≤ ((0 : Nat) : Int) - (m : Int) then (DH : Int) * (((0 : Nat) : Int) - m) else -(DL : Int) * -(((0 : Nat) : Int) - m)) = -(DL : Int) * m := by
     by_cases hm : m = 0
     · subst hm; simp
     · rw [if_neg (by omega)]; congr 1; omega
   rw [hk, hk2, Rat.intCast_add, Rat.intCast_add, Rat.intCast_mul, Rat.intCast_mul, Rat.intCast_neg, Rat.intCast_neg, Rat.intCast_natCast, Rat.intCast_natCast, Rat.intCast_natCast]
   have hp2 := two_pow_pos m
   have hh := half_pow m
   constructor
   · refine q1.mono (by grind) ?_
     generalize (1 / 2 : Rat) ^ m = H2 at *
     generalize (2 : Rat) ^ m = P2 at *
     have : (a0 : Rat) * P2 / (b0 * 1) * H2 = (a0 : Rat) / b0 := by
       have : (a0 : Rat) * P2 / (b0 * 1) * H2 = (a0 : Rat) / b0 * (H2 * P2) := by grind
       rw [this, hh]; grind
     grind
   · refine q2.mono (by grind) ?_
     generalize (2 : Rat) ^ m = P2 at *
     have hn2 : (a0 : Rat) * P2 ≠ 0 := by have := Rat.mul_pos ha0 hp2; grind
     have e1 : (b0 : Rat) * 1 / (a0 * P2) * (a0 * P2) = b0 * 1 := div_mul hn2
     have e2 : (b0 : Rat) / a0 * a0 = b0 := div_mul (by grind)
     generalize (b0 : Rat) * 1 / (a0 * P2) = X at *
     generalize (b0 : Rat) / a0 = Y at *
     have e3 : (X * P2 - Y) * a0 = 0 := by grind
     rcases Rat.mul_eq_zero.1 e3 with h | h
     · grind
     · grind
 ·
   rw [Rat.pow_zero] at b1 b2
   have p1 := t1.pow (by grind) h
   have p2 := t2.pow (by grind) h
   have q1 := b1.add p1 (hr0 _ _ (by grind) (Rat.mul_pos hb0 (two_pow_pos h))) (pow_nonneg (by grind) h)
   have q2 := b2.add p2 (hr0 _ _ (Rat.mul_pos hb0 (two_pow_pos h)) (by grind)) (pow_nonneg (by grind) h)
   have e0 : (h : Int) - ((0 : Nat) : Int) = h := by omega
   rw [e0, if_pos (by omega), if_pos (by omega), Rat.intCast_add, Rat.intCast_add, Rat.intCast_mul, Rat.intCast_mul, Rat.intCast_natCast, Rat.intCast_natCast, Rat.intCast_natCast]
   have hp2 := two_pow_pos h
   have hh := half_pow h
   constructor
   · refine q1.mono (by grind) ?_
     generalize (2 : Rat) ^ h = P2 at *
     have hn2 : (b0 : Rat) * P2 ≠ 0 := by have := Rat.mul_pos hb0 hp2; grind
     have e1 : (a0 : Rat) * 1 / (b0 * P2) * (b0 * P2) = a0 * 1 := div_mul hn2
     have e2 : (a0 : Rat) / b0 * b0 = a0 := div_mul (by grind)
     generalize (a0 : Rat) * 1 / (b0 * P2) = X at *
     generalize (a0 : Rat) / b0 = Y at *
     have e3 : (X * P2 - Y) * b0 = 0 := by grind
     rcases Rat.mul_eq_zero.1 e3 with h | h
     · grind
     · grind
   · refine q2.mono (by grind) ?_
     generalize (1 / 2 : Rat) ^ h = H2 at *
     generalize (2 : Rat) ^ h = P2 at *
     have : (b0 : Rat) * P2 / (a0 * 1) * H2 = (b0 : Rat) / a0 := by
       have : (b0 : Rat) * P2 / (a0 * 1) * H2 = (b0 : Rat) / a0 * (H2 * P2) := by grind
       rw [this, hh]; grind
     grind
end Go.Proofs.YteohmbannpbokaaGreatDoor.ExpLaw
set_option maxRecDepth 100000
set_option linter.unusedSimpArgs false
namespace Go.Proofs.YteohmbannpbokaaGreatDoor.SpecWalk
open Go.RowKit Go.Proofs.YteohmbannpbokaaGreatDoorW.PrintWords Go.Proofs.YteohmbannpbokaaGreatDoorW.PrintLast Go.Proofs.YteohmbannpbokaaGreatDoorW.PrintMore Go.Proofs.YteohmbannpbokaaGreatDoor.Digs Go.Proofs.YteohmbannpbokaaGreatDoor.StrLaw Go.Proofs.YteohmbannpbokaaGreatDoor.NatLaw Go.Proofs.YteohmbannpbokaaGreatDoor.NatWalk Go.Proofs.YteohmbannpbokaaGreatDoor.ExpLaw
theorem len_pow (a k : Nat) (h : a < 1000000000) : (digs (a ^ k)).length ≤ k + 1 := by
 apply len_digs_le
 have h1 : a ^ k ≤ 1000000000 ^ k := Nat.pow_le_pow_left (by omega) k
 have h2 : 0 < 1000000000 ^ k := Nat.pow_pos (by decide)
 rw [Nat.pow_succ]
 omega
set_option maxHeartbeats 4000000 in
theorem NatPow_n (a n : Nat) (oa : Nat → Prop) (v : Value) (w : World) (hv : Rdv w oa v a) (ha : a < 1000000000) (hn : n ≤ 100000) :
   Calls Tryz.prog 15 #[v, .int .i64 n] w fun e w' => ∃ z, e = .returned z ∧ Rdv w' (fun k => w.heap.size ≤ k) z (a ^ n) ∧ Below w.heap.size w w' := by
 obtain ⟨A, c, rfl, _, _⟩ := hv.form
 have HF := Aside0.mk (fun w => from_n 1 w (by decide))
 have HM := Aside0.mk (fun k (hk : k ≤ n) oa ob v u w hv hu => mul_n (a ^ k) a oa ob v u w hv hu (by have := len_pow a k ha; have := len_pow a 1 ha; rw [Nat.pow_one] at this; omega))
 simp only [← Nat.pow_succ] at HM
 rw [show ((1 : Nat) : Int) = 1 from rfl] at HF
 have hA := hv
 generalize hm : (digs a).length = m at *
 clear hm ha
 go_enter Tryz.func15, Tryz.ntmps15
 go_wp2_with (first | (go_at_call 36; refine (HF.out _).mono ?_; rintro e w1 ⟨v1, rfl, hv1, hb1⟩))
 replace hA := Aside0.mk hA
 have HB1 := Aside0.mk hb1
 have HV1 := Aside0.mk hv1
 clear hb1 hv1 hv
 go_loopg [1, 5] n (fun g v1 v5 w' => ∃ k : Nat, v1 = .int .i64 g ∧ Aside0 (k + g = n) ∧ Aside0 (Rdv w' (fun k => w.heap.size ≤ k) v5 (a ^ k)) ∧ Aside0 (Below w.heap.size w w'))
 case atStart => exact ⟨0, rfl, ⟨by omega⟩, ⟨by rw [Nat.pow_zero]; exact HV1.out⟩, HB1⟩
 case round =>
   obtain ⟨k, rfl, HG, HV, HB⟩ := hrel
   by_cases h0 : 0 < gk
   · have p0 := eq_true (show (0 : Int) < (gk : Int) by omega)
     have hgk : (gk : Int) ≤ 100000 := by have := HG.out; omega
     go_wp2_with (first | (go_at_call 37; refine (HM.out k (by have := HG.out; omega) _ _ _ _ _ HV.out (hA.out.below HB.out)).mono ?_; rintro e w2 ⟨v2, rfl, hv2, hb2⟩; have HB2 := Aside0.mk (below_step HB.out hb2); have HV2 := Aside0.mk (hv2.mono (ok' := fun k => w.heap.size ≤ k) (fun k hk => by have h0 : _ ≤ k := hk; have := HB.out.size; omega)); clear hv2 hb2))
     go_roundg (gk - 1)
     case measure => omega
     case rel => exact ⟨k + 1, by congr 1; omega, ⟨by have := HG.out; omega⟩, HV2, HB2⟩
   · have e0 : gk = 0 := by omega
     subst e0
     go_wp2
     go_ret
     have : k = n := by have := HG.out; omega
     subst this
     exact ⟨_, rfl, HV.out, HB.out⟩
theorem pws_nine {p q : Nat} (hq : 0 < q) (h : 3 * p ≤ q) (T k : Nat) : pws p q T k * 9 ^ k ≤ T := by
 induction k with
 | zero =>
   rw [Nat.pow_zero, Nat.mul_one, pws]
   apply Nat.div_le_of_le_mul
   rw [Nat.mul_comm q T]
   exact Nat.mul_le_mul_left T (by omega)
 | succ k ih =>
   rw [pws, Nat.pow_succ]
   have h9 : 9 * (p * p) ≤ q * q := by
     have := Nat.mul_le_mul h h
     have e : 3 * p * (3 * p) = 9 * (p * p) := by rw [Nat.mul_mul_mul_comm]
     omega
   have hqq : 0 < q * q := Nat.mul_pos hq hq
   have : pws p q T k * (p * p) / (q * q) * 9 ≤ pws p q T k := by
     have e1 := Nat.div_mul_le_self (pws p q T k * (p * p)) (q * q)
     generalize pws p q T k * (p * p) / (q * q) = Q at *
     generalize pws p q T k = P at *
     have e2 : Q * 9 * (q * q) ≤ P * (q * q) := by
       have s1 : Q * 9 * (q * q) = 9 * (Q * (q * q)) := by rw [Nat.mul_comm Q 9, Nat.mul_assoc]
       have s2 : 9 * (P * (p * p)) = P * (9 * (p * p)) := by rw [Nat.mul_left_comm]
       have s3 : P * (9 * (p * p)) ≤ P * (q * q) := Nat.mul_le_mul_left P h9
       omega
     exact Nat.le_of_mul_le_mul_right e2 hqq
   have h3 := Nat.mul_le_mul_right (9 ^ k) this
   have e3 : pws p q T k * (p * p) / (q * q) * 9 * 9 ^ k = pws p q T k * (p * p) / (q * q) * (9 ^ k * 9) := by rw [Nat.mul_assoc, Nat.mul_comm 9]
   omega
theorem pws_few {p q pl k : Nat} (hq : 0 < q) (h : 3 * p ≤ q) (hp : 0 < pws p q (10 ^ pl) k) : k ≤ 2 * pl := by
 have h1 := pws_nine hq h (10 ^ pl) k
 have h2 : 9 ^ k ≤ 10 ^ pl := Nat.le_trans (Nat.le_mul_of_pos_left _ hp) h1
 apply Classical.byContradiction
 intro hk
 have h3 : 9 ^ (2 * pl + 1) ≤ 9 ^ k := Nat.pow_le_pow_right (by decide) (by omega)
 have h4 : 9 ^ (2 * pl) = 81 ^ pl := by rw [Nat.pow_mul]
 have h5 : 10 ^ pl ≤ 81 ^ pl := Nat.pow_le_pow_left (by decide) pl
 have h6 : 0 < 81 ^ pl := Nat.pow_pos (by decide)
 rw [Nat.pow_succ, h4] at h3
 omega
theorem pws_le {p q : Nat} (hq : 0 < q) (h : 3 * p ≤ q) (T k : Nat) : pws p q T k ≤ T := by
 have h1 := pws_nine hq h T k
 have : 0 < 9 ^ k := Nat.pow_pos (by decide)
 exact Nat.le_trans (Nat.le_mul_of_pos_right _ this) h1
theorem sms_le {p q : Nat} (hq : 0 < q) (h : 3 * p ≤ q) (T k : Nat) : sms p q T k ≤ k * T := by
 induction k with
 | zero => simp [sms]
 | succ k ih =>
   rw [sms]
   have e : (k + 1) * T = k * T + T := Nat.succ_mul k T
   have := pws_le hq h T k
   have := Nat.div_le_self (pws p q T k) (2 * k + 1)
   omega
theorem len_ten {a k : Nat} (h : a ≤ 1000 * 10 ^ k) : (digs a).length ≤ k + 1 := by
 apply len_digs_le
 have h1 : 10 ^ k ≤ 1000000000 ^ k := Nat.pow_le_pow_left (by decide) k
 have h2 : 0 < 1000000000 ^ k := Nat.pow_pos (by decide)
 rw [Nat.pow_succ]
 omega
theorem len_mul_le (a b : Nat) : (digs (a * b)).length ≤ (digs a).length + (digs b).length := by
 apply len_digs_le
 rw [Nat.pow_add]
 exact Nat.mul_lt_mul'' (lt_of_len a) (lt_of_len b)
structure Dbl (w wb w' : World) (p q T n : Nat) (v9 v11 : Value) : Prop where
 pw : Rdv w' (fun k => w.heap.size + 1 ≤ k) v9 (pws p q T n)
 sm : Rdv w' (fun k => w.heap.size + 1 ≤ k) v11 (sms p q T n)
 hb : Below wb.heap.size wb w'
set_option maxHeartbeats 4000000 in
theorem Doubled_n (p q pl : Nat) (oa ob : Nat → Prop) (v u : Value) (w : World) (hv : Rdv w oa v p) (hu : Rdv w ob u q) (hq : 0 < q) (h3 : 3 * p ≤ q) (hpl : pl ≤ 400) (hlp : (digs p).length ≤ 1000) (hlq : (digs q).length ≤ 1000) :
   Calls Tryz.prog 55 #[v, u, .int .i64 pl] w fun e w' => ∃ (n : Nat) (z t : Value), e = .returned (.agg #[.bool false, z, .bool false, t]) ∧ Aside0 (pws p q (10 ^ pl) n = 0 ∧ n ≤ 2 * pl + 1) ∧ Rdv w' (fun k => w.heap.size ≤ k) z (dlow p q (10 ^ pl) n) ∧ Rdv w' (fun k => w.heap.size ≤ k) t (dhigh p q (10 ^ pl) n) ∧ Below w.heap.size w w' := by
 obtain ⟨A, c, rfl, _, _⟩ := hv.form
 obtain ⟨A', c', rfl, _, _⟩ := hu.form
 have HPP := Aside0.mk (fun oa ob v u w hv hu => mul_n p p oa ob v u w hv hu (by omega))
 have HQQ := Aside0.mk (fun oa ob v u w hv hu => mul_n q q oa ob v u w hv hu (by omega))
 have HT := Aside0.mk (fun w => pow10_n pl w (by omega))
 have hT1 := len_pow10 pl
 have HTP := Aside0.mk (fun oa ob v u w hv hu => mul_n (10 ^ pl) p oa ob v u w hv hu (by omega))
 have HD := Aside0.mk (fun oa ob v u w hv hu => div_n (10 ^ pl * p) q oa ob v u w hv hu hq (by have := len_mul_le (10 ^ pl) p; omega))
 have hlpp := len_mul_le p p
 have hlqq := len_mul_le q q
 have HS := Aside0.mk (fun n (hn : n ≤ 2 * pl) oa v w hv => short_n (pws p q (10 ^ pl) n) (2 * n + 1) oa v w hv (by omega) (by omega) (by have := len_digs_mono (pws_le hq h3 (10 ^ pl) n); omega))
 have HA := Aside0.mk (fun n (hn : n ≤ 2 * pl) oa ob v u w hv hu => add_n (sms p q (10 ^ pl) n) (pws p q (10 ^ pl) n / (2 * n + 1)) oa ob v u w hv hu (by
     have h1 := sms_le hq h3 (10 ^ pl) n
     have h2 : n * 10 ^ pl ≤ 1000 * 10 ^ pl := Nat.mul_le_mul_right _ (by omega)
     have := len_ten (Nat.le_trans h1 h2); omega) (by
     have := len_digs_mono (Nat.le_trans (Nat.div_le_self _ (2 * n + 1)) (pws_le hq h3 (10 ^ pl) n)); omega))
 have HM := Aside0.mk (fun n oa ob v u w hv hu => mul_n (pws p q (10 ^ pl) n) (p * p) oa ob v u w hv hu (by have := len_digs_mono (pws_le hq h3 (10 ^ pl) n); omega))
 have HM2 := Aside0.mk (fun n oa ob v u w hv hu => div_n (pws p q (10 ^ pl) n * (p * p)) (q * q) oa ob v u w hv hu (Nat.mul_pos hq hq) (by have := len_mul_le (pws p q (10 ^ pl) n) (p * p); have := len_digs_mono (pws_le hq h3 (10 ^ pl) n); omega))
 have HF := Aside0.mk (fun n => @pws_few p q pl n hq h3)
 have HZ := Aside0.mk (fun n => len_zero (n := pws p q (10 ^ pl) n))
 have HL := Aside0.mk (fun n (hn : n ≤ 2 * pl + 1) => show (digs (sms p q (10 ^ pl) n)).length ≤ pl + 1 by
   have h1 := sms_le hq h3 (10 ^ pl) n
   have h2 : n * 10 ^ pl ≤ 1000 * 10 ^ pl := Nat.mul_le_mul_right _ (by omega)
   exact len_ten (Nat.le_trans h1 h2))
 have HAA := Aside0.mk (fun n (hn : n ≤ 2 * pl + 1) oa v w hv => add_n (sms p q (10 ^ pl) n) (sms p q (10 ^ pl) n) oa oa v v w hv hv (by have := HL.out n hn; omega) (by have := HL.out n hn; omega))
 have HW := Aside0.mk (fun n (hn : n ≤ 2 * pl + 1) w => WFrom_n (5 * (n : Int) + 10) w (by omega))
 have HWA := Aside0.mk (fun n (hn : n ≤ 2 * pl + 1) oa ob v u w hv hu => WAdd_n ((2 * sms p q (10 ^ pl) n : Nat) : Int) (5 * (n : Int) + 10) oa ob v u w hv hu (by
   have h1 := sms_le hq h3 (10 ^ pl) n
   have h2 : n * 10 ^ pl ≤ 801 * 10 ^ pl := Nat.mul_le_mul_right _ (by omega)
   have h4 := len_mul_le 2 (sms p q (10 ^ pl) n)
   have h5 := HL.out n hn
   have h6 : (digs 2).length ≤ 1 := len_digs_le (by decide)
   rw [Int.natAbs_natCast]
   omega) (by have : (digs (5 * (n : Int) + 10).natAbs).length ≤ 1 := len_digs_le (by omega); omega))
 have hg0 : ∀ n : Nat, ng ((2 * sms p q (10 ^ pl) n : Nat) : Int) = false := fun n => by simp [ng]; omega
 have hg1 : ∀ n : Nat, ng (5 * (n : Int) + 10) = false := fun n => by simp [ng]; omega
 have hg2 : ∀ n : Nat, ng (((2 * sms p q (10 ^ pl) n : Nat) : Int) + (5 * (n : Int) + 10)) = false := fun n => by simp [ng]; omega
 have hg3 : ∀ n : Nat, (((2 * sms p q (10 ^ pl) n : Nat) : Int) + (5 * (n : Int) + 10)).natAbs = dhigh p q (10 ^ pl) n := fun n => by unfold dhigh; omega
 simp only [hg0, hg1, hg2, hg3, Int.natAbs_natCast] at HW HWA
 clear hg0 hg1 hg2 hg3
 simp only [← Nat.two_mul] at HAA
 simp only [Int.natCast_add, Int.natCast_mul, Int.natCast_one] at HS
 simp only [show ((2 : Nat) : Int) = 2 from rfl, show ((1 : Nat) : Int) = 1 from rfl] at HS
 clear hT1 hlpp hlqq hlp hlq
 go_enter Tryz.func55, Tryz.ntmps55
 go_wp2_with fail
 have rx0 := Box.new4 w w.heap.size (.bool false) (.slice none 0 0) (.bool false) (.slice none 0 0) 74 rfl
 have hB0 := (Below.refl w.heap.size w).alloc (Nat.le_refl _) (.cells #[.bool false, .slice none 0 0, .bool false, .slice none 0 0] 74)
 have sz0 : (w.alloc (Obj.cells #[.bool false, .slice none 0 0, .bool false, .slice none 0 0] 74)).heap.size = w.heap.size + 1 := by simp
 replace hv := hv.below hB0
 replace hu := hu.below hB0
 generalize (w.alloc (Obj.cells #[.bool false, .slice none 0 0, .bool false, .slice none 0 0] 74)) = w0 at *
 go_wp2_with (first
   | (go_at_call 37; with_reducible refine (HPP.out _ _ _ _ _ hv hv).mono ?_; rintro e w1 ⟨z1, rfl, hpp, hb1⟩; obtain ⟨A1, c1, rfl, _, _⟩ := hpp.form; replace hv := hv.below hb1; replace hu := hu.below hb1; replace rx0 := rx0.below hb1; replace hB0 := below_step hB0 hb1; have sz1 := hb1.size)
   | (go_at_call 37; with_reducible refine (HQQ.out _ _ _ _ _ hu hu).mono ?_; rintro e w2 ⟨z2, rfl, hqq, hb2⟩; obtain ⟨A2, c2, rfl, _, _⟩ := hqq.form; replace hv := hv.below hb2; replace hu := hu.below hb2; replace hpp := hpp.below hb2; replace rx0 := rx0.below hb2; replace hB0 := below_step hB0 hb2; have sz2 := hb2.size)
   | (go_at_call 13; with_reducible refine (HT.out _).mono ?_; rintro e w3 ⟨z3, rfl, ht, hb3⟩; obtain ⟨A3, c3, rfl, _, _⟩ := ht.form; replace hv := hv.below hb3; replace hu := hu.below hb3; replace hpp := hpp.below hb3; replace hqq := hqq.below hb3; replace rx0 := rx0.below hb3; replace hB0 := below_step hB0 hb3; have sz3 := hb3.size)
   | (go_at_call 37; with_reducible refine (HTP.out _ _ _ _ _ ht hv).mono ?_; rintro e w4 ⟨z4, rfl, htp, hb4⟩; obtain ⟨A4, c4, rfl, _, _⟩ := htp.form; replace hu := hu.below hb4; replace hpp := hpp.below hb4; replace hqq := hqq.below hb4; replace rx0 := rx0.below hb4; replace hB0 := below_step hB0 hb4; have sz4 := hb4.size)
   | (go_at_call 16; with_reducible refine (HD.out _ _ _ _ _ htp hu).mono ?_; rintro e w5 ⟨z5, rfl, hq5, hb5⟩; obtain ⟨x5, y5, rfl, hx5, hy5⟩ := hq5.out; obtain ⟨A5, c5, rfl, _, _⟩ := hx5.form; obtain ⟨A6, c6, rfl, _, _⟩ := hy5.form; replace hpp := hpp.below hb5; replace hqq := hqq.below hb5; replace rx0 := rx0.below hb5; replace hB0 := below_step hB0 hb5; have sz5 := hb5.size))
 have D0 : Dbl w w5 w5 p q (10 ^ pl) 0 (.slice A5 (digs (10 ^ pl * p / q)).length c5) (.slice none 0 0) := ⟨hx5.mono (fun k hk => by have h0 : _ ≤ k := hk; omega), (Rdv.nil w5).mono (fun k hk => hk.elim), Below.refl _ _⟩
 have D0 := Aside0.mk D0
 have HP := Aside0.mk hpp
 have HQ := Aside0.mk hqq
 have HB := Aside0.mk hB0
 have RX := Aside0.mk rx0
 have hs5 : w.heap.size + 1 ≤ w5.heap.size := by omega
 clear hb1 hb2 hb3 hb4 hb5 hx5 hy5 hpp hqq hB0 rx0 sz0 sz1 sz2 sz3 sz4 sz5 htp ht hv hu hq5 HPP HQQ HT HTP HD
 go_loopg [9, 11, 12] (2 * pl + 1) (fun g v9 v11 v12 w' => ∃ n : Nat, v12 = .int .i64 n ∧ Aside0 (n + g = 2 * pl + 1) ∧ Aside0 (Dbl w w5 w' p q (10 ^ pl) n v9 v11))
 case atStart => exact ⟨0, rfl, ⟨by omega⟩, D0⟩
 case round =>
   clear D0
   obtain ⟨n, rfl, HG, HD⟩ := hrel
   obtain ⟨A7, c7, e7, _, _⟩ := HD.out.pw.form
   obtain ⟨A8, c8, e8, _, _⟩ := HD.out.sm.form
   subst e7 e8
   by_cases hz : pws p q (10 ^ pl) n = 0
   · have e0 : (digs (pws p q (10 ^ pl) n)).length = 0 := len_zero.2 hz
     have hn : n ≤ 2 * pl + 1 := by have := HG.out; omega
     have HZ0 := Aside0.mk hz
     have p1 : decide (0 < (digs (pws p q (10 ^ pl) n)).length) = false := decide_eq_false (by omega)
     clear hz e0
     go_wp2_with (first
       | (go_at_call 54; with_reducible refine (HAA.out n hn _ _ _ HD.out.sm).mono ?_; rintro e w6 ⟨z6, rfl, hx6, hb6⟩; obtain ⟨A9, c9, rfl, _, _⟩ := hx6.form))
     have hn1 : (n : Int) ≤ 801 := by omega
     have hwr : IntKind.i64.wrap (IntKind.i64.wrap (5 * (n : Int)) + 10) = 5 * (n : Int) + 10 := by
       rw [i64_w, i64_w, w64 (5 * (n : Int)) (by omega) (by omega), w64 _ (by omega) (by omega)]
     have lx0 := Box.new2 w6 w6.heap.size (.bool false) (.slice A9 (digs (2 * sms p q (10 ^ pl) n)).length c9) 28 rfl
     have hw6 := below_step (below_step HB.out HD.out.hb) hb6
     have rx0 := ((RX.out.below (below_step HD.out.hb hb6))).alloc (Obj.cells #[.bool false, .slice A9 (digs (2 * sms p q (10 ^ pl) n)).length c9] 28)
     have hsz : w.heap.size + 1 ≤ w6.heap.size := by have := HD.out.hb.size; have := hb6.size; omega
     have hB0 := hw6.alloc (by omega) (Obj.cells #[.bool false, .slice A9 (digs (2 * sms p q (10 ^ pl) n)).length c9] 28)
     have hsum := hx6.below ((Below.refl w6.heap.size w6).alloc (Nat.le_refl _) (Obj.cells #[.bool false, .slice A9 (digs (2 * sms p q (10 ^ pl) n)).length c9] 28))
     have hszr : wr.heap.size ≤ w6.heap.size := hb6.size
     have hszw : w.heap.size + 1 ≤ wr.heap.size := by have := HD.out.hb.size; omega
     have hs6 : (w6.alloc (Obj.cells #[.bool false, .slice A9 (digs (2 * sms p q (10 ^ pl) n)).length c9] 28)).heap.size = w6.heap.size + 1 := by simp
     generalize (w6.alloc (Obj.cells #[.bool false, .slice A9 (digs (2 * sms p q (10 ^ pl) n)).length c9] 28)) = W at *
     have HWn := Aside0.mk (HW.out n hn)
     have HWAn := Aside0.mk (HWA.out n hn)
     have hsum := hsum.mono (ok' := fun k => w.heap.size + 1 ≤ k) (fun k hk => by have h0 : _ ≤ k := hk; omega)
     generalize hms : (digs (2 * sms p q (10 ^ pl) n)).length = ms at *
     have hE : Aside0 (2 * sms p q (10 ^ pl) n = dlow p q (10 ^ pl) n) := ⟨rfl⟩
     clear HS HA HM HM2 HF HZ HL HAA HW HWA hx6 hb6 hw6 hms HP HQ HB RX
     have k0 := lx0.c0; have k1 := lx0.c1; have k2 := rx0.c0; have k3 := rx0.c1; have k4 := rx0.c2; have k5 := rx0.c3; have k6 := rx0.f0; have k7 := rx0.f1; have k8 := rx0.f2; have k9 := rx0.f3
     replace lx0 := lx0.drew; replace rx0 := rx0.drew; replace hB0 := hB0.drew; replace hsum := hsum.drew
     have j0 := lx0.c0; have j1 := lx0.c1; have j2 := rx0.c0; have j3 := rx0.c1; have j4 := rx0.c2; have j5 := rx0.c3; have j6 := rx0.f0; have j7 := rx0.f1; have j8 := rx0.f2; have j9 := rx0.f3
     have nelx : w6.heap.size ≠ w.heap.size := by omega
     go_region_held3 (fun w' => w'.cell? ⟨w6.heap.size, 0, none⟩ = some (.bool false) ∧ w'.cell? ⟨w6.heap.size, 1, none⟩ = some (.slice A9 ms c9))
         (first
           | (go_keep; done)
           | exact ⟨lx2.c0, lx2.c1⟩
           | exact ⟨lx1.c0, lx1.c1⟩
           | exact ⟨(lx2.far4 nelx _ _ _ _).c0, (lx2.far4 nelx _ _ _ _).c1⟩)
         (first
           | (go_at_call 77; with_reducible refine (HWn.out _).mono ?_; rintro e w1 ⟨z1, rfl, hz1, hb1⟩; replace hz1 := hz1.mono (ok' := fun k => w.heap.size + 1 ≤ k) (fun k hk => by have h0 : _ ≤ k := hk; (try simp at h0); omega); obtain ⟨A1', c1', rfl, _, _⟩ := hz1.form; replace hsum := hsum.below hb1; have sz1 := hb1.size; (try simp at sz1); have lx1 := lx0.below hb1; have xlx10 := lx1.c0; have xlx11 := lx1.c1; have rx1 := rx0.below hb1; have xrx10 := rx1.c0; have xrx11 := rx1.c1; have xrx12 := rx1.c2; have xrx13 := rx1.c3; have yrx10 := rx1.f0; have yrx11 := rx1.f1; have yrx12 := rx1.f2; have yrx13 := rx1.f3)
           | (go_at_call 30; with_reducible refine (HWAn.out _ _ _ _ _ hsum hz1).mono ?_; rintro e w2 ⟨z2, rfl, hz2, hb2⟩; replace hz2 := hz2.mono (ok' := fun k => w.heap.size + 1 ≤ k) (fun k hk => by have h0 : _ ≤ k := hk; have := hb1.size; (try simp at this); omega); replace hsum := hsum.below hb2; obtain ⟨A2', c2', rfl, _, _⟩ := hz2.form; have sz2 := hb2.size; have lx2 := lx1.below hb2; have xlx20 := lx2.c0; have xlx21 := lx2.c1; have rx2 := rx1.below hb2; have xrx20 := rx2.c0; have xrx21 := rx2.c1; have xrx22 := rx2.c2; have xrx23 := rx2.c3; have yrx20 := rx2.f0; have yrx21 := rx2.f1; have yrx22 := rx2.f2; have yrx23 := rx2.f3))
     go_wp2
     refine bodyPost_ret (v := .agg #[.bool false, .slice A9 ms c9, .bool false, .slice A2' (digs (dhigh p q (10 ^ pl) n)).length c2']) (by simp [results, Tryz.results55, go_sem, rx2.c0, rx2.c1, rx2.c2, rx2.c3]) rfl ?_
     exact ⟨n, _, _, rfl, ⟨HZ0.out, hn⟩, by rw [← hE.out]; exact (hsum.far4 (fun k hk => by omega) _ _ _ _).mono (fun k hk => by omega), (hz2.far4 (fun k hk => by omega) _ _ _ _).mono (fun k hk => by omega), below4 (below_step (below_step hB0 hb1) hb2) (by omega) _ _ _ _⟩
   · have e0 : (0 : Int) < ((digs (pws p q (10 ^ pl) n)).length : Int) := by have := len_pos hz; omega
     have p0 := eq_true e0
     have hn : n ≤ 2 * pl := HF.out n (by omega)
     have hn1 : (n : Int) ≤ 800 := by omega
     have p1 : decide (0 < (digs (pws p q (10 ^ pl) n)).length) = true := decide_eq_true (by omega)
     clear e0 hz
     go_wp2_with (first
       | (go_at_call 39; with_reducible refine (HS.out n hn _ _ _ HD.out.pw).mono ?_; rintro e w6 ⟨z6, rfl, hx6, hb6⟩)
       | (go_at_call 54; with_reducible refine (HA.out n hn _ _ _ _ _ (HD.out.sm.below hb6) hx6).mono ?_; rintro e w7 ⟨z7, rfl, hx7, hb7⟩)
       | (go_at_call 37; with_reducible refine (HM.out n _ _ _ _ _ ((HD.out.pw.below hb6).below hb7) (HP.out.below (below_step (below_step HD.out.hb hb6) hb7))).mono ?_; rintro e w8 ⟨z8, rfl, hx8, hb8⟩)
       | (go_at_call 16; with_reducible refine (HM2.out n _ _ _ _ _ hx8 (HQ.out.below (below_step (below_step (below_step HD.out.hb hb6) hb7) hb8))).mono ?_; rintro e w9 ⟨z9, rfl, hq9, hb9⟩; obtain ⟨x9, y9, rfl, hx9, hy9⟩ := hq9.out; obtain ⟨A9, c9, rfl, _, _⟩ := hx9.form))
     go_roundg (gk - 1)
     case measure => have := HG.out; omega
     case rel =>
       exact ⟨n + 1, rfl, ⟨by have := HG.out; omega⟩, ⟨⟨hx9.mono (fun k hk => by have h0 : _ ≤ k := hk; have := HD.out.hb.size; have := hb6.size; have := hb7.size; have := hb8.size; omega), ((hx7.below hb8).below hb9).mono (fun k hk => by have h0 : _ ≤ k := hk; have := HD.out.hb.size; have := hb6.size; omega), below_step (below_step (below_step (below_step HD.out.hb hb6) hb7) hb8) hb9⟩⟩⟩
end Go.Proofs.YteohmbannpbokaaGreatDoor.SpecWalk
