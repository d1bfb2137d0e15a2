/-
 The package's power of e in bits: the walk.
 The judgement of a logarithm does not contradict the exponential's bounds.
 What the program's power of e answers, in plain words: the reference can tell neither bound to lie on the wrong side.
 Natural numbers as lists of limbs below 4294967296 (the lowest ones first): a plain law, with no program in sight.
-/
import Derived.Test.YteohmbannpbokaaGreatDoorJ34
import Derived.Test.YteohmbannpbokaaGreatDoorJ19
import Derived.Test.YteohmbannpbokaaGreatDoorJ03
set_option linter.unusedVariables false
set_option linter.unusedSimpArgs false
namespace Go.Proofs.YteohmbannpbokaaGreatDoor.WordWalk
open Go.RowKit Go.Proofs.YteohmbannpbokaaGreatDoorW.PrintWords Go.Proofs.YteohmbannpbokaaGreatDoorW.PrintLast Go.Proofs.YteohmbannpbokaaGreatDoorW.PrintMore Go.Proofs.YteohmbannpbokaaGreatDoor.SpecWalk Go.Proofs.YteohmbannpbokaaGreatDoor.BigWalk Go.Proofs.YteohmbannpbokaaGreatDoor.ExpLaw
theorem rat_bound {X : Int} {b : Nat} (h : X.natAbs ≤ 2 ^ b) : (-1 : Rat) ≤ (X : Rat) / 2 ^ b ∧ (X : Rat) / 2 ^ b ≤ 1 := by
 have hp := two_pow_pos b
 have h1 : X ≤ 2 ^ b := by rw [pow_cast]; omega
 have h2 : -(2 ^ b) ≤ X := by rw [pow_cast]; omega
 have k1 := icast_le h1
 have k2 := icast_le h2
 rw [icast_pow2] at k1
 rw [Rat.intCast_neg, icast_pow2] at k2
 exact ⟨le_div hp (by grind), div_le hp (by grind)⟩
theorem quo_bound {s : Int} {g d b : Nat} (h0 : 0 < s) (h1 : s ≤ 6 * 2 ^ g) (he : g = d + b) : (s / 2 ^ d).natAbs ≤ 6 * 2 ^ b := by
 have hp : (0 : Int) < 2 ^ d := Int.pow_pos (by decide)
 have h2 : 0 ≤ s / 2 ^ d := Int.ediv_nonneg (by omega) (by omega)
 have h3 : s / 2 ^ d ≤ 6 * 2 ^ b := by
   have h4 : s / 2 ^ d ≤ (6 * 2 ^ g) / 2 ^ d := Int.ediv_le_ediv hp h1
   rw [he, Int.pow_add, show (6 : Int) * (2 ^ d * 2 ^ b) = 2 ^ d * (6 * 2 ^ b) by rw [Int.mul_left_comm], Int.mul_ediv_cancel_left _ (by omega)] at h4
   exact h4
 rw [pow_cast b] at h3
 generalize s / 2 ^ d = q at *
 omega
theorem wrap_up (i : Nat) (h : (i : Int) ≤ 47) : wrap64 ((i : Int) + 1) = ((i + 1 : Nat) : Int) := by unfold wrap64; omega
def ExpOut (X : Int) (b j g N : Nat) (R : Int) : Prop :=
 5 ≤ j ∧ b + j + 14 ≤ g ∧ g ≤ 231 ∧ N ≤ 60 ∧ trm (X * 2 ^ (g - b - j)) g N = 0 ∧ R = sqs g j (tsum (X * 2 ^ (g - b - j)) g N) / 2 ^ (g - b)
set_option maxHeartbeats 8000000 in
set_option maxRecDepth 100000 in
theorem expFixed_n (gx : Nat) (X : Int) (ok : Nat → Prop) (v : Value) (b : Nat) (w : World) (hx : Box w gx [.bool (decide (X < 0)), v]) (hv : Wdv w ok v X.natAbs) (hX : X.natAbs ≤ 2 ^ b) (hb0 : 20 ≤ b) (hb1 : b ≤ 200) (hT : Thr w) (h3 : 3 ≤ w.heap.size) :
   Calls Tryz.prog 50 #[.pointer (some ⟨gx, 0, none⟩), .int .u64 b] w fun e w' => ∃ gr ar j g N R, e = .returned (.tuple #[.pointer (some ⟨gr, 0, none⟩), .int .i64 2]) ∧ ExpOut X b j g N R ∧ Zm w' gr ar R ∧ w.heap.size ≤ gr ∧ w.heap.size ≤ ar ∧ gr ≠ ar ∧ Below w.heap.size w w' ∧ R.natAbs ≤ 6 * 2 ^ b := by
 obtain ⟨r, J, hr1, hr2, hJ0, hJ1⟩ := root_of b hb0 hb1
 have HSQ := Aside0.mk (fun w => Sqrt_n (floatOfInt .f64 (b : Int)) r hr1 w)
 have hc1 := fun w => run_convert_int_float (P := Tryz.prog) w 22 111 .u64 .f64 (b : Int) (by rw [Tryz.underlying22]; rfl) Tryz.underlying111
 have hc2 := fun w => run_convert_float_int (P := Tryz.prog) w 111 22 .f64 .u64 r (J : Int) (by rw [Tryz.underlying111]; rfl) Tryz.underlying22 hr2
 obtain ⟨j, hjJ⟩ : ∃ j : Nat, j = J + 1 := ⟨_, rfl⟩
 have hJj : (J : Int) + 1 = (j : Int) := by omega
 obtain ⟨L, hLe⟩ : ∃ L : Nat, L = Lib.bitLen (33 * (b + j + 64) + 363) := ⟨_, rfl⟩
 obtain ⟨hL0, hL1⟩ := bits_bound (x := 33 * (b + j + 64) + 363) (by omega) (by omega)
 rw [← hLe] at hL0 hL1
 have HLN0 := fun w => Tryz.bits_Len (33 * ((b : Int) + (j : Int) + 64) + 363) w (by omega) (by omega)
 rw [show (33 * ((b : Int) + (j : Int) + 64) + 363).toNat = 33 * (b + j + 64) + 363 by omega, ← hLe] at HLN0
 have HLN := Aside0.mk HLN0
 clear HLN0 hLe
 obtain ⟨g, hgN⟩ : ∃ g : Nat, g = b + j + L + 2 := ⟨_, rfl⟩
 have hg : (b : Int) + (j : Int) + (L : Int) + 2 = (g : Int) := by omega
 obtain ⟨d, hdN⟩ : ∃ d : Nat, d = g - b := ⟨_, rfl⟩
 have hgb : (g : Int) - (b : Int) = (d : Int) := by omega
 have i1 : 20 ≤ (b : Int) := by omega
 have i2 : (b : Int) ≤ 200 := by omega
 have i3 : 4 ≤ (J : Int) := by omega
 have i4 : (J : Int) ≤ 14 := by omega
 have i5 : 5 ≤ (j : Int) := by omega
 have i6 : (j : Int) ≤ 15 := by omega
 have i7 : 0 ≤ (L : Int) := by omega
 have i8 : (L : Int) ≤ 14 := by omega
 have i9 : 39 ≤ (g : Int) := by omega
 have k1 : (g : Int) ≤ 231 := by omega
 have k2 : (b : Int) ≤ (g : Int) := by omega
 have k3 : 19 ≤ (d : Int) := by omega
 have k4 : (d : Int) ≤ 31 := by omega
 have HN := Aside0.mk (And.intro hjJ (And.intro hgN (And.intro hdN (And.intro (And.intro hL0 hL1) (And.intro (And.intro hb0 hb1) (And.intro hJ0 hJ1))))))
 clear hjJ hgN hdN hL0 hL1 hb0 hb1 hJ0 hJ1 hr1 hr2
 generalize floatOfInt .f64 (b : Int) = fb at *
 have HX := Aside0.mk (And.intro hx (And.intro hv (And.intro hX (And.intro hT h3))))
 clear hx hv hX hT h3
 go_enter Tryz.func50, Tryz.ntmps50
 go_wp2_with (first | (go_at_call 70; (with_reducible refine (HSQ.out _).mono ?_); rintro e w1 ⟨rfl, hw1⟩; subst w1) | (go_at_call 71; (with_reducible refine (HLN.out _).mono ?_); rintro e w1 ⟨rfl, hw1⟩; subst w1))
 have hbx0 := Box.new2 w w.heap.size (.bool false) (.slice none 0 0) 59 rfl
 have hbk0 : Blk (w.alloc (.cells #[.bool false, .slice none 0 0] 59)) w.heap.size := Blk.new _ _ _ _ rfl
 have hB0 : Below w.heap.size w (w.alloc (.cells #[.bool false, .slice none 0 0] 59)) := (Below.refl _ _).alloc (Nat.le_refl _) _
 have sz0 : (w.alloc (.cells #[.bool false, .slice none 0 0] 59)).heap.size = w.heap.size + 1 := by simp
 generalize (w.alloc (.cells #[.bool false, .slice none 0 0] 59)) = v0 at *
 obtain ⟨hx, hv, hX, hT, h3⟩ := HX.out
 obtain ⟨n1, n2, n3, ⟨n4, n5⟩, ⟨n6, n7⟩, n8, n9⟩ := HN.out
 have hxlt : gx < w.heap.size := World.block_lt_of_cell? w _ hx.c0
 have hXl : (W64.digs X.natAbs).length ≤ 100 := Nat.le_trans (small4 (Nat.le_trans hX (pow_le250 (by omega)))) (by decide)
 have hxd : (X * 2 ^ d).natAbs ≤ 2 ^ 250 := by
   rw [(shift_up X d).1]
   refine Nat.le_trans (Nat.mul_le_mul_right _ hX) ?_
   rw [← Nat.pow_add]
   exact pow_le250 (by omega)
 have HL1 := Aside0.mk (xr_lsh w.heap.size gx X ok v d v0 hbx0 hbk0 (hx.below hB0) (hv.below hB0) (by omega) (by omega) (by omega) hXl)
 have HR1 := Aside0.mk (fun (w1 : World) (h : Xr w1 w.heap.size w.heap.size (X * 2 ^ d)) => xr_rsh w.heap.size w.heap.size (X * 2 ^ d) j w1 h (by omega) (by omega) hxd (Nat.le_refl _))
 have HM0 := Aside0.mk (And.intro hB0 sz0)
 clear hx hv hX hT h3 n1 n2 n3 n4 n5 n6 n7 n8 n9 hxlt hXl hxd hbx0 hbk0 hB0 sz0
 go_wp2_with (first | (go_at_call 25; (with_reducible refine HL1.out.mono ?_); rintro e w1 ⟨rfl, hx1, hk1⟩; have H1 := Aside0.mk (And.intro hx1 hk1); clear hx1 hk1) | (go_at_call 72; (with_reducible refine (HR1.out _ (H1.out.1.mono (by have := HM0.out.2; omega))).mono ?_); rintro e w2 ⟨rfl, hx2, hk2⟩; have H2 := Aside0.mk (And.intro hx2 hk2); clear hx2 hk2))
 have hbel : Below w.heap.size w w2 := by
   obtain ⟨m1, m2⟩ := HM0.out
   have b1 : Below w.heap.size w w1 := ⟨H1.out.2.os.trans m1.os, H1.out.2.tape.trans m1.tape, H1.out.2.output.trans m1.output, Nat.le_trans m1.size H1.out.2.size, fun k hk => (H1.out.2.block k (by omega) (by omega)).trans (m1.block k hk)⟩
   have k2 := H2.out.2
   exact ⟨k2.os.trans b1.os, k2.tape.trans b1.tape, k2.output.trans b1.output, Nat.le_trans b1.size k2.size, fun k hk => (k2.block k (Nat.lt_of_lt_of_le hk b1.size) (by omega)).trans (b1.block k hk)⟩
 have HX2 := Aside0.mk (And.intro H2.out.1 hbel)
 clear H1 H2 HL1 HR1 HM0 hbel
 have hbS := Box.new2 w2 w2.heap.size (.bool false) (.slice none 0 0) 59 rfl
 have hkS : Blk (w2.alloc (.cells #[.bool false, .slice none 0 0] 59)) w2.heap.size := Blk.new _ _ _ _ rfl
 have hBS : Below w2.heap.size w2 (w2.alloc (.cells #[.bool false, .slice none 0 0] 59)) := (Below.refl _ _).alloc (Nat.le_refl _) _
 have szS : (w2.alloc (.cells #[.bool false, .slice none 0 0] 59)).heap.size = w2.heap.size + 1 := by simp
 generalize (w2.alloc (.cells #[.bool false, .slice none 0 0] 59)) = v3 at *
 have HVS := Aside0.mk (And.intro hbS (And.intro hkS (And.intro hBS szS)))
 clear hbS hkS hBS szS
 go_wp2_with (go_at_call 73; (with_reducible refine (oneInt_n v3).mono ?_); rintro e w3 ⟨o1, p1, rfl, ho, hp, hz, hb⟩; have HOS := Aside0.mk (And.intro ho (And.intro hp (And.intro hz hb))); clear ho hp hz hb)
 have HSS := Aside0.mk (lsh_one w2.heap.size o1 p1 g w3 (HVS.out.1.below HOS.out.2.2.2) (KeptP.blk HVS.out.2.1 (KeptP.ofBelow (P := fun _ => False) HOS.out.2.2.2) id) HOS.out.2.2.1 (by have h1 := HOS.out.1; have h2 := HVS.out.2.2.2; omega) (by omega) (by omega))
 go_wp2_with (go_at_call 25; (with_reducible refine HSS.out.mono ?_); rintro e w4 ⟨rfl, aS, ha, hz, hk⟩; have HZS := Aside0.mk (And.intro ha (And.intro hz hk)); clear ha hz hk)
 have hbT := Box.new2 w4 w4.heap.size (.bool false) (.slice none 0 0) 59 rfl
 have hkT : Blk (w4.alloc (.cells #[.bool false, .slice none 0 0] 59)) w4.heap.size := Blk.new _ _ _ _ rfl
 have hBT : Below w4.heap.size w4 (w4.alloc (.cells #[.bool false, .slice none 0 0] 59)) := (Below.refl _ _).alloc (Nat.le_refl _) _
 have szT : (w4.alloc (.cells #[.bool false, .slice none 0 0] 59)).heap.size = w4.heap.size + 1 := by simp
 generalize (w4.alloc (.cells #[.bool false, .slice none 0 0] 59)) = v5 at *
 have HVT := Aside0.mk (And.intro hbT (And.intro hkT (And.intro hBT szT)))
 clear hbT hkT hBT szT
 go_wp2_with (go_at_call 73; (with_reducible refine (oneInt_n v5).mono ?_); rintro e w5 ⟨o2, p2, rfl, ho, hp, hz, hb⟩; have HOT := Aside0.mk (And.intro ho (And.intro hp (And.intro hz hb))); clear ho hp hz hb)
 have HST := Aside0.mk (lsh_one w4.heap.size o2 p2 g w5 (HVT.out.1.below HOT.out.2.2.2) (KeptP.blk HVT.out.2.1 (KeptP.ofBelow (P := fun _ => False) HOT.out.2.2.2) id) HOT.out.2.2.1 (by have h1 := HOT.out.1; have h2 := HVT.out.2.2.2; omega) (by omega) (by omega))
 go_wp2_with (go_at_call 25; (with_reducible refine HST.out.mono ?_); rintro e w6 ⟨rfl, aT, ha, hz, hk⟩; have HZT := Aside0.mk (And.intro ha (And.intro hz hk)); clear ha hz hk)
 have hbI := Box.new2 w6 w6.heap.size (.bool false) (.slice none 0 0) 59 rfl
 have hkI : Blk (w6.alloc (.cells #[.bool false, .slice none 0 0] 59)) w6.heap.size := Blk.new _ _ _ _ rfl
 have hBI : Below w6.heap.size w6 (w6.alloc (.cells #[.bool false, .slice none 0 0] 59)) := (Below.refl _ _).alloc (Nat.le_refl _) _
 have szI : (w6.alloc (.cells #[.bool false, .slice none 0 0] 59)).heap.size = w6.heap.size + 1 := by simp
 generalize (w6.alloc (.cells #[.bool false, .slice none 0 0] 59)) = v7 at *
 have HVI := Aside0.mk (And.intro hbI (And.intro hkI (And.intro hBI szI)))
 clear hbI hkI hBI szI
 have hsum : ∃ ax, ExpSt w v7 w.heap.size ax (X * 2 ^ d / 2 ^ j) w2.heap.size aS (2 ^ g) w4.heap.size aT (2 ^ g) w6.heap.size o1 0 := by
   obtain ⟨hxr, hbel⟩ := HX2.out
   obtain ⟨s1, s2, s3, s4⟩ := HVS.out
   obtain ⟨a1, a2, a3, a4⟩ := HOS.out
   obtain ⟨z1, z2, z3⟩ := HZS.out
   obtain ⟨t1, t2, t3, t4⟩ := HVT.out
   obtain ⟨c1, c2, c3, c4⟩ := HOT.out
   obtain ⟨y1, y2, y3⟩ := HZT.out
   obtain ⟨q1, q2, q3, q4⟩ := HVI.out
   obtain ⟨_, _, _, hT, h3⟩ := HX.out
   obtain ⟨ax, hax, haxl, hzx⟩ := hxr.zz (Nat.le_refl _)
   have hxb := hzx.blk.lt
   have lS := z2.lt
   have lT := y2.lt
   have m4 := z3.size
   have m3 := a4.size
   have m5 := c4.size
   have m6 := y3.size
   have o1l := a3.blk.lt
   have b23 : Below w2.heap.size w2 w3 := below_trans s3 (below_less a4 (by omega)) (by omega)
   have b45 : Below w4.heap.size w4 w5 := below_trans t3 (below_less c4 (by omega)) (by omega)
   have hall : Below w.heap.size w v7 := by
     have e1 : Below w.heap.size w w3 := below_trans hbel (below_less b23 hbel.size) hbel.size
     have e2 : Below w.heap.size w w4 := bel_kept e1 z3 (fun k hk => by rw [hk]; exact hbel.size) e1.size
     have e3 : Below w.heap.size w w5 := below_trans e2 (below_less b45 e2.size) e2.size
     have e4 : Below w.heap.size w w6 := bel_kept e3 y3 (fun k hk => by rw [hk]; exact e2.size) e3.size
     exact below_trans e4 (below_less q3 e4.size) e4.size
   have hws := hbel.size
   have x3 := hzx.below b23
   have x4 := x3.kept z3 (by omega) (by omega)
   have x5 := x4.below b45
   have x6 := x5.kept y3 (by omega) (by omega)
   have x7 := x6.below q3
   have s5 := z2.below b45
   have s6 := s5.kept y3 (by omega) (by omega)
   have s7 := s6.below q3
   have t7 := y2.below q3
   refine ⟨ax, x7, s7, t7, ⟨⟨_, q1, ⟨.inl ⟨rfl, rfl⟩⟩⟩, q2⟩, hT.kept (P := fun _ => False) (KeptP.ofBelow hall) (fun _ h => h.elim), hall, ⟨by omega, by omega, by omega, by omega⟩, ⟨by omega, by omega, by omega, by omega⟩, ⟨by omega, by omega, by omega, by omega⟩, ⟨by omega, by omega, by omega, by omega⟩, ⟨by omega, by omega, by omega, by omega⟩, ⟨by omega, by omega, by omega, by omega⟩, by omega, by omega, by omega, ⟨by omega, by omega⟩, ⟨by omega, by omega⟩, ⟨by omega, by omega⟩, h3⟩
 obtain ⟨ax, H0⟩ := hsum
 obtain ⟨x, hxdef⟩ : ∃ x : Int, x = X * 2 ^ (g - b - j) := ⟨_, rfl⟩
 have hpars : X * 2 ^ d / 2 ^ j = x ∧ 32 * x.natAbs ≤ 2 ^ g ∧ 39 ≤ g ∧ g ≤ 231 ∧ 5 ≤ j ∧ j ≤ 15 ∧ d = g - b ∧ 19 ≤ d ∧ d ≤ 31 ∧ b + j + 14 ≤ g ∧ 20 ≤ b ∧ X.natAbs ≤ 2 ^ b := by
   obtain ⟨n1, n2, n3, ⟨n4, n5⟩, ⟨n6, n7⟩, n8, n9⟩ := HN.out
   obtain ⟨_, _, hX, _, _⟩ := HX.out
   refine ⟨?_, ?_, by omega, by omega, by omega, by omega, n3, by omega, by omega, by omega, n6, hX⟩
   · rw [hxdef, show d = (g - b - j) + j by omega, Int.pow_add, ← Int.mul_assoc]
     exact Int.mul_ediv_cancel _ (Int.ne_of_gt (Int.pow_pos (by decide)))
   · rw [hxdef, (shift_up X _).1]
     have h1 := Nat.mul_le_mul_right (2 ^ (g - b - j)) hX
     rw [← Nat.pow_add] at h1
     have h2 : 32 * 2 ^ (b + (g - b - j)) = 2 ^ (5 + (b + (g - b - j))) := by rw [Nat.pow_add 2 5]
     have h3 : 2 ^ (5 + (b + (g - b - j))) ≤ 2 ^ g := Nat.pow_le_pow_right (by decide) (by omega)
     omega
 rw [hpars.1] at H0
 have HP := Aside0.mk (And.intro hxdef hpars.2)
 have HE0 := Aside0.mk H0
 clear H0 hpars hxdef HX2 HVS HOS HSS HZS HVT HOT HST HZT HVI HN HX HLN HSQ hc1 hc2 hJj
 generalize w2.heap.size = gS at *
 generalize w4.heap.size = gT at *
 generalize w6.heap.size = gI at *
 go_loopg [12] (g / 5 + 1) (fun gg v12 w' => ∃ (i aS' aT' aI' : Nat) (z : Int), v12 = .int .i64 (i : Int) ∧ Aside0 (1 ≤ i ∧ i + gg = g / 5 + 2 ∧ 1 ≤ gg) ∧ Aside0 (trm x g (i - 1) ≠ 0) ∧ Aside0 (ExpSt w w' w.heap.size ax x gS aS' (tsum x g i) gT aT' (trm x g (i - 1)) gI aI' z))
 case atStart =>
   refine ⟨1, aS, aT, o1, 0, rfl, ⟨by omega, by omega, by omega⟩, ⟨?_⟩, ⟨?_⟩⟩
   · show (2 : Int) ^ g ≠ 0
     exact Int.ne_of_gt (Int.pow_pos (by decide))
   · have e1 : tsum x g 1 = 2 ^ g := by simp [tsum, trm]
     have e2 : trm x g (1 - 1) = 2 ^ g := rfl
     rw [e1, e2]
     exact HE0.out
 case round =>
   obtain ⟨i, aS', aT', aI', z, rfl, HG, HT0, HE⟩ := hrel
   have hpp := HP.out
   have hE := HE.out
   have hgb : i ≤ 47 := by have := HG.out; omega
   have ht1 : (trm x g (i - 1)).natAbs ≤ 2 ^ g := by
     rcases Nat.lt_or_ge 0 (i - 1) with h | h
     · have := trm_le hpp.2.1 (by omega) (i - 1) h
       omega
     · rw [show i - 1 = 0 by omega, trm, pow_cast]; simp
   have h250 : 2 ^ g ≤ 2 ^ 250 := pow_le250 (by omega)
   have hp0 : 0 < 2 ^ g := Nat.pow_pos (by decide)
   have hmulb : (trm x g (i - 1) * x).natAbs / 2 ^ g ≤ 2 ^ 250 := by
     rw [Int.natAbs_mul]
     have h1 : (trm x g (i - 1)).natAbs * x.natAbs ≤ 2 ^ g * 2 ^ g := Nat.mul_le_mul ht1 (by omega)
     have h2 : (trm x g (i - 1)).natAbs * x.natAbs / 2 ^ g ≤ 2 ^ g := Nat.div_le_of_le_mul h1
     omega
   have HC1 := Aside0.mk (IMul_of gT gT w.heap.size _ wr (imul_self gT aT' w.heap.size ax (trm x g (i - 1)) x wr hE.zt hE.zx (Ne.symm hE.xt.ac) (Ne.symm hE.xt.ad) (Ne.symm hE.xt.bc) (Ne.symm hE.xt.bd) hE.thr HT0.out (small4 (by omega)) (small4 (by omega))))
   have HC2 := Aside0.mk (fun (a : Nat) (w1 : World) (h : Zm w1 gT a (trm x g (i - 1) * x)) => Rsh_any gT a _ g w1 h (by omega) (by omega) hmulb)
   have HB := Aside0.mk (And.intro (And.intro hgb (show 0 < i by have := HG.out; omega)) ht1)
   clear hpp hE hgb ht1 h250 hp0 hmulb
   go_wp2_with (go_at_call 22; (with_reducible refine HC1.out.mono ?_); rintro e w1 ⟨rfl, a1, ha1, hz1, hk1⟩; have H1 := Aside0.mk (HE.out.setT hz1 ha1 hk1); clear ha1 hz1 hk1)
   go_wp2_with (go_at_call 72; (with_reducible refine (HC2.out _ _ H1.out.zt).mono ?_); rintro e w2 ⟨rfl, hz2, hk2⟩; have H2 := Aside0.mk (H1.out.setT hz2 (.inl rfl) hk2); clear hz2 hk2)
   have HC3 := Aside0.mk (SetInt_self gI aI' z i w2 H2.out.zi H2.out.nI HB.out.1.2 (by have := HB.out.1.1; omega))
   go_wp2_with (go_at_call 75; (with_reducible refine HC3.out.mono ?_); rintro e w3 ⟨rfl, a3, ha3, hn3, hz3, hl3, hk3⟩; have H3 := Aside0.mk (H2.out.setI hz3 ha3 hn3 hl3 hk3); clear ha3 hn3 hz3 hl3 hk3)
   have HC4 := Aside0.mk (Quo_self gT a1 gI a3 (trm x g (i - 1) * x / 2 ^ g) i w3 H3.out.zt H3.out.zi H3.out.ti.ac H3.out.ti.bc (Ne.symm H3.out.ti.bd) HB.out.1.2 (by have := HB.out.1.1; omega))
   go_wp2_with (go_at_call 74; (with_reducible refine HC4.out.mono ?_); rintro e w4 ⟨rfl, hz4, hk4⟩; have H4 := Aside0.mk (H3.out.setT hz4 (.inl rfl) hk4); clear hz4 hk4)
   have htr : (trm x g (i - 1) * x / 2 ^ g).tdiv (i : Int) = trm x g i := by
     obtain ⟨k, rfl⟩ : ∃ k, i = k + 1 := ⟨i - 1, by have := HB.out.1.2; omega⟩
     rfl
   have h4 := H4.out
   rw [htr] at h4
   have H5 := Aside0.mk h4
   clear h4 htr HC1 HC2 HC3 HC4 H1 H2 H3 H4
   by_cases hz : trm x g i = 0
   · have HS := Aside0.mk (Sign_zm gT a1 (trm x g i) w4 H5.out.zt)
     have HZ := Aside0.mk hz
     have hall : ∀ k ≤ j, 0 < sqs g k (tsum x g i) ∧ sqs g k (tsum x g i) ≤ 6 * 2 ^ g := by
       obtain ⟨p0, p1, p2, p3, p4, p5, p6, p7, p8, p9, p10, p11⟩ := HP.out
       obtain ⟨r1, r2⟩ := rat_bound p11
       have hz2 := hz
       rw [p0] at hz2
       have h := (alg_law (x := X) (b := b) (j := j) (g := g) (N := i) r1 r2 p4 p10 p9 (by have := HB.out.1.1; omega) hz2).2.2.2.1
       rw [← p0] at h
       exact h
     have HALL := Aside0.mk hall
     clear hz hall
     go_wp2_with (go_at_call 52; (with_reducible refine HS.out.mono ?_); rintro e w5 ⟨r, rfl, hw5, hr⟩; subst w5; obtain rfl : r = 0 := hr.out.2 HZ.out; clear hr)
     go_loopg [6] j (fun gg v6 w' => ∃ (k aS'' : Nat), v6 = .int .u64 (k : Int) ∧ Aside0 (k ≤ j ∧ k = gg) ∧ Aside0 (ExpSt w w' w.heap.size ax x gS aS'' (sqs g (j - k) (tsum x g i)) gT a1 (trm x g i) gI a3 i))
     case atStart => exact ⟨j, aS', rfl, ⟨Nat.le_refl _, rfl⟩, ⟨by rw [Nat.sub_self]; exact H5.out⟩⟩
     case round =>
       obtain ⟨k, aS'', rfl, HK, HE2⟩ := hrel
       obtain ⟨hs0, hs1⟩ := HALL.out (j - k) (by omega)
       have h250 : 36 * 2 ^ g ≤ 2 ^ 250 := by
         have h1 : 2 ^ (g + 6) ≤ 2 ^ 250 := pow_le250 (by have := HP.out.2.2.2.1; omega)
         rw [Nat.pow_add] at h1
         omega
       have hp0 : 0 < 2 ^ g := Nat.pow_pos (by decide)
       rw [pow_cast] at hs1
       have hsq : (sqs g (j - k) (tsum x g i) * sqs g (j - k) (tsum x g i)).natAbs / 2 ^ g ≤ 2 ^ 250 := by
         rw [Int.natAbs_mul]
         have h1 : (sqs g (j - k) (tsum x g i)).natAbs * (sqs g (j - k) (tsum x g i)).natAbs ≤ (6 * 2 ^ g) * (6 * 2 ^ g) := Nat.mul_le_mul (by omega) (by omega)
         have h2 : (sqs g (j - k) (tsum x g i)).natAbs * (sqs g (j - k) (tsum x g i)).natAbs / 2 ^ g ≤ 36 * 2 ^ g := Nat.div_le_of_le_mul (by rw [show 2 ^ g * (36 * 2 ^ g) = (6 * 2 ^ g) * (6 * 2 ^ g) by rw [Nat.mul_mul_mul_comm, Nat.mul_left_comm]]; exact h1)
         omega
       have hsd : (sqs g (j - k) (tsum x g i)).natAbs / 2 ^ d ≤ 2 ^ 250 := Nat.le_trans (Nat.div_le_self _ _) (by omega)
       have HC1 := Aside0.mk (IMul_of gS gS gS _ wr (imul_sq gS aS'' _ wr HE2.out.zs HE2.out.thr hs0 (small4 (by omega))))
       have HC2 := Aside0.mk (fun (a : Nat) (w1 : World) (h : Zm w1 gS a (sqs g (j - k) (tsum x g i) * sqs g (j - k) (tsum x g i))) => Rsh_any gS a _ g w1 h (by have := HP.out.2.2.1; omega) (by have := HP.out.2.2.2.1; omega) hsq)
       have HC3 := Aside0.mk (Rsh_any gS aS'' _ d wr HE2.out.zs (by omega) (by omega) hsd)
       clear hs0 hs1 h250 hp0 hsq hsd
       by_cases hk : 0 < k
       · have hki : 0 < (k : Int) := by omega
         have hkj : (k : Int) ≤ 15 := by have := HK.out.1; have := HP.out.2.2.2.2.2.1; omega
         have HKK := Aside0.mk hk
         clear hk
         go_wp2_with (go_at_call 22; (with_reducible refine HC1.out.mono ?_); rintro e w7 ⟨rfl, a7, ha7, hz7, hk7⟩; have H7 := Aside0.mk (HE2.out.setS hz7 ha7 hk7); clear ha7 hz7 hk7)
         go_wp2_with (go_at_call 72; (with_reducible refine (HC2.out _ _ H7.out.zs).mono ?_); rintro e w8 ⟨rfl, hz8, hk8⟩; have H8 := Aside0.mk (H7.out.setS hz8 (.inl rfl) hk8); clear hz8 hk8)
         go_roundg (gk - 1)
         case measure => have := HK.out; have := HKK.out; omega
         case rel =>
           refine ⟨k - 1, a7, by have := HKK.out; congr 1; omega, ⟨by have := HK.out; omega, by have := HK.out; omega⟩, ⟨?_⟩⟩
           have h8 := H8.out
           rw [← sqs_last] at h8
           have e : j - (k - 1) = j - k + 1 := by have := HKK.out; have := HK.out; omega
           rw [e]
           exact h8
       · obtain rfl : k = 0 := by omega
         go_wp2_with (go_at_call 72; (with_reducible refine HC3.out.mono ?_); rintro e w9 ⟨rfl, hz9, hk9⟩; have H9 := Aside0.mk (HE2.out.setS hz9 (.inl rfl) hk9); clear hz9 hk9)
         go_ret2
         have h9 := H9.out
         obtain ⟨p0, p1, p2, p3, p4, p5, p6, p7, p8, p9, p10, p11⟩ := HP.out
         obtain ⟨hs0, hs1⟩ := HALL.out (j - 0) (by omega)
         have hne : trm x g i = 0 := HZ.out
         have hi := HB.out.1.1
         rw [Nat.sub_zero] at h9 hs0 hs1
         refine ⟨gS, aS'', j, g, i, _, rfl, ?_, h9.zs, ?_, ?_, ?_, h9.bel, ?_⟩
         · refine ⟨p4, p9, p3, by omega, ?_, ?_⟩
           · rw [← p0]
             exact hne
           · rw [← p0, ← p6]
         · exact h9.ls.1
         · exact h9.ls.2
         · exact fun e => h9.zs.ne e.symm
         · exact quo_bound hs0 hs1 (by omega)
   · have HS := Aside0.mk (Sign_zm gT a1 (trm x g i) w4 H5.out.zt)
     have HZ := Aside0.mk hz
     clear hz
     go_wp2_with (go_at_call 52; (with_reducible refine HS.out.mono ?_); rintro e w5 ⟨r, rfl, hw5, hr⟩; subst w5; have hr0 : (r == 0) = false := beq_eq_false_iff_ne.mpr (fun h => HZ.out (hr.out.1 h)); clear hr)
     have hbig := tsum_big HP.out.2.1 (by have := HP.out.2.2.1; omega) (i := i) HB.out.1.2
     have hsl : (W64.digs (tsum x g i).natAbs).length ≤ 4 := by
       refine small4 ?_
       have h1 : 2 ^ (g + 1) ≤ 2 ^ 250 := pow_le250 (by have := HP.out.2.2.2.1; omega)
       rw [Nat.pow_succ] at h1
       have h2 := hbig.2.2
       rw [pow_cast] at h2
       omega
     have HA := Aside0.mk (Add_any gS aS' gT a1 (tsum x g i) (trm x g i) w4 H5.out.zs H5.out.zt H5.out.st hbig.1 HZ.out hbig.2.1 hsl)
     clear hbig hsl
     go_wp2_with (go_at_call 76; (with_reducible refine HA.out.mono ?_); rintro e w6 ⟨rfl, hz6, hk6⟩; have H6 := Aside0.mk (H5.out.setS hz6 (.inl rfl) hk6); clear hz6 hk6)
     have hlt : i < g / 5 + 1 := by
       have h1 := HG.out
       apply Classical.byContradiction
       intro hc
       have e : i = g / 5 + 1 := by omega
       exact HZ.out (by rw [e]; exact trm_end HP.out.2.1 (by have := HP.out.2.2.1; omega))
     have hltA := Aside0.mk hlt
     clear hlt
     have hib : (i : Int) ≤ 47 := by have := HB.out.1.1; omega
     go_wp2
     go_roundg (gk - 1)
     case measure => have := HG.out; omega
     case rel => exact ⟨i + 1, aS', a1, a3, _, by rw [wrap_up _ hib], ⟨by omega, by have := HG.out; omega, by have := HG.out; have := hltA.out; omega⟩, ⟨by rw [Nat.add_sub_cancel]; exact HZ.out⟩, ⟨by rw [Nat.add_sub_cancel]; exact H6.out⟩⟩
end Go.Proofs.YteohmbannpbokaaGreatDoor.WordWalk
namespace Go.Proofs.YteohmbannpbokaaGreatDoor.SpecWalk
open Go.Proofs.YteohmbannpbokaaGreatDoor.ExpLaw
theorem pow10_pos (p : Nat) : (0 : Rat) < ((10 ^ p : Nat) : Rat) := cast_pos (Nat.pow_pos (by decide))
theorem sc_beside (y : Int) {d : Nat} (hd : 0 < d) (p : Nat) : (scL y d p : Rat) ≤ (y : Rat) / d * ((10 ^ p : Nat) : Rat) ∧ (y : Rat) / d * ((10 ^ p : Nat) : Rat) ≤ (scH y d p : Rat) := by
 have hdp := cast_pos hd
 have key : ∀ z : Int, ((z / (d : Int) : Int) : Rat) ≤ (z : Rat) / d := by
   intro z
   have h := Int.ediv_mul_le z (show (d : Int) ≠ 0 by omega)
   have k := icast_le h
   rw [Rat.intCast_mul, Rat.intCast_natCast] at k
   exact le_div hdp k
 have e : ∀ z : Int, ((z * 10 ^ p : Int) : Rat) = z * ((10 ^ p : Nat) : Rat) := by
   intro z
   rw [Rat.intCast_mul]
   have : ((10 ^ p : Int) : Rat) = (((10 ^ p : Nat) : Int) : Rat) := by rw [Int.natCast_pow]; rfl
   rw [this, Rat.intCast_natCast]
 constructor
 · have := key (y * 10 ^ p)
   rw [e] at this
   unfold scL
   generalize ((10 ^ p : Nat) : Rat) = T at *
   grind
 · have := key (-y * 10 ^ p)
   rw [e, Rat.intCast_neg] at this
   unfold scH
   rw [Rat.intCast_neg]
   generalize ((10 ^ p : Nat) : Rat) = T at *
   generalize ((-y * 10 ^ p / (d : Int) : Int) : Rat) = F at *
   have e2 : -(y : Rat) * T / d = -((y : Rat) / d * T) := by grind
   rw [e2] at this
   grind
theorem judge_low {a0 b0 : Nat} {y : Int} {d : Nat} (hd : 0 < d) (ha : 0 < a0) (hb : 0 < b0) (H : Judged a0 b0 y d 1) {s : Rat} (hs : 0 < s) (h1 : ELe (-((y : Rat) / d)) s) (h2 : s * ((a0 : Rat) / b0) < 1) : False := by
 rcases H.out with h | ⟨p, lo, hi, hln, hr⟩
 · exact absurd h (by decide)
 have hlt : scH y d p < lo := by
   unfold bes at hr
   split at hr
   · exact absurd hr (by decide)
   · split at hr
     · assumption
     · exact absurd hr (by decide)
 have hT := pow10_pos p
 have hE := (hln.law ha hb (Nat.pow_pos (by decide))).1
 have hc := icast_le (Int.le_of_lt hlt)
 have hsc := (sc_beside y hd p).2
 have hle : (y : Rat) / d ≤ (lo : Rat) / ((10 ^ p : Nat) : Rat) := le_div hT (Rat.le_trans hsc hc)
 have hab : 0 ≤ (a0 : Rat) / b0 := div_nonneg (cast_nonneg a0) (cast_pos hb)
 have hE2 := hE.mono hle Rat.le_refl
 have hA := hE2.add h1 hab (Rat.le_of_lt hs)
 have h1 := hA.one_le (by grind)
 grind
theorem judge_high {a0 b0 : Nat} {y : Int} {d : Nat} (hd : 0 < d) (ha : 0 < a0) (hb : 0 < b0) (H : Judged a0 b0 y d (-1)) {t : Rat} (ht : 0 < t) (h1 : ELe ((y : Rat) / d) t) (h2 : t * ((b0 : Rat) / a0) < 1) : False := by
 rcases H.out with h | ⟨p, lo, hi, hln, hr⟩
 · exact absurd h (by decide)
 have hlt : hi < scL y d p := by
   unfold bes at hr
   split at hr
   · assumption
   · split at hr
     · exact absurd hr (by decide)
     · exact absurd hr (by decide)
 have hT := pow10_pos p
 have hE := (hln.law ha hb (Nat.pow_pos (by decide))).2
 have hc := icast_le (Int.le_of_lt hlt)
 have hsc := (sc_beside y hd p).1
 have hle : (hi : Rat) / ((10 ^ p : Nat) : Rat) ≤ (y : Rat) / d := div_le hT (Rat.le_trans hc hsc)
 have hab : 0 ≤ (b0 : Rat) / a0 := div_nonneg (cast_nonneg b0) (cast_pos ha)
 have hE2 := hE.mono (show -((y : Rat) / d) ≤ -((hi : Rat) / ((10 ^ p : Nat) : Rat)) by grind) Rat.le_refl
 have hA := hE2.add h1 hab (Rat.le_of_lt ht)
 have h1 := hA.one_le (by grind)
 grind
end Go.Proofs.YteohmbannpbokaaGreatDoor.SpecWalk
namespace Go.Proofs.YteohmbannpbokaaGreatDoor.LawExp
open Go.Proofs.YteohmbannpbokaaGreatDoor.WordWalk Go.Proofs.YteohmbannpbokaaGreatDoor.SpecWalk Go.Proofs.YteohmbannpbokaaGreatDoor.ExpLaw
theorem ncast_pow2 (b : Nat) : ((2 ^ b : Nat) : Rat) = 2 ^ b := by
 rw [← Rat.intCast_natCast, ← pow_cast b, icast_pow2]
theorem ncast_abs {z : Int} (h : 0 ≤ z) : ((z.natAbs : Nat) : Rat) = (z : Rat) := by
 rw [← Rat.intCast_natCast]
 congr 1
 omega
theorem div_lt {a b : Rat} (hb : 0 < b) (h : a < b) : a / b < 1 := by
 have h1 : a / b * b = a := Rat.div_mul_cancel (by grind)
 apply Rat.not_le.1
 intro h2
 have := Rat.mul_le_mul_of_nonneg_right h2 (Rat.le_of_lt hb)
 grind
theorem mul_div {a b c : Rat} : a * (b / c) = a * b / c := by grind
theorem exp_judged {X : Int} {b j g N : Nat} {R : Int} (hX : X.natAbs < 2 ^ b) (hb : 20 ≤ b) (ho : ExpOut X b j g N R) :
   0 ≤ R ∧ (0 < R - 2 → ¬ Judged (R - 2).natAbs (2 ^ b) X (2 ^ b) 1) ∧ ¬ Judged (R + 2).natAbs (2 ^ b) X (2 ^ b) (-1) := by
 obtain ⟨h5, hbg, _, hN, hz, hR⟩ := ho
 obtain ⟨r1, r2⟩ := rat_bound (Nat.le_of_lt hX)
 have A := alg_law r1 r2 h5 hb hbg hN hz
 rw [← hR] at A
 obtain ⟨_, hR0, ⟨s, hs, h1, h2⟩, _, ⟨t, ht, h3, h4⟩⟩ := A
 clear hz hR
 have hp : 0 < 2 ^ b := Nat.pow_pos (by decide)
 have hpr := two_pow_pos b
 refine ⟨hR0, fun h H => ?_, fun H => ?_⟩
 · refine judge_low hp (by omega) hp H hs (by rw [ncast_pow2]; exact h1) ?_
   rw [ncast_abs (by omega), ncast_pow2, Rat.intCast_sub]
   have e : ((2 : Int) : Rat) = 2 := rfl
   rw [e]
   rw [mul_div]
   exact div_lt hpr h2
 · refine judge_high hp (by omega) hp H ht (by rw [ncast_pow2]; exact h3) ?_
   rw [ncast_abs (by omega), ncast_pow2, Rat.intCast_add]
   have e : ((2 : Int) : Rat) = 2 := rfl
   rw [e]
   have hR2 : (0 : Rat) < (R : Rat) + 2 := by
     have := icast_le hR0
     grind
   rw [mul_div]
   exact div_lt hR2 h4
end Go.Proofs.YteohmbannpbokaaGreatDoor.LawExp
namespace Go.Proofs.YteohmbannpbokaaGreatDoor.H32
open Go.RowKit Go.Proofs.YteohmbannpbokaaGreatDoorW.PrintWords
def val : List Int → Int
 | [] => 0
 | x :: xs => x + 4294967296 * val xs
def Dig (l : List Int) : Prop := ∀ x ∈ l, 0 ≤ x ∧ x < 4294967296
def Top (l : List Int) : Prop := ∀ h : l ≠ [], l.getLast h ≠ 0
theorem pw_pos (i : Nat) : 0 < (4294967296 : Int) ^ i := Int.pow_pos (by decide)
theorem pw_succ (i : Nat) : (4294967296 : Int) ^ (i + 1) = 4294967296 * 4294967296 ^ i := by rw [Int.pow_succ, Int.mul_comm]
theorem Dig.nil : Dig [] := fun x h => by cases h
theorem Dig.cons {x : Int} {xs : List Int} (h : 0 ≤ x ∧ x < 4294967296) (hs : Dig xs) : Dig (x :: xs) := fun y hy => by
 rcases List.mem_cons.1 hy with rfl | hy
 · exact h
 · exact hs y hy
theorem Dig.head {x : Int} {xs : List Int} (h : Dig (x :: xs)) : 0 ≤ x ∧ x < 4294967296 := h x List.mem_cons_self
theorem Dig.tail {x : Int} {xs : List Int} (h : Dig (x :: xs)) : Dig xs := fun y hy => h y (List.mem_cons_of_mem _ hy)
theorem Dig.append {a b : List Int} (ha : Dig a) (hb : Dig b) : Dig (a ++ b) := fun y hy => (List.mem_append.1 hy).elim (ha y) (hb y)
theorem Dig.take {a : List Int} (ha : Dig a) (n : Nat) : Dig (a.take n) := fun y hy => ha y (List.mem_of_mem_take hy)
theorem Dig.set {a : List Int} (ha : Dig a) (i : Nat) {v : Int} (hv : 0 ≤ v ∧ v < 4294967296) : Dig (a.set i v) := fun y hy => by
 rcases List.mem_or_eq_of_mem_set hy with h | rfl
 · exact ha y h
 · exact hv
theorem Dig.rep (n : Nat) : Dig (List.replicate n 0) := fun y hy => by
 have := (List.mem_replicate.1 hy).2
 omega
theorem dig_rd {a : List Int} (ha : Dig a) (i : Int) : 0 ≤ rd a i ∧ rd a i < 4294967296 := by
 unfold Go.Proofs.YteohmbannpbokaaGreatDoorW.PrintWords.rd
 rw [List.getD_eq_getElem?_getD]
 by_cases h : i.toNat < a.length
 · rw [List.getElem?_eq_getElem h]
   exact ha _ (List.getElem_mem h)
 · rw [List.getElem?_eq_none (by omega)]
   simp
theorem val_append (a b : List Int) : val (a ++ b) = val a + 4294967296 ^ a.length * val b := by
 induction a with
 | nil => simp [val]
 | cons x xs ih =>
   simp only [List.cons_append, val, ih, List.length_cons, pw_succ]
   grind
theorem val_nonneg {l : List Int} (h : Dig l) : 0 ≤ val l := by
 induction l with
 | nil => simp [val]
 | cons x xs ih =>
   have := ih h.tail
   have := h.head
   simp only [val]
   omega
theorem val_lt {l : List Int} (h : Dig l) : val l < 4294967296 ^ l.length := by
 induction l with
 | nil => simp [val]
 | cons x xs ih =>
   have := ih h.tail
   have := h.head
   simp only [val, List.length_cons, pw_succ]
   omega
theorem val_rep (n : Nat) : val (List.replicate n 0) = 0 := by
 induction n with
 | zero => rfl
 | succ n ih => simp [List.replicate_succ, val, ih]
theorem rd_nat (l : List Int) (i : Nat) : rd l (i : Int) = l.getD i 0 := by simp [Go.Proofs.YteohmbannpbokaaGreatDoorW.PrintWords.rd]
theorem rd_lt {l : List Int} {i : Nat} (h : i < l.length) : rd l (i : Int) = l[i] := by
 rw [rd_nat, List.getD_eq_getElem?_getD, List.getElem?_eq_getElem h]; rfl
theorem val_set : ∀ (l : List Int) (i : Nat) (v : Int), i < l.length → val (l.set i v) = val l + (v - rd l i) * 4294967296 ^ i := by
 intro l
 induction l with
 | nil => intro i v h; simp at h
 | cons x xs ih =>
   intro i v h
   cases i with
   | zero =>
     simp only [List.set_cons_zero, val, rd_nat, List.getD_cons_zero, Int.pow_zero]
     omega
   | succ i =>
     have := ih i v (by simpa using h)
     simp only [List.set_cons_succ, val, this, rd_nat, List.getD_cons_succ, pw_succ]
     grind
theorem take_succ_rd {l : List Int} {i : Nat} (h : i < l.length) : l.take (i + 1) = l.take i ++ [rd l i] := by
 rw [rd_lt h, List.take_succ_eq_append_getElem h]
theorem val_take_succ {l : List Int} {i : Nat} (h : i < l.length) : val (l.take (i + 1)) = val (l.take i) + rd l i * 4294967296 ^ i := by
 rw [take_succ_rd h, val_append]
 simp only [val, List.length_take, Nat.min_eq_left (Nat.le_of_lt h)]
 grind
theorem rd_set_self {l : List Int} {i : Nat} {v : Int} (h : i < l.length) : rd (l.set i v) i = v := by
 rw [rd_lt (by simpa using h)]
 simp
theorem rd_set_ne {l : List Int} {i j : Nat} {v : Int} (h : i ≠ j) : rd (l.set i v) (j : Int) = rd l (j : Int) := by
 rw [rd_nat, rd_nat, List.getD_eq_getElem?_getD, List.getD_eq_getElem?_getD, List.getElem?_set_ne h]
theorem rd_rep (n i : Nat) : rd (List.replicate n 0) (i : Int) = 0 := by
 rw [rd_nat, List.getD_eq_getElem?_getD, List.getElem?_replicate]
 split <;> rfl
def digs (n : Nat) : List Int := if h : n = 0 then [] else ((n % 4294967296 : Nat) : Int) :: digs (n / 4294967296)
 termination_by n
 decreasing_by omega
theorem digs_zero : digs 0 = [] := by rw [digs]; simp
theorem digs_pos {n : Nat} (h : n ≠ 0) : digs n = ((n % 4294967296 : Nat) : Int) :: digs (n / 4294967296) := by rw [digs]; simp [h]
theorem digs_ne {n : Nat} (h : n ≠ 0) : digs n ≠ [] := by rw [digs_pos h]; simp
theorem digs_one {n : Nat} (h : n ≠ 0) (h2 : n < 4294967296) : digs n = [(n : Int)] := by
 rw [digs_pos h, Nat.mod_eq_of_lt h2, Nat.div_eq_of_lt h2, digs_zero]
theorem val_digs (n : Nat) : val (digs n) = n := by
 induction n using Nat.strongRecOn with
 | _ n ih =>
   by_cases h : n = 0
   · subst h; rw [digs_zero]; rfl
   · rw [digs_pos h, val, ih _ (by omega)]
     omega
theorem dig_digs (n : Nat) : Dig (digs n) := by
 induction n using Nat.strongRecOn with
 | _ n ih =>
   by_cases h : n = 0
   · subst h; rw [digs_zero]; exact Dig.nil
   · rw [digs_pos h]
     exact Dig.cons (by omega) (ih _ (by omega))
theorem canon {l : List Int} (hd : Dig l) (ht : Top l) : ∀ {n : Nat}, val l = n → l = digs n := by
 induction l with
 | nil =>
   intro n h
   have : n = 0 := by simp only [val] at h; omega
   subst this
   rw [digs_zero]
 | cons x xs ih =>
   intro n h
   have hx := hd.head
   have hv := val_nonneg hd.tail
   simp only [val] at h
   have hts : Top xs := fun hne => by have := ht (by simp); rwa [List.getLast_cons hne] at this
   have e := ih hd.tail hts (n := n / 4294967296) (by omega)
   have hn : n ≠ 0 := by
     intro h0
     subst h0
     by_cases hxs : xs = []
     · subst hxs
       have := ht (by simp)
       simp only [List.getLast_singleton] at this
       simp only [val] at h
       omega
     · rw [show (0 / 4294967296 : Nat) = 0 from rfl, digs_zero] at e
       exact hxs e
   rw [digs_pos hn, ← e]
   congr 1
   omega
theorem len_digs_le {n L : Nat} (h : n < 4294967296 ^ L) : (digs n).length ≤ L := by
 induction L generalizing n with
 | zero =>
   have : n = 0 := by simp at h; exact h
   subst this
   simp [digs_zero]
 | succ L ih =>
   by_cases h0 : n = 0
   · subst h0; simp [digs_zero]
   · rw [digs_pos h0, List.length_cons]
     have := ih (n := n / 4294967296) (by rw [Nat.pow_succ, Nat.mul_comm] at h; exact Nat.div_lt_of_lt_mul h)
     omega
theorem lt_of_len (n : Nat) : n < 4294967296 ^ (digs n).length := by
 have := val_lt (dig_digs n)
 rw [val_digs] at this
 have e : ((4294967296 ^ (digs n).length : Nat) : Int) = (4294967296 : Int) ^ (digs n).length := by simp
 rw [← e] at this
 exact Int.ofNat_lt.1 this
theorem len_digs_lt {a b : Nat} (h : (digs a).length < (digs b).length) : a < b := by
 rcases Nat.lt_or_ge a b with h1 | h1
 · exact h1
 · have := len_digs_le (n := b) (L := (digs a).length) (Nat.lt_of_le_of_lt h1 (lt_of_len a))
   omega
theorem len_digs_mono {a b : Nat} (h : a ≤ b) : (digs a).length ≤ (digs b).length := len_digs_le (Nat.lt_of_le_of_lt h (lt_of_len b))
theorem digs_nil {n : Nat} : digs n = [] ↔ n = 0 := ⟨fun h => Classical.byContradiction fun hn => digs_ne hn h, fun h => by rw [h, digs_zero]⟩
theorem len_pos {n : Nat} (h : n ≠ 0) : 0 < (digs n).length := List.length_pos_iff.2 (digs_ne h)
theorem len_zero {n : Nat} : (digs n).length = 0 ↔ n = 0 := by rw [List.length_eq_zero_iff, digs_nil]
end Go.Proofs.YteohmbannpbokaaGreatDoor.H32
