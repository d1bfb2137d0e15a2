/-
 FnExpFixed: the law's walk.
-/
import Derived.Test.YteohmbannpbokaaGreatDoorJ20
import Derived.Test.YteohmbannpbokaaGreatDoorJ35
import Derived.Test.YteohmbannpbokaaGreatDoorJ39
set_option maxRecDepth 100000
set_option exponentiation.threshold 2000
set_option linter.unusedVariables false
set_option linter.unusedSimpArgs false
namespace Go.Proofs.YteohmbannpbokaaGreatDoor.LawExp
open Go.RowKit Go.Proofs.YteohmbannpbokaaGreatDoorW.PrintWords Go.Proofs.YteohmbannpbokaaGreatDoorW.PrintLast Go.Proofs.YteohmbannpbokaaGreatDoorW.PrintMore Go.Proofs.YteohmbannpbokaaGreatDoor.Digs Go.Proofs.YteohmbannpbokaaGreatDoor.StrLaw Go.Proofs.YteohmbannpbokaaGreatDoor.NatLaw Go.Proofs.YteohmbannpbokaaGreatDoor.NatWalk Go.Proofs.YteohmbannpbokaaGreatDoor.SpecWalk Go.Proofs.YteohmbannpbokaaGreatDoor.TextLaw Go.Proofs.YteohmbannpbokaaGreatDoor.TextWalk Go.Proofs.YteohmbannpbokaaGreatDoor.ExpLaw Go.Proofs.YteohmbannpbokaaGreatDoor.WordWalk
theorem below_all {B : Nat} {w0 w w1 : World} (h : Below B w0 w) (k : Below w.heap.size w w1) (hB : B ≤ w.heap.size) : Below B w0 w1 := below_trans h (below_less k hB) hB
set_option maxHeartbeats 8000000 in
theorem law_size (x : ByteArray) (z : Int) (neg : Bool) (w : World) (hx : 2147483647 < x.size) :
   Calls Tryz.prog 3 #[.string x, .int .i64 z, .bool neg] w fun e w' => e = .returned (.bool true) ∧ Below w.heap.size w w' := by
 have h1 : (2147483647 : Int) < (x.size : Int) := by omega
 have h2 := eq_true h1
 clear hx
 go_enter Tryz.func3, Tryz.ntmps3
 go_wp2
 go_ret
 exact ⟨rfl, Below.refl _ _⟩
theorem len_pow {n b m : Nat} (h : n < 2 ^ b) (hb : b ≤ m) : (digs n).length ≤ m := Nat.le_trans (len_le_nd n) (nd_pow h hb)
theorem sc_len {X : Int} {b p : Nat} (hX : X.natAbs < 2 ^ b) (hb : b ≤ 200) (hp : p ≤ 400) : (digs (scL X (2 ^ b) p).natAbs).length ≤ 10000 ∧ (digs (scH X (2 ^ b) p).natAbs).length ≤ 10000 := by
 have key : ∀ Y : Int, Y.natAbs < 2 ^ b → (digs (Y * 10 ^ p / ((2 ^ b : Nat) : Int)).natAbs).length ≤ 10000 := by
   intro Y hY
   have h1 : (Y * 10 ^ p / ((2 ^ b : Nat) : Int)).natAbs ≤ (Y * 10 ^ p).natAbs := Int.natAbs_ediv_le_natAbs _ _
   have h2 : (Y * 10 ^ p).natAbs = Y.natAbs * 10 ^ p := by rw [Int.natAbs_mul, Int.natAbs_pow]; rfl
   have h3 : Y.natAbs * 10 ^ p < 1000000000 ^ (b + p) := by
     rw [Nat.pow_add]
     exact Nat.mul_lt_mul_of_lt_of_le (Nat.lt_of_lt_of_le hY (Nat.pow_le_pow_left (by decide) b)) (Nat.pow_le_pow_left (by decide) p) (Nat.pow_pos (by decide))
   exact Nat.le_trans (len_digs_le (L := b + p) (by omega)) (by omega)
 refine ⟨key X hX, ?_⟩
 have h := key (-X) (by rw [Int.natAbs_neg]; exact hX)
 unfold scH
 rw [Int.natAbs_neg]
 exact h
set_option maxHeartbeats 1000000 in
theorem lnb_n (A X : Int) (b : Nat) (oa ob oy od : Nat → Prop) (v u v' u' : Value) (w : World) (hv : Rdv w oa v A.natAbs) (hu : Rdv w ob u (2 ^ b)) (hv' : Rdv w oy v' X.natAbs) (hu' : Rdv w od u' (2 ^ b)) (hA : 0 < A) (hA2 : A.natAbs < 2 ^ (b + 4)) (hX : X.natAbs < 2 ^ b) (hb : b ≤ 200) :
   Calls Tryz.prog 11 #[.agg #[.bool (ng A), v, u], .agg #[.bool (ng X), v', u'], .int .i64 ((b / 3 + 5 : Nat) : Int)] w fun en w' => ∃ r : Int, en = .returned (.int .i64 r) ∧ Aside0 (Judged A.natAbs (2 ^ b) X (2 ^ b) r) ∧ Below w.heap.size w w' := by
 have e : ng A = false := decide_eq_false (by omega)
 rw [e]
 have hp : 0 < 2 ^ b := Nat.pow_pos (by decide)
 exact LnBeside_n A.natAbs (2 ^ b) X (2 ^ b) (b / 3 + 5) oa ob oy od v u v' u' w hv hu hv' hu' (by omega) hp (Nat.lt_of_lt_of_le hA2 (Nat.pow_le_pow_right (by decide) (by omega))) (Nat.pow_lt_pow_right (by decide) (by omega)) (by omega) hp (len_pow hX (by omega)) (len_pow (Nat.pow_lt_pow_right (by decide) (Nat.lt_succ_self b)) (by omega)) (fun p hp => sc_len hX hb hp)
structure Two (W : World) (ga gl : Nat) (sx sl sh : Bool) (xv tv lv hv : Value) (X : Int) (b : Nat) (R : Int) : Prop where
 mk :: (box : Box W ga [.bool sx, xv, tv] ∧ Box W gl [.bool sl, lv, tv] ∧ Box W (gl + 1) [.bool sh, hv, tv]) (num : (∃ o, Rdv W o xv X.natAbs) ∧ (∃ o, Rdv W o tv (2 ^ b)) ∧ (∃ o, Rdv W o lv (R - 2).natAbs) ∧ (∃ o, Rdv W o hv (R + 2).natAbs))
theorem Two.below {W W' : World} {ga gl : Nat} {sx sl sh : Bool} {xv tv lv hv : Value} {X : Int} {b : Nat} {R : Int} (h : Two W ga gl sx sl sh xv tv lv hv X b R) (hb : Below W.heap.size W W') : Two W' ga gl sx sl sh xv tv lv hv X b R := by
 obtain ⟨⟨a1, a2, a3⟩, ⟨o1, b1⟩, ⟨o2, b2⟩, ⟨o3, b3⟩, ⟨o4, b4⟩⟩ := h
 exact ⟨⟨a1.below hb, a2.below hb, a3.below hb⟩, ⟨o1, b1.below hb⟩, ⟨o2, b2.below hb⟩, ⟨o3, b3.below hb⟩, ⟨o4, b4.below hb⟩⟩
set_option maxHeartbeats 8000000 in
theorem law_plus (x : ByteArray) (z : Int) (w : World) (hx : x.size ≤ 2147483647) (hT : Thr w) (h3 : 3 ≤ w.heap.size) :
   Calls Tryz.prog 3 #[.string x, .int .i64 z, .bool false] w fun e w' => e = .returned (.bool true) ∧ Below w.heap.size w w' := by
 have hu : 0 ≤ IntKind.u64.wrap z ∧ IntKind.u64.wrap z < 18446744073709551616 := by rw [u64_w]; omega
 obtain ⟨b, hbz, hb0, hb1⟩ : ∃ b : Nat, (b : Int) = 20 + IntKind.u64.wrap z % 181 ∧ 20 ≤ b ∧ b ≤ 200 := ⟨(20 + IntKind.u64.wrap z % 181).toNat, by omega, by omega, by omega⟩
 have hm : wrap64 (20 + wrap64 ((IntKind.u64.wrap z).tmod 181)) = (b : Int) := by
   rw [Int.tmod_eq_emod_of_nonneg hu.1, hbz]; unfold wrap64; omega
 have H5 := Aside0.mk (arBits_n x b w hx (by omega))
 have hxs : ¬ (2147483647 < (x.size : Int)) := by omega
 have i1 : 20 ≤ (b : Int) := by omega
 have i2 : (b : Int) ≤ 200 := by omega
 have hq0 : (b : Int).tdiv 3 = (b : Int) / 3 := Int.tdiv_eq_ediv_of_nonneg (by omega)
 have hq1 : (b : Int) / 3 ≤ 66 := by omega
 have hq2 : 0 ≤ (b : Int) / 3 := by omega
 have HX := Aside0.mk (And.intro hb0 (And.intro hb1 (And.intro hT h3)))
 clear hbz hu hx hT h3
 go_enter Tryz.func3, Tryz.ntmps3
 go_wp2_with (go_at_call 5; (with_reducible refine H5.out.mono ?_); rintro e w1 ⟨n, zv, tv, rfl, hn, hz, ht, hb⟩; obtain ⟨A, c, rfl, _, _⟩ := hz.form; obtain ⟨B, d, rfl, _, _⟩ := ht.form; have H1 := Aside0.mk (And.intro hn.out (And.intro hz (And.intro ht hb))); clear hn hz ht hb)
 have hba : Box (w1.alloc (Obj.cells #[.bool false, .slice A (digs n).length c, .slice B (digs (2 ^ b)).length d] 30)) w1.heap.size [.bool false, .slice A (digs n).length c, .slice B (digs (2 ^ b)).length d] := Box.new3 _ _ _ _ _ _ rfl
 have hbb : Below w1.heap.size w1 (w1.alloc (Obj.cells #[.bool false, .slice A (digs n).length c, .slice B (digs (2 ^ b)).length d] 30)) := (Below.refl _ _).alloc (Nat.le_refl _) _
 generalize w1.alloc (Obj.cells #[.bool false, .slice A (digs n).length c, .slice B (digs (2 ^ b)).length d] 30) = W0 at *
 obtain ⟨X, hXd⟩ : ∃ X : Int, X = (n : Int) := ⟨_, rfl⟩
 have es : decide (X < 0) = false := decide_eq_false (by omega)
 have en : X.natAbs = n := by omega
 have HN := Aside0.mk H1.out.1
 have HA := Aside0.mk (And.intro hba (And.intro (H1.out.2.1.below hbb) (And.intro (H1.out.2.2.1.below hbb) (below_all H1.out.2.2.2 hbb H1.out.2.2.2.size))))
 clear hba hbb hXd H1
 have HS := Aside0.mk (fun w (h : Below W0.heap.size W0 w) => WholeString_n false n _ _ w (HA.out.2.1.below h) (by
   have h1 := nd_pow (m := 400) HN.out (by have := HX.out; omega)
   omega))
 have HDR0 : ∀ w1 : World, Below W0.heap.size W0 w1 → Calls Tryz.prog 7 #[.string (stext false n), .int .i64 b] w1 fun e w' => ∃ j g N R, e = .returned (.tuple #[.string (stext (ng R) R.natAbs), .int .i64 2, .int .i64 0]) ∧ ExpOut X b j g N R ∧ R.natAbs ≤ 6 * 2 ^ b ∧ Below w1.heap.size w1 w' := by
   intro w2 hb2
   have h := door_exp X b w2 (by rw [en]; exact HN.out) HX.out.1 HX.out.2.1 (HX.out.2.2.1.kept (P := fun _ => False) (KeptP.ofBelow (below_all HA.out.2.2.2 hb2 HA.out.2.2.2.size)) (fun _ h => h.elim)) (Nat.le_trans HX.out.2.2.2 (Nat.le_trans HA.out.2.2.2.size hb2.size))
   rw [es, en] at h
   exact h
 have HDR := Aside0.mk HDR0
 clear HDR0
 go_wp2_with (first | (go_at_call 8; (with_reducible refine (HS.out _ (Below.refl _ _)).mono ?_); rintro e w2 ⟨rfl, hb⟩; have HB2 := Aside0.mk hb; clear hb) | (go_at_call 7; (with_reducible refine (HDR.out _ HB2.out).mono ?_); rintro e w3 ⟨j, g, N, R, rfl, ho, hr, hb⟩; have HO := Aside0.mk (And.intro ho hr); have HB3 := Aside0.mk (below_all HB2.out hb HB2.out.size); clear ho hr hb))
 have hr3 : R.natAbs < 2 ^ (b + 3) := by
   have h1 := HO.out.2
   have h2 : 0 < 2 ^ b := Nat.pow_pos (by decide)
   rw [Nat.pow_add]
   omega
 have HWI := Aside0.mk (arWithin_n R 2 (2 ^ b) _ _ w3 (HA.out.2.2.1.below HB3.out) (nd_pow (m := 1000) hr3 (by have := HX.out; omega)) ⟨by decide, by decide⟩)
 go_wp2_with (go_at_call 9; (with_reducible refine HWI.out.mono ?_); rintro e w4 ⟨lv, uv, rfl, hl, hu, hb⟩; obtain ⟨A1, c1, rfl, _, _⟩ := hl.form; obtain ⟨A2, c2, rfl, _, _⟩ := hu.form; have H4 := Aside0.mk (And.intro hl (And.intro hu (below_all HB3.out hb HB3.out.size))); clear hl hu hb)
 have hlx : Box ((w4.alloc (Obj.cells #[.bool (ng (R - 2)), .slice A1 (digs (R - 2).natAbs).length c1, .slice B (digs (2 ^ b)).length d] 30)).alloc (Obj.cells #[.bool (ng (R + 2)), .slice A2 (digs (R + 2).natAbs).length c2, .slice B (digs (2 ^ b)).length d] 30)) w4.heap.size [.bool (ng (R - 2)), .slice A1 (digs (R - 2).natAbs).length c1, .slice B (digs (2 ^ b)).length d] := (Box.new3 _ _ _ _ _ _ rfl).alloc _
 have hhx : Box ((w4.alloc (Obj.cells #[.bool (ng (R - 2)), .slice A1 (digs (R - 2).natAbs).length c1, .slice B (digs (2 ^ b)).length d] 30)).alloc (Obj.cells #[.bool (ng (R + 2)), .slice A2 (digs (R + 2).natAbs).length c2, .slice B (digs (2 ^ b)).length d] 30)) (w4.heap.size + 1) [.bool (ng (R + 2)), .slice A2 (digs (R + 2).natAbs).length c2, .slice B (digs (2 ^ b)).length d] := Box.new3 _ _ _ _ _ _ (by simp)
 have hbb : Below w4.heap.size w4 ((w4.alloc (Obj.cells #[.bool (ng (R - 2)), .slice A1 (digs (R - 2).natAbs).length c1, .slice B (digs (2 ^ b)).length d] 30)).alloc (Obj.cells #[.bool (ng (R + 2)), .slice A2 (digs (R + 2).natAbs).length c2, .slice B (digs (2 ^ b)).length d] 30)) := ((Below.refl _ _).alloc (Nat.le_refl _) _).alloc (by simp) _
 generalize ((w4.alloc (Obj.cells #[.bool (ng (R - 2)), .slice A1 (digs (R - 2).natAbs).length c1, .slice B (digs (2 ^ b)).length d] 30)).alloc (Obj.cells #[.bool (ng (R + 2)), .slice A2 (digs (R + 2).natAbs).length c2, .slice B (digs (2 ^ b)).length d] 30)) = W5 at *
 have hb05 := below_all H4.out.2.2 hbb H4.out.2.2.size
 have H5b : Aside0 (Two W5 w1.heap.size w4.heap.size false (ng (R - 2)) (ng (R + 2)) (.slice A (digs n).length c) (.slice B (digs (2 ^ b)).length d) (.slice A1 (digs (R - 2).natAbs).length c1) (.slice A2 (digs (R + 2).natAbs).length c2) X b R ∧ Below w.heap.size w W5) := by
   obtain ⟨q1, q2, q3, q4⟩ := HA.out
   refine ⟨⟨⟨q1.below hb05, hlx, hhx⟩, ⟨⟨_, by rw [en]; exact q2.below hb05⟩, ⟨_, q3.below hb05⟩, ⟨_, H4.out.1.below hbb⟩, ⟨_, H4.out.2.1.below hbb⟩⟩⟩, below_all q4 hb05 q4.size⟩
 clear hlx hhx hbb hb05 HWI H4 HDR HS
 obtain ⟨hR0, hJ1, hJ2⟩ := exp_judged (by rw [en]; exact HN.out) HX.out.1 HO.out.1
 have hc2 : cmpI (R + 2) 0 = 1 := by unfold cmpI; rw [if_neg (by omega), if_neg (by omega)]
 have hgl : ∀ A : Int, A.natAbs < 2 ^ (b + 4) → (digs A.natAbs).length ≤ 4000000000 := fun A hA => Nat.le_trans (len_pow (m := 400) hA (by have := HX.out; omega)) (by decide)
 have hr4 : (R - 2).natAbs < 2 ^ (b + 4) ∧ (R + 2).natAbs < 2 ^ (b + 4) := by
   have h2 : 1 < 2 ^ b := Nat.one_lt_two_pow (by have := HX.out; omega)
   have e1 : 2 ^ (b + 3) = 2 ^ b * 8 := by rw [Nat.pow_add]
   have e2 : 2 ^ (b + 4) = 2 ^ b * 16 := by rw [Nat.pow_add]
   omega
 have HSH0 := fun (W : World) (h : Two W w1.heap.size w4.heap.size false (ng (R - 2)) (ng (R + 2)) (.slice A (digs n).length c) (.slice B (digs (2 ^ b)).length d) (.slice A1 (digs (R - 2).natAbs).length c1) (.slice A2 (digs (R + 2).natAbs).length c2) X b R) => WSign_n (R + 2) _ _ W h.num.2.2.2.choose_spec (hgl _ hr4.2)
 rw [hc2] at HSH0
 have HSH := Aside0.mk HSH0
 have HSL := Aside0.mk (fun (W : World) (h : Two W w1.heap.size w4.heap.size false (ng (R - 2)) (ng (R + 2)) (.slice A (digs n).length c) (.slice B (digs (2 ^ b)).length d) (.slice A1 (digs (R - 2).natAbs).length c1) (.slice A2 (digs (R + 2).natAbs).length c2) X b R) => WSign_n (R - 2) _ _ W h.num.2.2.1.choose_spec (hgl _ hr4.1))
 have ep : ((b / 3 + 5 : Nat) : Int) = (b : Int) / 3 + 5 := rfl
 have HLH0 := fun (W : World) (h : Two W w1.heap.size w4.heap.size false (ng (R - 2)) (ng (R + 2)) (.slice A (digs n).length c) (.slice B (digs (2 ^ b)).length d) (.slice A1 (digs (R - 2).natAbs).length c1) (.slice A2 (digs (R + 2).natAbs).length c2) X b R) => lnb_n (R + 2) X b _ _ _ _ _ _ _ _ W h.num.2.2.2.choose_spec h.num.2.1.choose_spec h.num.1.choose_spec h.num.2.1.choose_spec (by omega) hr4.2 (by rw [en]; exact HN.out) HX.out.2.1
 have HLL0 := fun (hlow : 0 < R - 2) (W : World) (h : Two W w1.heap.size w4.heap.size false (ng (R - 2)) (ng (R + 2)) (.slice A (digs n).length c) (.slice B (digs (2 ^ b)).length d) (.slice A1 (digs (R - 2).natAbs).length c1) (.slice A2 (digs (R + 2).natAbs).length c2) X b R) => lnb_n (R - 2) X b _ _ _ _ _ _ _ _ W h.num.2.2.1.choose_spec h.num.2.1.choose_spec h.num.1.choose_spec h.num.2.1.choose_spec hlow hr4.1 (by rw [en]; exact HN.out) HX.out.2.1
 rw [ep] at HLH0 HLL0
 rw [show ng X = false from es] at HLH0 HLL0
 have HLH := Aside0.mk HLH0
 have HLL := Aside0.mk HLL0
 have HJ1 := Aside0.mk hJ1
 have HJ2 := Aside0.mk hJ2
 have hcl : (0 < R - 2 ∧ cmpI (R - 2) 0 = 1) ∨ cmpI (R - 2) 0 ≤ 0 := by
   unfold cmpI
   split
   · exact .inr (by decide)
   · split
     · exact .inr (by decide)
     · exact .inl ⟨by omega, rfl⟩
 have HR0 := Aside0.mk hR0
 clear hc2 hgl hr4 HSH0 ep HLH0 HLL0 hJ1 hJ2 hr3 hR0
 generalize (digs n).length = ln at *
 generalize (digs (2 ^ b)).length = lb at *
 generalize (digs (R - 2).natAbs).length = l1 at *
 generalize (digs (R + 2).natAbs).length = l2 at *
 generalize ng (R - 2) = s1 at *
 generalize ng (R + 2) = s2 at *
 go_wp2_with (go_at_call 10; (with_reducible refine (HSH.out _ H5b.out.1).mono ?_); rintro e w6 ⟨rfl, hb⟩; have t6 := H5b.out.1.below hb; have H6 := Aside0.mk (And.intro t6 (below_all H5b.out.2 hb H5b.out.2.size)); obtain ⟨⟨x6, l6, h6⟩, _⟩ := t6; have cx60 := x6.c0; have cx61 := x6.c1; have cx62 := x6.c2; have cl60 := l6.c0; have cl61 := l6.c1; have cl62 := l6.c2; have ch60 := h6.c0; have ch61 := h6.c1; have ch62 := h6.c2; clear x6 l6 h6; clear hb)
 rcases hcl with ⟨hlow, hc1⟩ | hc1
 · rw [hc1] at HSL
   have HL0 := Aside0.mk (HLL.out hlow)
   have HJ1' := Aside0.mk (HJ1.out hlow)
   clear hlow hc1 HLL HJ1
   go_wp2_with (go_at_call 10; (with_reducible refine (HSL.out _ H6.out.1).mono ?_); rintro e w7 ⟨rfl, hb⟩; have t7 := H6.out.1.below hb; have H7 := Aside0.mk (And.intro t7 (below_all H6.out.2 hb H6.out.2.size)); obtain ⟨⟨x7, l7, h7⟩, _⟩ := t7; have cx70 := x7.c0; have cx71 := x7.c1; have cx72 := x7.c2; have cl70 := l7.c0; have cl71 := l7.c1; have cl72 := l7.c2; have ch70 := h7.c0; have ch71 := h7.c1; have ch72 := h7.c2; clear x7 l7 h7; clear hb)
   go_wp2_with (go_at_call 11; (with_reducible refine (HL0.out _ H7.out.1).mono ?_); rintro e w8 ⟨r1, rfl, hr1, hb⟩; have t8 := H7.out.1.below hb; have H8 := Aside0.mk (And.intro t8 (below_all H7.out.2 hb H7.out.2.size)); obtain ⟨⟨x8, l8, h8⟩, _⟩ := t8; have cx80 := x8.c0; have cx81 := x8.c1; have cx82 := x8.c2; have cl80 := l8.c0; have cl81 := l8.c1; have cl82 := l8.c2; have ch80 := h8.c0; have ch81 := h8.c1; have ch82 := h8.c2; clear x8 l8 h8; have hne1 : (r1 != 1) = true := bne_iff_ne.mpr (fun e => HJ1'.out (e ▸ hr1.out)); clear hb hr1)
   go_wp2_with (go_at_call 11; (with_reducible refine (HLH.out _ H8.out.1).mono ?_); rintro e w9 ⟨r2, rfl, hr2, hb⟩; have H9 := Aside0.mk (below_all H8.out.2 hb H8.out.2.size); have hne2 : (r2 != -1) = true := bne_iff_ne.mpr (fun e => HJ2.out (e ▸ hr2.out)); clear hb hr2)
   go_ret
   exact ⟨rfl, H9.out⟩
 · generalize cmpI (R - 2) 0 = cc at *
   have hc1' := decide_eq_true hc1
   go_wp2_with (go_at_call 10; (with_reducible refine (HSL.out _ H6.out.1).mono ?_); rintro e w7 ⟨rfl, hb⟩; have t7 := H6.out.1.below hb; have H7 := Aside0.mk (And.intro t7 (below_all H6.out.2 hb H6.out.2.size)); obtain ⟨⟨x7, l7, h7⟩, _⟩ := t7; have cx70 := x7.c0; have cx71 := x7.c1; have cx72 := x7.c2; have cl70 := l7.c0; have cl71 := l7.c1; have cl72 := l7.c2; have ch70 := h7.c0; have ch71 := h7.c1; have ch72 := h7.c2; clear x7 l7 h7; clear hb)
   go_wp2_with (go_at_call 11; (with_reducible refine (HLH.out _ H7.out.1).mono ?_); rintro e w9 ⟨r2, rfl, hr2, hb⟩; have H9 := Aside0.mk (below_all H7.out.2 hb H7.out.2.size); have hne2 : (r2 != -1) = true := bne_iff_ne.mpr (fun e => HJ2.out (e ▸ hr2.out)); clear hb hr2)
   go_ret
   exact ⟨rfl, H9.out⟩
set_option maxHeartbeats 8000000 in
theorem law_minus (x : ByteArray) (z : Int) (w : World) (hx : x.size ≤ 2147483647) (hT : Thr w) (h3 : 3 ≤ w.heap.size) :
   Calls Tryz.prog 3 #[.string x, .int .i64 z, .bool true] w fun e w' => e = .returned (.bool true) ∧ Below w.heap.size w w' := by
 have hu : 0 ≤ IntKind.u64.wrap z ∧ IntKind.u64.wrap z < 18446744073709551616 := by rw [u64_w]; omega
 obtain ⟨b, hbz, hb0, hb1⟩ : ∃ b : Nat, (b : Int) = 20 + IntKind.u64.wrap z % 181 ∧ 20 ≤ b ∧ b ≤ 200 := ⟨(20 + IntKind.u64.wrap z % 181).toNat, by omega, by omega, by omega⟩
 have hm : wrap64 (20 + wrap64 ((IntKind.u64.wrap z).tmod 181)) = (b : Int) := by
   rw [Int.tmod_eq_emod_of_nonneg hu.1, hbz]; unfold wrap64; omega
 have H5 := Aside0.mk (arBits_n x b w hx (by omega))
 have hxs : ¬ (2147483647 < (x.size : Int)) := by omega
 have i1 : 20 ≤ (b : Int) := by omega
 have i2 : (b : Int) ≤ 200 := by omega
 have hq0 : (b : Int).tdiv 3 = (b : Int) / 3 := Int.tdiv_eq_ediv_of_nonneg (by omega)
 have hq1 : (b : Int) / 3 ≤ 66 := by omega
 have hq2 : 0 ≤ (b : Int) / 3 := by omega
 have HX := Aside0.mk (And.intro hb0 (And.intro hb1 (And.intro hT h3)))
 clear hbz hu hx hT h3
 go_enter Tryz.func3, Tryz.ntmps3
 go_wp2_with (go_at_call 5; (with_reducible refine H5.out.mono ?_); rintro e w1 ⟨n, zv, tv, rfl, hn, hz, ht, hb⟩; obtain ⟨A, c, rfl, _, _⟩ := hz.form; obtain ⟨B, d, rfl, _, _⟩ := ht.form; have H1 := Aside0.mk (And.intro hn.out (And.intro hz (And.intro ht hb))); clear hn hz ht hb)
 have hba : Box (w1.alloc (Obj.cells #[.bool false, .slice A (digs n).length c, .slice B (digs (2 ^ b)).length d] 30)) w1.heap.size [.bool false, .slice A (digs n).length c, .slice B (digs (2 ^ b)).length d] := Box.new3 _ _ _ _ _ _ rfl
 have hbb : Below w1.heap.size w1 (w1.alloc (Obj.cells #[.bool false, .slice A (digs n).length c, .slice B (digs (2 ^ b)).length d] 30)) := (Below.refl _ _).alloc (Nat.le_refl _) _
 have hbs : w1.heap.size < (w1.alloc (Obj.cells #[.bool false, .slice A (digs n).length c, .slice B (digs (2 ^ b)).length d] 30)).heap.size := by simp
 generalize w1.alloc (Obj.cells #[.bool false, .slice A (digs n).length c, .slice B (digs (2 ^ b)).length d] 30) = V0 at *
 obtain ⟨X, hXd⟩ : ∃ X : Int, X = -(n : Int) := ⟨_, rfl⟩
 obtain ⟨sg, hsg⟩ : ∃ sg : Bool, sg = sgn (!false) n := ⟨_, rfl⟩
 have es : decide (X < 0) = sg := by
   rw [hsg]
   unfold sgn
   by_cases h0 : 0 < n
   · rw [decide_eq_true (show X < 0 by omega), decide_eq_true h0]; rfl
   · rw [decide_eq_false (show ¬ X < 0 by omega), decide_eq_false h0]; rfl
 have en : X.natAbs = n := by omega
 have HN := Aside0.mk H1.out.1
 have HF := Aside0.mk (FracMinus_n false n (2 ^ b) _ _ _ _ V0 (H1.out.2.1.below hbb) (H1.out.2.2.1.below hbb))
 rw [← hsg] at HF
 have HV := Aside0.mk (And.intro hba (And.intro hbb hbs))
 clear hba hbb hbs hXd hsg
 go_wp2_with (go_at_call 6; (with_reducible refine HF.out.mono ?_); rintro e v1 ⟨rfl, hbv⟩; have hvx := HV.out.1.below hbv; have u0 := hvx.c0; have u1 := hvx.c1; have u2 := hvx.c2; have u3 := hvx.f0; have u4 := hvx.f1; have u5 := hvx.f2; have HV1 := Aside0.mk (And.intro hvx hbv); clear hvx hbv)
 have hba := HV1.out.1.put3' (.bool sg) (.slice A (digs n).length c) (.slice B (digs (2 ^ b)).length d)
 have hbe : Below w.heap.size w v1 := below_all (below_all H1.out.2.2.2 HV.out.2.1 H1.out.2.2.2.size) HV1.out.2 (Nat.le_trans H1.out.2.2.2.size HV.out.2.1.size)
 have hbw := below3 hbe (g := w1.heap.size) H1.out.2.2.2.size (.bool sg) (.slice A (digs n).length c) (.slice B (digs (2 ^ b)).length d)
 have hz := ((H1.out.2.1.bound.below HV.out.2.1).below HV1.out.2).far3 (g := w1.heap.size) (fun k hk => by have := hk.2; omega) (.bool sg) (.slice A (digs n).length c) (.slice B (digs (2 ^ b)).length d)
 have ht := ((H1.out.2.2.1.bound.below HV.out.2.1).below HV1.out.2).far3 (g := w1.heap.size) (fun k hk => by have := hk.2; omega) (.bool sg) (.slice A (digs n).length c) (.slice B (digs (2 ^ b)).length d)
 generalize (((v1.setCell ⟨w1.heap.size, 0, none⟩ (.bool sg)).setCell ⟨w1.heap.size, 1, none⟩ (.slice A (digs n).length c)).setCell ⟨w1.heap.size, 2, none⟩ (.slice B (digs (2 ^ b)).length d)) = W0 at *
 have HA := Aside0.mk (And.intro hba (And.intro (hz.mono (ok' := fun k => w.heap.size ≤ k) (fun k hk => hk.1)) (And.intro (ht.mono (ok' := fun k => w.heap.size ≤ k) (fun k hk => hk.1)) hbw)))
 clear hba hbe hbw hz ht u0 u1 u2 u3 u4 u5 H1
 have HS := Aside0.mk (fun w (h : Below W0.heap.size W0 w) => WholeString_n sg n _ _ w (HA.out.2.1.below h) (by
   have h1 := nd_pow (m := 400) HN.out (by have := HX.out; omega)
   omega))
 have HDR0 : ∀ w1 : World, Below W0.heap.size W0 w1 → Calls Tryz.prog 7 #[.string (stext sg n), .int .i64 b] w1 fun e w' => ∃ j g N R, e = .returned (.tuple #[.string (stext (ng R) R.natAbs), .int .i64 2, .int .i64 0]) ∧ ExpOut X b j g N R ∧ R.natAbs ≤ 6 * 2 ^ b ∧ Below w1.heap.size w1 w' := by
   intro w2 hb2
   have h := door_exp X b w2 (by rw [en]; exact HN.out) HX.out.1 HX.out.2.1 (HX.out.2.2.1.kept (P := fun _ => False) (KeptP.ofBelow (below_all HA.out.2.2.2 hb2 HA.out.2.2.2.size)) (fun _ h => h.elim)) (Nat.le_trans HX.out.2.2.2 (Nat.le_trans HA.out.2.2.2.size hb2.size))
   rw [es, en] at h
   exact h
 have HDR := Aside0.mk HDR0
 clear HDR0
 go_wp2_with (first | (go_at_call 8; (with_reducible refine (HS.out _ (Below.refl _ _)).mono ?_); rintro e w2 ⟨rfl, hb⟩; have HB2 := Aside0.mk hb; clear hb) | (go_at_call 7; (with_reducible refine (HDR.out _ HB2.out).mono ?_); rintro e w3 ⟨j, g, N, R, rfl, ho, hr, hb⟩; have HO := Aside0.mk (And.intro ho hr); have HB3 := Aside0.mk (below_all HB2.out hb HB2.out.size); clear ho hr hb))
 have hr3 : R.natAbs < 2 ^ (b + 3) := by
   have h1 := HO.out.2
   have h2 : 0 < 2 ^ b := Nat.pow_pos (by decide)
   rw [Nat.pow_add]
   omega
 have HWI := Aside0.mk (arWithin_n R 2 (2 ^ b) _ _ w3 (HA.out.2.2.1.below HB3.out) (nd_pow (m := 1000) hr3 (by have := HX.out; omega)) ⟨by decide, by decide⟩)
 go_wp2_with (go_at_call 9; (with_reducible refine HWI.out.mono ?_); rintro e w4 ⟨lv, uv, rfl, hl, hu, hb⟩; obtain ⟨A1, c1, rfl, _, _⟩ := hl.form; obtain ⟨A2, c2, rfl, _, _⟩ := hu.form; have H4 := Aside0.mk (And.intro hl (And.intro hu (below_all HB3.out hb HB3.out.size))); clear hl hu hb)
 have hlx : Box ((w4.alloc (Obj.cells #[.bool (ng (R - 2)), .slice A1 (digs (R - 2).natAbs).length c1, .slice B (digs (2 ^ b)).length d] 30)).alloc (Obj.cells #[.bool (ng (R + 2)), .slice A2 (digs (R + 2).natAbs).length c2, .slice B (digs (2 ^ b)).length d] 30)) w4.heap.size [.bool (ng (R - 2)), .slice A1 (digs (R - 2).natAbs).length c1, .slice B (digs (2 ^ b)).length d] := (Box.new3 _ _ _ _ _ _ rfl).alloc _
 have hhx : Box ((w4.alloc (Obj.cells #[.bool (ng (R - 2)), .slice A1 (digs (R - 2).natAbs).length c1, .slice B (digs (2 ^ b)).length d] 30)).alloc (Obj.cells #[.bool (ng (R + 2)), .slice A2 (digs (R + 2).natAbs).length c2, .slice B (digs (2 ^ b)).length d] 30)) (w4.heap.size + 1) [.bool (ng (R + 2)), .slice A2 (digs (R + 2).natAbs).length c2, .slice B (digs (2 ^ b)).length d] := Box.new3 _ _ _ _ _ _ (by simp)
 have hbb : Below w4.heap.size w4 ((w4.alloc (Obj.cells #[.bool (ng (R - 2)), .slice A1 (digs (R - 2).natAbs).length c1, .slice B (digs (2 ^ b)).length d] 30)).alloc (Obj.cells #[.bool (ng (R + 2)), .slice A2 (digs (R + 2).natAbs).length c2, .slice B (digs (2 ^ b)).length d] 30)) := ((Below.refl _ _).alloc (Nat.le_refl _) _).alloc (by simp) _
 generalize ((w4.alloc (Obj.cells #[.bool (ng (R - 2)), .slice A1 (digs (R - 2).natAbs).length c1, .slice B (digs (2 ^ b)).length d] 30)).alloc (Obj.cells #[.bool (ng (R + 2)), .slice A2 (digs (R + 2).natAbs).length c2, .slice B (digs (2 ^ b)).length d] 30)) = W5 at *
 have hb05 := below_all H4.out.2.2 hbb H4.out.2.2.size
 have H5b : Aside0 (Two W5 w1.heap.size w4.heap.size sg (ng (R - 2)) (ng (R + 2)) (.slice A (digs n).length c) (.slice B (digs (2 ^ b)).length d) (.slice A1 (digs (R - 2).natAbs).length c1) (.slice A2 (digs (R + 2).natAbs).length c2) X b R ∧ Below w.heap.size w W5) := by
   obtain ⟨q1, q2, q3, q4⟩ := HA.out
   refine ⟨⟨⟨q1.below hb05, hlx, hhx⟩, ⟨⟨_, by rw [en]; exact q2.below hb05⟩, ⟨_, q3.below hb05⟩, ⟨_, H4.out.1.below hbb⟩, ⟨_, H4.out.2.1.below hbb⟩⟩⟩, below_all q4 hb05 q4.size⟩
 clear hlx hhx hbb hb05 HWI H4 HDR HS
 obtain ⟨hR0, hJ1, hJ2⟩ := exp_judged (by rw [en]; exact HN.out) HX.out.1 HO.out.1
 have hc2 : cmpI (R + 2) 0 = 1 := by unfold cmpI; rw [if_neg (by omega), if_neg (by omega)]
 have hgl : ∀ A : Int, A.natAbs < 2 ^ (b + 4) → (digs A.natAbs).length ≤ 4000000000 := fun A hA => Nat.le_trans (len_pow (m := 400) hA (by have := HX.out; omega)) (by decide)
 have hr4 : (R - 2).natAbs < 2 ^ (b + 4) ∧ (R + 2).natAbs < 2 ^ (b + 4) := by
   have h2 : 1 < 2 ^ b := Nat.one_lt_two_pow (by have := HX.out; omega)
   have e1 : 2 ^ (b + 3) = 2 ^ b * 8 := by rw [Nat.pow_add]
   have e2 : 2 ^ (b + 4) = 2 ^ b * 16 := by rw [Nat.pow_add]
   omega
 have HSH0 := fun (W : World) (h : Two W w1.heap.size w4.heap.size sg (ng (R - 2)) (ng (R + 2)) (.slice A (digs n).length c) (.slice B (digs (2 ^ b)).length d) (.slice A1 (digs (R - 2).natAbs).length c1) (.slice A2 (digs (R + 2).natAbs).length c2) X b R) => WSign_n (R + 2) _ _ W h.num.2.2.2.choose_spec (hgl _ hr4.2)
 rw [hc2] at HSH0
 have HSH := Aside0.mk HSH0
 have HSL := Aside0.mk (fun (W : World) (h : Two W w1.heap.size w4.heap.size sg (ng (R - 2)) (ng (R + 2)) (.slice A (digs n).length c) (.slice B (digs (2 ^ b)).length d) (.slice A1 (digs (R - 2).natAbs).length c1) (.slice A2 (digs (R + 2).natAbs).length c2) X b R) => WSign_n (R - 2) _ _ W h.num.2.2.1.choose_spec (hgl _ hr4.1))
 have ep : ((b / 3 + 5 : Nat) : Int) = (b : Int) / 3 + 5 := rfl
 have HLH0 := fun (W : World) (h : Two W w1.heap.size w4.heap.size sg (ng (R - 2)) (ng (R + 2)) (.slice A (digs n).length c) (.slice B (digs (2 ^ b)).length d) (.slice A1 (digs (R - 2).natAbs).length c1) (.slice A2 (digs (R + 2).natAbs).length c2) X b R) => lnb_n (R + 2) X b _ _ _ _ _ _ _ _ W h.num.2.2.2.choose_spec h.num.2.1.choose_spec h.num.1.choose_spec h.num.2.1.choose_spec (by omega) hr4.2 (by rw [en]; exact HN.out) HX.out.2.1
 have HLL0 := fun (hlow : 0 < R - 2) (W : World) (h : Two W w1.heap.size w4.heap.size sg (ng (R - 2)) (ng (R + 2)) (.slice A (digs n).length c) (.slice B (digs (2 ^ b)).length d) (.slice A1 (digs (R - 2).natAbs).length c1) (.slice A2 (digs (R + 2).natAbs).length c2) X b R) => lnb_n (R - 2) X b _ _ _ _ _ _ _ _ W h.num.2.2.1.choose_spec h.num.2.1.choose_spec h.num.1.choose_spec h.num.2.1.choose_spec hlow hr4.1 (by rw [en]; exact HN.out) HX.out.2.1
 rw [ep] at HLH0 HLL0
 rw [show ng X = sg from es] at HLH0 HLL0
 have HLH := Aside0.mk HLH0
 have HLL := Aside0.mk HLL0
 have HJ1 := Aside0.mk hJ1
 have HJ2 := Aside0.mk hJ2
 have hcl : (0 < R - 2 ∧ cmpI (R - 2) 0 = 1) ∨ cmpI (R - 2) 0 ≤ 0 := by
   unfold cmpI
   split
   · exact .inr (by decide)
   · split
     · exact .inr (by decide)
     · exact .inl ⟨by omega, rfl⟩
 have HR0 := Aside0.mk hR0
 clear hc2 hgl hr4 HSH0 ep HLH0 HLL0 hJ1 hJ2 hr3 hR0
 generalize (digs n).length = ln at *
 generalize (digs (2 ^ b)).length = lb at *
 generalize (digs (R - 2).natAbs).length = l1 at *
 generalize (digs (R + 2).natAbs).length = l2 at *
 generalize ng (R - 2) = s1 at *
 generalize ng (R + 2) = s2 at *
 go_wp2_with (go_at_call 10; (with_reducible refine (HSH.out _ H5b.out.1).mono ?_); rintro e w6 ⟨rfl, hb⟩; have t6 := H5b.out.1.below hb; have H6 := Aside0.mk (And.intro t6 (below_all H5b.out.2 hb H5b.out.2.size)); obtain ⟨⟨x6, l6, h6⟩, _⟩ := t6; have cx60 := x6.c0; have cx61 := x6.c1; have cx62 := x6.c2; have cl60 := l6.c0; have cl61 := l6.c1; have cl62 := l6.c2; have ch60 := h6.c0; have ch61 := h6.c1; have ch62 := h6.c2; clear x6 l6 h6; clear hb)
 rcases hcl with ⟨hlow, hc1⟩ | hc1
 · rw [hc1] at HSL
   have HL0 := Aside0.mk (HLL.out hlow)
   have HJ1' := Aside0.mk (HJ1.out hlow)
   clear hlow hc1 HLL HJ1
   go_wp2_with (go_at_call 10; (with_reducible refine (HSL.out _ H6.out.1).mono ?_); rintro e w7 ⟨rfl, hb⟩; have t7 := H6.out.1.below hb; have H7 := Aside0.mk (And.intro t7 (below_all H6.out.2 hb H6.out.2.size)); obtain ⟨⟨x7, l7, h7⟩, _⟩ := t7; have cx70 := x7.c0; have cx71 := x7.c1; have cx72 := x7.c2; have cl70 := l7.c0; have cl71 := l7.c1; have cl72 := l7.c2; have ch70 := h7.c0; have ch71 := h7.c1; have ch72 := h7.c2; clear x7 l7 h7; clear hb)
   go_wp2_with (go_at_call 11; (with_reducible refine (HL0.out _ H7.out.1).mono ?_); rintro e w8 ⟨r1, rfl, hr1, hb⟩; have t8 := H7.out.1.below hb; have H8 := Aside0.mk (And.intro t8 (below_all H7.out.2 hb H7.out.2.size)); obtain ⟨⟨x8, l8, h8⟩, _⟩ := t8; have cx80 := x8.c0; have cx81 := x8.c1; have cx82 := x8.c2; have cl80 := l8.c0; have cl81 := l8.c1; have cl82 := l8.c2; have ch80 := h8.c0; have ch81 := h8.c1; have ch82 := h8.c2; clear x8 l8 h8; have hne1 : (r1 != 1) = true := bne_iff_ne.mpr (fun e => HJ1'.out (e ▸ hr1.out)); clear hb hr1)
   go_wp2_with (go_at_call 11; (with_reducible refine (HLH.out _ H8.out.1).mono ?_); rintro e w9 ⟨r2, rfl, hr2, hb⟩; have H9 := Aside0.mk (below_all H8.out.2 hb H8.out.2.size); have hne2 : (r2 != -1) = true := bne_iff_ne.mpr (fun e => HJ2.out (e ▸ hr2.out)); clear hb hr2)
   go_ret
   exact ⟨rfl, H9.out⟩
 · generalize cmpI (R - 2) 0 = cc at *
   have hc1' := decide_eq_true hc1
   go_wp2_with (go_at_call 10; (with_reducible refine (HSL.out _ H6.out.1).mono ?_); rintro e w7 ⟨rfl, hb⟩; have t7 := H6.out.1.below hb; have H7 := Aside0.mk (And.intro t7 (below_all H6.out.2 hb H6.out.2.size)); obtain ⟨⟨x7, l7, h7⟩, _⟩ := t7; have cx70 := x7.c0; have cx71 := x7.c1; have cx72 := x7.c2; have cl70 := l7.c0; have cl71 := l7.c1; have cl72 := l7.c2; have ch70 := h7.c0; have ch71 := h7.c1; have ch72 := h7.c2; clear x7 l7 h7; clear hb)
   go_wp2_with (go_at_call 11; (with_reducible refine (HLH.out _ H7.out.1).mono ?_); rintro e w9 ⟨r2, rfl, hr2, hb⟩; have H9 := Aside0.mk (below_all H7.out.2 hb H7.out.2.size); have hne2 : (r2 != -1) = true := bne_iff_ne.mpr (fun e => HJ2.out (e ▸ hr2.out)); clear hb hr2)
   go_ret
   exact ⟨rfl, H9.out⟩
theorem law_calls (x : ByteArray) (z : Int) (neg : Bool) (w : World) (hT : Thr w) (h3 : 3 ≤ w.heap.size) :
   Calls Tryz.prog 3 #[.string x, .int .i64 z, .bool neg] w fun e w' => e = .returned (.bool true) ∧ Below w.heap.size w w' := by
 rcases Nat.lt_or_ge 2147483647 x.size with h | h
 · exact law_size x z neg w h
 · cases neg
   · exact law_plus x z w h hT h3
   · exact law_minus x z w h hT h3
end Go.Proofs.YteohmbannpbokaaGreatDoor.LawExp
