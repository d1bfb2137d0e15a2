/-
 Numbers in blocks whose room is told: squared, and multiplied.
 Numbers in blocks whose room is told: the products, all ways together.
-/
import Derived.Test.YteohmbannpbokaaGreatDoorJ27
set_option linter.unusedVariables false
set_option linter.unusedSimpArgs false
namespace Go.Proofs.YteohmbannpbokaaGreatDoor.WordWalk
open Go.RowKit Go.Proofs.YteohmbannpbokaaGreatDoorW.PrintWords Go.Proofs.YteohmbannpbokaaGreatDoorW.PrintLast Go.Proofs.YteohmbannpbokaaGreatDoorW.PrintMore Go.Proofs.YteohmbannpbokaaGreatDoor.SpecWalk Go.Proofs.YteohmbannpbokaaGreatDoor.BigWalk
set_option maxHeartbeats 4000000 in
theorem sqr_one (g c n : Nat) (sv : Value) (w : World) (h : Nc w g c n) (h1 : (W64.digs n).length = 1) (hc : 2 ≤ c) :
   Calls Tryz.prog 63 #[.slice (some ⟨g, 0, none⟩) (W64.digs n).length c, sv, .slice (some ⟨g, 0, none⟩) (W64.digs n).length c] w fun e w' => e = .returned (.slice (some ⟨g, 0, none⟩) (W64.digs (n * n)).length c) ∧ Nc w' g c (n * n) ∧ KeptB w w' g := by
 have hM0 := make_in g 1 2 c w (by omega) hc (by have := h.max; omega)
 rw [show ((2 : Nat) : Int) = 2 from rfl] at hM0
 have hM := Aside0.mk hM0
 have hx0 := h.cells 0 (by omega)
 have hd := W64.dig_rd (W64.dig_digs n) ((0 : Nat) : Int)
 have hval : W64.val (W64.digs n) = rd (W64.digs n) ((0 : Nat) : Int) := by
   match h : W64.digs n, h1 with
   | [a], _ => simp [W64.val, rd]
 rw [W64.val_digs] at hval
 have HMW := Aside0.mk (fun w => (mulWW_n _ _ ⟨hd.1, hd.2⟩ ⟨hd.1, hd.2⟩ w).mono (fun e w' h => And.intro h.1 h.2.symm))
 rw [← hval] at HMW hx0
 have HQ := mul_words (x := (n : Int)) (y := (n : Int)) ⟨by omega, by rw [hval]; exact hd.2⟩ ⟨by omega, by rw [hval]; exact hd.2⟩
 obtain ⟨cs, hb, hcl, _⟩ := h.out
 have hcz1 := hb.cell (j := 1) (by omega)
 have hfz1 := hb.frozen 1
 have hfz0 := hb.frozen 0
 have HN := Aside0.mk (fun (w1 : World) (hb1 : Buf w1 g ((cs.set 1 ((n : Int) * n / 18446744073709551616)).set 0 ((n : Int) * n % 18446744073709551616))) => by
   have e : (cs.set 1 ((n : Int) * n / 18446744073709551616)).set 0 ((n : Int) * n % 18446744073709551616) = [(n : Int) * n % 18446744073709551616, (n : Int) * n / 18446744073709551616] ++ cs.drop 2 := by
     match cs, hcl with
     | [], e => simp at e; omega
     | [a], e => simp at e; omega
     | a :: b :: zs, _ => simp
   rw [e] at hb1
   exact norm_nc g (n * n) c (cs.drop 2) [(n : Int) * n % 18446744073709551616, (n : Int) * n / 18446744073709551616] 2 w1 hb1 (by simp; omega) rfl h.pos h.max (dig_two HQ.1 HQ.2) (by rw [val_two, Int.natCast_mul]))
 have HP := Aside0.mk ((hb.put 1 ((n : Int) * n / 18446744073709551616)).put 0 ((n : Int) * n % 18446744073709551616))
 rw [h1]
 have HX := Aside0.mk hx0
 clear h hx0 hd hval hM0 HQ hb hcl h1
 generalize rd cs ((1 : Nat) : Int) = z1 at *
 have hci : 2 ≤ (c : Int) := by omega
 have hx0 := HX.out
 go_enter Tryz.func63, Tryz.ntmps63
 go_wp2_with (first | (go_at_call 68; (with_reducible refine hM.out.mono ?_); rintro e w1 ⟨rfl, hw1⟩; subst w1) | (go_at_call 84; (with_reducible refine (HMW.out _).mono ?_); rintro e w2 ⟨rfl, rfl⟩) | (go_at_call 61; (with_reducible refine (HN.out _ HP.out).mono ?_); rintro e w3 ⟨rfl, hw3, hn⟩; subst w3; have HNN := Aside0.mk hn; clear hn))
 go_ret
 exact ⟨rfl, HNN.out, ((KeptB.refl _ _).set _).set _⟩
set_option maxHeartbeats 2000000 in
theorem sqr_self (g c n : Nat) (sv : Value) (w : World) (h : Nc w g c n) (hT : Thr w) (h1 : 2 ≤ (W64.digs n).length) (h2 : (W64.digs n).length < 12) :
   Calls Tryz.prog 63 #[.slice (some ⟨g, 0, none⟩) (W64.digs n).length c, sv, .slice (some ⟨g, 0, none⟩) (W64.digs n).length c] w fun e w' => e = .returned (.slice (some ⟨w.heap.size, 0, none⟩) (W64.digs (n * n)).length (2 * (W64.digs n).length + 4)) ∧ Nc w' w.heap.size (2 * (W64.digs n).length + 4) (n * n) ∧ Below w.heap.size w w' := by
 have hlt := h.lt
 have hle := h.le
 have hmax := h.max
 have HA := Aside0.mk (alias_same g (W64.digs n).length (W64.digs n).length c w h.le h.le h.pos (by omega))
 have hM0 := make4 (2 * (W64.digs n).length) w.drew (by omega) (by omega)
 rw [show ((2 * (W64.digs n).length : Nat) : Int) = 2 * ((W64.digs n).length : Int) by omega] at hM0
 have HM := Aside0.mk hM0
 have hsz : w.drew.heap.size = w.heap.size := rfl
 rw [hsz] at HM
 have HB := Aside0.mk (fun (w1 : World) (hb : Buf w1 w.heap.size (List.replicate (2 * (W64.digs n).length + 4) 0)) (hk : Below w.heap.size w.drew w1) => by
   have hb2 := basicMul_n w.heap.size g g c c (List.replicate (2 * (W64.digs n).length + 4) 0) (W64.digs n) (W64.digs n) w1 hb (by simp; omega) (by simp; omega) (by omega) (W64.dig_digs n) (W64.dig_digs n) (by omega) (by omega) (fun i hi => pw_cell_below hk (h.drew.cells i hi)) (fun i hi => pw_cell_below hk (h.drew.cells i hi))
   rw [List.length_replicate, W64.val_digs, show (W64.digs n).length + (W64.digs n).length = 2 * (W64.digs n).length by omega] at hb2
   exact hb2)
 have HN := Aside0.mk (fun (w1 : World) (out : List Int) (ho : out.length = 2 * (W64.digs n).length) (hd : W64.Dig out) (hv : W64.val out = (n : Int) * n) (hb1 : Buf w1 w.heap.size (out ++ (List.replicate (2 * (W64.digs n).length + 4) 0).drop (2 * (W64.digs n).length))) => norm_nc w.heap.size (n * n) (2 * (W64.digs n).length + 4) _ out (2 * (W64.digs n).length) w1 hb1 (by simp [ho]) ho (by omega) (by omega) hd (by rw [hv, Int.natCast_mul]))
 have HTT := Aside0.mk hT
 clear h hlt hT hM0
 generalize hL : (W64.digs n).length = L at *
 have n0 : 2 ≤ (L : Int) := by omega
 have n1 : (L : Int) < 12 := by omega
 have n3 : (L : Int) < 80 := by omega
 have n4 : ((L : Int) == 0) = false := beq_eq_false_iff_ne.mpr (by omega)
 have n5 : ((L : Int) == 1) = false := beq_eq_false_iff_ne.mpr (by omega)
 have n6 : (L : Int) ≤ (c : Int) := by omega
 have n7 : (c : Int) ≤ 1000 := by omega
 clear h1 h2 hL hle hmax
 go_enter Tryz.func63, Tryz.ntmps63
 go_wp2_with (first | (go_at_call 66; (with_reducible refine HA.out.mono ?_); rintro e w0 ⟨rfl, hw0⟩; subst w0) | (go_at_call 68; (with_reducible refine HM.out.mono ?_); rintro e w1 ⟨rfl, hb, hs1, hbel⟩; have hT1 := (HTT.out.drew).kept (KeptP.ofBelow (P := fun _ => False) hbel) (fun _ h => h.elim); have t0 := hT1.b; have t1 := hT1.k; have HG := Aside0.mk (And.intro hb hbel); clear hb hs1 hbel hT1) | (go_at_call 85; (with_reducible refine (HB.out _ HG.out.1 HG.out.2).mono ?_); rintro e w2 ⟨rfl, out, ho, hdo, hvo, hbo, hko⟩; have HO := Aside0.mk (And.intro ho (And.intro hdo (And.intro hvo (And.intro hbo hko)))); clear ho hdo hvo hbo hko) | (go_at_call 61; (with_reducible refine (HN.out _ out HO.out.1 HO.out.2.1 HO.out.2.2.1 HO.out.2.2.2.1).mono ?_); rintro e w3 ⟨rfl, hw3, hn⟩; subst w3; have HNN := Aside0.mk hn; clear hn))
 go_ret
 have hb1 : Below w.heap.size w w1 := below_trans (Below.refl _ _).drew HG.out.2 (Nat.le_refl _)
 exact ⟨rfl, HNN.out, below_trans hb1 (below_kept HO.out.2.2.2.2 (Nat.le_refl _) hb1.size) hb1.size⟩
set_option maxHeartbeats 4000000 in
set_option maxRecDepth 100000 in
theorem mul_big1 (g c n gy cy m : Nat) (w : World) (h : Nc w g c n) (hy : Nc w gy cy m) (hne : gy ≠ g) (hT : Thr w) (h1 : 2 ≤ (W64.digs n).length) (h2 : 2 ≤ (W64.digs m).length) (h3 : (W64.digs n).length ≤ 30) (h4 : (W64.digs m).length ≤ 30) (hle : (W64.digs m).length ≤ (W64.digs n).length) :
   Calls Tryz.prog 64 #[.slice (some ⟨g, 0, none⟩) (W64.digs n).length c, .pointer none, .slice (some ⟨g, 0, none⟩) (W64.digs n).length c, .slice (some ⟨gy, 0, none⟩) (W64.digs m).length cy] w fun e w' => e = .returned (.slice (some ⟨w.heap.size, 0, none⟩) (W64.digs (n * m)).length ((W64.digs n).length + (W64.digs m).length + 4)) ∧ Nc w' w.heap.size ((W64.digs n).length + (W64.digs m).length + 4) (n * m) ∧ Below w.heap.size w w' := by
 have hlt := h.lt
 have hylt := hy.lt
 have hnle := h.le
 have hmax := h.max
 have hyle := hy.le
 have hymax := hy.max
 have HA := Aside0.mk (fun w => alias_same g (W64.digs n).length (W64.digs n).length c w h.le h.le h.pos (by omega))
 have HA2 := Aside0.mk (alias_other g gy (W64.digs n).length (W64.digs m).length c cy w h.blk hy.blk (Ne.symm hne) h.le hy.le h.pos hy.pos (by omega) (by omega))
 have HM := Aside0.mk (fun (w1 : World) => (by
   have hM0 := make4 ((W64.digs n).length + (W64.digs m).length) w1 (by omega) (by omega)
   rw [show (((W64.digs n).length + (W64.digs m).length : Nat) : Int) = ((W64.digs n).length : Int) + ((W64.digs m).length : Int) by omega] at hM0
   exact hM0 : Calls Tryz.prog 68 #[.slice none 0 0, .int .i64 (((W64.digs n).length : Int) + ((W64.digs m).length : Int))] w1 fun e w' => e = .returned (.slice (some ⟨w1.heap.size, 0, none⟩) ((W64.digs n).length + (W64.digs m).length) ((W64.digs n).length + (W64.digs m).length + 4)) ∧ Buf w' w1.heap.size (List.replicate ((W64.digs n).length + (W64.digs m).length + 4) 0) ∧ w'.heap.size = w1.heap.size + 1 ∧ Below w1.heap.size w1 w'))
 have HB := Aside0.mk (fun (w1 : World) (hb : Buf w1 w.heap.size (List.replicate ((W64.digs n).length + (W64.digs m).length + 4) 0)) (hk : Below w.heap.size w w1) => by
   have hb2 := basicMul_n w.heap.size g gy c cy (List.replicate ((W64.digs n).length + (W64.digs m).length + 4) 0) (W64.digs n) (W64.digs m) w1 hb (by simp) (by simp; omega) (by omega) (W64.dig_digs _) (W64.dig_digs _) (by omega) (by omega) (fun i hi => pw_cell_below hk (h.cells i hi)) (fun i hi => pw_cell_below hk (hy.cells i hi))
   rw [List.length_replicate, W64.val_digs, W64.val_digs] at hb2
   exact hb2)
 have HN := Aside0.mk (fun (w1 : World) (out : List Int) (ho : out.length = (W64.digs n).length + (W64.digs m).length) (hd : W64.Dig out) (hv : W64.val out = (n : Int) * m) (hb1 : Buf w1 w.heap.size (out ++ (List.replicate ((W64.digs n).length + (W64.digs m).length + 4) 0).drop ((W64.digs n).length + (W64.digs m).length))) => norm_nc w.heap.size (n * m) ((W64.digs n).length + (W64.digs m).length + 4) _ out ((W64.digs n).length + (W64.digs m).length) w1 hb1 (by simp [ho]) ho (by omega) (by omega) hd (by rw [hv, Int.natCast_mul]))
 have HTT := Aside0.mk hT
 clear h hy hne hlt hylt hT
 generalize hL : (W64.digs n).length = L at *
 generalize hM : (W64.digs m).length = M at *
 have n0 : 2 ≤ (L : Int) := by omega
 have n1 : (L : Int) ≤ 30 := by omega
 have n2 : 2 ≤ (M : Int) := by omega
 have n3 : (M : Int) ≤ 30 := by omega
 have n4 : ((L : Int) == 0) = false := beq_eq_false_iff_ne.mpr (by omega)
 have n5 : ((L : Int) == 1) = false := beq_eq_false_iff_ne.mpr (by omega)
 have n6 : ((M : Int) == 0) = false := beq_eq_false_iff_ne.mpr (by omega)
 have n7 : ((M : Int) == 1) = false := beq_eq_false_iff_ne.mpr (by omega)
 have n8 : ¬ ((L : Int) < (M : Int)) := by omega
 have n9 : (L : Int) ≤ (c : Int) := by omega
 have k1 : (c : Int) ≤ 1000 := by omega
 have k2 : (M : Int) ≤ (cy : Int) := by omega
 have k3 : (cy : Int) ≤ 1000 := by omega
 have k4 : (M : Int) < 40 := by omega
 clear h1 h2 h3 h4 hL hM hle hnle hmax hyle hymax
 go_enter_defers Tryz.func64, Tryz.ntmps64
 go_wp2_with (first | (go_at_call 66; (with_reducible refine (HA.out _).mono ?_); rintro e w0 ⟨rfl, hw0⟩; subst w0) | (go_at_call 68; (with_reducible refine (HM.out _).mono ?_); rintro e w1 ⟨rfl, hb, hs1, hbel⟩; have hT1 := (HTT.out.drew).kept (KeptP.ofBelow (P := fun _ => False) hbel) (fun _ h => h.elim); have t0 := hT1.m; have HG := Aside0.mk (And.intro hb (below_trans (Below.refl w.heap.size w).drew hbel (Nat.le_refl _))); clear hb hs1 hbel hT1) | (go_at_call 85; (with_reducible refine (HB.out _ HG.out.1 HG.out.2).mono ?_); rintro e w2 ⟨rfl, out, ho, hdo, hvo, hbo, hko⟩; have HO := Aside0.mk (And.intro ho (And.intro hdo (And.intro hvo (And.intro hbo hko)))); clear ho hdo hvo hbo hko) | (go_at_call 61; (with_reducible refine (HN.out _ out HO.out.1 HO.out.2.1 HO.out.2.2.1 HO.out.2.2.2.1).mono ?_); rintro e w3 ⟨rfl, hw3, hn⟩; subst w3; have HNN := Aside0.mk hn; clear hn))
 exact ⟨_, results_tmp rfl _ _ _, rfl, HNN.out, below_trans HG.out.2 (below_kept HO.out.2.2.2.2 (Nat.le_refl _) HG.out.2.size) HG.out.2.size⟩
set_option maxHeartbeats 4000000 in
set_option maxRecDepth 100000 in
theorem mul_big2 (g c n gy cy m : Nat) (w : World) (h : Nc w g c n) (hy : Nc w gy cy m) (hne : gy ≠ g) (hT : Thr w) (h1 : 2 ≤ (W64.digs n).length) (h2 : 2 ≤ (W64.digs m).length) (h3 : (W64.digs n).length ≤ 30) (h4 : (W64.digs m).length ≤ 30) (hle : (W64.digs n).length < (W64.digs m).length) :
   Calls Tryz.prog 64 #[.slice (some ⟨g, 0, none⟩) (W64.digs n).length c, .pointer none, .slice (some ⟨gy, 0, none⟩) (W64.digs m).length cy, .slice (some ⟨g, 0, none⟩) (W64.digs n).length c] w fun e w' => e = .returned (.slice (some ⟨w.heap.size, 0, none⟩) (W64.digs (n * m)).length ((W64.digs m).length + (W64.digs n).length + 4)) ∧ Nc w' w.heap.size ((W64.digs m).length + (W64.digs n).length + 4) (n * m) ∧ Below w.heap.size w w' := by
 have hlt := h.lt
 have hylt := hy.lt
 have hnle := h.le
 have hmax := h.max
 have hyle := hy.le
 have hymax := hy.max
 have HA := Aside0.mk (fun w => alias_same g (W64.digs n).length (W64.digs n).length c w h.le h.le h.pos (by omega))
 have HA2 := Aside0.mk (alias_other g gy (W64.digs n).length (W64.digs m).length c cy w h.blk hy.blk (Ne.symm hne) h.le hy.le h.pos hy.pos (by omega) (by omega))
 have HM := Aside0.mk (fun (w1 : World) => (by
   have hM0 := make4 ((W64.digs m).length + (W64.digs n).length) w1 (by omega) (by omega)
   rw [show (((W64.digs m).length + (W64.digs n).length : Nat) : Int) = ((W64.digs m).length : Int) + ((W64.digs n).length : Int) by omega] at hM0
   exact hM0 : Calls Tryz.prog 68 #[.slice none 0 0, .int .i64 (((W64.digs m).length : Int) + ((W64.digs n).length : Int))] w1 fun e w' => e = .returned (.slice (some ⟨w1.heap.size, 0, none⟩) ((W64.digs m).length + (W64.digs n).length) ((W64.digs m).length + (W64.digs n).length + 4)) ∧ Buf w' w1.heap.size (List.replicate ((W64.digs m).length + (W64.digs n).length + 4) 0) ∧ w'.heap.size = w1.heap.size + 1 ∧ Below w1.heap.size w1 w'))
 have HB := Aside0.mk (fun (w1 : World) (hb : Buf w1 w.heap.size (List.replicate ((W64.digs m).length + (W64.digs n).length + 4) 0)) (hk : Below w.heap.size w w1) => by
   have hb2 := basicMul_n w.heap.size gy g cy c (List.replicate ((W64.digs m).length + (W64.digs n).length + 4) 0) (W64.digs m) (W64.digs n) w1 hb (by simp) (by simp; omega) (by omega) (W64.dig_digs _) (W64.dig_digs _) (by omega) (by omega) (fun i hi => pw_cell_below hk (hy.cells i hi)) (fun i hi => pw_cell_below hk (h.cells i hi))
   rw [List.length_replicate, W64.val_digs, W64.val_digs] at hb2
   exact hb2)
 have HN := Aside0.mk (fun (w1 : World) (out : List Int) (ho : out.length = (W64.digs m).length + (W64.digs n).length) (hd : W64.Dig out) (hv : W64.val out = (m : Int) * n) (hb1 : Buf w1 w.heap.size (out ++ (List.replicate ((W64.digs m).length + (W64.digs n).length + 4) 0).drop ((W64.digs m).length + (W64.digs n).length))) => norm_nc w.heap.size (n * m) ((W64.digs m).length + (W64.digs n).length + 4) _ out ((W64.digs m).length + (W64.digs n).length) w1 hb1 (by simp [ho]) ho (by omega) (by omega) hd (by rw [hv, Int.natCast_mul]; rw [Int.mul_comm]))
 have HTT := Aside0.mk hT
 clear h hy hne hlt hylt hT
 generalize hL : (W64.digs n).length = L at *
 generalize hM : (W64.digs m).length = M at *
 have n0 : 2 ≤ (L : Int) := by omega
 have n1 : (L : Int) ≤ 30 := by omega
 have n2 : 2 ≤ (M : Int) := by omega
 have n3 : (M : Int) ≤ 30 := by omega
 have n4 : ((L : Int) == 0) = false := beq_eq_false_iff_ne.mpr (by omega)
 have n5 : ((L : Int) == 1) = false := beq_eq_false_iff_ne.mpr (by omega)
 have n6 : ((M : Int) == 0) = false := beq_eq_false_iff_ne.mpr (by omega)
 have n7 : ((M : Int) == 1) = false := beq_eq_false_iff_ne.mpr (by omega)
 have n8 : ¬ ((M : Int) < (L : Int)) := by omega
 have n9 : (L : Int) ≤ (c : Int) := by omega
 have k1 : (c : Int) ≤ 1000 := by omega
 have k2 : (M : Int) ≤ (cy : Int) := by omega
 have k3 : (cy : Int) ≤ 1000 := by omega
 have k4 : (L : Int) < 40 := by omega
 clear h1 h2 h3 h4 hL hM hle hnle hmax hyle hymax
 go_enter_defers Tryz.func64, Tryz.ntmps64
 go_wp2_with (first | (go_at_call 66; (with_reducible refine HA2.out.mono ?_); rintro e w0 ⟨rfl, hw0⟩; subst w0) | (go_at_call 66; (with_reducible refine (HA.out _).mono ?_); rintro e w0 ⟨rfl, hw0⟩; subst w0) | (go_at_call 68; (with_reducible refine (HM.out _).mono ?_); rintro e w1 ⟨rfl, hb, hs1, hbel⟩; have hT1 := (HTT.out.drew.drew).kept (KeptP.ofBelow (P := fun _ => False) hbel) (fun _ h => h.elim); have t0 := hT1.m; have HG := Aside0.mk (And.intro hb (below_trans (Below.refl w.heap.size w).drew.drew hbel (Nat.le_refl _))); clear hb hs1 hbel hT1) | (go_at_call 85; (with_reducible refine (HB.out _ HG.out.1 HG.out.2).mono ?_); rintro e w2 ⟨rfl, out, ho, hdo, hvo, hbo, hko⟩; have HO := Aside0.mk (And.intro ho (And.intro hdo (And.intro hvo (And.intro hbo hko)))); clear ho hdo hvo hbo hko) | (go_at_call 61; (with_reducible refine (HN.out _ out HO.out.1 HO.out.2.1 HO.out.2.2.1 HO.out.2.2.2.1).mono ?_); rintro e w3 ⟨rfl, hw3, hn⟩; subst w3; have HNN := Aside0.mk hn; clear hn))
 exact ⟨_, results_tmp rfl _ _ _, rfl, HNN.out, below_trans HG.out.2 (below_kept HO.out.2.2.2.2 (Nat.le_refl _) HG.out.2.size) HG.out.2.size⟩
set_option maxHeartbeats 1000000 in
theorem mul_swap (xv yv : Value) (A B : Option Addr) (L M c d : Nat) (zv : Value) (R : Value → World → Prop) (w : World) (hx : xv = .slice A L c) (hy : yv = .slice B M d) (hlt : L < M) (hM : M ≤ 1000)
   (h : Calls Tryz.prog 64 #[zv, .pointer none, yv, xv] w fun e w' => ∃ u, e = .returned u ∧ R u w') :
   Calls Tryz.prog 64 #[zv, .pointer none, xv, yv] w fun e w' => ∃ u, e = .returned u ∧ R u w' := by
 subst hx; subst hy
 have HH := Aside0.mk h
 have i1 : (L : Int) < (M : Int) := by omega
 have i2 : (M : Int) ≤ 1000 := by omega
 clear h hlt hM
 go_enter_defers Tryz.func64, Tryz.ntmps64
 go_wp2_with (go_at_call 64; (with_reducible refine HH.out.mono ?_); rintro e w1 ⟨u, rfl, h⟩; have HR := Aside0.mk h; clear h)
 exact ⟨_, results_tmp rfl _ _ _, u, rfl, HR.out⟩
theorem KeptP.ofKeptB {w w1 : World} {g : Nat} (h : KeptB w w1 g) : KeptP w w1 (fun k => k = g) := KeptP.ofB h rfl
theorem digs_word {y : Nat} (h : (W64.digs y).length = 1) : y ≠ 0 ∧ y < 18446744073709551616 ∧ W64.digs y = [(y : Int)] := by
 have h0 : y ≠ 0 := by rintro rfl; rw [W64.digs_zero] at h; exact absurd h (by decide)
 have h1 := W64.lt_of_len y
 rw [h, Nat.pow_one] at h1
 exact ⟨h0, h1, W64.digs_one h0 h1⟩
set_option maxHeartbeats 1000000 in
theorem mul_by_word (zv xv : Value) (A : Option Addr) (L c gy cy y : Nat) (R : Value → World → Prop) (w : World) (hx : xv = .slice A L c) (hL : 1 ≤ L) (hL2 : L ≤ 1000) (hy : Nc w gy cy y) (hy1 : (W64.digs y).length = 1)
   (h : Calls Tryz.prog 90 #[zv, xv, .int .u64 y, .int .u64 0] w fun e w' => ∃ u, e = .returned u ∧ R u w') :
   Calls Tryz.prog 64 #[zv, .pointer none, xv, .slice (some ⟨gy, 0, none⟩) (W64.digs y).length cy] w fun e w' => ∃ u, e = .returned u ∧ R u w' := by
 subst hx
 have hc := hy.cells 0 (by omega)
 have e1 : rd (W64.digs y) ((0 : Nat) : Int) = (y : Int) := by rw [(digs_word hy1).2.2]; rfl
 rw [e1] at hc
 rw [hy1]
 have HH := Aside0.mk h
 have i1 : 1 ≤ (L : Int) := by omega
 have i2 : (L : Int) ≤ 1000 := by omega
 have i3 : ((L : Int) == 0) = false := beq_eq_false_iff_ne.mpr (by omega)
 have i4 : ¬ ((L : Int) < 1) := by omega
 clear h hL hL2 hy hy1 e1
 generalize (y : Int) = Y at *
 go_enter_defers Tryz.func64, Tryz.ntmps64
 go_wp2_with (go_at_call 90; (with_reducible refine HH.out.mono ?_); rintro e w1 ⟨u, rfl, h⟩; have HR := Aside0.mk h; clear h)
 exact ⟨_, results_tmp rfl _ _ _, u, rfl, HR.out⟩
set_option maxHeartbeats 1000000 in
theorem mul_by_zero (C A B : Option Addr) (l L k c d : Nat) (w : World) (hL2 : L ≤ 1000) (hk : k ≤ 1000) (hlk : l ≤ k) :
   Calls Tryz.prog 64 #[.slice C l k, .pointer none, .slice A L c, .slice B 0 d] w fun e w' => ∃ u, e = .returned u ∧ u = .slice C 0 k ∧ w' = w := by
 have i2 : (L : Int) ≤ 1000 := by omega
 have i3 : ¬ ((L : Int) < 0) := by omega
 have j1 : (k : Int) ≤ 1000 := by omega
 have j2 : (l : Int) ≤ (k : Int) := by omega
 by_cases h0 : L = 0
 · subst h0
   go_enter_defers Tryz.func64, Tryz.ntmps64
   go_wp2
   exact ⟨_, results_tmp rfl _ _ _, _, rfl, rfl, rfl⟩
 · have i4 : ((L : Int) == 0) = false := beq_eq_false_iff_ne.mpr (by omega)
   go_enter_defers Tryz.func64, Tryz.ntmps64
   go_wp2
   exact ⟨_, results_tmp rfl _ _ _, _, rfl, rfl, rfl⟩
structure Nz (w : World) (g n : Nat) (v : Value) : Prop where
 mk :: (out : (n = 0 ∧ v = .slice none 0 0) ∨ ∃ c, v = .slice (some ⟨g, 0, none⟩) (W64.digs n).length c ∧ Nc w g c n)
theorem Nz.kept {w w1 : World} {P : Nat → Prop} {g n : Nat} {v : Value} (h : Nz w g n v) (hk : KeptP w w1 P) (hg : ¬ P g) : Nz w1 g n v := by
 rcases h.out with h | ⟨c, h1, h2⟩
 · exact ⟨.inl h⟩
 · exact ⟨.inr ⟨c, h1, h2.kept hk hg⟩⟩
theorem Nz.form {w : World} {g n : Nat} {v : Value} (h : Nz w g n v) : ∃ A c, v = .slice A (W64.digs n).length c ∧ (W64.digs n).length ≤ c ∧ c ≤ 1000 := by
 rcases h.out with ⟨rfl, rfl⟩ | ⟨c, h1, h2⟩
 · exact ⟨none, 0, by rw [W64.digs_zero]; rfl, by rw [W64.digs_zero]; exact Nat.le_refl _, by omega⟩
 · exact ⟨_, c, h1, h2.le, h2.max⟩
structure Made (w w' : World) (g c n g' c' : Nat) : Prop where
 mk :: (at_ : (g' = g ∧ c' = c) ∨ (w.heap.size ≤ g' ∧ 8 ≤ c')) (num : Nc w' g' c' n) (kept : KeptP w w' (fun k => k = g))
theorem mul_nc (g c n gy m : Nat) (yv : Value) (w : World) (h : Nc w g c n) (hy : Nz w gy m yv) (hne : gy ≠ g) (hT : Thr w) (h0 : n ≠ 0) (hn : (W64.digs n).length ≤ 4) (hm : (W64.digs m).length ≤ 4) (hc : 5 ≤ c) :
   Calls Tryz.prog 64 #[.slice (some ⟨g, 0, none⟩) (W64.digs n).length c, .pointer none, .slice (some ⟨g, 0, none⟩) (W64.digs n).length c, yv] w fun e w' => ∃ u, e = .returned u ∧ ∃ g' c', u = .slice (some ⟨g', 0, none⟩) (W64.digs (n * m)).length c' ∧ Made w w' g c (n * m) g' c' := by
 have hpos := W64.len_pos h0
 have hle := h.le
 have hmax := h.max
 by_cases hm0 : m = 0
 · subst hm0
   have hv : ∃ B d, yv = .slice B 0 d := by
     rcases hy.out with ⟨_, rfl⟩ | ⟨d, e, _⟩
     · exact ⟨none, 0, rfl⟩
     · rw [W64.digs_zero] at e
       exact ⟨_, d, e⟩
   obtain ⟨B, d, rfl⟩ := hv
   refine (mul_by_zero (some ⟨g, 0, none⟩) (some ⟨g, 0, none⟩) B (W64.digs n).length (W64.digs n).length c c d w (by omega) hmax hle).mono ?_
   rintro e w' ⟨u, rfl, rfl, rfl⟩
   rw [Nat.mul_zero]
   exact ⟨_, rfl, g, c, by rw [W64.digs_zero]; rfl, .inl ⟨rfl, rfl⟩, h.zero, KeptP.refl _ _⟩
 · obtain ⟨cy, rfl, hyn⟩ := hy.out.resolve_left (fun hh => hm0 hh.1)
   have hmpos := W64.len_pos hm0
   by_cases hm1 : (W64.digs m).length = 1
   · obtain ⟨_, hlt, _⟩ := digs_word hm1
     refine mul_by_word _ _ _ (W64.digs n).length c gy cy m (fun u w' => ∃ g' c', u = .slice (some ⟨g', 0, none⟩) (W64.digs (n * m)).length c' ∧ Made w w' g c (n * m) g' c') w rfl (by omega) (by omega) hyn hm1 ((mulAddWW_in g c n m w h h0 (by omega) hlt (by omega)).mono ?_)
     · rintro e w' ⟨rfl, h2, h3⟩
       exact ⟨_, rfl, g, c, rfl, .inl ⟨rfl, rfl⟩, h2, KeptP.ofKeptB h3⟩
   · by_cases hn1 : (W64.digs n).length = 1
     · obtain ⟨_, hlt, _⟩ := digs_word hn1
       refine mul_swap _ _ (some ⟨g, 0, none⟩) (some ⟨gy, 0, none⟩) _ (W64.digs m).length c cy _ (fun u w' => ∃ g' c', u = .slice (some ⟨g', 0, none⟩) (W64.digs (n * m)).length c' ∧ Made w w' g c (n * m) g' c') w rfl rfl (by omega) (by omega) (mul_by_word _ _ _ (W64.digs m).length cy g c n _ w rfl (by omega) (by omega) h hn1 ((mulAddWW_to g c n gy cy m n w h hyn hne hm0 (by omega) hlt (by omega)).mono ?_))
       · rintro e w' ⟨rfl, h2, h3⟩
         rw [Nat.mul_comm m n] at h2 ⊢
         exact ⟨_, rfl, g, c, rfl, .inl ⟨rfl, rfl⟩, h2, KeptP.ofKeptB h3⟩
     · by_cases hlt : (W64.digs n).length < (W64.digs m).length
       · refine mul_swap _ _ (some ⟨g, 0, none⟩) (some ⟨gy, 0, none⟩) _ (W64.digs m).length c cy _ (fun u w' => ∃ g' c', u = .slice (some ⟨g', 0, none⟩) (W64.digs (n * m)).length c' ∧ Made w w' g c (n * m) g' c') w rfl rfl hlt (by omega) ((mul_big2 g c n gy cy m w h hyn hne hT (by omega) (by omega) (by omega) (by omega) hlt).mono ?_)
         · rintro e w' ⟨rfl, h2, h3⟩
           exact ⟨_, rfl, _, _, rfl, .inr ⟨Nat.le_refl _, by omega⟩, h2, (KeptP.ofBelow h3)⟩
       · refine (mul_big1 g c n gy cy m w h hyn hne hT (by omega) (by omega) (by omega) (by omega) (by omega)).mono ?_
         rintro e w' ⟨rfl, h2, h3⟩
         exact ⟨_, rfl, _, _, rfl, .inr ⟨Nat.le_refl _, by omega⟩, h2, (KeptP.ofBelow h3)⟩
theorem sqr_nc (g c n : Nat) (sv : Value) (w : World) (h : Nc w g c n) (hT : Thr w) (h0 : n ≠ 0) (hn : (W64.digs n).length ≤ 4) (hc : 5 ≤ c) :
   Calls Tryz.prog 63 #[.slice (some ⟨g, 0, none⟩) (W64.digs n).length c, sv, .slice (some ⟨g, 0, none⟩) (W64.digs n).length c] w fun e w' => ∃ u, e = .returned u ∧ ∃ g' c', u = .slice (some ⟨g', 0, none⟩) (W64.digs (n * n)).length c' ∧ Made w w' g c (n * n) g' c' := by
 have hpos := W64.len_pos h0
 by_cases h1 : (W64.digs n).length = 1
 · refine (sqr_one g c n sv w h h1 (by omega)).mono ?_
   rintro e w' ⟨rfl, h2, h3⟩
   exact ⟨_, rfl, g, c, rfl, .inl ⟨rfl, rfl⟩, h2, KeptP.ofKeptB h3⟩
 · refine (sqr_self g c n sv w h hT (by omega) (by omega)).mono ?_
   rintro e w' ⟨rfl, h2, h3⟩
   exact ⟨_, rfl, _, _, rfl, .inr ⟨Nat.le_refl _, by omega⟩, h2, KeptP.ofBelow h3⟩
theorem mul_new (v : Value) (ok : Nat → Prop) (n gy cy y : Nat) (w : World) (hv : Wdv w ok v n) (hy : Nc w gy cy y) (hy1 : (W64.digs y).length = 1) (hn : (W64.digs n).length ≤ 100) :
   Calls Tryz.prog 64 #[.slice none 0 0, .pointer none, v, .slice (some ⟨gy, 0, none⟩) (W64.digs y).length cy] w fun e w' => ∃ u, e = .returned u ∧ Nz w' w.heap.size (n * y) u ∧ Below w.heap.size w w' := by
 obtain ⟨_, hlt, _⟩ := digs_word hy1
 by_cases h0 : n = 0
 · subst h0
   obtain ⟨A, c, rfl, _, _⟩ := hv.form
   rw [W64.digs_zero]
   refine mul_swap _ _ A (some ⟨gy, 0, none⟩) 0 (W64.digs y).length c cy _ (fun u w' => Nz w' w.heap.size (0 * y) u ∧ Below w.heap.size w w') w rfl rfl (by omega) (by omega) ((mul_by_zero none (some ⟨gy, 0, none⟩) A 0 (W64.digs y).length 0 cy c w (by omega) (by omega) (by omega)).mono ?_)
   · rintro e w' ⟨u, rfl, rfl, rfl⟩
     exact ⟨_, rfl, ⟨.inl ⟨by omega, rfl⟩⟩, Below.refl _ _⟩
 · obtain ⟨ax, c, rfl, hlc, hs⟩ := Wdv.src hv h0
   have hpos := W64.len_pos h0
   refine mul_by_word _ _ _ (W64.digs n).length c gy cy y (fun u w' => Nz w' w.heap.size (n * y) u ∧ Below w.heap.size w w') w rfl (by omega) (by omega) hy hy1 ((mulAddWW_new ax c n y w hs hlc h0 (by omega) hlt (by omega)).mono ?_)
   · rintro e w' ⟨rfl, h2, h3⟩
     exact ⟨_, rfl, ⟨.inr ⟨_, rfl, h2⟩⟩, h3⟩
end Go.Proofs.YteohmbannpbokaaGreatDoor.WordWalk
