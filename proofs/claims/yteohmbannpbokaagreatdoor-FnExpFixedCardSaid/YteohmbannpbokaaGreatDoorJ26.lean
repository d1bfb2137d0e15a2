/-
 Numbers in blocks whose room is told: one added to one where it stands; one laid into a block.
 Numbers in blocks whose room is told: laid into a block, and one of a single word.
-/
import Derived.Test.YteohmbannpbokaaGreatDoorJ01
import Derived.Test.YteohmbannpbokaaGreatDoorJ25
set_option linter.unusedVariables false
set_option linter.unusedSimpArgs false
namespace Go.Proofs.YteohmbannpbokaaGreatDoor.WordWalk
open Go.RowKit Go.Proofs.YteohmbannpbokaaGreatDoorW.PrintWords Go.Proofs.YteohmbannpbokaaGreatDoorW.PrintLast Go.Proofs.YteohmbannpbokaaGreatDoorW.PrintMore Go.Proofs.YteohmbannpbokaaGreatDoor.SpecWalk Go.Proofs.YteohmbannpbokaaGreatDoor.BigWalk
set_option maxHeartbeats 4000000 in
set_option maxRecDepth 100000 in
theorem add_nc (g c n gy cy m : Nat) (w : World) (h : Nc w g c n) (hy : Nc w gy cy m) (hne : gy ≠ g) (hm0 : m ≠ 0) (hLM : (W64.digs m).length ≤ (W64.digs n).length) (hroom : (W64.digs n).length + 1 ≤ c) :
   Calls Tryz.prog 103 #[.slice (some ⟨g, 0, none⟩) (W64.digs n).length c, .slice (some ⟨g, 0, none⟩) (W64.digs n).length c, .slice (some ⟨gy, 0, none⟩) (W64.digs m).length cy] w fun e w' => e = .returned (.slice (some ⟨g, 0, none⟩) (W64.digs (n + m)).length c) ∧ Nc w' g c (n + m) ∧ KeptB w w' g := by
 have hM0 := W64.len_pos hm0
 have hle := h.le
 have hyle := hy.le
 have hmax := h.max
 have hymax := hy.max
 have hMK0 := make_in g (W64.digs n).length ((W64.digs n).length + 1) c w h.le hroom (by omega)
 rw [show ((((W64.digs n).length + 1 : Nat)) : Int) = ((W64.digs n).length : Int) + 1 by omega] at hMK0
 have hMK := Aside0.mk hMK0
 clear hMK0
 obtain ⟨cs, hbuf, hcl, htk⟩ := h.out
 obtain ⟨hs1, hs2⟩ := digs_split (L := (W64.digs n).length) htk rfl hLM
 have HV := Aside0.mk (fun (w1 : World) (hk : KeptB w w1 g) (hb : Buf w1 g cs) => addVV_n g gy (W64.digs m).length c c cy cs (W64.digs m) w1 hb (by omega) (Nat.le_refl _) (by omega) (by rw [hs2]; exact (W64.dig_digs n).take _) (W64.dig_digs m) hne (fun i hi => KeptB.cell hk hne (hy.cells i hi)))
 simp only [List.take_length, W64.val_digs, hs2] at HV
 have HW := Aside0.mk (fun (w1 : World) (out : List Int) (c1 : Int) (c10 : 0 ≤ c1) (c11 : c1 ≤ 1) (ho : out.length = (W64.digs m).length) (hb : Buf w1 g (out ++ cs.drop (W64.digs m).length)) (hlt : (W64.digs m).length < (W64.digs n).length) =>
   addVW_n g (W64.digs m).length (c - (W64.digs m).length) (c - (W64.digs m).length) out ((W64.digs n).drop (W64.digs m).length) (cs.drop (W64.digs n).length) c1 w1 (by rw [← hs1]; exact hb) ho (by simp; omega) (by simp; omega) (Dig_drop (W64.dig_digs n) _) c10 c11)
 simp only [List.length_drop] at HW
 have HC := Aside0.mk (fun (out : List Int) (c1 : Int) (hd : W64.Dig out) (ho : out.length = (W64.digs m).length) (hv : W64.val out + c1 * 18446744073709551616 ^ (W64.digs m).length = W64.val ((W64.digs n).take (W64.digs m).length) + (m : Int)) =>
   carry_le (m := (W64.digs m).length) (xs := (W64.digs n).take (W64.digs m).length) (ys := W64.digs m) ((W64.dig_digs n).take _) (W64.dig_digs m) (by simp; omega) rfl hd (by rw [W64.val_digs]; exact hv))
 have HE1 := Aside0.mk (fun (out : List Int) (c1 : Int) (c10 : 0 ≤ c1) (c11 : c1 ≤ 1) (hd : W64.Dig out) (ho : out.length = (W64.digs m).length) (hv : W64.val out + c1 * 18446744073709551616 ^ (W64.digs m).length = W64.val ((W64.digs n).take (W64.digs m).length) + (m : Int)) (he : (W64.digs m).length = (W64.digs n).length) =>
   (show W64.val (out ++ [c1]) = ((n + m : Nat) : Int) by
     rw [he, List.take_length, W64.val_digs] at hv
     rw [W64.val_append, ho, he, val_one, Int.mul_comm]
     omega))
 have HE2 := Aside0.mk (fun (out out2 : List Int) (c1 c2 : Int) (ho : out.length = (W64.digs m).length) (ho2 : out2.length = (W64.digs n).length - (W64.digs m).length) (hv : W64.val out + c1 * 18446744073709551616 ^ (W64.digs m).length = W64.val ((W64.digs n).take (W64.digs m).length) + (m : Int)) (hv2 : W64.val out2 + c2 * 18446744073709551616 ^ ((W64.digs n).length - (W64.digs m).length) = W64.val ((W64.digs n).drop (W64.digs m).length) + c1) =>
   (show W64.val ((out ++ out2) ++ [c2]) = ((n + m : Nat) : Int) by
     have e := digs_val_take (n := n) (M := (W64.digs m).length) hLM
     have e2 : (18446744073709551616 : Int) ^ ((W64.digs m).length + ((W64.digs n).length - (W64.digs m).length)) = 18446744073709551616 ^ (W64.digs m).length * 18446744073709551616 ^ ((W64.digs n).length - (W64.digs m).length) := by rw [← Int.pow_add]
     rw [W64.val_append, W64.val_append, List.length_append, ho, ho2, e2, val_one]
     generalize (18446744073709551616 : Int) ^ (W64.digs m).length = p at *
     generalize (18446744073709551616 : Int) ^ ((W64.digs n).length - (W64.digs m).length) = q at *
     have e3 : W64.val out2 = W64.val ((W64.digs n).drop (W64.digs m).length) + c1 - c2 * q := by omega
     rw [e3, Int.mul_sub, Int.mul_add, Int.mul_comm p c1, Int.mul_left_comm p c2 q, Int.mul_comm (p * q) c2]
     omega))
 have HN := Aside0.mk (fun (w1 : World) (l : List Int) (hb1 : Buf w1 g (l ++ cs.drop ((W64.digs n).length + 1))) (hl : l.length = (W64.digs n).length + 1) (hd : W64.Dig l) (hv : W64.val l = ((n + m : Nat) : Int)) => norm_nc g (n + m) c (cs.drop ((W64.digs n).length + 1)) l ((W64.digs n).length + 1) w1 hb1 (by simp [hl]; omega) hl h.pos h.max hd hv)
 have HD := Aside0.mk (fun (he : (W64.digs m).length = (W64.digs n).length) => (by rw [he] : cs.drop (W64.digs m).length = cs.drop (W64.digs n).length))
 have HB0 := Aside0.mk hbuf
 have HS := Aside0.mk (fun (out : List Int) (ho : out.length = (W64.digs n).length) (v : Int) => set_mid (cs := cs) ho (by omega) v)
 have HG := Aside0.mk (fun (out : List Int) (ho : out.length = (W64.digs n).length) => (by simp; omega : (W64.digs n).length < (out ++ cs.drop (W64.digs n).length).length))
 clear h hy hne hbuf hcl htk hs1 hs2 hm0
 generalize hL : (W64.digs n).length = L at *
 generalize hM : (W64.digs m).length = M at *
 have i1 : (M : Int) ≤ (L : Int) := by omega
 have i2 : 0 < (M : Int) := by omega
 have i3 : (L : Int) ≤ (c : Int) := by omega
 have i4 : (c : Int) ≤ 1000 := by omega
 have i5 : (M : Int) ≤ (cy : Int) := by omega
 have i6 : (cy : Int) ≤ 1000 := by omega
 have i7 : ((L : Int) == 0) = false := beq_eq_false_iff_ne.mpr (by omega)
 have i8 : ((M : Int) == 0) = false := beq_eq_false_iff_ne.mpr (by omega)
 have k1 : 0 ≤ (L : Int) ∧ (L : Int) < (L : Int) + 1 := by omega
 have k2 : (L : Int) < (L : Int) + 1 := by omega
 have k3 : (L : Int) + 1 ≤ (c : Int) := by omega
 have k4 : (M : Int) ≤ (L : Int) + 1 := by omega
 have k5 : L ≤ L + 1 := by omega
 have i9 : ¬ ((L : Int) < (M : Int)) := by omega
 have j1 : (M : Int) ≤ (c : Int) := by omega
 have j2 : 0 ≤ (M : Int) := by omega
 clear hL hM hLM hM0 hle hyle hmax hymax hroom
 by_cases hlt : M < L
 · have hlti : (M : Int) < (L : Int) := by omega
   have j3 : (M : Int) < (c : Int) := by omega
   have hcM : ¬ (c = M) := by omega
   go_enter Tryz.func103, Tryz.ntmps103
   go_wp2_with (go_at_call 68; (with_reducible refine hMK.out.mono ?_); rintro e w0 ⟨rfl, hw0⟩; subst w0)
   refine st (n := 11) (S := fun _ => True) (ds := []) rfl (trivial) (fun hHeld => ?_)
   refine pu 0 (some 37) rfl rfl ?_
   refine pu 1 (some 38) rfl rfl ?_
   refine pu 2 (some 39) rfl rfl ?_
   refine pu 3 (some 40) rfl rfl ?_
   refine pu 4 (some 41) rfl rfl ?_
   refine pu 5 (some 42) rfl rfl ?_
   refine pu 6 (some 43) rfl rfl ?_
   refine pu 7 (some 44) rfl rfl ?_
   refine pu 8 (some 45) rfl rfl ?_
   refine on 9 (some 46) rfl rfl (fun K hK => ?_)
   refine goes_ Tryz.func110 (by kernel_rfl) rfl #[.slice (some ⟨g, 0, none⟩) M c, .slice (some ⟨g, 0, none⟩) M c, .slice (some ⟨gy, 0, none⟩) M cy] (by rfl) rfl rfl (by (try simp only [List.map_toArray, List.map_cons, List.map_nil]); first | done | rfl) ?_
   refine (HV.out _ (KeptB.refl _ _).drew HB0.out.drew).mono ?_
   rintro e w1 ⟨out, c1, rfl, c10, ho, hdo, hvo, hbo, hko⟩
   refine ⟨_, rfl, ?_⟩
   refine hK.out _ _ (trivial) (fun hHeld => ?_)
   clear hK K
   refine nm ?_
   refine pu 10 (some 9) rfl rfl ?_
   refine done_ (by kernel_rfl) ?_
   have c11 := HC.out out c1 hdo ho hvo
   have HO := Aside0.mk (And.intro ho (And.intro hdo (And.intro hvo (And.intro hbo (And.intro hko (And.intro c10 c11))))))
   clear ho hdo hvo hbo hko c10 c11
   go_wp2
   refine st (n := 10) (S := fun _ => True) (ds := []) rfl (trivial) (fun hHeld => ?_)
   refine pu 0 (some 50) rfl rfl ?_
   refine pu 1 (some 51) rfl rfl ?_
   refine pu 2 (some 52) rfl rfl ?_
   refine pu 3 (some 53) rfl rfl ?_ (hr := by (intro w'; go_simp; (try simp only [if_neg hcM]); with_reducible rfl))
   refine pu 4 (some 54) rfl rfl ?_
   refine pu 5 (some 55) rfl rfl ?_
   refine pu 6 (some 56) rfl rfl ?_ (hr := by (intro w'; go_simp; (try simp only [if_neg hcM]); with_reducible rfl))
   refine pu 7 (some 57) rfl rfl ?_
   refine on 8 (some 58) rfl rfl (fun K hK => ?_)
   refine goes_ Tryz.func118 (by kernel_rfl) rfl #[.slice (some ⟨g, M, none⟩) (L - M) (c - M), .slice (some ⟨g, M, none⟩) (L - M) (c - M), .int .u64 c1] (by rfl) rfl rfl (by (try simp only [List.map_toArray, List.map_cons, List.map_nil]); first | done | rfl) ?_
   refine (HW.out _ out c1 HO.out.2.2.2.2.2.1 HO.out.2.2.2.2.2.2 HO.out.1 HO.out.2.2.2.1.drew hlt).mono ?_
   rintro e w1 ⟨out2, c2, rfl, c20, c21, ho2, hdo2, hvo2, hbo2, hko2⟩
   refine ⟨_, rfl, ?_⟩
   refine hK.out _ _ (trivial) (fun hHeld => ?_)
   clear hK K
   refine nm ?_
   refine pu 9 (some 9) rfl rfl ?_
   refine done_ (by kernel_rfl) ?_
   have hol : (out ++ out2).length = L := by rw [List.length_append, HO.out.1, ho2]; omega
   have HE := Aside0.mk (HE2.out out out2 c1 c2 HO.out.1 ho2 HO.out.2.2.1 hvo2)
   rw [← List.append_assoc] at hbo2
   have hput := hbo2.put L c2
   rw [HS.out _ hol] at hput
   have hcz := hbo2.cell (HG.out _ hol)
   have hfz := hbo2.frozen L
   have HP := Aside0.mk (And.intro hol (And.intro (HO.out.2.1.append hdo2) (And.intro hput (And.intro hko2 (Dig_one (x := c2) c20 (by omega))))))
   clear hol ho2 hdo2 hvo2 hbo2 hko2 hput c20 c21
   generalize rd (out ++ out2 ++ cs.drop L) (L : Int) = zz at *
   go_wp2_with (go_at_call 61; (with_reducible refine (HN.out _ (out ++ out2 ++ [c2]) HP.out.2.2.1 (by rw [List.length_append, HP.out.1, List.length_singleton]) (HP.out.2.1.append HP.out.2.2.2.2) HE.out).mono ?_); rintro e w2 ⟨rfl, hw2, hn⟩; subst w2; have HNN := Aside0.mk hn; clear hn)
   go_ret
   exact ⟨rfl, HNN.out, (((KeptB.refl w g).drew.then HO.out.2.2.2.2.1).drew.then HP.out.2.2.2.1).set _⟩
 · obtain rfl : M = L := by omega
   go_enter Tryz.func103, Tryz.ntmps103
   go_wp2_with (go_at_call 68; (with_reducible refine hMK.out.mono ?_); rintro e w0 ⟨rfl, hw0⟩; subst w0)
   refine st (n := 11) (S := fun _ => True) (ds := []) rfl (trivial) (fun hHeld => ?_)
   refine pu 0 (some 37) rfl rfl ?_
   refine pu 1 (some 38) rfl rfl ?_
   refine pu 2 (some 39) rfl rfl ?_
   refine pu 3 (some 40) rfl rfl ?_
   refine pu 4 (some 41) rfl rfl ?_
   refine pu 5 (some 42) rfl rfl ?_
   refine pu 6 (some 43) rfl rfl ?_
   refine pu 7 (some 44) rfl rfl ?_
   refine pu 8 (some 45) rfl rfl ?_
   refine on 9 (some 46) rfl rfl (fun K hK => ?_)
   refine goes_ Tryz.func110 (by kernel_rfl) rfl #[.slice (some ⟨g, 0, none⟩) M c, .slice (some ⟨g, 0, none⟩) M c, .slice (some ⟨gy, 0, none⟩) M cy] (by rfl) rfl rfl (by (try simp only [List.map_toArray, List.map_cons, List.map_nil]); first | done | rfl) ?_
   refine (HV.out _ (KeptB.refl _ _).drew HB0.out.drew).mono ?_
   rintro e w1 ⟨out, c1, rfl, c10, ho, hdo, hvo, hbo, hko⟩
   refine ⟨_, rfl, ?_⟩
   refine hK.out _ _ (trivial) (fun hHeld => ?_)
   clear hK K
   refine nm ?_
   refine pu 10 (some 9) rfl rfl ?_
   refine done_ (by kernel_rfl) ?_
   have c11 := HC.out out c1 hdo ho hvo
   have HE := Aside0.mk (HE1.out out c1 c10 c11 hdo ho hvo (by trivial))
   have hput := hbo.put M c1
   rw [HS.out _ ho] at hput
   have hcz := hbo.cell (HG.out _ ho)
   have hfz := hbo.frozen M
   have HO := Aside0.mk (And.intro ho (And.intro hdo (And.intro hput (And.intro hko (Dig_one (x := c1) c10 (by omega))))))
   clear ho hdo hvo hbo hko hput c10 c11
   generalize rd (out ++ cs.drop M) (M : Int) = zz at *
   go_wp2_with (go_at_call 61; (with_reducible refine (HN.out _ (out ++ [c1]) HO.out.2.2.1 (by rw [List.length_append, HO.out.1, List.length_singleton]) (HO.out.2.1.append HO.out.2.2.2.2) HE.out).mono ?_); rintro e w2 ⟨rfl, hw2, hn⟩; subst w2; have HNN := Aside0.mk hn; clear hn)
   go_ret
   exact ⟨rfl, HNN.out, ((KeptB.refl w g).drew.then HO.out.2.2.2.1).set _⟩
theorem Nc.zero {w : World} {g c n : Nat} (h : Nc w g c n) : Nc w g c 0 := by
 obtain ⟨cs, h1, h2, _⟩ := h.out
 exact ⟨⟨cs, h1, h2, by rw [W64.digs_zero]; rfl⟩, by rw [W64.digs_zero]; exact Nat.zero_le _, h.pos, h.max⟩
set_option maxHeartbeats 4000000 in
set_option maxRecDepth 100000 in
theorem set_other (g c n gy cy m : Nat) (w : World) (h : Nc w g c n) (hy : Nc w gy cy m) (hne : gy ≠ g) (hlen : (W64.digs m).length ≤ c) :
   Calls Tryz.prog 67 #[.slice (some ⟨g, 0, none⟩) (W64.digs n).length c, .slice (some ⟨gy, 0, none⟩) (W64.digs m).length cy] w fun e w' => e = .returned (.slice (some ⟨g, 0, none⟩) (W64.digs m).length c) ∧ Nc w' g c m ∧ KeptB w w' g := by
 have hle := h.le
 have hmax := h.max
 have hyle := hy.le
 have hymax := hy.max
 have hMK := Aside0.mk (make_in g (W64.digs n).length (W64.digs m).length c w h.le hlen (by omega))
 obtain ⟨cs, hbuf, hcl, htk⟩ := h.out
 have HC : Aside0 (Buf w g ([] ++ (cs.take (W64.digs m).length ++ cs.drop (W64.digs m).length)) ∧ (cs.take (W64.digs m).length).length = (W64.digs m).length ∧ ∀ i : Nat, i < (W64.digs m).length → w.cell? ((⟨gy, 0, none⟩ : Addr).add i) = some (.int .u64 (rd (W64.digs m) (i : Int)))) := ⟨by rw [List.nil_append, List.take_append_drop]; exact hbuf, by rw [List.length_take]; omega, fun i hi => by rw [add_at, Nat.zero_add]; exact hy.cells i hi⟩
 have HF := Aside0.mk (fun (w1 : World) (hb : Buf w1 g ([] ++ (W64.digs m ++ cs.drop (W64.digs m).length)) ∧ KeptB w w1 g) => (And.intro (Nc.of (n := m) (by have := hb.1; rwa [List.nil_append] at this) (Nat.le_refl _) (List.take_length ..) (by simp; omega) h.pos h.max) hb.2 : Nc w1 g c m ∧ KeptB w w1 g))
 have i1 : ((W64.digs m).length : Int) ≤ (c : Int) := by omega
 have i2 : (c : Int) ≤ 1000 := by omega
 have i3 : ((W64.digs m).length : Int) ≤ (cy : Int) := by omega
 have i4 : (cy : Int) ≤ 1000 := by omega
 clear h hy hbuf hcl htk hle hmax hyle hymax hlen
 generalize W64.digs m = ys at *
 generalize hML : ys.length = M at *
 have HML := Aside0.mk hML.symm
 clear hML
 generalize (W64.digs n).length = L at *
 go_enter Tryz.func67, Tryz.ntmps67
 go_wp2_with (first | (go_at_call 68; (with_reducible refine hMK.out.mono ?_); rintro e w0 ⟨rfl, hw0⟩; subst w0) | ((with_reducible refine wpList_copy_buf rfl (.tmp 9) (.tmp 10) 57 57 rfl 89 Tryz.underlying57 sizeW g 0 _ _ ⟨gy, 0, none⟩ _ _ rfl rfl [] (cs.take M) ys (cs.drop M) HC.out.1 rfl (HC.out.2.1.trans HML.out) HML.out HML.out (fun i hi => HC.out.2.2 i (Nat.lt_of_lt_of_eq hi HML.out.symm)) ?_); intro w1 HB))
 go_ret
 exact ⟨rfl, HF.out _ HB.out⟩
set_option maxHeartbeats 4000000 in
set_option maxRecDepth 100000 in
theorem set_same (g c n : Nat) (w : World) (h : Nc w g c n) :
   Calls Tryz.prog 67 #[.slice (some ⟨g, 0, none⟩) (W64.digs n).length c, .slice (some ⟨g, 0, none⟩) (W64.digs n).length c] w fun e w' => e = .returned (.slice (some ⟨g, 0, none⟩) (W64.digs n).length c) ∧ Nc w' g c n ∧ KeptB w w' g := by
 have hle := h.le
 have hmax := h.max
 have hlen := h.le
 have hMK := Aside0.mk (make_in g (W64.digs n).length (W64.digs n).length c w h.le hlen (by omega))
 obtain ⟨cs, hbuf, hcl, htk⟩ := h.out
 have HC : Aside0 (Buf w g ([] ++ (cs.take (W64.digs n).length ++ cs.drop (W64.digs n).length)) ∧ (cs.take (W64.digs n).length).length = (W64.digs n).length ∧ ∀ i : Nat, i < (W64.digs n).length → w.cell? ((⟨g, 0, none⟩ : Addr).add i) = some (.int .u64 (rd (W64.digs n) (i : Int)))) := ⟨by rw [List.nil_append, List.take_append_drop]; exact hbuf, by rw [List.length_take]; omega, fun i hi => by rw [add_at, Nat.zero_add]; exact h.cells i hi⟩
 have HF := Aside0.mk (fun (w1 : World) (hb : Buf w1 g ([] ++ (W64.digs n ++ cs.drop (W64.digs n).length)) ∧ KeptB w w1 g) => (And.intro (Nc.of (n := n) (by have := hb.1; rwa [List.nil_append] at this) (Nat.le_refl _) (List.take_length ..) (by simp; omega) h.pos h.max) hb.2 : Nc w1 g c n ∧ KeptB w w1 g))
 have i1 : ((W64.digs n).length : Int) ≤ (c : Int) := by omega
 have i2 : (c : Int) ≤ 1000 := by omega
 have i3 : ((W64.digs n).length : Int) ≤ (c : Int) := by omega
 have i4 : (c : Int) ≤ 1000 := by omega
 clear h hbuf hcl htk hle hmax hlen
 generalize W64.digs n = ys at *
 generalize hML : ys.length = M at *
 have HML := Aside0.mk hML.symm
 clear hML
 go_enter Tryz.func67, Tryz.ntmps67
 go_wp2_with (first | (go_at_call 68; (with_reducible refine hMK.out.mono ?_); rintro e w0 ⟨rfl, hw0⟩; subst w0) | ((with_reducible refine wpList_copy_buf rfl (.tmp 9) (.tmp 10) 57 57 rfl 89 Tryz.underlying57 sizeW g 0 _ _ ⟨g, 0, none⟩ _ _ rfl rfl [] (cs.take M) ys (cs.drop M) HC.out.1 rfl (HC.out.2.1.trans HML.out) HML.out HML.out (fun i hi => HC.out.2.2 i (Nat.lt_of_lt_of_eq hi HML.out.symm)) ?_); intro w1 HB))
 go_ret
 exact ⟨rfl, HF.out _ HB.out⟩
set_option maxHeartbeats 1000000 in
theorem add_zero_rec (g c gy cy m : Nat) (w : World) (h : Nc w g c 0) (hy : Nc w gy cy m) (hne : gy ≠ g) (hm : m ≠ 0) (hlen : (W64.digs m).length ≤ c) :
   Calls Tryz.prog 103 #[.slice (some ⟨g, 0, none⟩) 0 c, .slice (some ⟨gy, 0, none⟩) (W64.digs m).length cy, .slice (some ⟨g, 0, none⟩) 0 c] w fun e w' => e = .returned (.slice (some ⟨g, 0, none⟩) (W64.digs m).length c) ∧ Nc w' g c m ∧ KeptB w w' g := by
 have HS := set_other g c 0 gy cy m w h hy hne hlen
 rw [W64.digs_zero, List.length_nil] at HS
 have HS := Aside0.mk HS
 have hM := W64.len_pos hm
 have i1 : ((W64.digs m).length : Int) ≤ 1000 := by have := h.max; omega
 have i2 : 0 < ((W64.digs m).length : Int) := by omega
 have i3 : (((W64.digs m).length : Int) == 0) = false := beq_eq_false_iff_ne.mpr (by omega)
 have i4 : ¬ (((W64.digs m).length : Int) < 0) := by omega
 clear h hy hne hm hlen hM
 generalize (W64.digs m).length = M at *
 go_enter Tryz.func103, Tryz.ntmps103
 go_wp2_with (go_at_call 67; (with_reducible refine HS.out.mono ?_); rintro e w1 ⟨rfl, h⟩; have HH := Aside0.mk h; clear h)
 go_ret
 exact ⟨rfl, HH.out⟩
set_option maxHeartbeats 1000000 in
theorem add_zero (g c gy cy m : Nat) (w : World) (h : Nc w g c 0) (hy : Nc w gy cy m) (hne : gy ≠ g) (hm : m ≠ 0) (hlen : (W64.digs m).length ≤ c) :
   Calls Tryz.prog 103 #[.slice (some ⟨g, 0, none⟩) 0 c, .slice (some ⟨g, 0, none⟩) 0 c, .slice (some ⟨gy, 0, none⟩) (W64.digs m).length cy] w fun e w' => e = .returned (.slice (some ⟨g, 0, none⟩) (W64.digs m).length c) ∧ Nc w' g c m ∧ KeptB w w' g := by
 have HS := Aside0.mk (add_zero_rec g c gy cy m w h hy hne hm hlen)
 have hM := W64.len_pos hm
 have i1 : ((W64.digs m).length : Int) ≤ 1000 := by have := h.max; omega
 have i2 : 0 < ((W64.digs m).length : Int) := by omega
 clear h hy hne hm hlen hM
 generalize (W64.digs m).length = M at *
 go_enter Tryz.func103, Tryz.ntmps103
 go_wp2_with (go_at_call 103; (with_reducible refine HS.out.mono ?_); rintro e w1 ⟨rfl, h⟩; have HH := Aside0.mk h; clear h)
 go_ret
 exact ⟨rfl, HH.out⟩
theorem natOne_nc (w : World) : Calls Tryz.prog 101 #[] w fun e w' => e = .returned (.slice (some ⟨w.heap.size, 0, none⟩) (W64.digs 1).length 1) ∧ Nc w' w.heap.size 1 1 ∧ Below w.heap.size w w' := by
 have hd : W64.digs 1 = [1] := W64.digs_one (by decide) (by decide)
 have HB := Aside0.mk (Buf.lit w [1] rfl)
 rw [hd]
 go_enter Tryz.func101, Tryz.ntmps101
 go_wp2
 go_ret
 exact ⟨rfl, ⟨⟨[1], HB.out, rfl, by rw [hd]; rfl⟩, by rw [hd]; exact Nat.le_refl _, by decide, by decide⟩, (Below.refl _ _).alloc (Nat.le_refl _) _⟩
set_option maxHeartbeats 1000000 in
theorem add_one (g c n gy cy : Nat) (w : World) (h : Nc w g c n) (hy : Nc w gy cy 1) (hne : gy ≠ g) (hroom : (W64.digs n).length + 1 ≤ c) :
   Calls Tryz.prog 103 #[.slice (some ⟨g, 0, none⟩) (W64.digs n).length c, .slice (some ⟨g, 0, none⟩) (W64.digs n).length c, .slice (some ⟨gy, 0, none⟩) (W64.digs 1).length cy] w fun e w' => e = .returned (.slice (some ⟨g, 0, none⟩) (W64.digs (n + 1)).length c) ∧ Nc w' g c (n + 1) ∧ KeptB w w' g := by
 have hd : (W64.digs 1).length = 1 := by rw [W64.digs_one (by decide) (by decide)]; rfl
 by_cases h0 : n = 0
 · subst h0
   have := add_zero g c gy cy 1 w h hy hne (by decide) (by rw [hd]; have := h.pos; omega)
   rw [W64.digs_zero]
   exact this
 · exact add_nc g c n gy cy 1 w h hy hne (by decide) (by rw [hd]; have := W64.len_pos h0; omega) hroom
set_option maxHeartbeats 1000000 in
theorem setWord_in (g c n x : Nat) (w : World) (h : Nc w g c n) (hx0 : x ≠ 0) (hx : x < 18446744073709551616) :
   Calls Tryz.prog 112 #[.slice (some ⟨g, 0, none⟩) (W64.digs n).length c, .int .u64 x] w fun e w' => e = .returned (.slice (some ⟨g, 0, none⟩) (W64.digs x).length c) ∧ Nc w' g c x ∧ KeptB w w' g := by
 have hd : W64.digs x = [(x : Int)] := W64.digs_one hx0 hx
 have hM0 := make_in g (W64.digs n).length 1 c w h.le h.pos (by have := h.max; omega)
 rw [show ((1 : Nat) : Int) = 1 from rfl] at hM0
 have hM := Aside0.mk hM0
 clear hM0
 obtain ⟨cs, hb, hl, _⟩ := h.out
 have hpos := h.pos
 have hcz := hb.cell (j := 0) (by omega)
 have hfz := hb.frozen 0
 have hput := hb.put 0 (x : Int)
 have HF := Aside0.mk (fun (w1 : World) (hb1 : Buf w1 g (cs.set 0 (x : Int))) => (⟨⟨_, hb1, by simp [hl], by
   rw [hd]
   match cs, hl, hpos with
   | [], e, p => simp at e; omega
   | a :: l, _, _ => simp⟩, by rw [hd]; exact hpos, hpos, h.max⟩ : Nc w1 g c x))
 have HP := Aside0.mk hput
 have hxb : ((x : Int) == 0) = false := beq_eq_false_iff_ne.mpr (by omega)
 have hx1 : (x : Int) < 18446744073709551616 := by omega
 rw [hd]
 clear h hb hl hpos hput hd hx0 hx
 generalize rd cs ((0 : Nat) : Int) = zz at *
 generalize (W64.digs n).length = L at *
 go_enter Tryz.func112, Tryz.ntmps112
 go_wp2_with (go_at_call 68; (with_reducible refine hM.out.mono ?_); rintro e w1 ⟨rfl, hw1⟩; subst w1)
 go_ret
 exact ⟨rfl, HF.out _ HP.out, (KeptB.refl _ _).set _⟩
set_option maxHeartbeats 1000000 in
theorem setWord_new (x : Nat) (w : World) (hx0 : x ≠ 0) (hx : x < 18446744073709551616) :
   Calls Tryz.prog 112 #[.slice none 0 0, .int .u64 x] w fun e w' => ∃ c, e = .returned (.slice (some ⟨w.heap.size, 0, none⟩) (W64.digs x).length c) ∧ Nc w' w.heap.size c x ∧ Below w.heap.size w w' := by
 have hd : W64.digs x = [(x : Int)] := W64.digs_one hx0 hx
 have hM0 := make_new none 0 1 0 w (by decide) (by decide) (by decide)
 rw [show ((1 : Nat) : Int) = 1 from rfl] at hM0
 have hM := Aside0.mk hM0
 clear hM0
 have hxb : ((x : Int) == 0) = false := beq_eq_false_iff_ne.mpr (by omega)
 have hx1 : (x : Int) < 18446744073709551616 := by omega
 have HD := Aside0.mk hd
 rw [hd]
 clear hd hx0 hx
 go_enter Tryz.func112, Tryz.ntmps112
 go_wp2_with (go_at_call 68; (with_reducible refine hM.out.mono ?_); rintro e w1 ⟨c, rfl, h1, h2, h3, h4, h5⟩; have hcz := h3.cell (j := 0) (by simp; omega); have hfz := h3.frozen 0; have hput := h3.put 0 (x : Int); have HP := Aside0.mk (And.intro hput (And.intro h1 (And.intro h2 h5))); clear h1 h2 h3 h4 h5 hput)
 go_ret
 obtain ⟨p1, p2, p3, p4⟩ := HP.out
 refine ⟨c, rfl, ⟨⟨_, p1, by simp, ?_⟩, by rw [HD.out]; exact p2, by omega, by omega⟩, below_kept (by exact (KeptB.of_below p4).set _) (Nat.le_refl _) (Nat.le_refl _)⟩
 rw [HD.out]
 match c, p2 with
 | 0, e => simp at e
 | c + 1, _ => simp [List.replicate_succ]
set_option maxHeartbeats 1000000 in
theorem setU_in (g c n x : Nat) (w : World) (h : Nc w g c n) (hx0 : x ≠ 0) (hx : x < 18446744073709551616) :
   Calls Tryz.prog 105 #[.slice (some ⟨g, 0, none⟩) (W64.digs n).length c, .int .u64 x] w fun e w' => e = .returned (.slice (some ⟨g, 0, none⟩) (W64.digs x).length c) ∧ Nc w' g c x ∧ KeptB w w' g := by
 have HM := Aside0.mk (setWord_in g c n x w h hx0 hx)
 have hx1 : (x : Int) < 18446744073709551616 := by omega
 have hx2 : 0 ≤ (x : Int) := by omega
 clear hx hx0 h
 generalize (x : Int) = X at *
 go_enter Tryz.func105, Tryz.ntmps105
 go_wp2_with (go_at_call 112; (with_reducible refine HM.out.mono ?_); rintro e w1 ⟨rfl, h⟩; have HH := Aside0.mk h; clear h)
 go_ret
 exact ⟨rfl, HH.out⟩
set_option maxHeartbeats 1000000 in
theorem setU_new (x : Nat) (w : World) (hx0 : x ≠ 0) (hx : x < 18446744073709551616) :
   Calls Tryz.prog 105 #[.slice none 0 0, .int .u64 x] w fun e w' => ∃ c, e = .returned (.slice (some ⟨w.heap.size, 0, none⟩) (W64.digs x).length c) ∧ Nc w' w.heap.size c x ∧ Below w.heap.size w w' := by
 have HM := Aside0.mk (setWord_new x w hx0 hx)
 have hx1 : (x : Int) < 18446744073709551616 := by omega
 have hx2 : 0 ≤ (x : Int) := by omega
 clear hx hx0
 generalize (x : Int) = X at *
 go_enter Tryz.func105, Tryz.ntmps105
 go_wp2_with (go_at_call 112; (with_reducible refine HM.out.mono ?_); rintro e w1 ⟨c, rfl, h⟩; have HH := Aside0.mk h; clear h)
 go_ret
 exact ⟨c, rfl, HH.out⟩
end Go.Proofs.YteohmbannpbokaaGreatDoor.WordWalk
