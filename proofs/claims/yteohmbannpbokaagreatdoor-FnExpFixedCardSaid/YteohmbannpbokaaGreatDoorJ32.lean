/-
 Integers of the package: shifted down where they stand; set to a small one.
 Integers of the package: set to a small one; a sum where it stands; shifted up; amounts compared.
-/
import Derived.Test.YteohmbannpbokaaGreatDoorJ01
import Derived.Test.YteohmbannpbokaaGreatDoorJ31
set_option linter.unusedVariables false
set_option linter.unusedSimpArgs false
namespace Go.Proofs.YteohmbannpbokaaGreatDoor.WordWalk
open Go.RowKit Go.Proofs.YteohmbannpbokaaGreatDoorW.PrintWords Go.Proofs.YteohmbannpbokaaGreatDoorW.PrintLast Go.Proofs.YteohmbannpbokaaGreatDoorW.PrintMore Go.Proofs.YteohmbannpbokaaGreatDoor.SpecWalk Go.Proofs.YteohmbannpbokaaGreatDoor.BigWalk
theorem kb {w w1 : World} {g : Nat} (h : KeptB w w1 g) : KeptP w w1 (fun k => k = g) := KeptP.ofB h rfl
set_option maxHeartbeats 4000000 in
set_option maxRecDepth 100000 in
theorem Rsh_pos (gz az : Nat) (t : Int) (s : Nat) (w : World) (ht : Zm w gz az t) (h0 : 0 ≤ t) (hs0 : 0 < s) (hs : s ≤ 1000) :
   Calls Tryz.prog 72 #[.pointer (some ⟨gz, 0, none⟩), .pointer (some ⟨gz, 0, none⟩), .int .u64 s] w fun e w' => e = .returned (.pointer (some ⟨gz, 0, none⟩)) ∧ Zm w' gz az (t / 2 ^ s) ∧ KeptP w w' (fun k => k = gz ∨ k = az) := by
 obtain ⟨c, hc5, hzb, hzn⟩ := ht.out
 have hzlt := ht.blk.lt
 obtain ⟨n, rfl⟩ := Int.eq_ofNat_of_zero_le h0
 rw [show ((n : Int)).natAbs = n from Int.natAbs_natCast n, decide_eq_false (show ¬ ((n : Int) < 0) by omega)] at hzb
 rw [show ((n : Int)).natAbs = n from Int.natAbs_natCast n] at hzn
 have hp : (n : Int) / 2 ^ s = ((n / 2 ^ s : Nat) : Int) := by simp
 rw [hp]
 have HM := Aside0.mk (fun (w1 : World) (hk : Below w.heap.size w w1) => rsh_nc az c n s w1 (hzn.kept (P := fun _ => False) (KeptP.ofBelow hk) id) hs0 hs)
 have cz0 := hzb.c0; have cz1 := hzb.c1; have fz0 := hzb.f0; have fz1 := hzb.f1
 have HZ := Aside0.mk (And.intro hzb (And.intro ht.blk (And.intro hzlt (And.intro ht.ne hc5))))
 have HPP := Aside0.mk (And.intro (show (((n / 2 ^ s : Nat) : Int)).natAbs = n / 2 ^ s from Int.natAbs_natCast _) (decide_eq_false (show ¬ (((n / 2 ^ s : Nat) : Int) < 0) from Int.not_lt.2 (Int.natCast_nonneg _))))
 clear ht hzb hzn hzlt hc5 hp h0 hs0 hs
 generalize (W64.digs n).length = lt at *
 generalize n / 2 ^ s = p at *
 go_enter Tryz.func72, Tryz.ntmps72
 go_wp2_with fail
 refine st (n := 14) (S := fun w' => w'.cell? ⟨gz, 1, none⟩ = some (.slice (some ⟨az, 0, none⟩) lt c)) (ds := [13]) rfl (by simpa using cz1) (fun hHeld => ?_)
 refine pu 0 (some 37) rfl rfl ?_
 refine pu 1 (some 38) rfl rfl ?_
 refine pu 2 (some 39) rfl rfl ?_
 refine pu 3 (some 40) rfl rfl ?_
 refine tk 4 (some 41) rfl rfl hHeld ?_ (by (rintro w' s0; go_simp; with_reducible rfl))
 refine pu 5 (some 42) rfl rfl ?_
 refine pu 6 (some 43) rfl rfl ?_
 refine pu 7 (some 44) rfl rfl ?_
 refine tk 8 (some 45) rfl rfl hHeld ?_ (by (rintro w' s0; go_simp; with_reducible rfl))
 refine pu 9 (some 46) rfl rfl ?_
 refine on 10 (some 47) rfl rfl (fun K hK => ?_)
 refine goes_ Tryz.func102 (by kernel_rfl) rfl #[.slice (some ⟨az, 0, none⟩) lt c, .slice (some ⟨az, 0, none⟩) lt c, .int .u64 s] (by rfl) rfl rfl (by (try simp only [List.map_toArray, List.map_cons, List.map_nil]); first | done | rfl) ?_
 refine (HM.out _ (Below.refl _ _).drew).mono ?_
 rintro e w1 ⟨rfl, hnum, hkk⟩
 refine ⟨_, rfl, ?_⟩
 have hgz : gz ≠ az := Ne.symm HZ.out.2.2.2.1
 have bz1 := KeptP.box HZ.out.1.drew (kb hkk) hgz
 have hbk := KeptP.blk HZ.out.2.1.drew (kb hkk) hgz
 have c1' := bz1.c1
 have f1' := bz1.f1
 refine hK.out _ _ ((kb hkk).cell hgz hHeld) (fun hHeld => ?_)
 clear hK K
 refine nm ?_
 refine pu 11 (some 48) rfl rfl ?_
 refine pu 12 (some 49) rfl rfl ?_
 refine la 13 none rfl rfl (fun K hK => ?_)
 refine skip_ (w1 := ?_) (by rfl) rfl ?_ ?_
 rotate_left
 · go_simp
   rfl
 refine hK.out _ _ ?_
 clear hK K
 refine done_ (by kernel_rfl) ?_
 have haz' : az ≠ gz := HZ.out.2.2.2.1
 have hkw : KeptP w w1 (fun k => k = gz ∨ k = az) := (KeptP.refl w _).drew.then ((kb hkk).mono (fun _ h => .inr h))
 have bz2 := bz1.put1 (.slice (some ⟨az, 0, none⟩) (W64.digs p).length c)
 have hb2 : Blk (w1.setCell ⟨gz, 1, none⟩ (.slice (some ⟨az, 0, none⟩) (W64.digs p).length c)) gz := hbk.set _ _
 have hn2 := hnum.kept (P := fun k => k = gz) (KeptP.set (P := fun k => k = gz) (KeptP.refl w1 _) ⟨gz, 1, none⟩ (.inl rfl) (.slice (some ⟨az, 0, none⟩) (W64.digs p).length c)) haz'
 have hk2 : KeptP w (w1.setCell ⟨gz, 1, none⟩ (.slice (some ⟨az, 0, none⟩) (W64.digs p).length c)) (fun k => k = gz ∨ k = az) := KeptP.set (P := fun k => k = gz ∨ k = az) hkw ⟨gz, 1, none⟩ (.inl (.inl rfl)) _
 have z1 := bz2.c1; have z0 := bz2.c0; have zf0 := bz2.f0
 have HF := Aside0.mk (And.intro hb2 (And.intro hn2 hk2))
 have HB2 := Aside0.mk bz2
 clear hkk bz1 c1' f1' hHeld hnum hb2 hn2 hk2 bz2 HM cz0 cz1 fz0 fz1 hgz hkw hbk
 generalize hW2 : w1.setCell ⟨gz, 1, none⟩ (.slice (some ⟨az, 0, none⟩) (W64.digs p).length c) = W2 at *
 clear hW2
 go_wp2
 go_ret
 have hs2 := KeptP.set (P := fun k => k = gz) (KeptP.refl W2 _) ⟨gz, 0, none⟩ (.inl rfl) (Value.bool false)
 refine ⟨rfl, ⟨⟨c, HZ.out.2.2.2.2, ?_, ?_⟩, HF.out.1.set _ _, haz'⟩, KeptP.set (P := fun k => k = gz ∨ k = az) HF.out.2.2 ⟨gz, 0, none⟩ (.inl (.inl rfl)) _⟩
 · rw [HPP.out.1, HPP.out.2]; exact HB2.out.put0 _
 · rw [HPP.out.1]; exact HF.out.2.1.kept hs2 haz'
theorem rsh_nil (s : Nat) (w : World) (hs0 : 0 < s) (hs : s ≤ 1000) :
   Calls Tryz.prog 102 #[.slice none 0 0, .slice none 0 0, .int .u64 (s : Int)] w fun e w' => e = .returned (.slice none 0 0) ∧ w' = w := by
 have s0 : ((s : Int) == 0) = false := beq_eq_false_iff_ne.mpr (by omega)
 have m2 : (s : Int).tdiv 64 = (s : Int) / 64 := Int.tdiv_eq_ediv_of_nonneg (by omega)
 have k0 : 0 ≤ (s : Int) / 64 := by omega
 have k1 : (s : Int) / 64 ≤ 100 := by omega
 clear hs0 hs
 have m3 : -((s : Int) / 64) ≤ 0 := by omega
 have m4 : wrap64 (-((s : Int) / 64)) = -((s : Int) / 64) := by unfold wrap64; omega
 generalize (s : Int) / 64 = K at *
 go_enter Tryz.func102, Tryz.ntmps102
 go_wp2
 go_ret
 exact ⟨rfl, rfl⟩
set_option maxHeartbeats 4000000 in
set_option maxRecDepth 100000 in
theorem Rsh_nil (gz : Nat) (s : Nat) (w : World) (hzb : Box w gz [.bool false, .slice none 0 0]) (hbk0 : Blk w gz) (hs0 : 0 < s) (hs : s ≤ 1000) :
   Calls Tryz.prog 72 #[.pointer (some ⟨gz, 0, none⟩), .pointer (some ⟨gz, 0, none⟩), .int .u64 s] w fun e w' => e = .returned (.pointer (some ⟨gz, 0, none⟩)) ∧ Box w' gz [.bool false, .slice none 0 0] ∧ Blk w' gz ∧ KeptP w w' (fun k => k = gz) := by
 have HM := Aside0.mk (fun (w1 : World) => rsh_nil s w1 hs0 hs)
 have cz0 := hzb.c0; have cz1 := hzb.c1; have fz0 := hzb.f0; have fz1 := hzb.f1
 have HZ := Aside0.mk (And.intro hzb hbk0)
 clear hzb hs0 hs hbk0
 go_enter Tryz.func72, Tryz.ntmps72
 go_wp2_with fail
 refine st (n := 14) (S := fun w' => w'.cell? ⟨gz, 1, none⟩ = some (.slice none 0 0)) (ds := [13]) rfl (by simpa using cz1) (fun hHeld => ?_)
 refine pu 0 (some 37) rfl rfl ?_
 refine pu 1 (some 38) rfl rfl ?_
 refine pu 2 (some 39) rfl rfl ?_
 refine pu 3 (some 40) rfl rfl ?_
 refine tk 4 (some 41) rfl rfl hHeld ?_ (by (rintro w' s0; go_simp; with_reducible rfl))
 refine pu 5 (some 42) rfl rfl ?_
 refine pu 6 (some 43) rfl rfl ?_
 refine pu 7 (some 44) rfl rfl ?_
 refine tk 8 (some 45) rfl rfl hHeld ?_ (by (rintro w' s0; go_simp; with_reducible rfl))
 refine pu 9 (some 46) rfl rfl ?_
 refine on 10 (some 47) rfl rfl (fun K hK => ?_)
 refine goes_ Tryz.func102 (by kernel_rfl) rfl #[.slice none 0 0, .slice none 0 0, .int .u64 s] (by rfl) rfl rfl (by (try simp only [List.map_toArray, List.map_cons, List.map_nil]); first | done | rfl) ?_
 refine (HM.out _).mono ?_
 rintro e w1 ⟨rfl, hw1⟩
 refine ⟨_, rfl, ?_⟩
 have bz1 : Box w1 gz [.bool false, .slice none 0 0] := (hw1 ▸ HZ.out.1.drew)
 have hbk : Blk w1 gz := (hw1 ▸ HZ.out.2.drew)
 have hk1 : KeptP w w1 (fun k => k = gz) := (hw1 ▸ (KeptP.refl w _).drew)
 clear hw1
 have c1' := bz1.c1
 have f1' := bz1.f1
 refine hK.out _ _ (c1') (fun hHeld => ?_)
 clear hK K
 refine nm ?_
 refine pu 11 (some 48) rfl rfl ?_
 refine pu 12 (some 49) rfl rfl ?_
 refine la 13 none rfl rfl (fun K hK => ?_)
 refine skip_ (w1 := ?_) (by rfl) rfl ?_ ?_
 rotate_left
 · go_simp
   rfl
 refine hK.out _ _ ?_
 clear hK K
 refine done_ (by kernel_rfl) ?_
 have bz2 := bz1.put1 (.slice none 0 0)
 have z0 := bz2.c0; have zf0 := bz2.f0
 have HB2 := Aside0.mk bz2
 have HK := Aside0.mk (And.intro (hbk.set ⟨gz, 1, none⟩ (.slice none 0 0)) (KeptP.set (P := fun k => k = gz) hk1 ⟨gz, 1, none⟩ (.inl rfl) (.slice none 0 0)))
 clear bz2 bz1 hbk hk1 c1' f1' hHeld cz0 cz1 fz0 fz1 HM
 generalize hW2 : w1.setCell ⟨gz, 1, none⟩ (.slice none 0 0) = W2 at *
 clear hW2
 go_wp2
 go_ret
 exact ⟨rfl, HB2.out.put0 _, HK.out.1.set _ _, KeptP.set (P := fun k => k = gz) HK.out.2 ⟨gz, 0, none⟩ (.inl rfl) _⟩
theorem neg_shift {t : Int} {s : Nat} (h : t < 0) : t / 2 ^ s < 0 ∧ (t / 2 ^ s).natAbs = (t.natAbs - 1) / 2 ^ s + 1 := by
 obtain ⟨m, hm⟩ : ∃ m : Nat, t = -((m : Int) + 1) := ⟨t.natAbs - 1, by omega⟩
 have hp : 0 < (2 : Nat) ^ s := Nat.pow_pos (by decide)
 have e2 : (2 : Int) ^ s = ((2 ^ s : Nat) : Int) := by simp
 have e3 : t.natAbs - 1 = m := by omega
 rw [e3]
 have e1 : t / 2 ^ s = -(((m / 2 ^ s : Nat) : Int) + 1) := by
   rw [hm, e2]
   generalize (2 : Nat) ^ s = P at *
   have h1 := Nat.div_add_mod m P
   have h2 := Nat.mod_lt m hp
   have h3 : (P : Int) * ((m / P : Nat) : Int) = ((P * (m / P) : Nat) : Int) := (Int.natCast_mul _ _).symm
   generalize m / P = q at *
   generalize m % P = r at *
   have h4 : -((m : Int) + 1) = ((P : Int) - 1 - r) + P * (-((q : Int) + 1)) := by
     rw [Int.mul_neg, Int.mul_add, Int.mul_one, h3]
     omega
   rw [h4, Int.add_mul_ediv_left _ _ (by omega), Int.ediv_eq_zero_of_lt (by omega) (by omega)]
   omega
 rw [e1]
 have := Int.natCast_nonneg (m / 2 ^ s)
 generalize ((m / 2 ^ s : Nat)) = q at *
 omega
set_option maxHeartbeats 4000000 in
set_option maxRecDepth 100000 in
theorem Rsh_neg (gz az : Nat) (t : Int) (s : Nat) (w : World) (ht : Zm w gz az t) (h0 : t < 0) (hs0 : 0 < s) (hs : s ≤ 1000) (hlen : (W64.digs ((t.natAbs - 1) / 2 ^ s)).length ≤ 4) :
   Calls Tryz.prog 72 #[.pointer (some ⟨gz, 0, none⟩), .pointer (some ⟨gz, 0, none⟩), .int .u64 s] w fun e w' => e = .returned (.pointer (some ⟨gz, 0, none⟩)) ∧ Zm w' gz az (t / 2 ^ s) ∧ KeptP w w' (fun k => k = gz ∨ k = az) := by
 obtain ⟨c, hc5, hzb, hzn⟩ := ht.out
 have hzlt := ht.blk.lt
 have hnlt := hzn.lt
 obtain ⟨hq1, hq2⟩ := neg_shift (s := s) h0
 rw [decide_eq_true h0] at hzb
 have hn1 : 1 ≤ t.natAbs := by omega
 have HPP := Aside0.mk (And.intro hq2 (decide_eq_true hq1))
 generalize t.natAbs = n at *
 have HO := Aside0.mk (fun w => natOne_nc w)
 have HS := Aside0.mk (fun (w1 : World) (o : Nat) (hk : Below w.heap.size w w1) (ho : w.heap.size ≤ o) (h1 : Nc w1 o 1 1) => sub_nc az c n o 1 1 w1 (hzn.kept (P := fun _ => False) (KeptP.ofBelow hk) id) h1 (by omega) (by decide) hn1)
 have HR := Aside0.mk (fun (w1 : World) (h1 : Nc w1 az c (n - 1)) => rsh_nc az c (n - 1) s w1 h1 hs0 hs)
 have HA := Aside0.mk (fun (w1 : World) (o : Nat) (ho : o ≠ az) (h1 : Nc w1 az c ((n - 1) / 2 ^ s)) (h2 : Nc w1 o 1 1) => add_one az c ((n - 1) / 2 ^ s) o 1 w1 h1 h2 ho (by omega))
 have cz0 := hzb.c0; have cz1 := hzb.c1; have fz0 := hzb.f0; have fz1 := hzb.f1
 have HZ := Aside0.mk (And.intro hzb (And.intro ht.blk (And.intro hzlt (And.intro ht.ne (And.intro hc5 hnlt)))))
 clear ht hzb hzn hzlt hc5 hs0 hs hlen hn1 hq1 hq2 hnlt
 generalize (W64.digs n).length = lt at *
 go_enter Tryz.func72, Tryz.ntmps72
 go_wp2_with fail
 refine st (n := 11) (S := fun w' => w'.cell? ⟨gz, 1, none⟩ = some (.slice (some ⟨az, 0, none⟩) lt c)) (ds := []) rfl (by simpa using cz1) (fun hHeld => ?_)
 refine pu 0 (some 12) rfl rfl ?_
 refine pu 1 (some 13) rfl rfl ?_
 refine pu 2 (some 14) rfl rfl ?_
 refine tk 3 (some 15) rfl rfl hHeld ?_ (by (rintro w' s0; go_simp; with_reducible rfl))
 refine pu 4 (some 16) rfl rfl ?_
 refine pu 5 (some 17) rfl rfl ?_
 refine pu 6 (some 18) rfl rfl ?_
 refine tk 7 (some 19) rfl rfl hHeld ?_ (by (rintro w' s0; go_simp; with_reducible rfl))
 refine on 8 (some 20) rfl rfl (fun K hK => ?_)
 refine goes_ Tryz.func101 (by kernel_rfl) rfl #[] (by rfl) rfl rfl (by (try simp only [List.map_toArray, List.map_cons, List.map_nil]); first | done | rfl) ?_
 refine (HO.out _).mono ?_
 rintro e w1 ⟨rfl, hone, hbe⟩
 refine ⟨_, rfl, ?_⟩
 have hbe1 : Below w.heap.size w w1 := below_trans (Below.refl _ _).drew hbe (Nat.le_refl _)
 refine hK.out _ _ (pw_cell_below hbe hHeld) (fun hHeld => ?_)
 clear hK K
 refine nm ?_
 refine on 9 (some 21) rfl rfl (fun K hK => ?_)
 refine goes_ Tryz.func100 (by kernel_rfl) rfl #[.slice (some ⟨az, 0, none⟩) lt c, .slice (some ⟨az, 0, none⟩) lt c, .slice (some ⟨w.heap.size, 0, none⟩) (W64.digs 1).length 1] (by rfl) rfl rfl (by (try simp only [List.map_toArray, List.map_cons, List.map_nil]); first | done | rfl) ?_
 refine (HS.out _ _ hbe1 (Nat.le_refl _) hone).mono ?_
 rintro e w2 ⟨rfl, hnum, hkk⟩
 refine ⟨_, rfl, ?_⟩
 have hgz : gz ≠ az := Ne.symm HZ.out.2.2.2.1
 refine hK.out _ _ ((kb hkk).cell hgz hHeld) (fun hHeld => ?_)
 clear hK K
 refine nm ?_
 refine pu 10 (some 7) rfl rfl ?_
 refine done_ (by kernel_rfl) ?_
 have bz1 := KeptP.box (HZ.out.1.below hbe1) (kb hkk) hgz
 have hbk := KeptP.blk (KeptP.blk HZ.out.2.1 (KeptP.ofBelow (P := fun _ => False) hbe1) id) (kb hkk) hgz
 have hkw1 : KeptP w w2 (fun k => k = gz ∨ k = az) := (KeptP.ofBelow hbe1).then ((kb hkk).mono (fun _ h => .inr h))
 have H2 := Aside0.mk (And.intro bz1 (And.intro hbk (And.intro hkw1 hnum)))
 clear bz1 hbk hkw1 hkk hone hbe hbe1 hnum hHeld cz0 cz1 fz0 fz1
 go_wp2_with (first
   | (go_at_call 102; (with_reducible refine (HR.out _ H2.out.2.2.2).mono ?_); rintro e w3 ⟨rfl, hnum3, hkk3⟩; have H3 := Aside0.mk (And.intro hnum3 hkk3); clear hnum3 hkk3)
   | (go_at_call 101; (with_reducible refine (HO.out _).mono ?_); rintro e w4 ⟨rfl, hone4, hbe4⟩; have H4 := Aside0.mk (And.intro hone4 hbe4); clear hone4 hbe4)
   | (go_at_call 103; (with_reducible refine (HA.out _ w3.heap.size (by have h1 := HZ.out.2.2.2.2.2; have h2 := H2.out.2.2.1.size; have h3 := H3.out.2.size; omega) (H3.out.1.kept (P := fun _ => False) (KeptP.ofBelow H4.out.2) id) H4.out.1).mono ?_); rintro e w5 ⟨rfl, hnum5, hkk5⟩; have bz5 := KeptP.box ((KeptP.box H2.out.1 (kb H3.out.2) hgz).below H4.out.2) (kb hkk5) hgz; have f1' := bz5.f1; have c1' := bz5.c1; have bz6 := bz5.put1 (.slice (some ⟨az, 0, none⟩) (W64.digs ((n - 1) / 2 ^ s + 1)).length c); have z06 := bz6.c0; have zf06 := bz6.f0; have H5 := Aside0.mk (And.intro bz6 (And.intro hnum5 hkk5)); clear hnum5 hkk5 bz5 bz6))
 go_ret
 have hB1 : KeptP w w3 (fun k => k = gz ∨ k = az) := H2.out.2.2.1.then ((kb H3.out.2).mono (fun _ h => .inr h))
 have hB2 : KeptP w w4 (fun k => k = gz ∨ k = az) := hB1.then (KeptP.ofBelow H4.out.2)
 have hB3 : KeptP w w5 (fun k => k = gz ∨ k = az) := hB2.then ((kb H5.out.2.2).mono (fun _ h => .inr h))
 have hbl : Blk w5 gz := KeptP.blk (KeptP.blk (KeptP.blk H2.out.2.1 (kb H3.out.2) hgz) (KeptP.ofBelow (P := fun _ => False) H4.out.2) id) (kb H5.out.2.2) hgz
 have hset := KeptP.set (P := fun k => k = gz) (KeptP.set (P := fun k => k = gz) (KeptP.refl w5 _) ⟨gz, 1, none⟩ (.inl rfl) (Value.slice (some ⟨az, 0, none⟩) (W64.digs ((n - 1) / 2 ^ s + 1)).length c)) ⟨gz, 0, none⟩ (.inl rfl) (Value.bool true)
 refine ⟨rfl, ⟨⟨c, HZ.out.2.2.2.2.1, ?_, ?_⟩, (hbl.set _ _).set _ _, HZ.out.2.2.2.1⟩, KeptP.set (P := fun k => k = gz ∨ k = az) (KeptP.set (P := fun k => k = gz ∨ k = az) hB3 ⟨gz, 1, none⟩ (.inl (.inl rfl)) _) ⟨gz, 0, none⟩ (.inl (.inl rfl)) _⟩
 · rw [HPP.out.1, HPP.out.2]; exact H5.out.1.put0 _
 · rw [HPP.out.1]; exact H5.out.2.1.kept hset HZ.out.2.2.2.1
set_option maxHeartbeats 4000000 in
theorem SetInt_self (gz az : Nat) (z : Int) (x : Nat) (w : World) (hz : Zz w gz az z) (hne : az ≠ gz) (hx0 : 0 < x) (hx : x < 1000) :
   Calls Tryz.prog 75 #[.pointer (some ⟨gz, 0, none⟩), .int .i64 x] w fun e w' => e = .returned (.pointer (some ⟨gz, 0, none⟩)) ∧ ∃ a', (a' = az ∨ w.heap.size ≤ a') ∧ a' ≠ gz ∧ Zz w' gz a' x ∧ a' < w'.heap.size ∧ KeptP w w' (fun k => k = gz ∨ k = az) := by
 obtain ⟨v, hzb, hzn⟩ := hz.out
 have hzlt := hz.blk.lt
 have hM : Calls Tryz.prog 105 #[v, .int .u64 x] w fun e w' => ∃ a' c, e = .returned (.slice (some ⟨a', 0, none⟩) (W64.digs x).length c) ∧ (a' = az ∨ w.heap.size ≤ a') ∧ Nc w' a' c x ∧ KeptP w w' (fun k => k = az) := by
   rcases hzn.out with ⟨_, rfl⟩ | ⟨c, rfl, hn⟩
   · refine (setU_new x w (by omega) (by omega)).mono ?_
     rintro e w' ⟨c, rfl, h2, h3⟩
     exact ⟨_, c, rfl, .inr (Nat.le_refl _), h2, KeptP.ofBelow h3⟩
   · refine (setU_in az c z.natAbs x w hn (by omega) (by omega)).mono ?_
     rintro e w' ⟨rfl, h2, h3⟩
     exact ⟨az, c, rfl, .inl rfl, h2, kb h3⟩
 obtain ⟨A, l, cv, rfl⟩ : ∃ A l c, v = .slice A l c := by obtain ⟨A, c, e, _⟩ := hzn.form; exact ⟨A, _, c, e⟩
 have HM := Aside0.mk hM
 have cz0 := hzb.c0; have cz1 := hzb.c1; have fz0 := hzb.f0; have fz1 := hzb.f1
 have HZ := Aside0.mk (And.intro hzb (And.intro hz.blk (And.intro hzlt hne)))
 have x0 : 0 < (x : Int) := by omega
 have x1 : (x : Int) < 1000 := by omega
 have HX := Aside0.mk (And.intro (show ((x : Int)).natAbs = x from Int.natAbs_natCast x) (decide_eq_false (show ¬ ((x : Int) < 0) by omega)))
 clear hz hzb hzn hzlt hM hx0 hx hne
 generalize hlx : (W64.digs x).length = lx at *
 have HLX := Aside0.mk hlx
 clear hlx
 generalize (x : Int) = X at *
 go_enter Tryz.func75, Tryz.ntmps75
 go_wp2_with (go_at_call 105; (with_reducible refine HM.out.mono ?_); rintro e w1 ⟨a', c, rfl, ha, hn, hk⟩; have hgz : gz ≠ az := Ne.symm HZ.out.2.2.2; have bz1 := KeptP.box HZ.out.1 hk hgz; have hbk := KeptP.blk HZ.out.2.1 hk hgz; have c1' := bz1.c1; have f1' := bz1.f1; have bz2 := bz1.put1 (.slice (some ⟨a', 0, none⟩) lx c); have z06 := bz2.c0; have zf06 := bz2.f0; have H1 := Aside0.mk (And.intro ha (And.intro hn (And.intro hk (And.intro bz2 hbk)))); clear ha hn hk bz1 bz2 hbk)
 go_ret
 obtain ⟨ha, hn, hk, bz2, hbk⟩ := H1.out
 have haz' : a' ≠ gz := by
   rcases ha with h | h
   · rw [h]; exact HZ.out.2.2.2
   · have h2 := HZ.out.2.2.1
     intro e; rw [e] at h; exact absurd h (Nat.not_le.2 h2)
 refine ⟨rfl, a', ha, haz', ⟨⟨.slice (some ⟨a', 0, none⟩) lx c, ?_, ⟨.inr ⟨c, ?_, ?_⟩⟩⟩, (hbk.set _ _).set _ _⟩, by simpa using hn.lt, KeptP.set (P := fun k => k = gz ∨ k = az) (KeptP.set (P := fun k => k = gz ∨ k = az) (hk.mono (fun _ h => .inr h)) ⟨gz, 1, none⟩ (.inl (.inl rfl)) _) ⟨gz, 0, none⟩ (.inl (.inl rfl)) _⟩
 · rw [HX.out.2]; exact bz2.put0 _
 · rw [HX.out.1, HLX.out]
 · rw [HX.out.1]
   exact hn.kept (P := fun k => k = gz) (KeptP.set (P := fun k => k = gz) (KeptP.set (P := fun k => k = gz) (KeptP.refl w1 _) ⟨gz, 1, none⟩ (.inl rfl) _) ⟨gz, 0, none⟩ (.inl rfl) _) haz'
theorem cmp_nc (g gy n m : Nat) (v u : Value) (w : World) (h : Nz w g n v) (hy : Nz w gy m u) (hm0 : m ≠ 0) :
   Calls Tryz.prog 48 #[v, u] w fun e w' => ∃ r : Int, e = .returned (.int .i64 r) ∧ Aside0 (Cmp n m r) ∧ KeptP w w' (fun _ => False) := by
 obtain ⟨A, c, e1, hl, hc⟩ := h.form
 obtain ⟨B, d, e2, hl2, hd⟩ := hy.form
 rcases Nat.lt_trichotomy (W64.digs n).length (W64.digs m).length with hlt | heq | hgt
 · subst e1 e2
   refine (cmp_len_lt A B _ _ c d w hlt (by omega)).mono ?_
   rintro e w' ⟨rfl, rfl⟩
   exact ⟨-1, rfl, ⟨⟨.inl ⟨rfl, W64.len_digs_lt hlt⟩⟩⟩, KeptP.refl _ _⟩
 · have hn0 : n ≠ 0 := by
     rintro rfl
     rw [W64.digs_zero] at heq
     exact hm0 (W64.len_zero.1 heq.symm)
   obtain ⟨c1, rfl, h1⟩ := h.out.resolve_left (fun hh => hn0 hh.1)
   obtain ⟨c2, rfl, h2⟩ := hy.out.resolve_left (fun hh => hm0 hh.1)
   exact cmp_same g c1 n gy c2 m w h1 h2 heq hn0
 · subst e1 e2
   refine (cmp_len_gt A B _ _ c d w hgt (by omega)).mono ?_
   rintro e w' ⟨rfl, rfl⟩
   exact ⟨1, rfl, ⟨⟨.inr (.inr ⟨rfl, W64.len_digs_lt hgt⟩)⟩⟩, KeptP.refl _ _⟩
set_option maxHeartbeats 4000000 in
set_option maxRecDepth 100000 in
theorem Add_pos (gz az gx ax : Nat) (s t : Int) (w : World) (hs : Zm w gz az s) (ht : Zm w gx ax t) (hne : gz ≠ gx) (haz : az ≠ gx) (hza : gz ≠ ax) (haa : az ≠ ax) (h0 : 0 < s) (ht0 : 0 < t) (hlt : t.natAbs < s.natAbs) (hl1 : (W64.digs s.natAbs).length ≤ 4) :
   Calls Tryz.prog 76 #[.pointer (some ⟨gz, 0, none⟩), .pointer (some ⟨gz, 0, none⟩), .pointer (some ⟨gx, 0, none⟩)] w fun e w' => e = .returned (.pointer (some ⟨gz, 0, none⟩)) ∧ Zm w' gz az (s + t) ∧ KeptP w w' (fun k => k = gz ∨ k = az) := by
 obtain ⟨c, hc5, hzb, hzn⟩ := hs.out
 obtain ⟨cx, hcx5, hxb, hxn⟩ := ht.out
 have hzlt := hs.blk.lt
 have hmono := W64.len_digs_mono (Nat.le_of_lt hlt)
 rw [decide_eq_false (show ¬ s < 0 by omega)] at hzb
 rw [decide_eq_false (show ¬ t < 0 by omega)] at hxb
 have HM := Aside0.mk (fun (w1 : World) (hk : Below w.heap.size w w1) => add_nc az c s.natAbs ax cx t.natAbs w1 (hzn.kept (P := fun _ => False) (KeptP.ofBelow hk) id) (hxn.kept (P := fun _ => False) (KeptP.ofBelow hk) id) (Ne.symm haa) (by omega) hmono (by omega))
 have hsum : (s + t).natAbs = s.natAbs + t.natAbs := by omega
 have hpos : 0 < s + t := by omega
 have hppos := W64.len_pos (show (s + t).natAbs ≠ 0 by omega)
 rw [hsum] at hppos
 have hq : decide (0 < (W64.digs (s.natAbs + t.natAbs)).length) = true := decide_eq_true hppos
 have cz0 := hzb.c0; have cz1 := hzb.c1; have fz0 := hzb.f0; have fz1 := hzb.f1
 have cx0 := hxb.c0; have cx1 := hxb.c1
 have HZ := Aside0.mk (And.intro hzb (And.intro hs.blk (And.intro hzlt (And.intro hs.ne (And.intro hc5 (And.intro hxb (And.intro hne haz)))))))
 have HPP := Aside0.mk (And.intro hsum (decide_eq_false (show ¬ (s + t < 0) by omega)))
 clear hs ht hne haz hza haa h0 hlt hl1 hzb hxb hzn hxn hzlt hc5 hcx5 hmono hsum hpos hppos ht0
 generalize s.natAbs + t.natAbs = p at *
 generalize (W64.digs s.natAbs).length = ls at *
 generalize (W64.digs t.natAbs).length = lt at *
 go_enter Tryz.func76, Tryz.ntmps76
 go_wp2_with fail
 refine st (n := 9) (S := fun w' => w'.cell? ⟨gz, 0, none⟩ = some (.bool false) ∧ w'.cell? ⟨gx, 0, none⟩ = some (.bool false)) (ds := []) rfl (⟨by simpa using cz0, by simpa using cx0⟩) (fun hHeld => ?_)
 refine pu 0 (some 12) rfl rfl ?_
 refine pu 1 (some 13) rfl rfl ?_
 refine pu 2 (some 14) rfl rfl ?_
 refine tk 3 (some 15) rfl rfl hHeld ?_ (by (rintro w' ⟨s0, s1⟩; go_simp; with_reducible rfl))
 refine pu 4 (some 16) rfl rfl ?_
 refine pu 5 (some 17) rfl rfl ?_
 refine pu 6 (some 18) rfl rfl ?_
 refine tk 7 (some 19) rfl rfl hHeld ?_ (by (rintro w' ⟨s0, s1⟩; go_simp; with_reducible rfl))
 refine pu 8 (some 20) rfl rfl ?_
 refine done_ (by kernel_rfl) ?_
 go_wp2
 refine st (n := 17) (S := fun w' => w'.cell? ⟨gz, 1, none⟩ = some (.slice (some ⟨az, 0, none⟩) ls c) ∧ w'.cell? ⟨gx, 1, none⟩ = some (.slice (some ⟨ax, 0, none⟩) lt cx)) (ds := [16]) rfl (⟨by simpa using cz1, by simpa using cx1⟩) (fun hHeld => ?_)
 refine pu 0 (some 21) rfl rfl ?_
 refine pu 1 (some 22) rfl rfl ?_
 refine pu 2 (some 23) rfl rfl ?_
 refine pu 3 (some 24) rfl rfl ?_
 refine tk 4 (some 25) rfl rfl hHeld ?_ (by (rintro w' ⟨s0, s1⟩; go_simp; with_reducible rfl))
 refine pu 5 (some 26) rfl rfl ?_
 refine pu 6 (some 27) rfl rfl ?_
 refine pu 7 (some 28) rfl rfl ?_
 refine tk 8 (some 29) rfl rfl hHeld ?_ (by (rintro w' ⟨s0, s1⟩; go_simp; with_reducible rfl))
 refine pu 9 (some 30) rfl rfl ?_
 refine pu 10 (some 31) rfl rfl ?_
 refine pu 11 (some 32) rfl rfl ?_
 refine tk 12 (some 33) rfl rfl hHeld ?_ (by (rintro w' ⟨s0, s1⟩; go_simp; with_reducible rfl))
 refine on 13 (some 34) rfl rfl (fun K hK => ?_)
 refine goes_ Tryz.func103 (by kernel_rfl) rfl #[.slice (some ⟨az, 0, none⟩) ls c, .slice (some ⟨az, 0, none⟩) ls c, .slice (some ⟨ax, 0, none⟩) lt cx] (by rfl) rfl rfl (by (try simp only [List.map_toArray, List.map_cons, List.map_nil]); first | done | rfl) ?_
 refine (HM.out _ (Below.refl _ _).drew.drew).mono ?_
 rintro e w1 ⟨rfl, hnum, hkk⟩
 refine ⟨_, rfl, ?_⟩
 have hgz : gz ≠ az := Ne.symm HZ.out.2.2.2.1
 have hgx : gx ≠ az := Ne.symm HZ.out.2.2.2.2.2.2.2
 have bz1 := KeptP.box HZ.out.1.drew.drew (kb hkk) hgz
 have hbk := KeptP.blk HZ.out.2.1.drew.drew (kb hkk) hgz
 have c1' := bz1.c1
 have f1' := bz1.f1
 refine hK.out _ _ (⟨(kb hkk).cell hgz hHeld.1, (kb hkk).cell hgx hHeld.2⟩) (fun hHeld => ?_)
 clear hK K
 refine nm ?_
 refine pu 14 (some 35) rfl rfl ?_
 refine pu 15 (some 36) rfl rfl ?_
 refine la 16 none rfl rfl (fun K hK => ?_)
 refine skip_ (w1 := ?_) (by rfl) rfl ?_ ?_
 rotate_left
 · go_simp
   rfl
 refine hK.out _ _ ?_
 clear hK K
 refine done_ (by kernel_rfl) ?_
 have haz' : az ≠ gz := HZ.out.2.2.2.1
 have hkw : KeptP w w1 (fun k => k = gz ∨ k = az) := (KeptP.refl w _).drew.drew.then ((kb hkk).mono (fun _ h => .inr h))
 have bz2 := bz1.put1 (.slice (some ⟨az, 0, none⟩) (W64.digs p).length c)
 have hb2 : Blk (w1.setCell ⟨gz, 1, none⟩ (.slice (some ⟨az, 0, none⟩) (W64.digs p).length c)) gz := hbk.set _ _
 have hn2 := hnum.kept (P := fun k => k = gz) (KeptP.set (P := fun k => k = gz) (KeptP.refl w1 _) ⟨gz, 1, none⟩ (.inl rfl) (.slice (some ⟨az, 0, none⟩) (W64.digs p).length c)) haz'
 have hk2 : KeptP w (w1.setCell ⟨gz, 1, none⟩ (.slice (some ⟨az, 0, none⟩) (W64.digs p).length c)) (fun k => k = gz ∨ k = az) := KeptP.set (P := fun k => k = gz ∨ k = az) hkw ⟨gz, 1, none⟩ (.inl (.inl rfl)) _
 have z1 := bz2.c1; have z0 := bz2.c0; have zf0 := bz2.f0
 have HF := Aside0.mk (And.intro hb2 (And.intro hn2 hk2))
 have HB2 := Aside0.mk bz2
 clear hkk bz1 c1' f1' hHeld hnum hb2 hn2 hk2 bz2 HM cz0 cz1 fz0 fz1 cx0 cx1 hgz hgx hkw hbk
 generalize hW2 : w1.setCell ⟨gz, 1, none⟩ (.slice (some ⟨az, 0, none⟩) (W64.digs p).length c) = W2 at *
 clear hW2
 go_wp2
 go_ret
 have hs2 := KeptP.set (P := fun k => k = gz) (KeptP.refl W2 _) ⟨gz, 0, none⟩ (.inl rfl) (Value.bool false)
 refine ⟨rfl, ⟨⟨c, HZ.out.2.2.2.2.1, ?_, ?_⟩, HF.out.1.set _ _, haz'⟩, KeptP.set (P := fun k => k = gz ∨ k = az) HF.out.2.2 ⟨gz, 0, none⟩ (.inl (.inl rfl)) _⟩
 · rw [HPP.out.1, HPP.out.2]; exact HB2.out.put0 _
 · rw [HPP.out.1]; exact HF.out.2.1.kept hs2 haz'
set_option maxHeartbeats 4000000 in
set_option maxRecDepth 100000 in
theorem Add_neg (gz az gx ax : Nat) (s t : Int) (w : World) (hs : Zm w gz az s) (ht : Zm w gx ax t) (hne : gz ≠ gx) (haz : az ≠ gx) (hza : gz ≠ ax) (haa : az ≠ ax) (h0 : 0 < s) (ht0 : t < 0) (hlt : t.natAbs < s.natAbs) (hl1 : (W64.digs s.natAbs).length ≤ 4) :
   Calls Tryz.prog 76 #[.pointer (some ⟨gz, 0, none⟩), .pointer (some ⟨gz, 0, none⟩), .pointer (some ⟨gx, 0, none⟩)] w fun e w' => e = .returned (.pointer (some ⟨gz, 0, none⟩)) ∧ Zm w' gz az (s + t) ∧ KeptP w w' (fun k => k = gz ∨ k = az) := by
 obtain ⟨c, hc5, hzb, hzn⟩ := hs.out
 obtain ⟨cx, hcx5, hxb, hxn⟩ := ht.out
 have hzlt := hs.blk.lt
 have hmono := W64.len_digs_mono (Nat.le_of_lt hlt)
 rw [decide_eq_false (show ¬ s < 0 by omega)] at hzb
 rw [decide_eq_true (show t < 0 by omega)] at hxb
 have HM := Aside0.mk (fun (w1 : World) (hk : KeptP w w1 (fun _ => False)) => sub_nc az c s.natAbs ax cx t.natAbs w1 (hzn.kept (P := fun _ => False) hk id) (hxn.kept (P := fun _ => False) hk id) (Ne.symm haa) (by omega) (by omega))
 have HC := Aside0.mk (fun (w1 : World) (hk : Below w.heap.size w w1) => (cmp_nc az ax s.natAbs t.natAbs _ _ w1 ⟨.inr ⟨c, rfl, hzn.kept (P := fun _ => False) (KeptP.ofBelow hk) id⟩⟩ ⟨.inr ⟨cx, rfl, hxn.kept (P := fun _ => False) (KeptP.ofBelow hk) id⟩⟩ (by omega)).mono (R' := fun e w' => e = .returned (.int .i64 1) ∧ KeptP w1 w' (fun _ => False)) (fun e w' hh => by
   obtain ⟨r, h1, h2, h3⟩ := hh
   have : r = 1 := by rcases h2.out.out with h | h | h <;> omega
   subst this
   exact ⟨h1, h3⟩))
 have hsum : (s + t).natAbs = s.natAbs - t.natAbs := by omega
 have hpos : 0 < s + t := by omega
 have hppos := W64.len_pos (show (s + t).natAbs ≠ 0 by omega)
 rw [hsum] at hppos
 have hq : decide (0 < (W64.digs (s.natAbs - t.natAbs)).length) = true := decide_eq_true hppos
 have cz0 := hzb.c0; have cz1 := hzb.c1; have fz0 := hzb.f0; have fz1 := hzb.f1
 have cx0 := hxb.c0; have cx1 := hxb.c1
 have HZ := Aside0.mk (And.intro hzb (And.intro hs.blk (And.intro hzlt (And.intro hs.ne (And.intro hc5 (And.intro hxb (And.intro hne haz)))))))
 have HPP := Aside0.mk (And.intro hsum (decide_eq_false (show ¬ (s + t < 0) by omega)))
 clear hs ht hne haz hza haa h0 hlt hl1 hzb hxb hzn hxn hzlt hc5 hcx5 hmono hsum hpos hppos ht0
 generalize s.natAbs - t.natAbs = p at *
 generalize (W64.digs s.natAbs).length = ls at *
 generalize (W64.digs t.natAbs).length = lt at *
 go_enter Tryz.func76, Tryz.ntmps76
 go_wp2_with fail
 refine st (n := 9) (S := fun w' => w'.cell? ⟨gz, 0, none⟩ = some (.bool false) ∧ w'.cell? ⟨gx, 0, none⟩ = some (.bool true)) (ds := []) rfl (⟨by simpa using cz0, by simpa using cx0⟩) (fun hHeld => ?_)
 refine pu 0 (some 12) rfl rfl ?_
 refine pu 1 (some 13) rfl rfl ?_
 refine pu 2 (some 14) rfl rfl ?_
 refine tk 3 (some 15) rfl rfl hHeld ?_ (by (rintro w' ⟨s0, s1⟩; go_simp; with_reducible rfl))
 refine pu 4 (some 16) rfl rfl ?_
 refine pu 5 (some 17) rfl rfl ?_
 refine pu 6 (some 18) rfl rfl ?_
 refine tk 7 (some 19) rfl rfl hHeld ?_ (by (rintro w' ⟨s0, s1⟩; go_simp; with_reducible rfl))
 refine pu 8 (some 20) rfl rfl ?_
 refine done_ (by kernel_rfl) ?_
 go_wp2
 refine st (n := 10) (S := fun w' => w'.cell? ⟨gz, 1, none⟩ = some (.slice (some ⟨az, 0, none⟩) ls c) ∧ w'.cell? ⟨gx, 1, none⟩ = some (.slice (some ⟨ax, 0, none⟩) lt cx)) (ds := []) rfl (⟨by simpa using cz1, by simpa using cx1⟩) (fun hHeld => ?_)
 refine pu 0 (some 37) rfl rfl ?_
 refine pu 1 (some 38) rfl rfl ?_
 refine pu 2 (some 39) rfl rfl ?_
 refine tk 3 (some 40) rfl rfl hHeld ?_ (by (rintro w' ⟨s0, s1⟩; go_simp; with_reducible rfl))
 refine pu 4 (some 41) rfl rfl ?_
 refine pu 5 (some 42) rfl rfl ?_
 refine pu 6 (some 43) rfl rfl ?_
 refine tk 7 (some 44) rfl rfl hHeld ?_ (by (rintro w' ⟨s0, s1⟩; go_simp; with_reducible rfl))
 refine on 8 (some 45) rfl rfl (fun K hK => ?_)
 refine goes_ Tryz.func48 (by kernel_rfl) rfl #[.slice (some ⟨az, 0, none⟩) ls c, .slice (some ⟨ax, 0, none⟩) lt cx] (by rfl) rfl rfl (by (try simp only [List.map_toArray, List.map_cons, List.map_nil]); first | done | rfl) ?_
 refine (HC.out _ (Below.refl _ _).drew.drew).mono ?_
 rintro e w1 ⟨rfl, hkc⟩
 refine ⟨_, rfl, ?_⟩
 have HMK := Aside0.mk (And.intro ((KeptP.refl w (fun _ => False)).drew.drew.then hkc) True.intro)
 refine hK.out _ _ (⟨hkc.cell id hHeld.1, hkc.cell id hHeld.2⟩) (fun hHeld => ?_)
 clear hK K
 refine nm ?_
 refine pu 9 (some 46) rfl rfl ?_
 refine done_ (by kernel_rfl) ?_
 have ca1 := hHeld.1
 have ca2 := hHeld.2
 have bza := KeptP.box HZ.out.1.drew.drew hkc id
 have hba := KeptP.blk HZ.out.2.1.drew.drew hkc id
 clear hkc hHeld
 generalize w1 = wm at *
 go_wp2
 refine st (n := 17) (S := fun w' => w'.cell? ⟨gz, 1, none⟩ = some (.slice (some ⟨az, 0, none⟩) ls c) ∧ w'.cell? ⟨gx, 1, none⟩ = some (.slice (some ⟨ax, 0, none⟩) lt cx)) (ds := [16]) rfl (⟨by simpa using ca1, by simpa using ca2⟩) (fun hHeld => ?_)
 refine pu 0 (some 47) rfl rfl ?_
 refine pu 1 (some 48) rfl rfl ?_
 refine pu 2 (some 49) rfl rfl ?_
 refine pu 3 (some 50) rfl rfl ?_
 refine tk 4 (some 51) rfl rfl hHeld ?_ (by (rintro w' ⟨s0, s1⟩; go_simp; with_reducible rfl))
 refine pu 5 (some 52) rfl rfl ?_
 refine pu 6 (some 53) rfl rfl ?_
 refine pu 7 (some 54) rfl rfl ?_
 refine tk 8 (some 55) rfl rfl hHeld ?_ (by (rintro w' ⟨s0, s1⟩; go_simp; with_reducible rfl))
 refine pu 9 (some 56) rfl rfl ?_
 refine pu 10 (some 57) rfl rfl ?_
 refine pu 11 (some 58) rfl rfl ?_
 refine tk 12 (some 59) rfl rfl hHeld ?_ (by (rintro w' ⟨s0, s1⟩; go_simp; with_reducible rfl))
 refine on 13 (some 60) rfl rfl (fun K hK => ?_)
 refine goes_ Tryz.func100 (by kernel_rfl) rfl #[.slice (some ⟨az, 0, none⟩) ls c, .slice (some ⟨az, 0, none⟩) ls c, .slice (some ⟨ax, 0, none⟩) lt cx] (by rfl) rfl rfl (by (try simp only [List.map_toArray, List.map_cons, List.map_nil]); first | done | rfl) ?_
 refine (HM.out _ (HMK.out.1.mono (fun _ h => h)).drew).mono ?_
 rintro e w1 ⟨rfl, hnum, hkk⟩
 refine ⟨_, rfl, ?_⟩
 have hgz : gz ≠ az := Ne.symm HZ.out.2.2.2.1
 have hgx : gx ≠ az := Ne.symm HZ.out.2.2.2.2.2.2.2
 have bz1 := KeptP.box bza.drew (kb hkk) hgz
 have hbk := KeptP.blk hba.drew (kb hkk) hgz
 have c1' := bz1.c1
 have f1' := bz1.f1
 refine hK.out _ _ (⟨(kb hkk).cell hgz hHeld.1, (kb hkk).cell hgx hHeld.2⟩) (fun hHeld => ?_)
 clear hK K
 refine nm ?_
 refine pu 14 (some 61) rfl rfl ?_
 refine pu 15 (some 62) rfl rfl ?_
 refine la 16 none rfl rfl (fun K hK => ?_)
 refine skip_ (w1 := ?_) (by rfl) rfl ?_ ?_
 rotate_left
 · go_simp
   rfl
 refine hK.out _ _ ?_
 clear hK K
 refine done_ (by kernel_rfl) ?_
 have haz' : az ≠ gz := HZ.out.2.2.2.1
 have hkw : KeptP w w1 (fun k => k = gz ∨ k = az) := ((HMK.out.1.mono (fun _ h => h.elim)).drew).then ((kb hkk).mono (fun _ h => .inr h))
 have bz2 := bz1.put1 (.slice (some ⟨az, 0, none⟩) (W64.digs p).length c)
 have hb2 : Blk (w1.setCell ⟨gz, 1, none⟩ (.slice (some ⟨az, 0, none⟩) (W64.digs p).length c)) gz := hbk.set _ _
 have hn2 := hnum.kept (P := fun k => k = gz) (KeptP.set (P := fun k => k = gz) (KeptP.refl w1 _) ⟨gz, 1, none⟩ (.inl rfl) (.slice (some ⟨az, 0, none⟩) (W64.digs p).length c)) haz'
 have hk2 : KeptP w (w1.setCell ⟨gz, 1, none⟩ (.slice (some ⟨az, 0, none⟩) (W64.digs p).length c)) (fun k => k = gz ∨ k = az) := KeptP.set (P := fun k => k = gz ∨ k = az) hkw ⟨gz, 1, none⟩ (.inl (.inl rfl)) _
 have z1 := bz2.c1; have z0 := bz2.c0; have zf0 := bz2.f0
 have HF := Aside0.mk (And.intro hb2 (And.intro hn2 hk2))
 have HB2 := Aside0.mk bz2
 clear hkk bz1 c1' f1' hHeld hnum hb2 hn2 hk2 bz2 HM cz0 cz1 fz0 fz1 cx0 cx1 hgz hgx hkw hbk
 generalize hW2 : w1.setCell ⟨gz, 1, none⟩ (.slice (some ⟨az, 0, none⟩) (W64.digs p).length c) = W2 at *
 clear hW2
 go_wp2
 go_ret
 have hs2 := KeptP.set (P := fun k => k = gz) (KeptP.refl W2 _) ⟨gz, 0, none⟩ (.inl rfl) (Value.bool false)
 refine ⟨rfl, ⟨⟨c, HZ.out.2.2.2.2.1, ?_, ?_⟩, HF.out.1.set _ _, haz'⟩, KeptP.set (P := fun k => k = gz ∨ k = az) HF.out.2.2 ⟨gz, 0, none⟩ (.inl (.inl rfl)) _⟩
 · rw [HPP.out.1, HPP.out.2]; exact HB2.out.put0 _
 · rw [HPP.out.1]; exact HF.out.2.1.kept hs2 haz'
end Go.Proofs.YteohmbannpbokaaGreatDoor.WordWalk
