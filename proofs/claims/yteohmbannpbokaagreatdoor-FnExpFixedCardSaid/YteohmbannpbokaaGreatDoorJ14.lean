/-
 The reference's rounding of a fraction to some places behind the point.
-/
import Derived.Test.YteohmbannpbokaaGreatDoorJ01
import Derived.Test.YteohmbannpbokaaGreatDoorJ09
import Derived.Test.YteohmbannpbokaaGreatDoorJ13
set_option maxRecDepth 100000
set_option linter.unusedVariables false
set_option linter.unusedSimpArgs false
namespace Go.Proofs.YteohmbannpbokaaGreatDoor.SpecWalk
open Go.RowKit Go.Proofs.YteohmbannpbokaaGreatDoorW.PrintWords Go.Proofs.YteohmbannpbokaaGreatDoorW.PrintLast Go.Proofs.YteohmbannpbokaaGreatDoorW.PrintMore Go.Proofs.YteohmbannpbokaaGreatDoor.Digs Go.Proofs.YteohmbannpbokaaGreatDoor.StrLaw Go.Proofs.YteohmbannpbokaaGreatDoor.NatLaw Go.Proofs.YteohmbannpbokaaGreatDoor.NatWalk
open Go.Proofs.YteohmbannpbokaaGreatDoor.Prounds
def rnd (t : Bool) (n d : Nat) : Nat := if n % d = 0 then n / d else if t then n / d + 1 else n / d
theorem rounds_n (way : Int) (b : Bool) (c : Int) (o t : Bool) (w : World) (h : spec_rounds.f way b c o = some t) : Calls Tryz.prog 79 #[.int .i64 way, .bool b, .int .i64 c, .bool o] w fun e w' => e = .returned (.bool t) ∧ Below w.heap.size w w' := by
 refine (spec_rounds.calls way b c o t w h).mono ?_
 rintro e w' ⟨rfl, hd⟩
 exact ⟨rfl, hd.below⟩
structure Cell1 (w : World) (a : Addr) (v : Value) : Prop where
 c0 : w.cell? a = some v
theorem Cell1.below {w w1 : World} {a : Addr} {v : Value} (h : Cell1 w a v) (hb : Below w.heap.size w w1) : Cell1 w1 a v := ⟨pw_cell_below hb h.c0⟩
theorem _root_.Go.Proofs.YteohmbannpbokaaGreatDoor.NatWalk.Rdv.low {w : World} {ok : Nat → Prop} {A : Option Addr} {l c n : Nat} (h : Rdv w ok (.slice A l c) n) (hn : n ≠ 0) : ∃ a, A = some a ∧ Cell1 w a (.int .u32 ((n % 1000000000 : Nat) : Int)) := by
 obtain ⟨A', c', e, hl, hC⟩ := h.form
 injection e with e1 e2 e3
 subst e1 e3
 obtain ⟨a, rfl, hx⟩ := Kd.at_int hC 0 (by omega) (by have := len_pos hn; omega)
 refine ⟨a, rfl, ⟨?_⟩⟩
 have hr : rd (digs n) 0 = ((n % 1000000000 : Nat) : Int) := by rw [digs_pos hn]; rfl
 rw [hr] at hx
 have h : w.cell? (a.add 0) = some (.int .u32 ((n % 1000000000 : Nat) : Int)) := hx
 simpa [Addr.add] using h
set_option maxHeartbeats 8000000 in
theorem round_n (b : Bool) (m d p : Nat) (way : Int) (t : Bool) (oa od : Nat → Prop) (v x : Value) (w : World) (hv : Rdv w oa v m) (hx : Rdv w od x d) (hd : 0 < d) (hp : p ≤ 1000) (hlm : (digs m).length ≤ 1000) (hld : (digs d).length ≤ 1000)
   (ht : spec_rounds.f way b (cmpN (m * 10 ^ p % d + m * 10 ^ p % d) d) (decide (m * 10 ^ p / d % 2 = 1)) = some t) :
   Calls Tryz.prog 59 #[.agg #[.bool b, v, x], .int .i64 p, .int .i64 way] w fun e w' => ∃ z, e = .returned (.agg #[.bool (sgn b (rnd t (m * 10 ^ p) d)), z, .int .i64 (-(p : Int))]) ∧ Rdv w' (fun k => w.heap.size ≤ k) z (rnd t (m * 10 ^ p) d) ∧ Below w.heap.size w w' := by
 obtain ⟨A0, c0, rfl, _, _⟩ := hv.form
 obtain ⟨A1, c1, rfl, _, _⟩ := hx.form
 have HP := Aside0.mk (fun w => pow10_n p w (by omega))
 have hlp := len_pow10 p
 have HM := Aside0.mk (fun oa ob v u w hv hu => mul_n m (10 ^ p) oa ob v u w hv hu (by omega))
 have hln : (digs (m * 10 ^ p)).length ≤ 3000 := by
   have h1 := lt_of_len m
   have h2 := lt_of_len (10 ^ p)
   have h3 : m * 10 ^ p < 1000000000 ^ ((digs m).length + (digs (10 ^ p)).length) := by
     rw [Nat.pow_add]; exact Nat.mul_lt_mul'' h1 h2
   have := len_digs_le h3
   omega
 have HD := Aside0.mk (fun oa ob v u w hv hu => div_n (m * 10 ^ p) d oa ob v u w hv hu hd (by omega))
 generalize m * 10 ^ p = n at *
 have hlR := len_digs_mono (Nat.le_of_lt (Nat.mod_lt n hd))
 have hlQ := len_digs_mono (Nat.div_le_self n d)
 have HLL := Aside0.mk (And.intro hln (And.intro hlR (And.intro hlQ hld)))
 have h0 : (0 : Int) ≤ (p : Int) := Int.natCast_nonneg _
 have h1 : (p : Int) ≤ 1000 := by omega
 have hneg : wrap64 (-(p : Int)) = -(p : Int) := w64 _ (by omega) (by omega)
 have HT := Aside0.mk ht
 clear hlp hlm hln hlR hlQ hld hd hp ht
 generalize hm0 : (digs m).length = m0 at *
 generalize hd0 : (digs d).length = d0 at *
 generalize 10 ^ p = q10 at *
 generalize (p : Int) = P at *
 clear hm0
 go_enter Tryz.func59, Tryz.ntmps59
 go_wp2_with fail
 have bx0 : Box ((w.alloc (Obj.cells #[Value.bool b, Value.slice A0 m0 c0, Value.slice A1 d0 c1] 30)).alloc (Obj.cells #[Value.bool false, Value.slice none 0 0, Value.int .i64 0] 47)) w.heap.size [.bool b, .slice A0 m0 c0, .slice A1 d0 c1] := ((Box.new3 w _ _ _ _ _ (by simp)).alloc _)
 have rx0 : Box ((w.alloc (Obj.cells #[Value.bool b, Value.slice A0 m0 c0, Value.slice A1 d0 c1] 30)).alloc (Obj.cells #[Value.bool false, Value.slice none 0 0, Value.int .i64 0] 47)) (w.heap.size + 1) [.bool false, .slice none 0 0, .int .i64 0] := (Box.new3 (w.alloc (Obj.cells #[Value.bool b, Value.slice A0 m0 c0, Value.slice A1 d0 c1] 30)) _ _ _ _ _ (by simp))
 have hB0 : Below w.heap.size w ((w.alloc (Obj.cells #[Value.bool b, Value.slice A0 m0 c0, Value.slice A1 d0 c1] 30)).alloc (Obj.cells #[Value.bool false, Value.slice none 0 0, Value.int .i64 0] 47)) := (((Below.refl _ _).alloc (Nat.le_refl _) _).alloc (by simp) _)
 have kbx00 := bx0.c0; have kbx01 := bx0.c1; have kbx02 := bx0.c2; have qbx00 := bx0.f0; have qbx01 := bx0.f1; have qbx02 := bx0.f2; have krx00 := rx0.c0; have krx01 := rx0.c1; have krx02 := rx0.c2; have qrx00 := rx0.f0; have qrx01 := rx0.f1; have qrx02 := rx0.f2
 replace hv := hv.below hB0
 replace hx := hx.below hB0
 go_quiet (fail)
 replace hB0 := pw_below_drewN hB0 nq
 replace bx0 := bx0.below (pw_below_drewN (Below.refl _ _) nq)
 replace rx0 := rx0.below (pw_below_drewN (Below.refl _ _) nq)
 replace hv := hv.below (pw_below_drewN (Below.refl _ _) nq)
 replace hx := hx.below (pw_below_drewN (Below.refl _ _) nq)
 have kbx00 := bx0.c0; have kbx01 := bx0.c1; have kbx02 := bx0.c2; have qbx00 := bx0.f0; have qbx01 := bx0.f1; have qbx02 := bx0.f2; have krx00 := rx0.c0; have krx01 := rx0.c1; have krx02 := rx0.c2; have qrx00 := rx0.f0; have qrx01 := rx0.f1; have qrx02 := rx0.f2
 go_wp2_with (first | (go_at_call 13; (with_reducible refine (HP.out _).mono ?_); rintro e w1 ⟨v1, rfl, hv1, hb1⟩; have sz1 := hb1.size; (try simp at sz1); (with_reducible have bx1 := bx0.below hb1); have kbx10 := bx1.c0; have kbx11 := bx1.c1; have kbx12 := bx1.c2; have qbx10 := bx1.f0; have qbx11 := bx1.f1; have qbx12 := bx1.f2; (with_reducible have rx1 := rx0.below hb1); have krx10 := rx1.c0; have krx11 := rx1.c1; have krx12 := rx1.c2; have qrx10 := rx1.f0; have qrx11 := rx1.f1; have qrx12 := rx1.f2; have HV1 := Aside0.mk hv1; clear hv1; obtain ⟨A2, c2, rfl, _, _⟩ := HV1.out.form) | (go_at_call 37; (with_reducible refine (HM.out _ _ _ _ _ (hv.below hb1) HV1.out).mono ?_); rintro e w2 ⟨v2, rfl, hv2, hb2⟩; have sz2 := hb2.size; (try simp at sz2); (with_reducible have bx2 := bx1.below hb2); have kbx20 := bx2.c0; have kbx21 := bx2.c1; have kbx22 := bx2.c2; have qbx20 := bx2.f0; have qbx21 := bx2.f1; have qbx22 := bx2.f2; (with_reducible have rx2 := rx1.below hb2); have krx20 := rx2.c0; have krx21 := rx2.c1; have krx22 := rx2.c2; have qrx20 := rx2.f0; have qrx21 := rx2.f1; have qrx22 := rx2.f2; have HV2 := Aside0.mk hv2; clear hv2; obtain ⟨A3, c3, rfl, _, _⟩ := HV2.out.form) | (go_at_call 16; (with_reducible refine (HD.out _ _ _ _ _ HV2.out ((hx.below hb1).below hb2)).mono ?_); rintro e w3 ⟨zz, rfl, hz, hb3⟩; have sz3 := hb3.size; (try simp at sz3); (with_reducible have bx3 := bx2.below hb3); have kbx30 := bx3.c0; have kbx31 := bx3.c1; have kbx32 := bx3.c2; have qbx30 := bx3.f0; have qbx31 := bx3.f1; have qbx32 := bx3.f2; (with_reducible have rx3 := rx2.below hb3); have krx30 := rx3.c0; have krx31 := rx3.c1; have krx32 := rx3.c2; have qrx30 := rx3.f0; have qrx31 := rx3.f1; have qrx32 := rx3.f2; obtain ⟨zq, zr, rfl, hzq, hzr⟩ := hz.out; have HZQ := Aside0.mk hzq; have HZR := Aside0.mk hzr; clear hzq hzr hz; obtain ⟨A4, c4, rfl, _, _⟩ := HZQ.out.form; obtain ⟨A5, c5, rfl, _, _⟩ := HZR.out.form))
 replace HB0 := Aside0.mk (below_step (below_step (below_step hB0 hb1) hb2) hb3).drew
 have bx0 := bx3.drew
 have rx0 := rx3.drew
 replace HZQ := Aside0.mk HZQ.out.drew
 replace HZR := Aside0.mk HZR.out.drew
 have HX3 := Aside0.mk (((hx.below hb1).below hb2).below hb3).drew
 have SZ3 := Aside0.mk (show w.heap.size + 2 ≤ w2.heap.size by have := hb1.size; have := hb2.size; simp at *; omega)
 by_cases hR : n % d = 0
 · have hlr : (digs (n % d)).length = 0 := by rw [hR, digs_zero]; rfl
   have HRN : Aside0 (rnd t n d = n / d) := ⟨by unfold rnd; rw [if_pos hR]⟩
   clear hR
   generalize (digs (n % d)).length = lr at *
   subst hlr
   refine st (n := 25) (S := fun w' => w'.cell? ⟨w.heap.size, 0, none⟩ = some (.bool b) ∧ w'.cell? ⟨w.heap.size, 1, none⟩ = some (.slice A0 m0 c0) ∧ w'.cell? ⟨w.heap.size, 2, none⟩ = some (.slice A1 d0 c1) ∧ w'.cell? ⟨(w.heap.size + 1), 0, none⟩ = some (.bool false) ∧ w'.cell? ⟨(w.heap.size + 1), 1, none⟩ = some (.slice none 0 0) ∧ w'.cell? ⟨(w.heap.size + 1), 2, none⟩ = some (.int .i64 0)) (ds := []) rfl ⟨bx0.c0, bx0.c1, bx0.c2, rx0.c0, rx0.c1, rx0.c2⟩ (fun hHeld => ?_)
   refine pu 0 (some 33) rfl rfl ?_
   refine pu 1 (some 34) rfl rfl ?_
   refine pu 2 (some 35) rfl rfl ?_
   refine pu 3 (some 36) rfl rfl ?_
   refine po 4 (some 37) rfl rfl ?_
   refine po 5 (some 38) rfl rfl ?_
   refine po 6 (some 39) rfl rfl ?_
   refine po 7 (some 40) rfl rfl ?_
   refine po 8 (some 41) rfl rfl ?_
   refine po 9 (some 42) rfl rfl ?_
   refine po 10 (some 43) rfl rfl ?_
   refine po 11 (some 44) rfl rfl ?_
   refine po 12 (some 45) rfl rfl ?_
   refine po 13 (some 46) rfl rfl ?_
   refine po 14 (some 47) rfl rfl ?_
   refine po 15 (some 48) rfl rfl ?_
   refine po 16 (some 49) rfl rfl ?_
   refine po 17 (some 50) rfl rfl ?_
   refine po 18 (some 51) rfl rfl ?_
   refine po 19 (some 52) rfl rfl ?_
   refine po 20 (some 53) rfl rfl ?_
   refine po 21 (some 54) rfl rfl ?_
   refine po 22 (some 55) rfl rfl ?_
   refine po 23 (some 56) rfl rfl ?_
   refine pu 24 (some 57) rfl rfl ?_
   refine done_ (by kernel_rfl) ?_
   have hB9 := HB0.out
   have bx0 := bx0
   have rx0 := rx0
   have kbx00 := bx0.c0; have kbx01 := bx0.c1; have kbx02 := bx0.c2; have qbx00 := bx0.f0; have qbx01 := bx0.f1; have qbx02 := bx0.f2
   have krx00 := rx0.c0; have krx01 := rx0.c1; have krx02 := rx0.c2; have qrx00 := rx0.f0; have qrx01 := rx0.f1; have qrx02 := rx0.f2
   generalize hs1 : sgn b (n / d) = s1 at *
   have HS1 := Aside0.mk hs1
   clear hs1
   have HW := Aside0.mk (fun ok v w hv => wholeOf_n b (n / d) ok v w hv)
   rw [HS1.out] at HW
   have HZ := HZQ
   go_wp2_with (first | (go_at_call 44; (with_reducible refine (HW.out _ _ _ HZ.out).mono ?_); rintro e wf1 ⟨rfl, hbf1⟩; have szf1 := hbf1.size; (try simp at szf1); (with_reducible have bx1 := bx0.below hbf1); have kbx10 := bx1.c0; have kbx11 := bx1.c1; have kbx12 := bx1.c2; have qbx10 := bx1.f0; have qbx11 := bx1.f1; have qbx12 := bx1.f2; (with_reducible have rx1 := rx0.below hbf1); have krx10 := rx1.c0; have krx11 := rx1.c1; have krx12 := rx1.c2; have qrx10 := rx1.f0; have qrx11 := rx1.f1; have qrx12 := rx1.f2))
   refine bodyPost_ret (v := .agg #[.bool s1, .slice A4 (digs (n / d)).length c4, .int .i64 (-P)]) (by simp [results, Tryz.results59, go_sem, krx10, krx11, krx12]) rfl ?_
   have hsz0 := hB9.size
   rw [HRN.out, HS1.out]
   exact ⟨_, rfl, ((HZ.out.below hbf1).bound.far3 (g := w.heap.size + 1) (fun k hk => by have := hk.1; have h3 := SZ3.out; omega) _ _ _).mono (fun k hk => by have := hk.1; have h3 := SZ3.out; omega), below3 (below_step hB9 hbf1) (by omega) _ _ _⟩
 · have hlr0 : 0 < (digs (n % d)).length := len_pos hR
   have HRT : Aside0 (rnd true n d = n / d + 1) := ⟨by unfold rnd; rw [if_neg hR]; rfl⟩
   have HRF : Aside0 (rnd false n d = n / d) := ⟨by unfold rnd; rw [if_neg hR]; rfl⟩
   have HA := Aside0.mk (fun oa ob v u w hv hu => add_n (n % d) (n % d) oa ob v u w hv hu (by have := HLL.out; omega) (by have := HLL.out; omega))
   have hls : (digs (n % d + n % d)).length ≤ 4000000000 := by
     have h1 := len_mul_limb (n % d) 2 (by decide)
     rw [Nat.mul_two] at h1
     have := HLL.out; omega
   have HC := Aside0.mk (fun oa ob v u w hv hu => (cmp_n (n % d + n % d) d oa ob v u w hv hu hls).mono (fun e w' h => And.intro h.1 h.2.below))
   have HAQ := Aside0.mk (fun oa ob v u w hv hu => add_n (n / d) 1 oa ob v u w hv hu (by have := HLL.out; omega) (by have := digs_len 1 1 (by decide); omega))
   generalize hss : n % d + n % d = ss at *
   generalize hcc : cmpN ss d = cc at *
   have hlr : decide (0 < (digs (n % d)).length) = true := decide_eq_true hlr0
   have hlr2 : decide ((0 : Int) < ((digs (n % d)).length : Int)) = true := decide_eq_true (by omega)
   clear hss hcc hls hR hlr0
   generalize (digs (n % d)).length = lr at *
   by_cases hQ : n / d = 0
   · have hro := fun w => rounds_n way b cc (decide (n / d % 2 = 1)) t w HT.out
     rw [hQ, show decide (0 % 2 = 1) = false from rfl] at hro
     have HRO := Aside0.mk hro
     have hlq : (digs (n / d)).length = 0 := by rw [hQ, digs_zero]; rfl
     have hQL := Aside0.mk hlq
     clear hro
     generalize hlq0 : (digs (n / d)).length = lq at *
     subst hlq
     refine st (n := 25) (S := fun w' => w'.cell? ⟨w.heap.size, 0, none⟩ = some (.bool b) ∧ w'.cell? ⟨w.heap.size, 1, none⟩ = some (.slice A0 m0 c0) ∧ w'.cell? ⟨w.heap.size, 2, none⟩ = some (.slice A1 d0 c1) ∧ w'.cell? ⟨(w.heap.size + 1), 0, none⟩ = some (.bool false) ∧ w'.cell? ⟨(w.heap.size + 1), 1, none⟩ = some (.slice none 0 0) ∧ w'.cell? ⟨(w.heap.size + 1), 2, none⟩ = some (.int .i64 0)) (ds := []) rfl ⟨bx0.c0, bx0.c1, bx0.c2, rx0.c0, rx0.c1, rx0.c2⟩ (fun hHeld => ?_)
     refine pu 0 (some 33) rfl rfl ?_
     refine pu 1 (some 34) rfl rfl ?_
     refine pu 2 (some 35) rfl rfl ?_
     refine pu 3 (some 36) rfl rfl ?_
     refine pu 4 (some 37) rfl rfl ?_
     refine pu 5 (some 38) rfl rfl ?_
     refine pu 6 (some 39) rfl rfl ?_
     refine tk 7 (some 40) rfl rfl hHeld ?_ (by (rintro w' ⟨s0, s1, s2, s3, s4, s5⟩; go_simp; with_reducible rfl))
     refine pu 8 (some 41) rfl rfl ?_
     refine pu 9 (some 42) rfl rfl ?_
     refine pu 11 (some 44) rfl rfl ?_
     refine pu 13 (some 46) rfl rfl ?_
     refine pu 14 (some 47) rfl rfl ?_
     refine pu 15 (some 48) rfl rfl ?_
     refine on 10 (some 43) rfl rfl (fun K hK => ?_)
     refine goes_ Tryz.func54 (by kernel_rfl) rfl #[.slice A5 lr c5, .slice A5 lr c5] (by rfl) rfl rfl (by (try simp only [List.map_toArray, List.map_cons, List.map_nil]); first | done | rfl) ?_
     refine (HA.out _ _ _ _ _ HZR.out HZR.out).mono ?_
     rintro e w1 ⟨s, rfl, hs, hb1⟩
     refine ⟨_, rfl, ?_⟩
     obtain ⟨A6, c6, rfl, _, _⟩ := hs.form
     have sz1 := hb1.size; simp at sz1
     have bx1 := bx0.below hb1
     have rx1 := rx0.below hb1
     refine hK.out _ _ ⟨bx1.c0, bx1.c1, bx1.c2, rx1.c0, rx1.c1, rx1.c2⟩ (fun hHeld => ?_)
     clear hK K
     refine nm ?_
     refine on 12 (some 45) rfl rfl (fun K hK => ?_)
     refine goes_ Tryz.func38 (by kernel_rfl) rfl #[.slice A6 (digs ss).length c6, .slice A1 d0 c1] (by rfl) rfl rfl (by (try simp only [List.map_toArray, List.map_cons, List.map_nil]); first | done | rfl) ?_
     refine (HC.out _ _ _ _ _ hs (HX3.out.below hb1)).mono ?_
     rintro e w2 ⟨rfl, hb2⟩
     refine ⟨_, rfl, ?_⟩
     have sz2 := hb2.size
     have bx2 := bx1.below hb2
     have rx2 := rx1.below hb2
     refine hK.out _ _ ⟨bx2.c0, bx2.c1, bx2.c2, rx2.c0, rx2.c1, rx2.c2⟩ (fun hHeld => ?_)
     clear hK K
     refine nm ?_
     refine pu 16 (some 49) rfl rfl ?_
     refine po 17 (some 50) rfl rfl ?_
     refine po 18 (some 51) rfl rfl ?_
     refine po 19 (some 52) rfl rfl ?_
     refine po 20 (some 53) rfl rfl ?_
     refine po 21 (some 54) rfl rfl ?_
     refine pu 22 (some 55) rfl rfl ?_
     refine on 23 (some 56) rfl rfl (fun K hK => ?_)
     refine goes_ Tryz.func79 (by kernel_rfl) rfl #[.int .i64 way, .bool b, .int .i64 cc, .bool false] (by rfl) rfl rfl (by (try simp only [List.map_toArray, List.map_cons, List.map_nil]); first | done | rfl) ?_
     refine (HRO.out _).mono ?_
     rintro e w3 ⟨rfl, hb3⟩
     refine ⟨_, rfl, ?_⟩
     have sz3 := hb3.size
     have bx3 := bx2.below hb3
     have rx3 := rx2.below hb3
     refine hK.out _ _ ⟨bx3.c0, bx3.c1, bx3.c2, rx3.c0, rx3.c1, rx3.c2⟩ (fun hHeld => ?_)
     clear hK K
     refine nm ?_
     refine pu 24 (some 57) rfl rfl ?_
     refine done_ (by kernel_rfl) ?_
     cases t
     ·
       have hB9 := HB0.out
       replace hB9 := below_step hB9 hb1
       replace hB9 := below_step hB9 hb2
       replace hB9 := below_step hB9 hb3
       have bx0 := bx3
       have rx0 := rx3
       have kbx00 := bx0.c0; have kbx01 := bx0.c1; have kbx02 := bx0.c2; have qbx00 := bx0.f0; have qbx01 := bx0.f1; have qbx02 := bx0.f2
       have krx00 := rx0.c0; have krx01 := rx0.c1; have krx02 := rx0.c2; have qrx00 := rx0.f0; have qrx01 := rx0.f1; have qrx02 := rx0.f2
       generalize hs1 : sgn b (n / d) = s1 at *
       have HS1 := Aside0.mk hs1
       clear hs1
       have HW := Aside0.mk (fun ok v w hv => wholeOf_n b (n / d) ok v w hv)
       rw [HS1.out] at HW
       have HZ := HZQ
       replace HZ := Aside0.mk (HZ.out.below hb1)
       replace HZ := Aside0.mk (HZ.out.below hb2)
       replace HZ := Aside0.mk (HZ.out.below hb3)
       go_wp2_with (first | (go_at_call 44; (with_reducible refine (HW.out _ _ _ HZ.out).mono ?_); rintro e wf1 ⟨rfl, hbf1⟩; have szf1 := hbf1.size; (try simp at szf1); (with_reducible have bx1 := bx0.below hbf1); have kbx10 := bx1.c0; have kbx11 := bx1.c1; have kbx12 := bx1.c2; have qbx10 := bx1.f0; have qbx11 := bx1.f1; have qbx12 := bx1.f2; (with_reducible have rx1 := rx0.below hbf1); have krx10 := rx1.c0; have krx11 := rx1.c1; have krx12 := rx1.c2; have qrx10 := rx1.f0; have qrx11 := rx1.f1; have qrx12 := rx1.f2))
       refine bodyPost_ret (v := .agg #[.bool s1, .slice A4 0 c4, .int .i64 (-P)]) (by simp [results, Tryz.results59, go_sem, krx10, krx11, krx12]) rfl ?_
       have hsz0 := hB9.size
       rw [HRF.out, HS1.out]
       exact ⟨_, rfl, ((HZ.out.below hbf1).bound.far3 (g := w.heap.size + 1) (fun k hk => by have := hk.1; have h3 := SZ3.out; omega) _ _ _).mono (fun k hk => by have := hk.1; have h3 := SZ3.out; omega), below3 (below_step hB9 hbf1) (by omega) _ _ _⟩
     ·
       have hB9 := HB0.out
       replace hB9 := below_step hB9 hb1
       replace hB9 := below_step hB9 hb2
       replace hB9 := below_step hB9 hb3
       have bx0 := bx3
       have rx0 := rx3
       have kbx00 := bx0.c0; have kbx01 := bx0.c1; have kbx02 := bx0.c2; have qbx00 := bx0.f0; have qbx01 := bx0.f1; have qbx02 := bx0.f2
       have krx00 := rx0.c0; have krx01 := rx0.c1; have krx02 := rx0.c2; have qrx00 := rx0.f0; have qrx01 := rx0.f1; have qrx02 := rx0.f2
       generalize hs1 : sgn b (n / d + 1) = s1 at *
       have HS1 := Aside0.mk hs1
       clear hs1
       have HW := Aside0.mk (fun ok v w hv => wholeOf_n b (n / d + 1) ok v w hv)
       rw [HS1.out] at HW
       have HZ := HZQ
       replace HZ := Aside0.mk (HZ.out.below hb1)
       replace HZ := Aside0.mk (HZ.out.below hb2)
       replace HZ := Aside0.mk (HZ.out.below hb3)
       generalize hqq : n / d + 1 = qq at *
       clear hqq
       go_wp2_with (first | (go_at_call 80; (with_reducible refine (one_n _).mono ?_); rintro e wf1 ⟨u1, rfl, hu1, hbf1⟩; have szf1 := hbf1.size; (try simp at szf1); (with_reducible have bx1 := bx0.below hbf1); have kbx10 := bx1.c0; have kbx11 := bx1.c1; have kbx12 := bx1.c2; have qbx10 := bx1.f0; have qbx11 := bx1.f1; have qbx12 := bx1.f2; (with_reducible have rx1 := rx0.below hbf1); have krx10 := rx1.c0; have krx11 := rx1.c1; have krx12 := rx1.c2; have qrx10 := rx1.f0; have qrx11 := rx1.f1; have qrx12 := rx1.f2; have HU1 := Aside0.mk hu1; clear hu1; obtain ⟨A7, c7, rfl, _, _⟩ := HU1.out.form) | (go_at_call 54; (with_reducible refine (HAQ.out _ _ _ _ _ (HZ.out.below hbf1) HU1.out).mono ?_); rintro e wf2 ⟨u2, rfl, hu2, hbf2⟩; have szf2 := hbf2.size; (try simp at szf2); (with_reducible have bx2 := bx1.below hbf2); have kbx20 := bx2.c0; have kbx21 := bx2.c1; have kbx22 := bx2.c2; have qbx20 := bx2.f0; have qbx21 := bx2.f1; have qbx22 := bx2.f2; (with_reducible have rx2 := rx1.below hbf2); have krx20 := rx2.c0; have krx21 := rx2.c1; have krx22 := rx2.c2; have qrx20 := rx2.f0; have qrx21 := rx2.f1; have qrx22 := rx2.f2; have HU2 := Aside0.mk hu2; clear hu2; obtain ⟨A8, c8, rfl, _, _⟩ := HU2.out.form) | (go_at_call 44; (with_reducible refine (HW.out _ _ _ HU2.out).mono ?_); rintro e wf3 ⟨rfl, hbf3⟩; have szf3 := hbf3.size; (try simp at szf3); (with_reducible have bx3 := bx2.below hbf3); have kbx30 := bx3.c0; have kbx31 := bx3.c1; have kbx32 := bx3.c2; have qbx30 := bx3.f0; have qbx31 := bx3.f1; have qbx32 := bx3.f2; (with_reducible have rx3 := rx2.below hbf3); have krx30 := rx3.c0; have krx31 := rx3.c1; have krx32 := rx3.c2; have qrx30 := rx3.f0; have qrx31 := rx3.f1; have qrx32 := rx3.f2))
       refine bodyPost_ret (v := .agg #[.bool s1, .slice A8 (digs qq).length c8, .int .i64 (-P)]) (by simp [results, Tryz.results59, go_sem, krx30, krx31, krx32]) rfl ?_
       have hsz0 := hB9.size
       rw [HRT.out, HS1.out]
       exact ⟨_, rfl, ((HU2.out.below hbf3).far3 (g := w.heap.size + 1) (fun k hk => by have hk' : _ ≤ k := hk; have h3 := SZ3.out; omega) _ _ _).mono (fun k hk => by have hk' : _ ≤ k := hk; omega), below3 (below_step (below_step (below_step hB9 hbf1) hbf2) hbf3) (by omega) _ _ _⟩
   · have hro := fun w => rounds_n way b cc (decide (n / d % 2 = 1)) t w HT.out
     have hlq0 : 0 < (digs (n / d)).length := len_pos hQ
     obtain ⟨a4, e4, CQ⟩ := HZQ.out.low hQ
     cases e4
     have CQ0 := Aside0.mk CQ
     obtain ⟨q0, hq0⟩ : ∃ q0 : Int, q0 = ((n / d % 1000000000 : Nat) : Int) := ⟨_, rfl⟩
     have hodd : decide (n / d % 2 = 1) = (Int.tmod q0 2 == 1) := by
       rw [Int.tmod_eq_emod_of_nonneg (by omega), hq0, Bool.eq_iff_iff, decide_eq_true_iff, beq_iff_eq]; omega
     rw [hodd] at hro
     have HRO := Aside0.mk hro
     rw [← hq0] at CQ
     have hq1 : 0 ≤ q0 := by omega
     have hq2 : q0 ≤ 999999999 := by omega
     have hlq : decide (0 < (digs (n / d)).length) = true := decide_eq_true hlq0
     have hlq2 : decide ((0 : Int) < ((digs (n / d)).length : Int)) = true := decide_eq_true (by omega)
     have hlq3 : (0 < (digs (n / d)).length) = True := eq_true hlq0
     have qx0 := CQ
     clear hro hodd hq0 hlq0 CQ0 CQ hQ
     generalize hlq9 : (digs (n / d)).length = lq at *
     clear hlq9
     refine st (n := 25) (S := fun w' => w'.cell? ⟨w.heap.size, 0, none⟩ = some (.bool b) ∧ w'.cell? ⟨w.heap.size, 1, none⟩ = some (.slice A0 m0 c0) ∧ w'.cell? ⟨w.heap.size, 2, none⟩ = some (.slice A1 d0 c1) ∧ w'.cell? ⟨(w.heap.size + 1), 0, none⟩ = some (.bool false) ∧ w'.cell? ⟨(w.heap.size + 1), 1, none⟩ = some (.slice none 0 0) ∧ w'.cell? ⟨(w.heap.size + 1), 2, none⟩ = some (.int .i64 0) ∧ w'.cell? a4 = some (.int .u32 q0)) (ds := []) rfl ⟨bx0.c0, bx0.c1, bx0.c2, rx0.c0, rx0.c1, rx0.c2, qx0.c0⟩ (fun hHeld => ?_)
     refine pu 0 (some 33) rfl rfl ?_
     refine pu 1 (some 34) rfl rfl ?_
     refine pu 2 (some 35) rfl rfl ?_
     refine pu 3 (some 36) rfl rfl ?_
     refine pu 4 (some 37) rfl rfl ?_
     refine pu 5 (some 38) rfl rfl ?_
     refine pu 6 (some 39) rfl rfl ?_
     refine tk 7 (some 40) rfl rfl hHeld ?_ (by (rintro w' ⟨s0, s1, s2, s3, s4, s5, s6⟩; go_simp; with_reducible rfl))
     refine pu 8 (some 41) rfl rfl ?_
     refine pu 9 (some 42) rfl rfl ?_
     refine pu 11 (some 44) rfl rfl ?_
     refine pu 13 (some 46) rfl rfl ?_
     refine pu 14 (some 47) rfl rfl ?_
     refine pu 15 (some 48) rfl rfl ?_
     refine on 10 (some 43) rfl rfl (fun K hK => ?_)
     refine goes_ Tryz.func54 (by kernel_rfl) rfl #[.slice A5 lr c5, .slice A5 lr c5] (by rfl) rfl rfl (by (try simp only [List.map_toArray, List.map_cons, List.map_nil]); first | done | rfl) ?_
     refine (HA.out _ _ _ _ _ HZR.out HZR.out).mono ?_
     rintro e w1 ⟨s, rfl, hs, hb1⟩
     refine ⟨_, rfl, ?_⟩
     obtain ⟨A6, c6, rfl, _, _⟩ := hs.form
     have sz1 := hb1.size; simp at sz1
     have bx1 := bx0.below hb1
     have rx1 := rx0.below hb1
     have qx1 := qx0.below hb1
     refine hK.out _ _ ⟨bx1.c0, bx1.c1, bx1.c2, rx1.c0, rx1.c1, rx1.c2, qx1.c0⟩ (fun hHeld => ?_)
     clear hK K
     refine nm ?_
     refine on 12 (some 45) rfl rfl (fun K hK => ?_)
     refine goes_ Tryz.func38 (by kernel_rfl) rfl #[.slice A6 (digs ss).length c6, .slice A1 d0 c1] (by rfl) rfl rfl (by (try simp only [List.map_toArray, List.map_cons, List.map_nil]); first | done | rfl) ?_
     refine (HC.out _ _ _ _ _ hs (HX3.out.below hb1)).mono ?_
     rintro e w2 ⟨rfl, hb2⟩
     refine ⟨_, rfl, ?_⟩
     have sz2 := hb2.size
     have bx2 := bx1.below hb2
     have rx2 := rx1.below hb2
     have qx2 := qx1.below hb2
     refine hK.out _ _ ⟨bx2.c0, bx2.c1, bx2.c2, rx2.c0, rx2.c1, rx2.c2, qx2.c0⟩ (fun hHeld => ?_)
     clear hK K
     refine nm ?_
     refine pu 16 (some 49) rfl rfl ?_
     refine pu 17 (some 50) rfl rfl ?_
     refine pu 18 (some 51) rfl rfl ?_
     refine tk 19 (some 52) rfl rfl hHeld ?_ (by (rintro w' ⟨s0, s1, s2, s3, s4, s5, s6⟩; go_simp; with_reducible rfl))
     refine pu 20 (some 53) rfl rfl ?_
     refine pu 21 (some 54) rfl rfl ?_
     refine pu 22 (some 55) rfl rfl ?_
     refine on 23 (some 56) rfl rfl (fun K hK => ?_)
     refine goes_ Tryz.func79 (by kernel_rfl) rfl #[.int .i64 way, .bool b, .int .i64 cc, .bool (Int.tmod q0 2 == 1)] (by rfl) rfl rfl (by (try simp only [List.map_toArray, List.map_cons, List.map_nil]); first | done | rfl) ?_
     refine (HRO.out _).mono ?_
     rintro e w3 ⟨rfl, hb3⟩
     refine ⟨_, rfl, ?_⟩
     have sz3 := hb3.size
     have bx3 := bx2.below hb3
     have rx3 := rx2.below hb3
     have qx3 := qx2.below hb3
     refine hK.out _ _ ⟨bx3.c0, bx3.c1, bx3.c2, rx3.c0, rx3.c1, rx3.c2, qx3.c0⟩ (fun hHeld => ?_)
     clear hK K
     refine nm ?_
     refine pu 24 (some 57) rfl rfl ?_
     refine done_ (by kernel_rfl) ?_
     cases t
     ·
       have hB9 := HB0.out
       replace hB9 := below_step hB9 hb1
       replace hB9 := below_step hB9 hb2
       replace hB9 := below_step hB9 hb3
       have bx0 := bx3
       have rx0 := rx3
       have kbx00 := bx0.c0; have kbx01 := bx0.c1; have kbx02 := bx0.c2; have qbx00 := bx0.f0; have qbx01 := bx0.f1; have qbx02 := bx0.f2
       have krx00 := rx0.c0; have krx01 := rx0.c1; have krx02 := rx0.c2; have qrx00 := rx0.f0; have qrx01 := rx0.f1; have qrx02 := rx0.f2
       generalize hs1 : sgn b (n / d) = s1 at *
       have HS1 := Aside0.mk hs1
       clear hs1
       have HW := Aside0.mk (fun ok v w hv => wholeOf_n b (n / d) ok v w hv)
       rw [HS1.out] at HW
       have HZ := HZQ
       replace HZ := Aside0.mk (HZ.out.below hb1)
       replace HZ := Aside0.mk (HZ.out.below hb2)
       replace HZ := Aside0.mk (HZ.out.below hb3)
       go_wp2_with (first | (go_at_call 44; (with_reducible refine (HW.out _ _ _ HZ.out).mono ?_); rintro e wf1 ⟨rfl, hbf1⟩; have szf1 := hbf1.size; (try simp at szf1); (with_reducible have bx1 := bx0.below hbf1); have kbx10 := bx1.c0; have kbx11 := bx1.c1; have kbx12 := bx1.c2; have qbx10 := bx1.f0; have qbx11 := bx1.f1; have qbx12 := bx1.f2; (with_reducible have rx1 := rx0.below hbf1); have krx10 := rx1.c0; have krx11 := rx1.c1; have krx12 := rx1.c2; have qrx10 := rx1.f0; have qrx11 := rx1.f1; have qrx12 := rx1.f2))
       refine bodyPost_ret (v := .agg #[.bool s1, .slice (some a4) lq c4, .int .i64 (-P)]) (by simp [results, Tryz.results59, go_sem, krx10, krx11, krx12]) rfl ?_
       have hsz0 := hB9.size
       rw [HRF.out, HS1.out]
       exact ⟨_, rfl, ((HZ.out.below hbf1).bound.far3 (g := w.heap.size + 1) (fun k hk => by have := hk.1; have h3 := SZ3.out; omega) _ _ _).mono (fun k hk => by have := hk.1; have h3 := SZ3.out; omega), below3 (below_step hB9 hbf1) (by omega) _ _ _⟩
     ·
       have hB9 := HB0.out
       replace hB9 := below_step hB9 hb1
       replace hB9 := below_step hB9 hb2
       replace hB9 := below_step hB9 hb3
       have bx0 := bx3
       have rx0 := rx3
       have kbx00 := bx0.c0; have kbx01 := bx0.c1; have kbx02 := bx0.c2; have qbx00 := bx0.f0; have qbx01 := bx0.f1; have qbx02 := bx0.f2
       have krx00 := rx0.c0; have krx01 := rx0.c1; have krx02 := rx0.c2; have qrx00 := rx0.f0; have qrx01 := rx0.f1; have qrx02 := rx0.f2
       generalize hs1 : sgn b (n / d + 1) = s1 at *
       have HS1 := Aside0.mk hs1
       clear hs1
       have HW := Aside0.mk (fun ok v w hv => wholeOf_n b (n / d + 1) ok v w hv)
       rw [HS1.out] at HW
       have HZ := HZQ
       replace HZ := Aside0.mk (HZ.out.below hb1)
       replace HZ := Aside0.mk (HZ.out.below hb2)
       replace HZ := Aside0.mk (HZ.out.below hb3)
       generalize hqq : n / d + 1 = qq at *
       clear hqq
       go_wp2_with (first | (go_at_call 80; (with_reducible refine (one_n _).mono ?_); rintro e wf1 ⟨u1, rfl, hu1, hbf1⟩; have szf1 := hbf1.size; (try simp at szf1); (with_reducible have bx1 := bx0.below hbf1); have kbx10 := bx1.c0; have kbx11 := bx1.c1; have kbx12 := bx1.c2; have qbx10 := bx1.f0; have qbx11 := bx1.f1; have qbx12 := bx1.f2; (with_reducible have rx1 := rx0.below hbf1); have krx10 := rx1.c0; have krx11 := rx1.c1; have krx12 := rx1.c2; have qrx10 := rx1.f0; have qrx11 := rx1.f1; have qrx12 := rx1.f2; have HU1 := Aside0.mk hu1; clear hu1; obtain ⟨A7, c7, rfl, _, _⟩ := HU1.out.form) | (go_at_call 54; (with_reducible refine (HAQ.out _ _ _ _ _ (HZ.out.below hbf1) HU1.out).mono ?_); rintro e wf2 ⟨u2, rfl, hu2, hbf2⟩; have szf2 := hbf2.size; (try simp at szf2); (with_reducible have bx2 := bx1.below hbf2); have kbx20 := bx2.c0; have kbx21 := bx2.c1; have kbx22 := bx2.c2; have qbx20 := bx2.f0; have qbx21 := bx2.f1; have qbx22 := bx2.f2; (with_reducible have rx2 := rx1.below hbf2); have krx20 := rx2.c0; have krx21 := rx2.c1; have krx22 := rx2.c2; have qrx20 := rx2.f0; have qrx21 := rx2.f1; have qrx22 := rx2.f2; have HU2 := Aside0.mk hu2; clear hu2; obtain ⟨A8, c8, rfl, _, _⟩ := HU2.out.form) | (go_at_call 44; (with_reducible refine (HW.out _ _ _ HU2.out).mono ?_); rintro e wf3 ⟨rfl, hbf3⟩; have szf3 := hbf3.size; (try simp at szf3); (with_reducible have bx3 := bx2.below hbf3); have kbx30 := bx3.c0; have kbx31 := bx3.c1; have kbx32 := bx3.c2; have qbx30 := bx3.f0; have qbx31 := bx3.f1; have qbx32 := bx3.f2; (with_reducible have rx3 := rx2.below hbf3); have krx30 := rx3.c0; have krx31 := rx3.c1; have krx32 := rx3.c2; have qrx30 := rx3.f0; have qrx31 := rx3.f1; have qrx32 := rx3.f2))
       refine bodyPost_ret (v := .agg #[.bool s1, .slice A8 (digs qq).length c8, .int .i64 (-P)]) (by simp [results, Tryz.results59, go_sem, krx30, krx31, krx32]) rfl ?_
       have hsz0 := hB9.size
       rw [HRT.out, HS1.out]
       exact ⟨_, rfl, ((HU2.out.below hbf3).far3 (g := w.heap.size + 1) (fun k hk => by have hk' : _ ≤ k := hk; have h3 := SZ3.out; omega) _ _ _).mono (fun k hk => by have hk' : _ ≤ k := hk; omega), below3 (below_step (below_step (below_step hB9 hbf1) hbf2) hbf3) (by omega) _ _ _⟩
end Go.Proofs.YteohmbannpbokaaGreatDoor.SpecWalk
