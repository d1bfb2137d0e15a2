/-
 Integers of the package: shifted up into a new one; amounts compared; a product with a word in a new one.
 Integers of the package: a product with a word in a new one.
 Words for this claim.
-/
import Derived.Test.YteohmbannpbokaaGreatDoorJ01
import Derived.Test.YteohmbannpbokaaGreatDoorJ32
import Derived.Test.YteohmbannpbokaaGreatDoorJ17
set_option linter.unusedVariables false
set_option linter.unusedSimpArgs false
namespace Go.Proofs.YteohmbannpbokaaGreatDoor.WordWalk
open Go.RowKit Go.Proofs.YteohmbannpbokaaGreatDoorW.PrintWords Go.Proofs.YteohmbannpbokaaGreatDoorW.PrintLast Go.Proofs.YteohmbannpbokaaGreatDoorW.PrintMore Go.Proofs.YteohmbannpbokaaGreatDoor.SpecWalk Go.Proofs.YteohmbannpbokaaGreatDoor.BigWalk
theorem shift_up (X : Int) (s : Nat) : (X * 2 ^ s).natAbs = X.natAbs * 2 ^ s ∧ decide (X * 2 ^ s < 0) = decide (X < 0) := by
 have hp : 0 < (2 : Int) ^ s := Int.pow_pos (by decide)
 constructor
 · rw [Int.natAbs_mul, show (2 : Int) ^ s = ((2 ^ s : Nat) : Int) by simp, Int.natAbs_natCast]
 · have : (X * 2 ^ s < 0) ↔ (X < 0) := by
     constructor
     · intro h
       apply Classical.byContradiction
       intro hc
       have := Int.mul_nonneg (show 0 ≤ X by omega) (Int.le_of_lt hp)
       omega
     · intro h
       exact Int.mul_neg_of_neg_of_pos h hp
   simp only [this]
set_option maxHeartbeats 4000000 in
set_option maxRecDepth 100000 in
theorem Lsh_any (gz gx : Nat) (b : Bool) (A : Option Addr) (l cx s : Nat) (R : Value → World → Prop) (w : World) (hz : Box w gz [.bool false, .slice none 0 0]) (hzb : Blk w gz) (hx : Box w gx [.bool b, .slice A l cx]) (hne : gz ≠ gx)
   (hM : ∀ w1, Below w.heap.size w w1 → Calls Tryz.prog 49 #[.slice none 0 0, .slice A l cx, .int .u64 s] w1 fun e w' => ∃ B m d, e = .returned (.slice B m d) ∧ R (.slice B m d) w' ∧ Below w.heap.size w1 w') :
   Calls Tryz.prog 25 #[.pointer (some ⟨gz, 0, none⟩), .pointer (some ⟨gx, 0, none⟩), .int .u64 s] w fun e w' => e = .returned (.pointer (some ⟨gz, 0, none⟩)) ∧ ∃ B m d w1, R (.slice B m d) w1 ∧ Box w' gz [.bool b, .slice B m d] ∧ Blk w' gz ∧ KeptP w1 w' (fun k => k = gz) ∧ Below w.heap.size w w1 := by
 have HM := Aside0.mk hM
 have cz0 := hz.c0; have cz1 := hz.c1; have fz0 := hz.f0; have fz1 := hz.f1
 have cx0 := hx.c0; have cx1 := hx.c1
 have HZ := Aside0.mk (And.intro hz (And.intro hzb (And.intro hx hne)))
 clear hz hzb hx hne hM
 go_enter Tryz.func25, Tryz.ntmps25
 go_wp2_with fail
 refine st (n := 14) (S := fun w' => w'.cell? ⟨gz, 1, none⟩ = some (.slice none 0 0) ∧ w'.cell? ⟨gx, 1, none⟩ = some (.slice A l cx)) (ds := [13]) rfl (⟨by simpa using cz1, by simpa using cx1⟩) (fun hHeld => ?_)
 refine pu 0 (some 7) rfl rfl ?_
 refine pu 1 (some 8) rfl rfl ?_
 refine pu 2 (some 9) rfl rfl ?_
 refine pu 3 (some 10) rfl rfl ?_
 refine tk 4 (some 11) rfl rfl hHeld ?_ (by (rintro w' ⟨s0, s1⟩; go_simp; with_reducible rfl))
 refine pu 5 (some 12) rfl rfl ?_
 refine pu 6 (some 13) rfl rfl ?_
 refine pu 7 (some 14) rfl rfl ?_
 refine tk 8 (some 15) rfl rfl hHeld ?_ (by (rintro w' ⟨s0, s1⟩; go_simp; with_reducible rfl))
 refine pu 9 (some 16) rfl rfl ?_
 refine on 10 (some 17) rfl rfl (fun K hK => ?_)
 refine goes_ Tryz.func49 (by kernel_rfl) rfl #[.slice none 0 0, .slice A l cx, .int .u64 s] (by rfl) rfl rfl (by (try simp only [List.map_toArray, List.map_cons, List.map_nil]); first | done | rfl) ?_
 refine (HM.out _ (Below.refl _ _).drew).mono ?_
 rintro e w1 ⟨B, m, d, rfl, hR, hbe⟩
 refine ⟨_, rfl, ?_⟩
 have hbe1 : Below w.heap.size w w1 := below_trans (Below.refl _ _).drew hbe (Nat.le_refl _)
 have bz1 := HZ.out.1.below hbe1
 have hbk := KeptP.blk HZ.out.2.1 (KeptP.ofBelow (P := fun _ => False) hbe1) id
 have bx1 := HZ.out.2.2.1.below hbe1
 have c1' := bz1.c1
 have f1' := bz1.f1
 refine hK.out _ _ (⟨c1', bx1.c1⟩) (fun hHeld => ?_)
 clear hK K
 refine nm ?_
 refine pu 11 (some 18) rfl rfl ?_
 refine pu 12 (some 19) rfl rfl ?_
 refine la 13 none rfl rfl (fun K hK => ?_)
 refine skip_ (w1 := ?_) (by rfl) rfl ?_ ?_
 rotate_left
 · go_simp
   rfl
 refine hK.out _ _ ?_
 clear hK K
 refine done_ (by kernel_rfl) ?_
 have bz2 := bz1.put1 (.slice B m d)
 have bx2 := bx1.far (p := ⟨gz, 1, none⟩) (Ne.symm HZ.out.2.2.2) (.slice B m d)
 have z0 := bz2.c0; have zf0 := bz2.f0; have x0 := bx2.c0
 have HF := Aside0.mk (And.intro bz2 (And.intro (hbk.set ⟨gz, 1, none⟩ (.slice B m d)) (And.intro (KeptP.set (P := fun k => k = gz) (KeptP.refl w1 _) ⟨gz, 1, none⟩ (.inl rfl) (.slice B m d)) (And.intro hbe1 hR))))
 clear bz1 bx1 bz2 bx2 hbk hbe hR c1' f1' hHeld cz0 cz1 fz0 fz1 cx0 cx1 HM hbe1
 generalize hW2 : w1.setCell ⟨gz, 1, none⟩ (.slice B m d) = W2 at *
 clear hW2
 go_wp2_with fail
 go_wp2
 go_ret
 exact ⟨rfl, B, m, d, w1, HF.out.2.2.2.2, HF.out.1.put0 _, HF.out.2.1.set _ _, KeptP.set (P := fun k => k = gz) HF.out.2.2.1 ⟨gz, 0, none⟩ (.inl rfl) _, HF.out.2.2.2.1⟩
theorem Lsh_new (gz gx : Nat) (X : Int) (ok : Nat → Prop) (v : Value) (s : Nat) (w : World) (hz : Box w gz [.bool false, .slice none 0 0]) (hzb : Blk w gz) (hx : Box w gx [.bool (decide (X < 0)), v]) (hv : Wdv w ok v X.natAbs) (hne : gz ≠ gx) (h0 : X ≠ 0) (hs : 0 < s) (hs2 : s ≤ 1000) (hl : (W64.digs X.natAbs).length ≤ 100) :
   Calls Tryz.prog 25 #[.pointer (some ⟨gz, 0, none⟩), .pointer (some ⟨gx, 0, none⟩), .int .u64 s] w fun e w' => e = .returned (.pointer (some ⟨gz, 0, none⟩)) ∧ ∃ a', w.heap.size ≤ a' ∧ Zm w' gz a' (X * 2 ^ s) ∧ KeptP w w' (fun k => k = gz) := by
 obtain ⟨ax, c, rfl, hlc, hsrc⟩ := Wdv.src hv (show X.natAbs ≠ 0 by omega)
 have hzlt := hzb.lt
 refine (Lsh_any gz gx (decide (X < 0)) (some ax) _ c s (fun u w' => ∃ a' c', u = .slice (some ⟨a', 0, none⟩) (W64.digs (X.natAbs * 2 ^ s)).length c' ∧ w.heap.size ≤ a' ∧ 6 ≤ c' ∧ Nc w' a' c' (X.natAbs * 2 ^ s)) w hz hzb hx hne (fun w1 hb => ?_)).mono ?_
 · refine (lsh_nc ax c X.natAbs s w1 ⟨fun w' hw i hi => hsrc.cells w' (fun k hk => (hw k (Nat.lt_of_lt_of_le hk hb.size)).trans (hb.block k hk)) i hi⟩ hlc hs hs2 (by omega) hl).mono ?_
   rintro e w' ⟨c', rfl, h1, h2, h3⟩
   exact ⟨_, _, _, rfl, ⟨_, c', rfl, hb.size, h1, h2⟩, below_less h3 hb.size⟩
 · rintro e w' ⟨rfl, B, m, d, w1, ⟨a', c', e', h1, h2, h3⟩, hb, hbl, hk, hbe⟩
   obtain ⟨f1, f2⟩ := shift_up X s
   rw [e'] at hb
   refine ⟨rfl, a', h1, ⟨⟨c', by omega, by rw [f1, f2]; exact hb, by rw [f1]; exact h3.kept hk (by omega)⟩, hbl, by omega⟩, ?_⟩
   exact (KeptP.ofBelow hbe).then hk
theorem Lsh_new0 (gz gx : Nat) (A : Option Addr) (cx s : Nat) (w : World) (hz : Box w gz [.bool false, .slice none 0 0]) (hzb : Blk w gz) (hx : Box w gx [.bool false, .slice A 0 cx]) (hne : gz ≠ gx) (hs : 0 < s) (hs2 : s ≤ 1000) :
   Calls Tryz.prog 25 #[.pointer (some ⟨gz, 0, none⟩), .pointer (some ⟨gx, 0, none⟩), .int .u64 s] w fun e w' => e = .returned (.pointer (some ⟨gz, 0, none⟩)) ∧ Box w' gz [.bool false, .slice none 0 0] ∧ Blk w' gz ∧ KeptP w w' (fun k => k = gz) := by
 refine (Lsh_any gz gx false A 0 cx s (fun u w' => u = .slice none 0 0) w hz hzb hx hne (fun w1 hb => ?_)).mono ?_
 · refine (lsh_zero A cx s w1 hs hs2).mono ?_
   rintro e w' ⟨rfl, rfl⟩
   exact ⟨none, 0, 0, rfl, rfl, Below.refl _ _⟩
 · rintro e w' ⟨rfl, B, m, d, w1, h1, hb, hbl, hk, hbe⟩
   rw [h1] at hb
   exact ⟨rfl, hb, hbl, (KeptP.ofBelow hbe).then hk⟩
set_option maxHeartbeats 4000000 in
set_option maxRecDepth 100000 in
theorem CmpAbs_n (g ga gy ya : Nat) (b1 b2 : Bool) (n m : Nat) (v u : Value) (w : World) (hx : Box w g [.bool b1, v]) (hxn : Nz w ga n v) (hy : Box w gy [.bool b2, u]) (hyn : Nz w ya m u) (hm0 : m ≠ 0) :
   Calls Tryz.prog 24 #[.pointer (some ⟨g, 0, none⟩), .pointer (some ⟨gy, 0, none⟩)] w fun e w' => ∃ r : Int, e = .returned (.int .i64 r) ∧ Aside0 (Cmp n m r) ∧ KeptP w w' (fun _ => False) := by
 obtain ⟨A, c, e1, _, _⟩ := hxn.form
 obtain ⟨B, d, e2, _, _⟩ := hyn.form
 have HM := Aside0.mk (fun (w1 : World) (hk : KeptP w w1 (fun _ => False)) => cmp_nc ga ya n m v u w1 (hxn.kept hk id) (hyn.kept hk id) hm0)
 subst e1 e2
 have cx1 := hx.c1; have cy1 := hy.c1
 clear hx hy hxn hyn hm0
 generalize (W64.digs n).length = ln at *
 generalize (W64.digs m).length = lm at *
 go_enter Tryz.func24, Tryz.ntmps24
 go_wp2_with fail
 refine st (n := 10) (S := fun w' => w'.cell? ⟨g, 1, none⟩ = some (.slice A ln c) ∧ w'.cell? ⟨gy, 1, none⟩ = some (.slice B lm d)) (ds := []) rfl (⟨by simpa using cx1, by simpa using cy1⟩) (fun hHeld => ?_)
 refine pu 0 (some 5) rfl rfl ?_
 refine pu 1 (some 6) rfl rfl ?_
 refine pu 2 (some 7) rfl rfl ?_
 refine tk 3 (some 8) rfl rfl hHeld ?_ (by (rintro w' ⟨s0, s1⟩; go_simp; with_reducible rfl))
 refine pu 4 (some 9) rfl rfl ?_
 refine pu 5 (some 10) rfl rfl ?_
 refine pu 6 (some 11) rfl rfl ?_
 refine tk 7 (some 12) rfl rfl hHeld ?_ (by (rintro w' ⟨s0, s1⟩; go_simp; with_reducible rfl))
 refine on 8 (some 13) rfl rfl (fun K hK => ?_)
 refine goes_ Tryz.func48 (by kernel_rfl) rfl #[.slice A ln c, .slice B lm d] (by rfl) rfl rfl (by (try simp only [List.map_toArray, List.map_cons, List.map_nil]); first | done | rfl) ?_
 refine (HM.out _ (KeptP.refl w _).drew).mono ?_
 rintro e w1 ⟨r, rfl, hr, hk⟩
 refine ⟨_, rfl, ?_⟩
 refine hK.out _ _ (⟨hk.cell id hHeld.1, hk.cell id hHeld.2⟩) (fun hHeld => ?_)
 clear hK K
 refine nm ?_
 refine pu 9 (some 4) rfl rfl ?_
 refine done_ (by kernel_rfl) ?_
 go_wp2
 go_ret
 exact ⟨r, rfl, hr, (KeptP.refl w _).drew.then hk⟩
set_option maxHeartbeats 4000000 in
set_option maxRecDepth 100000 in
theorem imul_word (gz gx gy ay : Nat) (X : Int) (y : Nat) (ok : Nat → Prop) (v : Value) (w : World) (hz : Box w gz [.bool false, .slice none 0 0]) (hzb : Blk w gz) (hx : Box w gx [.bool (decide (X < 0)), v]) (hxb : Blk w gx) (hv : Wdv w ok v X.natAbs) (hy : Zz w gy ay y) (hxy : gx ≠ gy) (hzx : gz ≠ gx) (hzy : gz ≠ gy) (hl : (W64.digs X.natAbs).length ≤ 100) (hy0 : 0 < y) (hy1 : y < 1000) :
   Calls Tryz.prog 47 #[.pointer (some ⟨gz, 0, none⟩), .pointer none, .pointer (some ⟨gx, 0, none⟩), .pointer (some ⟨gy, 0, none⟩)] w fun e w' => e = .returned (.tuple #[]) ∧ ∃ a' u, Nz w' a' (X * y).natAbs u ∧ Box w' gz [.bool (decide (X * y < 0)), u] ∧ KeptP w w' (fun k => k = gz) := by
 obtain ⟨yv, hyb, hyn⟩ := hy.out
 have hzlt := hzb.lt
 obtain ⟨cy, rfl, hyc⟩ := hyn.out.resolve_left (fun h => by have := h.1; omega)
 have hsg : decide ((y : Int) < 0) = false := decide_eq_false (by omega)
 have hyabs : ((y : Int)).natAbs = y := Int.natAbs_natCast y
 rw [hyabs] at hyb hyc
 rw [hsg] at hyb
 have hd1 : (W64.digs y).length = 1 := by rw [W64.digs_one (by omega) (by omega)]; rfl
 have heq := run_eq_int w hxy hxb hy.blk
 have HM := Aside0.mk (fun (w1 : World) (hk : Below w.heap.size w w1) => mul_new v ok X.natAbs ay cy y w1 (hv.below hk) (hyc.kept (P := fun _ => False) (KeptP.ofBelow hk) id) hd1 hl)
 have hna : (X * (y : Int)).natAbs = X.natAbs * y := by rw [Int.natAbs_mul, hyabs]
 rw [← hna] at HM
 obtain ⟨xA, xc, rfl, hxc1, _⟩ := hv.form
 have cz0 := hz.c0; have cz1 := hz.c1; have fz0 := hz.f0; have fz1 := hz.f1
 have cx0 := hx.c0; have cx1 := hx.c1; have cy0 := hyb.c0; have cy1 := hyb.c1
 have hpn := sign_mul X y
 rw [hsg] at hpn
 have HZ := Aside0.mk (And.intro hz (And.intro hzb (And.intro hzx (And.intro hzy (And.intro hzlt (And.intro hx hyb))))))
 clear hz hzb hx hxb hv hy hxy hzx hzy hl hy0 hy1 hyb hyn hyc hzlt hsg hyabs hd1 hna hxc1
 generalize hpe : decide (X < 0) = st at *
 generalize hpr : X * (y : Int) = p at *
 generalize (W64.digs X.natAbs).length = lx at *
 generalize (W64.digs y).length = ly at *
 clear hpe hpr
 go_enter Tryz.func47, Tryz.ntmps47
 go_wp2_with fail
 refine Go.Proofs.YteohmbannpbokaaGreatDoorW.PrintLast.st (n := 18) (S := fun w' => w'.cell? ⟨gz, 1, none⟩ = some (.slice none 0 0) ∧ w'.cell? ⟨gx, 1, none⟩ = some (.slice xA lx xc) ∧ w'.cell? ⟨gy, 1, none⟩ = some (.slice (some ⟨ay, 0, none⟩) ly cy)) (ds := [17]) rfl (⟨by simpa using cz1, by simpa using cx1, by simpa using cy1⟩) (fun hHeld => ?_)
 refine pu 0 (some 27) rfl rfl ?_
 refine pu 1 (some 28) rfl rfl ?_
 refine pu 2 (some 29) rfl rfl ?_
 refine pu 3 (some 30) rfl rfl ?_
 refine tk 4 (some 31) rfl rfl hHeld ?_ (by (rintro w' ⟨s0, s1, s2⟩; go_simp; with_reducible rfl))
 refine pu 5 (some 32) rfl rfl ?_
 refine pu 6 (some 33) rfl rfl ?_
 refine pu 7 (some 34) rfl rfl ?_
 refine pu 8 (some 35) rfl rfl ?_
 refine tk 9 (some 36) rfl rfl hHeld ?_ (by (rintro w' ⟨s0, s1, s2⟩; go_simp; with_reducible rfl))
 refine pu 10 (some 37) rfl rfl ?_
 refine pu 11 (some 38) rfl rfl ?_
 refine pu 12 (some 39) rfl rfl ?_
 refine tk 13 (some 40) rfl rfl hHeld ?_ (by (rintro w' ⟨s0, s1, s2⟩; go_simp; with_reducible rfl))
 refine on 14 (some 41) rfl rfl (fun K hK => ?_)
 refine goes_ Tryz.func64 (by kernel_rfl) rfl #[.slice none 0 0, .pointer none, .slice xA lx xc, .slice (some ⟨ay, 0, none⟩) ly cy] (by rfl) rfl rfl (by (try simp only [List.map_toArray, List.map_cons, List.map_nil]); first | done | rfl) ?_
 refine (HM.out _ (Below.refl _ _).drew).mono ?_
 rintro e w1 ⟨u, rfl, hnz, hbe⟩
 refine ⟨_, rfl, ?_⟩
 have hbe1 : Below w.heap.size w w1 := below_trans (Below.refl _ _).drew hbe (Nat.le_refl _)
 have bz1 := HZ.out.1.below hbe1
 have hbk := KeptP.blk HZ.out.2.1 (KeptP.ofBelow (P := fun _ => False) hbe1) id
 have bx1 := HZ.out.2.2.2.2.2.1.below hbe1
 have by1 := HZ.out.2.2.2.2.2.2.below hbe1
 have c1' := bz1.c1
 have f1' := bz1.f1
 obtain ⟨uA, uc, rfl, hu1, hu2⟩ := hnz.form
 refine hK.out _ _ (⟨c1', bx1.c1, by1.c1⟩) (fun hHeld => ?_)
 clear hK K
 refine nm ?_
 refine pu 15 (some 42) rfl rfl ?_
 refine pu 16 (some 43) rfl rfl ?_
 refine la 17 none rfl rfl (fun K hK => ?_)
 refine skip_ (w1 := ?_) (by rfl) rfl ?_ ?_
 rotate_left
 · go_simp
   rfl
 refine hK.out _ _ ?_
 clear hK K
 refine done_ (by kernel_rfl) ?_
 have bz2 := bz1.put1 (.slice uA (W64.digs p.natAbs).length uc)
 have bx2 := bx1.far (p := ⟨gz, 1, none⟩) (Ne.symm HZ.out.2.2.1) (.slice uA (W64.digs p.natAbs).length uc)
 have by2 := by1.far (p := ⟨gz, 1, none⟩) (Ne.symm HZ.out.2.2.2.1) (.slice uA (W64.digs p.natAbs).length uc)
 have hk2 := KeptP.set (P := fun k => k = gz) (KeptP.refl w1 _) ⟨gz, 1, none⟩ (.inl rfl) (.slice uA (W64.digs p.natAbs).length uc)
 have hnlt := HZ.out.2.2.2.2.1
 have z1 := bz2.c1; have z0 := bz2.c0; have zf0 := bz2.f0; have x0 := bx2.c0; have y0 := by2.c0
 have HF := Aside0.mk (And.intro bz2 (And.intro hnz (And.intro hk2 hbe1)))
 clear bz1 bx1 by1 bz2 bx2 by2 hbk hbe hbe1 hnz hk2 hnlt c1' f1' hHeld HM cz0 cz1 fz0 fz1 cx0 cx1 cy0 cy1 heq hu1 hu2
 generalize hW2 : w1.setCell ⟨gz, 1, none⟩ (.slice uA (W64.digs p.natAbs).length uc) = W2 at *
 clear hW2
 have hend : ∀ (W3 : World) (b : Bool), W3 = (W2.setCell ⟨gz, 0, none⟩ (.bool b)).drew → ∃ a' u, Nz W3 a' p.natAbs u ∧ Box W3 gz [.bool b, u] ∧ KeptP w W3 (fun k => k = gz) := by
   rintro W3 b rfl
   obtain ⟨h1, h2, h3, h4⟩ := HF.out
   have hk3 := (KeptP.set (P := fun k => k = gz) h3 ⟨gz, 0, none⟩ (.inl rfl) (.bool b)).drew
   exact ⟨_, _, h2.kept (P := fun k => k = gz) hk3 (by have := HZ.out.2.2.2.2.1; show w.heap.size ≠ gz; omega), (h1.put0 _).drew, (KeptP.ofBelow h4).then hk3⟩
 have HEND := Aside0.mk hend
 clear hend
 by_cases hp0 : 0 < (W64.digs p.natAbs).length
 · have hq : decide (0 < (W64.digs p.natAbs).length) = true := decide_eq_true hp0
   have hpp : 0 < p.natAbs := by
     apply Classical.byContradiction
     intro hc
     rw [show p.natAbs = 0 by omega, W64.digs_zero] at hp0
     exact absurd hp0 (by decide)
   rw [decide_eq_true hpp, Bool.true_and, show (st != false) = st by cases st <;> rfl] at hpn
   have HPN := Aside0.mk hpn
   clear hpn hpp hp0
   go_wp2_with fail
   refine Go.Proofs.YteohmbannpbokaaGreatDoorW.PrintLast.st (n := 21) (S := fun w' => w'.cell? ⟨gz, 1, none⟩ = some (.slice uA (W64.digs p.natAbs).length uc) ∧ w'.cell? ⟨gx, 0, none⟩ = some (.bool st) ∧ w'.cell? ⟨gy, 0, none⟩ = some (.bool false)) (ds := [20]) rfl (⟨by simpa using z1, by simpa using x0, by simpa using y0⟩) (fun hHeld => ?_)
   refine pu 0 (some 44) rfl rfl ?_
   refine pu 1 (some 45) rfl rfl ?_
   refine pu 2 (some 46) rfl rfl ?_
   refine pu 3 (some 47) rfl rfl ?_
   refine tk 4 (some 48) rfl rfl hHeld ?_ (by (rintro w' ⟨s0, s1, s2⟩; go_simp; with_reducible rfl))
   refine pu 5 (some 49) rfl rfl ?_
   refine pu 6 (some 50) rfl rfl ?_ (hr := by (intro w'; go_simp; (try simp only [hq]); with_reducible rfl))
   refine pu 7 (some 51) rfl rfl ?_
   refine pu 8 (some 52) rfl rfl ?_
   refine pu 9 (some 53) rfl rfl ?_
   refine pu 10 (some 54) rfl rfl ?_
   refine tk 11 (some 55) rfl rfl hHeld ?_ (by (rintro w' ⟨s0, s1, s2⟩; go_simp; with_reducible rfl))
   refine pu 12 (some 56) rfl rfl ?_
   refine pu 13 (some 57) rfl rfl ?_
   refine pu 14 (some 58) rfl rfl ?_
   refine tk 15 (some 59) rfl rfl hHeld ?_ (by (rintro w' ⟨s0, s1, s2⟩; go_simp; with_reducible rfl))
   refine pu 16 (some 60) rfl rfl ?_
   refine pu 17 (some 61) rfl rfl ?_
   refine pu 18 (some 62) rfl rfl ?_
   refine pu 19 (some 63) rfl rfl ?_
   refine la 20 none rfl rfl (fun K hK => ?_)
   refine skip_ (w1 := ?_) (by rfl) rfl ?_ ?_
   rotate_left
   · go_simp
     rfl
   refine hK.out _ _ ?_
   clear hK K
   refine done_ (by kernel_rfl) ?_
   go_wp2
   go_end0
   refine ⟨rfl, ?_⟩
   rw [HPN.out]
   exact HEND.out _ _ rfl
 · have hq : decide (0 < (W64.digs p.natAbs).length) = false := decide_eq_false hp0
   have hpp : p.natAbs = 0 := by
     apply Classical.byContradiction
     intro hc
     exact hp0 (W64.len_pos hc)
   rw [hpp, show decide (0 < 0) = false from rfl, Bool.false_and] at hpn
   have HPN := Aside0.mk hpn
   clear hpn hpp hp0
   go_wp2_with fail
   refine Go.Proofs.YteohmbannpbokaaGreatDoorW.PrintLast.st (n := 21) (S := fun w' => w'.cell? ⟨gz, 1, none⟩ = some (.slice uA (W64.digs p.natAbs).length uc)) (ds := [20]) rfl (by simpa using z1) (fun hHeld => ?_)
   refine pu 0 (some 44) rfl rfl ?_
   refine pu 1 (some 45) rfl rfl ?_
   refine pu 2 (some 46) rfl rfl ?_
   refine pu 3 (some 47) rfl rfl ?_
   refine tk 4 (some 48) rfl rfl hHeld ?_ (by (rintro w' s0; go_simp; with_reducible rfl))
   refine pu 5 (some 49) rfl rfl ?_
   refine pu 6 (some 50) rfl rfl ?_ (hr := by (intro w'; go_simp; (try simp only [hq]); with_reducible rfl))
   refine pu 7 (some 51) rfl rfl ?_
   refine po 8 (some 52) rfl rfl ?_
   refine po 9 (some 53) rfl rfl ?_
   refine po 10 (some 54) rfl rfl ?_
   refine po 11 (some 55) rfl rfl ?_
   refine po 12 (some 56) rfl rfl ?_
   refine po 13 (some 57) rfl rfl ?_
   refine po 14 (some 58) rfl rfl ?_
   refine po 15 (some 59) rfl rfl ?_
   refine po 16 (some 60) rfl rfl ?_
   refine pu 17 (some 61) rfl rfl ?_
   refine pu 18 (some 62) rfl rfl ?_
   refine pu 19 (some 63) rfl rfl ?_
   refine la 20 none rfl rfl (fun K hK => ?_)
   refine skip_ (w1 := ?_) (by rfl) rfl ?_ ?_
   rotate_left
   · go_simp
     rfl
   refine hK.out _ _ ?_
   clear hK K
   refine done_ (by kernel_rfl) ?_
   go_wp2
   go_end0
   refine ⟨rfl, ?_⟩
   rw [HPN.out]
   exact HEND.out _ _ rfl
end Go.Proofs.YteohmbannpbokaaGreatDoor.WordWalk
namespace Go.Proofs.YteohmbannpbokaaGreatDoor.ExpLaw
def trm (xr : Int) (g : Nat) : Nat → Int
 | 0 => 2 ^ g
 | i + 1 => (trm xr g i * xr / 2 ^ g).tdiv ((i + 1 : Nat) : Int)
def tsum (xr : Int) (g : Nat) : Nat → Int
 | 0 => 0
 | i + 1 => tsum xr g i + trm xr g i
def sqs (g : Nat) : Nat → Int → Int
 | 0, s => s
 | k + 1, s => sqs g k (s * s / 2 ^ g)
theorem icast_le {a b : Int} (h : a ≤ b) : (a : Rat) ≤ b := Rat.intCast_le_intCast.2 h
theorem icast_pow2 (g : Nat) : (((2 : Int) ^ g : Int) : Rat) = 2 ^ g := by
 induction g with
 | zero => rw [Rat.pow_zero]; rfl
 | succ k ih => rw [Int.pow_succ, Rat.intCast_mul, ih, Rat.pow_succ]; rfl
theorem shift_floor (a : Int) (g : Nat) : ((a / 2 ^ g : Int) : Rat) ≤ (a : Rat) / 2 ^ g ∧ (a : Rat) / 2 ^ g ≤ ((a / 2 ^ g : Int) : Rat) + 1 := by
 have hp := two_pow_pos g
 have hpi : (0 : Int) < 2 ^ g := Int.pow_pos (by decide)
 have h1 : a / 2 ^ g * 2 ^ g ≤ a := Int.ediv_mul_le a (Int.ne_of_gt hpi)
 have h2 : a ≤ (a / 2 ^ g + 1) * 2 ^ g := Int.le_of_lt (Int.lt_ediv_add_one_mul_self a hpi)
 have k1 := icast_le h1
 have k2 := icast_le h2
 rw [Rat.intCast_mul, icast_pow2] at k1 k2
 rw [Rat.intCast_add] at k2
 have e1 : ((1 : Int) : Rat) = 1 := rfl
 rw [e1] at k2
 exact ⟨le_div hp k1, div_le hp k2⟩
theorem tdiv_beside (a : Int) {i : Nat} (hi : 0 < i) : ((a.tdiv (i : Int) : Int) : Rat) ≤ (a : Rat) / i + 1 ∧ (a : Rat) / i - 1 ≤ ((a.tdiv (i : Int) : Int) : Rat) := by
 have hp : 0 < (i : Rat) := cast_pos hi
 have h : a = i * a.tdiv i + a.tmod i := (Int.mul_tdiv_add_tmod a i).symm
 have hm1 : a.tmod i < i := Int.tmod_lt_of_pos a (by omega)
 have hm2 : -(i : Int) < a.tmod i := by
   have := Int.tmod_lt_of_pos (-a) (show (0 : Int) < (i : Int) by omega)
   rw [Int.neg_tmod] at this
   omega
 generalize a.tdiv (i : Int) = q at *
 generalize a.tmod (i : Int) = r at *
 have k : (a : Rat) = i * q + r := by rw [h, Rat.intCast_add, Rat.intCast_mul, Rat.intCast_natCast]
 have r1 := icast_le (Int.le_of_lt hm1)
 have r2 := icast_le (Int.le_of_lt hm2)
 rw [Rat.intCast_neg] at r2
 rw [Rat.intCast_natCast] at r1 r2
 constructor
 · have : (q : Rat) - 1 ≤ (a : Rat) / i := le_div hp (by rw [k]; grind)
   grind
 · have : (a : Rat) / i ≤ (q : Rat) + 1 := div_le hp (by rw [k]; grind)
   grind
theorem trm_beside {xr : Int} {g : Nat} (h1 : -(1 / 8) ≤ (xr : Rat) / 2 ^ g) (h2 : (xr : Rat) / 2 ^ g ≤ 1 / 8) (i : Nat) : -(5 / 2) ≤ (trm xr g i : Rat) - 2 ^ g * ty ((xr : Rat) / 2 ^ g) i ∧ (trm xr g i : Rat) - 2 ^ g * ty ((xr : Rat) / 2 ^ g) i ≤ 5 / 2 := by
 have hp := two_pow_pos g
 have ey : (xr : Rat) / 2 ^ g * 2 ^ g = xr := div_mul (by grind)
 induction i with
 | zero => rw [trm, ty, icast_pow2]; constructor <;> grind
 | succ i ih =>
   obtain ⟨i1, i2⟩ := ih
   obtain ⟨f1, f2⟩ := shift_floor (trm xr g i * xr) g
   obtain ⟨d1, d2⟩ := tdiv_beside (trm xr g i * xr / 2 ^ g) (by omega : 0 < i + 1)
   rw [trm, ty]
   rw [Rat.intCast_mul] at f1 f2
   have hk : (1 : Rat) ≤ ((i + 1 : Nat) : Rat) := by have := cast_le (by omega : 1 ≤ i + 1); simpa using this
   have e0 : (trm xr g i : Rat) * xr / 2 ^ g = trm xr g i * ((xr : Rat) / 2 ^ g) := by grind
   rw [e0] at f1 f2
   generalize (xr : Rat) / 2 ^ g = y at *
   generalize ((trm xr g i * xr / 2 ^ g : Int)).tdiv ((i + 1 : Nat) : Int) = Q at *
   generalize ((trm xr g i * xr / 2 ^ g : Int) : Rat) = F at *
   generalize (trm xr g i : Rat) = t at *
   generalize ty y i = T at *
   generalize ((i + 1 : Nat) : Rat) = K at *
   generalize (2 : Rat) ^ g = G at *
   have hK : 0 < K := by grind
   obtain ⟨m1, m2⟩ := abs_mul (x := t - G * T) (a := 5 / 2) (y := y) (b := 1 / 8) (by grind) i2 h1 h2
   have g1 : -(21 / 16) ≤ F - G * (T * y) := by grind
   have g2 : F - G * (T * y) ≤ 21 / 16 := by grind
   obtain ⟨n1, n2⟩ := abs_div (x := F - G * (T * y)) (a := 21 / 16) hK g1 g2
   have hq : (21 / 16 : Rat) / K ≤ 21 / 16 := div_le hK (by grind)
   have eF : (F - G * (T * y)) / K = F / K - G * (T * y / K) := by grind
   rw [eF] at n1 n2
   constructor <;> grind
theorem tsum_beside {xr : Int} {g : Nat} (h1 : -(1 / 8) ≤ (xr : Rat) / 2 ^ g) (h2 : (xr : Rat) / 2 ^ g ≤ 1 / 8) (N : Nat) : -(5 / 2 * N) ≤ (tsum xr g N : Rat) - 2 ^ g * tay ((xr : Rat) / 2 ^ g) N ∧ (tsum xr g N : Rat) - 2 ^ g * tay ((xr : Rat) / 2 ^ g) N ≤ 5 / 2 * N := by
 induction N with
 | zero => rw [tsum, tay, sm]; constructor <;> simp <;> grind
 | succ N ih =>
   obtain ⟨i1, i2⟩ := ih
   obtain ⟨t1, t2⟩ := trm_beside h1 h2 N
   have e : tay ((xr : Rat) / 2 ^ g) (N + 1) = tay ((xr : Rat) / 2 ^ g) N + ty ((xr : Rat) / 2 ^ g) N := rfl
   rw [tsum, e, Rat.intCast_add, cast_succ]
   constructor <;> grind
theorem ty_neg (y : Rat) (i : Nat) : ty (-y) i = ty y i ∨ ty (-y) i = -(ty y i) := by
 induction i with
 | zero => exact .inl rfl
 | succ i ih =>
   rw [ty, ty]
   rcases ih with h | h <;> rw [h]
   · right; grind
   · left; grind
theorem start_law {xr : Int} {g N : Nat} (h1 : -(1 / 32) ≤ (xr : Rat) / 2 ^ g) (h2 : (xr : Rat) / 2 ^ g ≤ 1 / 32) (hN : N ≤ 60) (hz : trm xr g N = 0) (hg : 14 ≤ g) :
   ELe ((xr : Rat) / 2 ^ g) ((tsum xr g N : Rat) / 2 ^ g + 153 / 2 ^ g) ∧ ELe (-((xr : Rat) / 2 ^ g)) (1 / ((tsum xr g N : Rat) / 2 ^ g - 153 / 2 ^ g)) ∧
   ∃ u : Rat, -u ≤ (xr : Rat) / 2 ^ g ∧ (xr : Rat) / 2 ^ g ≤ u ∧ (u = (xr : Rat) / 2 ^ g ∨ u = -((xr : Rat) / 2 ^ g)) ∧ 1 - 8 / 7 * u - 153 / 2 ^ g ≤ (tsum xr g N : Rat) / 2 ^ g ∧ (tsum xr g N : Rat) / 2 ^ g ≤ 1 + 8 / 7 * u + 153 / 2 ^ g := by
 have hp := two_pow_pos g
 have g14 : (16384 : Rat) ≤ 2 ^ g := by
   have h := cast_le (Nat.pow_le_pow_right (by decide : 0 < 2) hg)
   have e : ((2 ^ 14 : Nat) : Rat) = 16384 := rfl
   rwa [e, cast_pow2] at h
 obtain ⟨s1, s2⟩ := tsum_beside (xr := xr) (g := g) (by grind) (by grind) N
 obtain ⟨t1, t2⟩ := trm_beside (xr := xr) (g := g) (by grind) (by grind) N
 rw [hz] at t1 t2
 have e0 : ((0 : Int) : Rat) = 0 := rfl
 rw [e0] at t1 t2
 have hN' : (N : Rat) ≤ 60 := by have := cast_le hN; simpa using this
 generalize hy : (xr : Rat) / 2 ^ g = y at *
 obtain ⟨u, hu1, hu2, hu3, hu4, hu5⟩ : ∃ u : Rat, -u ≤ y ∧ y ≤ u ∧ u ≤ 1 / 32 ∧ 2 ^ g * ty u N ≤ 5 / 2 ∧ (u = y ∨ u = -y) := by
   rcases Rat.le_total (a := 0) (b := y) with h | h
   · exact ⟨y, by grind, Rat.le_refl, h2, by grind, .inl rfl⟩
   · refine ⟨-y, by grind, by grind, by grind, ?_, .inr rfl⟩
     rcases ty_neg y N with h | h <;> rw [h] <;> grind
 have hU := ty_nonneg (by grind : 0 ≤ u) N
 generalize hG : (2 : Rat) ^ g = G at *
 have eS : (tsum xr g N : Rat) / G * G = tsum xr g N := div_mul (by grind)
 have eD : (153 : Rat) / G * G = 153 := div_mul (by grind)
 have hD : (153 : Rat) / G ≤ 1 / 100 := div_le hp (by grind)
 generalize (tsum xr g N : Rat) = S at *
 generalize S / G = s at *
 generalize (153 : Rat) / G = D at *
 have hD0 : 0 < D := by
   apply Rat.not_le.1
   intro hle
   have := Rat.mul_le_mul_of_nonneg_right hle (by grind : 0 ≤ G)
   grind
 have up : tay y N + 8 / 7 * ty u N ≤ s + D := by
   apply Rat.not_lt.1
   intro hlt
   have h := Rat.mul_lt_mul_of_pos_right hlt hp
   have e1 : (s + D) * G = S + 153 := by rw [← eS, ← eD]; grind
   have e2 : (tay y N + 8 / 7 * ty u N) * G = G * tay y N + 8 / 7 * (G * ty u N) := by grind
   rw [e1, e2] at h
   grind
 have down : s - D ≤ tay y N - 8 / 7 * ty u N := by
   apply Rat.not_lt.1
   intro hlt
   have h := Rat.mul_lt_mul_of_pos_right hlt hp
   have e1 : (s - D) * G = S - 153 := by rw [← eS, ← eD]; grind
   have e2 : (tay y N - 8 / 7 * ty u N) * G = G * tay y N - 8 / 7 * (G * ty u N) := by grind
   rw [e1, e2] at h
   grind
 have hN0 : 1 ≤ N := by
   apply Classical.byContradiction
   intro h
   have : N = 0 := by omega
   subst this
   have : (2 : Int) ^ g = 0 := hz
   have : (0 : Int) < 2 ^ g := Int.pow_pos (by decide)
   omega
 have near := tay_more (y := y) (u := u) (by grind) hu1 hu2 1 (N - 1)
 rw [show 1 + (N - 1) = N by omega] at near
 have n1 : tay y 1 = 1 := by rw [tay, sm, sm, ty]; grind
 have n2 : ty u 1 = u := by
   rw [ty, ty]
   have e : ((0 + 1 : Nat) : Rat) = 1 := rfl
   rw [e]; grind
 rw [n1, n2] at near
 have mid1 : s ≤ tay y N + D := by
   apply Rat.not_lt.1
   intro hlt
   have h := Rat.mul_lt_mul_of_pos_right hlt hp
   have e2 : (tay y N + D) * G = G * tay y N + 153 := by rw [← eD]; grind
   rw [e2, eS] at h
   grind
 have mid2 : tay y N - D ≤ s := by
   apply Rat.not_lt.1
   intro hlt
   have h := Rat.mul_lt_mul_of_pos_right hlt hp
   have e2 : (tay y N - D) * G = G * tay y N - 153 := by rw [← eD]; grind
   rw [e2, eS] at h
   grind
 obtain ⟨near1, near2⟩ := near
 refine ⟨exp_high (by grind) hu1 hu2 N _ up (by grind), exp_low (by grind) hu1 hu2 N _ down (by grind), u, hu1, hu2, hu5, by grind, by grind⟩
end Go.Proofs.YteohmbannpbokaaGreatDoor.ExpLaw
