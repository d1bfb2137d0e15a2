/-
 The package's whole numbers: a new one of a word; ten; a product with one of a word.
 Integers of the package: a product where it stands.
 Integers of the package: squared, divided by a small one, and set to a small one where they stand.
-/
import Derived.Test.YteohmbannpbokaaGreatDoorJ01
import Derived.Test.YteohmbannpbokaaGreatDoorJ30
import Derived.Test.YteohmbannpbokaaGreatDoorJ29
set_option linter.unusedVariables false
set_option linter.unusedSimpArgs false
namespace Go.Proofs.YteohmbannpbokaaGreatDoor.WordWalk
open Go.RowKit Go.Proofs.YteohmbannpbokaaGreatDoorW.PrintWords Go.Proofs.YteohmbannpbokaaGreatDoorW.PrintLast Go.Proofs.YteohmbannpbokaaGreatDoorW.PrintMore Go.Proofs.YteohmbannpbokaaGreatDoor.SpecWalk Go.Proofs.YteohmbannpbokaaGreatDoor.BigWalk
structure Zi (w : World) (g ga : Nat) (b : Bool) (n : Nat) : Prop where
 mk :: (out : ∃ v, Box w g [.bool b, v] ∧ Num w ga n v) (blk : Blk w g)
theorem Zi.kept {w w1 : World} {P : Nat → Prop} {g ga n : Nat} {b : Bool} (h : Zi w g ga b n) (hk : KeptP w w1 P) (hg : ¬ P g) (ha : ¬ P ga) : Zi w1 g ga b n := by
 obtain ⟨v, h1, h2⟩ := h.out
 exact ⟨⟨v, KeptP.box h1 hk hg, h2.kept hk ha⟩, KeptP.blk h.blk hk hg⟩
theorem Zi.below {w w1 : World} {g ga n : Nat} {b : Bool} (h : Zi w g ga b n) (hb : Below w.heap.size w w1) : Zi w1 g ga b n :=
 h.kept (P := fun _ => False) (KeptP.ofBelow hb) id id
theorem Zi.drew {w : World} {g ga n : Nat} {b : Bool} (h : Zi w g ga b n) : Zi w.drew g ga b n := h.below (Below.refl _ _).drew
theorem Num.wdv {w : World} {g n : Nat} {v : Value} (h : Num w g n v) : Wdv w (fun k => k = g) v n := by
 obtain ⟨cs, rfl, h2, h3, h4, h5, h6⟩ := h.out
 have hv : Kd.V (Kd.int .u64) 0 w 0 (fun k => k = g) (.slice (some ⟨g, 0, none⟩) (W64.digs n).length cs.length) (cs.take (W64.digs n).length) := Buf.V h2 (by omega) h3 h3
 rw [h6] at hv
 exact ⟨hv⟩
theorem Zi.big {w : World} {g ga n : Nat} {b : Bool} (h : Zi w g ga b n) : Big w (fun k => k = ga) g b n := by
 obtain ⟨v, h1, h2⟩ := h.out
 exact ⟨⟨v, h1, h2.wdv⟩, h.blk⟩
theorem _root_.Go.Proofs.YteohmbannpbokaaGreatDoor.SpecWalk.Box.put1 {w : World} {g : Nat} {x y : Value} (h : Box w g [x, y]) (b : Value) : Box (w.setCell ⟨g, 1, none⟩ b) g [x, b] := by
 have h0 := h.c0; have h1 := h.c1
 have k0 := h.f0; have k1 := h.f1
 refine Box.mk2 ?_ ?_ ?_ ?_ <;> simp [go_sem, h0, h1, k0, k1]
theorem _root_.Go.Proofs.YteohmbannpbokaaGreatDoor.SpecWalk.Box.put0 {w : World} {g : Nat} {x y : Value} (h : Box w g [x, y]) (a : Value) : Box (w.setCell ⟨g, 0, none⟩ a) g [a, y] := by
 have h0 := h.c0; have h1 := h.c1
 have k0 := h.f0; have k1 := h.f1
 refine Box.mk2 ?_ ?_ ?_ ?_ <;> simp [go_sem, h0, h1, k0, k1]
theorem num_lit {w : World} {n : Nat} (h0 : n ≠ 0) (hn : n < 18446744073709551616) : Num (w.alloc (.cells #[.int .u64 (n : Int)] 89)) w.heap.size n (.slice (some ⟨w.heap.size, 0, none⟩) 1 1) := by
 have hd := W64.digs_one h0 hn
 have e : (W64.digs n).length = 1 := by rw [hd]; rfl
 refine ⟨[(n : Int)], by rw [e]; rfl, Buf.lit w [(n : Int)] rfl, by rw [e]; exact Nat.le_refl _, by simp, by simp, by rw [e, hd]; rfl⟩
theorem newInt_zi (n : Nat) (w : World) (h0 : n ≠ 0) (hn : n < 18446744073709551616) : Zi ((w.alloc (.cells #[.int .u64 (n : Int)] 89)).alloc (.cells #[.bool false, .slice (some ⟨w.heap.size, 0, none⟩) 1 1] 59)) (w.heap.size + 1) w.heap.size false n :=
 ⟨⟨_, Box.new2 _ _ _ _ _ (by simp), (num_lit h0 hn).kept (P := fun _ => False) (KeptP.ofBelow ((Below.refl _ _).alloc (Nat.le_refl _) _)) id⟩, Blk.new _ _ _ _ (by simp)⟩
set_option maxHeartbeats 1000000 in
theorem NewInt_zi (n : Nat) (w : World) (h0 : n ≠ 0) (hn : n < 1000000000000000000) :
   Calls Tryz.prog 23 #[.int .i64 n] w fun e w' => ∃ g ga, e = .returned (.pointer (some ⟨g, 0, none⟩)) ∧ w.heap.size ≤ g ∧ w.heap.size ≤ ga ∧ Zi w' g ga false n ∧ Below w.heap.size w w' := by
 have HZ := Aside0.mk (newInt_zi n w h0 (by omega))
 have n0 : 0 < (n : Int) := by omega
 have n1 : (n : Int) < 1000000000000000000 := by omega
 have p0 : ((n : Int) == 0) = false := beq_eq_false_iff_ne.mpr (by omega)
 have p1 : ¬ ((n : Int) < 0) := by omega
 clear h0 hn
 generalize (n : Int) = X at *
 go_enter Tryz.func23, Tryz.ntmps23
 go_wp2
 go_ret
 exact ⟨_, rfl, by omega, w.heap.size, Nat.le_refl _, HZ.out, ((Below.refl _ _).alloc (Nat.le_refl _) _).alloc (by simp) _⟩
theorem run_eq_int (w : World) {g g2 : Nat} (hne : g ≠ g2) (h1 : Blk w g) (h2 : Blk w g2) : (binOp .eql 53 (.pointer (some ⟨g, 0, none⟩)) (.pointer (some ⟨g2, 0, none⟩))).run Tryz.prog w = .ok (.bool false) w := by
 obtain ⟨j, hj, hs⟩ := Option.map_eq_some_iff.1 (show (Tryz.prog.info? 59).map (·.size) = some 2 by kernel_rfl)
 obtain ⟨ca, ta, ha⟩ := h1.out
 obtain ⟨cb, tb, hb⟩ := h2.out
 exact run_eql_ptr_other w Tryz.underlying53 hj (by rw [hs]; decide) (by simp [hne]) ha hb
structure Zm (w : World) (g ga : Nat) (z : Int) : Prop where
 mk :: (out : ∃ c, 5 ≤ c ∧ Box w g [.bool (decide (z < 0)), .slice (some ⟨ga, 0, none⟩) (W64.digs z.natAbs).length c] ∧ Nc w ga c z.natAbs) (blk : Blk w g) (ne : ga ≠ g)
structure Zz (w : World) (g ga : Nat) (z : Int) : Prop where
 mk :: (out : ∃ v, Box w g [.bool (decide (z < 0)), v] ∧ Nz w ga z.natAbs v) (blk : Blk w g)
section
variable {w w1 : World} {P : Nat → Prop} {g ga : Nat} {z : Int}
theorem Zm.zz (h : Zm w g ga z) : Zz w g ga z := by
 obtain ⟨c, h1, h2, h3⟩ := h.out
 exact ⟨⟨_, h2, ⟨.inr ⟨c, rfl, h3⟩⟩⟩, h.blk⟩
theorem Zm.kept (h : Zm w g ga z) (hk : KeptP w w1 P) (hg : ¬ P g) (ha : ¬ P ga) : Zm w1 g ga z := by
 obtain ⟨c, h1, h2, h3⟩ := h.out
 exact ⟨⟨c, h1, KeptP.box h2 hk hg, h3.kept hk ha⟩, KeptP.blk h.blk hk hg, h.ne⟩
theorem Zz.kept (h : Zz w g ga z) (hk : KeptP w w1 P) (hg : ¬ P g) (ha : ¬ P ga) : Zz w1 g ga z := by
 obtain ⟨v, h2, h3⟩ := h.out
 exact ⟨⟨v, KeptP.box h2 hk hg, h3.kept hk ha⟩, KeptP.blk h.blk hk hg⟩
theorem Zm.below (h : Zm w g ga z) (hb : Below w.heap.size w w1) : Zm w1 g ga z := h.kept (P := fun _ => False) (KeptP.ofBelow hb) id id
theorem Zz.below (h : Zz w g ga z) (hb : Below w.heap.size w w1) : Zz w1 g ga z := h.kept (P := fun _ => False) (KeptP.ofBelow hb) id id
theorem Zm.lt (h : Zm w g ga z) : g < w.heap.size ∧ ga < w.heap.size := by
 obtain ⟨c, h1, h2, h3⟩ := h.out
 exact ⟨h.blk.lt, h3.lt⟩
end
theorem sign_mul (a b : Int) : decide (a * b < 0) = (decide (0 < (a * b).natAbs) && (decide (a < 0) != decide (b < 0))) := by
 rcases Int.lt_trichotomy a 0 with ha | ha | ha <;> rcases Int.lt_trichotomy b 0 with hb | hb | hb
 · have h := Int.mul_pos_of_neg_of_neg ha hb
   simp [ha, hb]; omega
 · subst hb; simp
 · have h := Int.mul_neg_of_neg_of_pos ha hb
   have h1 : ¬ b < 0 := by omega
   have h2 : 0 < (a * b).natAbs := by omega
   rw [decide_eq_true h, decide_eq_true ha, decide_eq_false h1, decide_eq_true h2]; rfl
 · subst ha; simp
 · subst ha; simp
 · subst ha; simp
 · have h := Int.mul_neg_of_pos_of_neg ha hb
   have h1 : ¬ a < 0 := by omega
   have h2 : 0 < (a * b).natAbs := by omega
   rw [decide_eq_true h, decide_eq_true hb, decide_eq_false h1, decide_eq_true h2]; rfl
 · subst hb; simp
 · have h := Int.mul_pos ha hb
   have h1 : ¬ a < 0 := by omega
   have h2 : ¬ b < 0 := by omega
   have h3 : ¬ a * b < 0 := by omega
   rw [decide_eq_false h1, decide_eq_false h2, decide_eq_false h3]; simp
set_option maxHeartbeats 4000000 in
set_option maxRecDepth 100000 in
theorem imul_self (gz az gx ax : Nat) (t x : Int) (w : World) (ht : Zm w gz az t) (hx : Zz w gx ax x) (hne : gz ≠ gx) (haz : az ≠ gx) (hza : gz ≠ ax) (haa : az ≠ ax) (hT : Thr w) (h0 : t ≠ 0) (hl1 : (W64.digs t.natAbs).length ≤ 4) (hl2 : (W64.digs x.natAbs).length ≤ 4) :
   Calls Tryz.prog 47 #[.pointer (some ⟨gz, 0, none⟩), .pointer none, .pointer (some ⟨gz, 0, none⟩), .pointer (some ⟨gx, 0, none⟩)] w fun e w' => e = .returned (.tuple #[]) ∧ ∃ a', (a' = az ∨ w.heap.size ≤ a') ∧ Zm w' gz a' (t * x) ∧ KeptP w w' (fun k => k = gz ∨ k = az) := by
 obtain ⟨c, hc5, hzb, hzn⟩ := ht.out
 obtain ⟨xv, hxb, hxn⟩ := hx.out
 have hzlt := ht.blk.lt
 have heq := run_eq_int w hne ht.blk hx.blk
 have HM := Aside0.mk (fun (w1 : World) (hk : Below w.heap.size w w1) => mul_nc az c t.natAbs ax x.natAbs xv w1 (hzn.kept (P := fun _ => False) (KeptP.ofBelow hk) id) (hxn.kept (P := fun _ => False) (KeptP.ofBelow hk) id) (Ne.symm haa) (hT.kept (KeptP.ofBelow (P := fun _ => False) hk) (fun _ h => h.elim)) (by omega) hl1 hl2 hc5)
 rw [← Int.natAbs_mul] at HM
 obtain ⟨xA, xc, rfl, hxc1, hxc2⟩ := hxn.form
 have cz0 := hzb.c0; have cz1 := hzb.c1; have fz0 := hzb.f0; have fz1 := hzb.f1
 have cx0 := hxb.c0; have cx1 := hxb.c1
 have hpn := sign_mul t x
 have HZ := Aside0.mk (And.intro hzb (And.intro ht.blk (And.intro hne (And.intro haz (And.intro hzlt (And.intro ht.ne (And.intro hxb (And.intro hzn.lt hc5))))))))
 clear ht hx hne haz hza haa hT h0 hl1 hl2 hzb hxb hzn hxn hzlt hc5 hxc1 hxc2
 generalize hpe : decide (t < 0) = st at *
 generalize hxe : decide (x < 0) = sx at *
 generalize hpr : t * x = p at *
 generalize (W64.digs t.natAbs).length = lt at *
 generalize (W64.digs x.natAbs).length = lx at *
 clear hpe hxe hpr
 go_enter Tryz.func47, Tryz.ntmps47
 go_wp2_with fail
 refine Go.Proofs.YteohmbannpbokaaGreatDoorW.PrintLast.st (n := 18) (S := fun w' => w'.cell? ⟨gz, 1, none⟩ = some (.slice (some ⟨az, 0, none⟩) lt c) ∧ w'.cell? ⟨gx, 1, none⟩ = some (.slice xA lx xc)) (ds := [17]) rfl (⟨by simpa using cz1, by simpa using cx1⟩) (fun hHeld => ?_)
 refine pu 0 (some 27) rfl rfl ?_
 refine pu 1 (some 28) rfl rfl ?_
 refine pu 2 (some 29) rfl rfl ?_
 refine pu 3 (some 30) rfl rfl ?_
 refine tk 4 (some 31) rfl rfl hHeld ?_ (by (rintro w' ⟨s0, s1⟩; go_simp; with_reducible rfl))
 refine pu 5 (some 32) rfl rfl ?_
 refine pu 6 (some 33) rfl rfl ?_
 refine pu 7 (some 34) rfl rfl ?_
 refine pu 8 (some 35) rfl rfl ?_
 refine tk 9 (some 36) rfl rfl hHeld ?_ (by (rintro w' ⟨s0, s1⟩; go_simp; with_reducible rfl))
 refine pu 10 (some 37) rfl rfl ?_
 refine pu 11 (some 38) rfl rfl ?_
 refine pu 12 (some 39) rfl rfl ?_
 refine tk 13 (some 40) rfl rfl hHeld ?_ (by (rintro w' ⟨s0, s1⟩; go_simp; with_reducible rfl))
 refine on 14 (some 41) rfl rfl (fun K hK => ?_)
 refine goes_ Tryz.func64 (by kernel_rfl) rfl #[.slice (some ⟨az, 0, none⟩) lt c, .pointer none, .slice (some ⟨az, 0, none⟩) lt c, .slice xA lx xc] (by rfl) rfl rfl (by (try simp only [List.map_toArray, List.map_cons, List.map_nil]); first | done | rfl) ?_
 refine (HM.out _ (Below.refl _ _).drew).mono ?_
 rintro e w1 ⟨u, rfl, a', c', rfl, hmd⟩
 refine ⟨_, rfl, ?_⟩
 have hkk := hmd.kept
 have hgz : ¬ gz = az := Ne.symm HZ.out.2.2.2.2.2.1
 have hgx : ¬ gx = az := Ne.symm HZ.out.2.2.2.1
 have HU := Aside0.mk hmd
 have bz1 := KeptP.box HZ.out.1.drew hkk hgz
 have c1' := bz1.c1
 have f1' := bz1.f1
 refine hK.out _ _ (⟨hkk.cell hgz hHeld.1, hkk.cell hgx hHeld.2⟩) (fun hHeld => ?_)
 clear hK K
 refine nm ?_
 refine pu 15 (some 42) rfl rfl ?_
 refine pu 16 (some 43) rfl rfl ?_
 refine la 17 none rfl rfl (fun K hK => ?_)
 refine skip_ (w1 := ?_) (by rfl) rfl ?_ ?_
 rotate_left
 · go_simp
   rfl
 refine hK.out _ _ ?_
 clear hK K
 refine done_ (by kernel_rfl) ?_
 have haz' : a' ≠ gz := by
   rcases HU.out.at_ with h | h
   · rw [h.1]; exact HZ.out.2.2.2.2.2.1
   · have h1 := h.1
     have h2 := HZ.out.2.2.2.2.1
     intro e; rw [e] at h1; exact absurd h1 (Nat.not_le.2 h2)
 have bz2 := bz1.put1 (.slice (some ⟨a', 0, none⟩) (W64.digs p.natAbs).length c')
 have bx2 := (KeptP.box HZ.out.2.2.2.2.2.2.1.drew hkk hgx).far (p := ⟨gz, 1, none⟩) (Ne.symm HZ.out.2.2.1) (.slice (some ⟨a', 0, none⟩) (W64.digs p.natAbs).length c')
 have hb2 : Blk (w1.setCell ⟨gz, 1, none⟩ (.slice (some ⟨a', 0, none⟩) (W64.digs p.natAbs).length c')) gz := (KeptP.blk HZ.out.2.1.drew hkk hgz).set _ _
 have hn2 := HU.out.num.kept (P := fun k => k = gz) (KeptP.set (P := fun k => k = gz) (KeptP.refl w1 _) ⟨gz, 1, none⟩ (.inl rfl) (.slice (some ⟨a', 0, none⟩) (W64.digs p.natAbs).length c')) haz'
 have hk2 : KeptP w (w1.setCell ⟨gz, 1, none⟩ (.slice (some ⟨a', 0, none⟩) (W64.digs p.natAbs).length c')) (fun k => k = gz ∨ k = az) := KeptP.set (P := fun k => k = gz ∨ k = az) ((KeptP.refl w _).drew.then (hkk.mono (fun _ h => .inr h))) ⟨gz, 1, none⟩ (.inl (.inl rfl)) _
 have hat : (a' = az ∧ c' = c) ∨ (w.heap.size ≤ a' ∧ 8 ≤ c') := HU.out.at_
 have HF := Aside0.mk (And.intro hb2 (And.intro hn2 (And.intro hk2 (And.intro hat haz'))))
 have z1 := bz2.c1; have z0 := bz2.c0; have zf0 := bz2.f0; have x0 := bx2.c0
 have HB2 := Aside0.mk bz2
 clear HU hkk bz1 c1' f1' hHeld hmd hb2 hn2 hk2 bz2 bx2 HM cz0 cz1 fz0 fz1 cx0 cx1 heq hat hgz hgx haz'
 generalize hW2 : w1.setCell ⟨gz, 1, none⟩ (.slice (some ⟨a', 0, none⟩) (W64.digs p.natAbs).length c') = W2 at *
 clear hW2
 by_cases hp0 : 0 < (W64.digs p.natAbs).length
 · have hq : decide (0 < (W64.digs p.natAbs).length) = true := decide_eq_true hp0
   have hpp : 0 < p.natAbs := by
     apply Classical.byContradiction
     intro hc
     rw [show p.natAbs = 0 by omega, W64.digs_zero] at hp0
     exact absurd hp0 (by decide)
   rw [decide_eq_true hpp, Bool.true_and] at hpn
   have HPN := Aside0.mk hpn
   clear hpn hpp hp0
   go_wp2_with fail
   refine Go.Proofs.YteohmbannpbokaaGreatDoorW.PrintLast.st (n := 21) (S := fun w' => w'.cell? ⟨gz, 1, none⟩ = some (.slice (some ⟨a', 0, none⟩) (W64.digs p.natAbs).length c') ∧ w'.cell? ⟨gz, 0, none⟩ = some (.bool st) ∧ w'.cell? ⟨gx, 0, none⟩ = some (.bool sx)) (ds := [20]) rfl (⟨by simpa using z1, by simpa using z0, by simpa using x0⟩) (fun hHeld => ?_)
   refine pu 0 (some 44) rfl rfl ?_
   refine pu 1 (some 45) rfl rfl ?_
   refine pu 2 (some 46) rfl rfl ?_
   refine pu 3 (some 47) rfl rfl ?_
   refine tk 4 (some 48) rfl rfl hHeld ?_ (by (rintro w' ⟨s0, s1, s2⟩; go_simp; with_reducible rfl))
   refine pu 5 (some 49) rfl rfl ?_
   refine pu 6 (some 50) rfl rfl ?_ (hr := by (intro w'; go_simp; (try simp only [hq]); with_reducible rfl))
   refine pu 7 (some 51) rfl rfl ?_
   refine pu 8 (some 52) rfl rfl ?_
   refine pu 9 (some 53) rfl rfl ?_
   refine pu 10 (some 54) rfl rfl ?_
   refine tk 11 (some 55) rfl rfl hHeld ?_ (by (rintro w' ⟨s0, s1, s2⟩; go_simp; with_reducible rfl))
   refine pu 12 (some 56) rfl rfl ?_
   refine pu 13 (some 57) rfl rfl ?_
   refine pu 14 (some 58) rfl rfl ?_
   refine tk 15 (some 59) rfl rfl hHeld ?_ (by (rintro w' ⟨s0, s1, s2⟩; go_simp; with_reducible rfl))
   refine pu 16 (some 60) rfl rfl ?_
   refine pu 17 (some 61) rfl rfl ?_
   refine pu 18 (some 62) rfl rfl ?_
   refine pu 19 (some 63) rfl rfl ?_
   refine la 20 none rfl rfl (fun K hK => ?_)
   refine skip_ (w1 := ?_) (by rfl) rfl ?_ ?_
   rotate_left
   · go_simp
     rfl
   refine hK.out _ _ ?_
   clear hK K
   refine done_ (by kernel_rfl) ?_
   go_wp2
   go_end0
   refine ⟨rfl, a', HF.out.2.2.2.1.imp (fun h => h.1) (fun h => h.1), ⟨⟨c', by rcases HF.out.2.2.2.1 with h | h; exact h.2 ▸ HZ.out.2.2.2.2.2.2.2.2; omega, ?_, ((HF.out.2.1.kept (P := fun k => k = gz) (KeptP.set (P := fun k => k = gz) (KeptP.refl W2 _) ⟨gz, 0, none⟩ (.inl rfl) _) HF.out.2.2.2.2).drew)⟩, (HF.out.1.set _ _).drew, HF.out.2.2.2.2⟩, (KeptP.set (P := fun k => k = gz ∨ k = az) HF.out.2.2.1 ⟨gz, 0, none⟩ (.inl (.inl rfl)) _).drew⟩
   rw [HPN.out]
   exact (HB2.out.put0 _).drew
 · have hq : decide (0 < (W64.digs p.natAbs).length) = false := decide_eq_false hp0
   have hpp : p.natAbs = 0 := by
     apply Classical.byContradiction
     intro hc
     exact hp0 (W64.len_pos hc)
   rw [hpp, show decide (0 < 0) = false from rfl, Bool.false_and] at hpn
   have HPN := Aside0.mk hpn
   clear hpn hpp hp0
   go_wp2_with fail
   refine Go.Proofs.YteohmbannpbokaaGreatDoorW.PrintLast.st (n := 21) (S := fun w' => w'.cell? ⟨gz, 1, none⟩ = some (.slice (some ⟨a', 0, none⟩) (W64.digs p.natAbs).length c')) (ds := [20]) rfl (by simpa using z1) (fun hHeld => ?_)
   refine pu 0 (some 44) rfl rfl ?_
   refine pu 1 (some 45) rfl rfl ?_
   refine pu 2 (some 46) rfl rfl ?_
   refine pu 3 (some 47) rfl rfl ?_
   refine tk 4 (some 48) rfl rfl hHeld ?_ (by (rintro w' s0; go_simp; with_reducible rfl))
   refine pu 5 (some 49) rfl rfl ?_
   refine pu 6 (some 50) rfl rfl ?_ (hr := by (intro w'; go_simp; (try simp only [hq]); with_reducible rfl))
   refine pu 7 (some 51) rfl rfl ?_
   refine po 8 (some 52) rfl rfl ?_
   refine po 9 (some 53) rfl rfl ?_
   refine po 10 (some 54) rfl rfl ?_
   refine po 11 (some 55) rfl rfl ?_
   refine po 12 (some 56) rfl rfl ?_
   refine po 13 (some 57) rfl rfl ?_
   refine po 14 (some 58) rfl rfl ?_
   refine po 15 (some 59) rfl rfl ?_
   refine po 16 (some 60) rfl rfl ?_
   refine pu 17 (some 61) rfl rfl ?_
   refine pu 18 (some 62) rfl rfl ?_
   refine pu 19 (some 63) rfl rfl ?_
   refine la 20 none rfl rfl (fun K hK => ?_)
   refine skip_ (w1 := ?_) (by rfl) rfl ?_ ?_
   rotate_left
   · go_simp
     rfl
   refine hK.out _ _ ?_
   clear hK K
   refine done_ (by kernel_rfl) ?_
   go_wp2
   go_end0
   refine ⟨rfl, a', HF.out.2.2.2.1.imp (fun h => h.1) (fun h => h.1), ⟨⟨c', by rcases HF.out.2.2.2.1 with h | h; exact h.2 ▸ HZ.out.2.2.2.2.2.2.2.2; omega, ?_, ((HF.out.2.1.kept (P := fun k => k = gz) (KeptP.set (P := fun k => k = gz) (KeptP.refl W2 _) ⟨gz, 0, none⟩ (.inl rfl) _) HF.out.2.2.2.2).drew)⟩, (HF.out.1.set _ _).drew, HF.out.2.2.2.2⟩, (KeptP.set (P := fun k => k = gz ∨ k = az) HF.out.2.2.1 ⟨gz, 0, none⟩ (.inl (.inl rfl)) _).drew⟩
   rw [HPN.out]
   exact (HB2.out.put0 _).drew
theorem run_eq_int_same (a : Addr) (w : World) : (binOp .eql 53 (.pointer (some a)) (.pointer (some a))).run Tryz.prog w = .ok (.bool true) w := by
 obtain ⟨j, hj, hs⟩ := Option.map_eq_some_iff.1 (show (Tryz.prog.info? 59).map (·.size) = some 2 by kernel_rfl)
 exact run_eql_ptr_same w a Tryz.underlying53 hj
theorem IMul_of (gz gx gy : Nat) (R : World → Prop) (w : World) (h : Calls Tryz.prog 47 #[.pointer (some ⟨gz, 0, none⟩), .pointer none, .pointer (some ⟨gx, 0, none⟩), .pointer (some ⟨gy, 0, none⟩)] w fun e w' => e = .returned (.tuple #[]) ∧ R w') :
   Calls Tryz.prog 22 #[.pointer (some ⟨gz, 0, none⟩), .pointer (some ⟨gx, 0, none⟩), .pointer (some ⟨gy, 0, none⟩)] w fun e w' => e = .returned (.pointer (some ⟨gz, 0, none⟩)) ∧ R w' := by
 have HM := Aside0.mk h
 clear h
 go_enter Tryz.func22, Tryz.ntmps22
 go_wp2_with (go_at_call 47; (with_reducible refine HM.out.mono ?_); rintro e w1 ⟨rfl, h⟩; have HH := Aside0.mk h; clear h)
 go_ret
 exact ⟨rfl, HH.out⟩
set_option maxHeartbeats 4000000 in
set_option maxRecDepth 100000 in
theorem imul_sq (gz az : Nat) (t : Int) (w : World) (ht : Zm w gz az t) (hT : Thr w) (h0 : 0 < t) (hl1 : (W64.digs t.natAbs).length ≤ 4) :
   Calls Tryz.prog 47 #[.pointer (some ⟨gz, 0, none⟩), .pointer none, .pointer (some ⟨gz, 0, none⟩), .pointer (some ⟨gz, 0, none⟩)] w fun e w' => e = .returned (.tuple #[]) ∧ ∃ a', (a' = az ∨ w.heap.size ≤ a') ∧ Zm w' gz a' (t * t) ∧ KeptP w w' (fun k => k = gz ∨ k = az) := by
 obtain ⟨c, hc5, hzb, hzn⟩ := ht.out
 have hzlt := ht.blk.lt
 have heq := run_eq_int_same ⟨gz, 0, none⟩ w
 have HM := Aside0.mk (fun (w1 : World) (hk : Below w.heap.size w w1) => sqr_nc az c t.natAbs (.pointer none) w1 (hzn.kept (P := fun _ => False) (KeptP.ofBelow hk) id) (hT.kept (KeptP.ofBelow (P := fun _ => False) hk) (fun _ h => h.elim)) (by omega) hl1 hc5)
 rw [← Int.natAbs_mul] at HM
 have hpp : decide (t * t < 0) = false := decide_eq_false (by have := Int.mul_pos h0 h0; omega)
 rw [decide_eq_false (show ¬ t < 0 by omega)] at hzb
 have cz0 := hzb.c0; have cz1 := hzb.c1; have fz0 := hzb.f0; have fz1 := hzb.f1
 have HZ := Aside0.mk (And.intro hzb (And.intro ht.blk (And.intro hzlt (And.intro ht.ne hc5))))
 have HPP := Aside0.mk hpp
 clear ht hT h0 hl1 hzb hzn hzlt hc5 hpp
 generalize hpr : t * t = p at *
 generalize (W64.digs t.natAbs).length = lt at *
 clear hpr
 go_enter Tryz.func47, Tryz.ntmps47
 go_wp2_with fail
 refine Go.Proofs.YteohmbannpbokaaGreatDoorW.PrintLast.st (n := 14) (S := fun w' => w'.cell? ⟨gz, 1, none⟩ = some (.slice (some ⟨az, 0, none⟩) lt c)) (ds := [13]) rfl (by simpa using cz1) (fun hHeld => ?_)
 refine pu 0 (some 11) rfl rfl ?_
 refine pu 1 (some 12) rfl rfl ?_
 refine pu 2 (some 13) rfl rfl ?_
 refine pu 3 (some 14) rfl rfl ?_
 refine tk 4 (some 15) rfl rfl hHeld ?_ (by (rintro w' s0; go_simp; with_reducible rfl))
 refine pu 5 (some 16) rfl rfl ?_
 refine pu 6 (some 17) rfl rfl ?_
 refine pu 7 (some 18) rfl rfl ?_
 refine pu 8 (some 19) rfl rfl ?_
 refine tk 9 (some 20) rfl rfl hHeld ?_ (by (rintro w' s0; go_simp; with_reducible rfl))
 refine on 10 (some 21) rfl rfl (fun K hK => ?_)
 refine goes_ Tryz.func63 (by kernel_rfl) rfl #[.slice (some ⟨az, 0, none⟩) lt c, .pointer none, .slice (some ⟨az, 0, none⟩) lt c] (by rfl) rfl rfl (by (try simp only [List.map_toArray, List.map_cons, List.map_nil]); first | done | rfl) ?_
 refine (HM.out _ (Below.refl _ _).drew).mono ?_
 rintro e w1 ⟨u, rfl, a', c', rfl, hmd⟩
 refine ⟨_, rfl, ?_⟩
 have hkk := hmd.kept
 have hgz : ¬ gz = az := Ne.symm HZ.out.2.2.2.1
 have HU := Aside0.mk hmd
 have bz1 := KeptP.box HZ.out.1.drew hkk hgz
 have hbk := KeptP.blk HZ.out.2.1.drew hkk hgz
 have c1' := bz1.c1
 have f1' := bz1.f1
 refine hK.out _ _ (hkk.cell hgz hHeld) (fun hHeld => ?_)
 clear hK K
 refine nm ?_
 refine pu 11 (some 22) rfl rfl ?_
 refine pu 12 (some 23) rfl rfl ?_
 refine la 13 none rfl rfl (fun K hK => ?_)
 refine skip_ (w1 := ?_) (by rfl) rfl ?_ ?_
 rotate_left
 · go_simp
   rfl
 refine hK.out _ _ ?_
 clear hK K
 refine done_ (by kernel_rfl) ?_
 have haz' : a' ≠ gz := by
   rcases HU.out.at_ with h | h
   · rw [h.1]; exact HZ.out.2.2.2.1
   · have h1 := h.1
     have h2 := HZ.out.2.2.1
     intro e; rw [e] at h1; exact absurd h1 (Nat.not_le.2 h2)
 have hkw : KeptP w w1 (fun k => k = gz ∨ k = az) := (KeptP.refl w _).drew.then (hkk.mono (fun _ h => .inr h))
 have bz2 := bz1.put1 (.slice (some ⟨a', 0, none⟩) (W64.digs p.natAbs).length c')
 have hb2 : Blk (w1.setCell ⟨gz, 1, none⟩ (.slice (some ⟨a', 0, none⟩) (W64.digs p.natAbs).length c')) gz := hbk.set _ _
 have hn2 := HU.out.num.kept (P := fun k => k = gz) (KeptP.set (P := fun k => k = gz) (KeptP.refl w1 _) ⟨gz, 1, none⟩ (.inl rfl) (.slice (some ⟨a', 0, none⟩) (W64.digs p.natAbs).length c')) haz'
 have hk2 : KeptP w (w1.setCell ⟨gz, 1, none⟩ (.slice (some ⟨a', 0, none⟩) (W64.digs p.natAbs).length c')) (fun k => k = gz ∨ k = az) := KeptP.set (P := fun k => k = gz ∨ k = az) hkw ⟨gz, 1, none⟩ (.inl (.inl rfl)) _
 have z1 := bz2.c1; have z0 := bz2.c0; have zf0 := bz2.f0
 have hat : (a' = az ∧ c' = c) ∨ (w.heap.size ≤ a' ∧ 8 ≤ c') := HU.out.at_
 have HF := Aside0.mk (And.intro hb2 (And.intro hn2 (And.intro hk2 (And.intro hat haz'))))
 have HB2 := Aside0.mk bz2
 clear HU hkk bz1 c1' f1' hHeld hmd hb2 hn2 hk2 bz2 HM cz0 cz1 fz0 fz1 heq hat hgz haz' hkw hbk
 generalize hW2 : w1.setCell ⟨gz, 1, none⟩ (.slice (some ⟨a', 0, none⟩) (W64.digs p.natAbs).length c') = W2 at *
 clear hW2
 go_wp2
 try simp only [Exit.inBlock, Exit.then]
 refine bodyPost_ret (results_none rfl _ _ _) rfl ?_
 refine ⟨rfl, a', HF.out.2.2.2.1.imp (fun h => h.1) (fun h => h.1), ⟨⟨c', by rcases HF.out.2.2.2.1 with h | h; exact h.2 ▸ HZ.out.2.2.2.2; omega, ?_, (HF.out.2.1.kept (P := fun k => k = gz) (KeptP.set (P := fun k => k = gz) (KeptP.refl W2 _) ⟨gz, 0, none⟩ (.inl rfl) _) HF.out.2.2.2.2)⟩, HF.out.1.set _ _, HF.out.2.2.2.2⟩, KeptP.set (P := fun k => k = gz ∨ k = az) HF.out.2.2.1 ⟨gz, 0, none⟩ (.inl (.inl rfl)) _⟩
 rw [HPP.out]
 exact HB2.out.put0 _
theorem sign_tdiv (a : Int) {y : Nat} (hy : 0 < y) : (a.tdiv (y : Int)).natAbs = a.natAbs / y ∧ decide (a.tdiv (y : Int) < 0) = (decide (0 < (a.tdiv (y : Int)).natAbs) && decide (a < 0)) := by
 have h1 : (a.tdiv (y : Int)).natAbs = a.natAbs / y := by rw [Int.natAbs_tdiv]; rfl
 refine ⟨h1, ?_⟩
 by_cases ha : a < 0
 · rw [decide_eq_true ha, Bool.and_true]
   have h2 : a.tdiv (y : Int) ≤ 0 := by
     have h := Int.tdiv_nonneg (a := -a) (b := (y : Int)) (by omega) (by omega)
     rw [Int.neg_tdiv] at h
     omega
   have : (a.tdiv (y : Int) < 0) ↔ (0 < (a.tdiv (y : Int)).natAbs) := by omega
   simp only [this]
 · rw [decide_eq_false ha, Bool.and_false]
   have h2 : 0 ≤ a.tdiv (y : Int) := Int.tdiv_nonneg (by omega) (by omega)
   exact decide_eq_false (by omega)
set_option maxHeartbeats 4000000 in
set_option maxRecDepth 100000 in
theorem Quo_self (gz az gy ay : Nat) (t : Int) (y : Nat) (w : World) (ht : Zm w gz az t) (hy : Zz w gy ay y) (hne : gz ≠ gy) (haz : az ≠ gy) (haa : ay ≠ az) (hy0 : 0 < y) (hy1 : y < 64) :
   Calls Tryz.prog 74 #[.pointer (some ⟨gz, 0, none⟩), .pointer (some ⟨gz, 0, none⟩), .pointer (some ⟨gy, 0, none⟩)] w fun e w' => e = .returned (.pointer (some ⟨gz, 0, none⟩)) ∧ Zm w' gz az (t.tdiv y) ∧ KeptP w w' (fun k => k = gz ∨ k = az) := by
 obtain ⟨c, hc5, hzb, hzn⟩ := ht.out
 obtain ⟨yv, hyb, hyn⟩ := hy.out
 have hzlt := ht.blk.lt
 obtain ⟨cy, rfl, hyc⟩ := hyn.out.resolve_left (fun h => by have := h.1; omega)
 rw [decide_eq_false (show ¬ ((y : Int) < 0) by omega)] at hyb
 rw [show ((y : Int)).natAbs = y from Int.natAbs_natCast y] at hyb hyc
 have HM := Aside0.mk (fun (w1 : World) (hk : Below w.heap.size w w1) => div_nc az c t.natAbs ay cy y w1 (hzn.kept (P := fun _ => False) (KeptP.ofBelow hk) id) (hyc.kept (P := fun _ => False) (KeptP.ofBelow hk) id) haa hy0 hy1)
 obtain ⟨hq1, hq2⟩ := sign_tdiv t hy0
 rw [← hq1] at HM
 have cz0 := hzb.c0; have cz1 := hzb.c1; have fz0 := hzb.f0; have fz1 := hzb.f1
 have cx0 := hyb.c0; have cx1 := hyb.c1
 have HZ := Aside0.mk (And.intro hzb (And.intro ht.blk (And.intro hne (And.intro haz (And.intro hzlt (And.intro ht.ne (And.intro hyb hc5)))))))
 clear ht hy hne haz haa hzb hyb hzn hyn hyc hzlt hc5 hy0 hy1 hq1
 generalize hpe : decide (t < 0) = st at *
 generalize hpr : t.tdiv (y : Int) = p at *
 generalize (W64.digs t.natAbs).length = lt at *
 generalize (W64.digs y).length = ly at *
 clear hpe hpr
 go_enter Tryz.func74, Tryz.ntmps74
 go_wp2_with fail
 refine Go.Proofs.YteohmbannpbokaaGreatDoorW.PrintLast.st (n := 20) (S := fun w' => w'.cell? ⟨gz, 1, none⟩ = some (.slice (some ⟨az, 0, none⟩) lt c) ∧ w'.cell? ⟨gy, 1, none⟩ = some (.slice (some ⟨ay, 0, none⟩) ly cy)) (ds := [19]) rfl (⟨by simpa using cz1, by simpa using cx1⟩) (fun hHeld => ?_)
 refine pu 0 (some 8) rfl rfl ?_
 refine pu 1 (some 9) rfl rfl ?_
 refine pu 2 (some 10) rfl rfl ?_
 refine pu 3 (some 11) rfl rfl ?_
 refine tk 4 (some 12) rfl rfl hHeld ?_ (by (rintro w' ⟨s0, s1⟩; go_simp; with_reducible rfl))
 refine pu 5 (some 13) rfl rfl ?_
 refine pu 6 (some 14) rfl rfl ?_
 refine pu 7 (some 15) rfl rfl ?_
 refine tk 8 (some 16) rfl rfl hHeld ?_ (by (rintro w' ⟨s0, s1⟩; go_simp; with_reducible rfl))
 refine pu 9 (some 17) rfl rfl ?_
 refine pu 10 (some 18) rfl rfl ?_
 refine pu 11 (some 19) rfl rfl ?_
 refine tk 12 (some 20) rfl rfl hHeld ?_ (by (rintro w' ⟨s0, s1⟩; go_simp; with_reducible rfl))
 refine on 13 (some 21) rfl rfl (fun K hK => ?_)
 refine goes_ Tryz.func104 (by kernel_rfl) rfl #[.slice (some ⟨az, 0, none⟩) lt c, .pointer none, .slice none 0 0, .slice (some ⟨az, 0, none⟩) lt c, .slice (some ⟨ay, 0, none⟩) ly cy] (by rfl) rfl rfl (by (try simp only [List.map_toArray, List.map_cons, List.map_nil]); first | done | rfl) ?_
 refine (HM.out _ (Below.refl _ _).drew).mono ?_
 rintro e w1 ⟨u, rfl, hnum, hkk⟩
 refine ⟨_, rfl, ?_⟩
 have hgz : ¬ gz = az := Ne.symm HZ.out.2.2.2.2.2.1
 have hgx : ¬ gy = az := Ne.symm HZ.out.2.2.2.1
 have bz1 := KeptP.box HZ.out.1.drew hkk hgz
 have hbk := KeptP.blk HZ.out.2.1.drew hkk hgz
 have c1' := bz1.c1
 have f1' := bz1.f1
 refine hK.out _ _ (⟨hkk.cell hgz hHeld.1, hkk.cell hgx hHeld.2⟩) (fun hHeld => ?_)
 clear hK K
 refine nm ?_
 refine pu 14 (some 7) rfl rfl ?_
 refine pu 15 (some 22) rfl rfl ?_
 refine pu 16 (some 23) rfl rfl ?_
 refine pu 17 (some 24) rfl rfl ?_
 refine pu 18 (some 25) rfl rfl ?_
 refine la 19 none rfl rfl (fun K hK => ?_)
 refine skip_ (w1 := ?_) (by rfl) rfl ?_ ?_
 rotate_left
 · go_simp
   rfl
 refine hK.out _ _ ?_
 clear hK K
 refine done_ (by kernel_rfl) ?_
 have haz' : az ≠ gz := HZ.out.2.2.2.2.2.1
 have hkw : KeptP w w1 (fun k => k = gz ∨ k = az) := (KeptP.refl w _).drew.then (hkk.mono (fun _ h => .inr h))
 have bz2 := bz1.put1 (.slice (some ⟨az, 0, none⟩) (W64.digs p.natAbs).length c)
 have hb2 : Blk (w1.setCell ⟨gz, 1, none⟩ (.slice (some ⟨az, 0, none⟩) (W64.digs p.natAbs).length c)) gz := hbk.set _ _
 have hn2 := hnum.kept (P := fun k => k = gz) (KeptP.set (P := fun k => k = gz) (KeptP.refl w1 _) ⟨gz, 1, none⟩ (.inl rfl) (.slice (some ⟨az, 0, none⟩) (W64.digs p.natAbs).length c)) haz'
 have hk2 : KeptP w (w1.setCell ⟨gz, 1, none⟩ (.slice (some ⟨az, 0, none⟩) (W64.digs p.natAbs).length c)) (fun k => k = gz ∨ k = az) := KeptP.set (P := fun k => k = gz ∨ k = az) hkw ⟨gz, 1, none⟩ (.inl (.inl rfl)) _
 have z1 := bz2.c1; have z0 := bz2.c0; have zf0 := bz2.f0
 have bx2 := (KeptP.box HZ.out.2.2.2.2.2.2.1.drew hkk hgx).far (p := ⟨gz, 1, none⟩) (Ne.symm HZ.out.2.2.1) (.slice (some ⟨az, 0, none⟩) (W64.digs p.natAbs).length c)
 have x0 := bx2.c0
 have HF := Aside0.mk (And.intro hb2 (And.intro hn2 (And.intro hk2 haz')))
 have HB2 := Aside0.mk bz2
 clear hkk bz1 c1' f1' hHeld hnum hb2 hn2 hk2 bz2 bx2 HM cz0 cz1 fz0 fz1 cx0 cx1 hgz hgx haz' hkw hbk
 generalize hW2 : w1.setCell ⟨gz, 1, none⟩ (.slice (some ⟨az, 0, none⟩) (W64.digs p.natAbs).length c) = W2 at *
 clear hW2
 by_cases hp0 : 0 < (W64.digs p.natAbs).length
 · have hq : decide (0 < (W64.digs p.natAbs).length) = true := decide_eq_true hp0
   have hpp : 0 < p.natAbs := by
     apply Classical.byContradiction
     intro hc
     rw [show p.natAbs = 0 by omega, W64.digs_zero] at hp0
     exact absurd hp0 (by decide)
   rw [decide_eq_true hpp, Bool.true_and] at hq2
   have HPN := Aside0.mk hq2
   clear hq2 hpp hp0
   go_wp2_with fail
   refine Go.Proofs.YteohmbannpbokaaGreatDoorW.PrintLast.st (n := 21) (S := fun w' => w'.cell? ⟨gz, 1, none⟩ = some (.slice (some ⟨az, 0, none⟩) (W64.digs p.natAbs).length c) ∧ w'.cell? ⟨gz, 0, none⟩ = some (.bool st) ∧ w'.cell? ⟨gy, 0, none⟩ = some (.bool false)) (ds := [20]) rfl (⟨by simpa using z1, by simpa using z0, by simpa using x0⟩) (fun hHeld => ?_)
   refine pu 0 (some 26) rfl rfl ?_
   refine pu 1 (some 27) rfl rfl ?_
   refine pu 2 (some 28) rfl rfl ?_
   refine pu 3 (some 29) rfl rfl ?_
   refine tk 4 (some 30) rfl rfl hHeld ?_ (by (rintro w' ⟨s0, s1, s2⟩; go_simp; with_reducible rfl))
   refine pu 5 (some 31) rfl rfl ?_
   refine pu 6 (some 32) rfl rfl ?_ (hr := by (intro w'; go_simp; (try simp only [hq]); with_reducible rfl))
   refine pu 7 (some 33) rfl rfl ?_
   refine pu 8 (some 34) rfl rfl ?_
   refine pu 9 (some 35) rfl rfl ?_
   refine pu 10 (some 36) rfl rfl ?_
   refine tk 11 (some 37) rfl rfl hHeld ?_ (by (rintro w' ⟨s0, s1, s2⟩; go_simp; with_reducible rfl))
   refine pu 12 (some 38) rfl rfl ?_
   refine pu 13 (some 39) rfl rfl ?_
   refine pu 14 (some 40) rfl rfl ?_
   refine tk 15 (some 41) rfl rfl hHeld ?_ (by (rintro w' ⟨s0, s1, s2⟩; go_simp; with_reducible rfl))
   refine pu 16 (some 42) rfl rfl ?_
   refine pu 17 (some 43) rfl rfl ?_
   refine pu 18 (some 44) rfl rfl ?_
   refine pu 19 (some 45) rfl rfl ?_
   refine la 20 none rfl rfl (fun K hK => ?_)
   refine skip_ (w1 := ?_) (by rfl) rfl ?_ ?_
   rotate_left
   · go_simp
     rfl
   refine hK.out _ _ ?_
   clear hK K
   refine done_ (by kernel_rfl) ?_
   go_wp2
   go_ret
   refine ⟨rfl, ⟨⟨c, HZ.out.2.2.2.2.2.2.2, ?_, ((HF.out.2.1.kept (P := fun k => k = gz) (KeptP.set (P := fun k => k = gz) (KeptP.refl W2 _) ⟨gz, 0, none⟩ (.inl rfl) _) HF.out.2.2.2).drew)⟩, (HF.out.1.set _ _).drew, HF.out.2.2.2⟩, (KeptP.set (P := fun k => k = gz ∨ k = az) HF.out.2.2.1 ⟨gz, 0, none⟩ (.inl (.inl rfl)) _).drew⟩
   rw [HPN.out]
   exact (HB2.out.put0 _).drew
 · have hq : decide (0 < (W64.digs p.natAbs).length) = false := decide_eq_false hp0
   have hpp : p.natAbs = 0 := by
     apply Classical.byContradiction
     intro hc
     exact hp0 (W64.len_pos hc)
   rw [hpp, show decide (0 < 0) = false from rfl, Bool.false_and] at hq2
   have HPN := Aside0.mk hq2
   clear hq2 hpp hp0
   go_wp2_with fail
   refine Go.Proofs.YteohmbannpbokaaGreatDoorW.PrintLast.st (n := 21) (S := fun w' => w'.cell? ⟨gz, 1, none⟩ = some (.slice (some ⟨az, 0, none⟩) (W64.digs p.natAbs).length c)) (ds := [20]) rfl (by simpa using z1) (fun hHeld => ?_)
   refine pu 0 (some 26) rfl rfl ?_
   refine pu 1 (some 27) rfl rfl ?_
   refine pu 2 (some 28) rfl rfl ?_
   refine pu 3 (some 29) rfl rfl ?_
   refine tk 4 (some 30) rfl rfl hHeld ?_ (by (rintro w' s0; go_simp; with_reducible rfl))
   refine pu 5 (some 31) rfl rfl ?_
   refine pu 6 (some 32) rfl rfl ?_ (hr := by (intro w'; go_simp; (try simp only [hq]); with_reducible rfl))
   refine pu 7 (some 33) rfl rfl ?_
   refine po 8 (some 34) rfl rfl ?_
   refine po 9 (some 35) rfl rfl ?_
   refine po 10 (some 36) rfl rfl ?_
   refine po 11 (some 37) rfl rfl ?_
   refine po 12 (some 38) rfl rfl ?_
   refine po 13 (some 39) rfl rfl ?_
   refine po 14 (some 40) rfl rfl ?_
   refine po 15 (some 41) rfl rfl ?_
   refine po 16 (some 42) rfl rfl ?_
   refine pu 17 (some 43) rfl rfl ?_
   refine pu 18 (some 44) rfl rfl ?_
   refine pu 19 (some 45) rfl rfl ?_
   refine la 20 none rfl rfl (fun K hK => ?_)
   refine skip_ (w1 := ?_) (by rfl) rfl ?_ ?_
   rotate_left
   · go_simp
     rfl
   refine hK.out _ _ ?_
   clear hK K
   refine done_ (by kernel_rfl) ?_
   go_wp2
   go_ret
   refine ⟨rfl, ⟨⟨c, HZ.out.2.2.2.2.2.2.2, ?_, ((HF.out.2.1.kept (P := fun k => k = gz) (KeptP.set (P := fun k => k = gz) (KeptP.refl W2 _) ⟨gz, 0, none⟩ (.inl rfl) _) HF.out.2.2.2).drew)⟩, (HF.out.1.set _ _).drew, HF.out.2.2.2⟩, (KeptP.set (P := fun k => k = gz ∨ k = az) HF.out.2.2.1 ⟨gz, 0, none⟩ (.inl (.inl rfl)) _).drew⟩
   rw [HPN.out]
   exact (HB2.out.put0 _).drew
end Go.Proofs.YteohmbannpbokaaGreatDoor.WordWalk
