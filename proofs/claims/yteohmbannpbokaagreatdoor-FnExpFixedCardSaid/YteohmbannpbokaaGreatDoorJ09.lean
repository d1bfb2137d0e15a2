/-
 Words for this claim.
 The reference's calls over whole numbers and fractions, told by the numbers alone; nothing that was there is changed.
 The reference's products and comparisons of whole numbers and fractions, told by the numbers alone; nothing that was there is changed.
 The reference's reading of whole numbers and decimals: the numbers that they are.
 The reference's look at decimals as they are written: their text, their fraction, and whether they are a number.
-/
import Derived.Test.YteohmbannpbokaaGreatDoorJ08
import Derived.Deep.RegionHeld3
import Derived.Deep.RegionWith
import Derived.Deep.QuietTactic
import Derived.BigQuiet
namespace Go.Proofs.YteohmbannpbokaaGreatDoor.Pone
open Go.RowKit Go.Proofs.YteohmbannpbokaaGreatDoorW.PrintWords Go.Proofs.YteohmbannpbokaaGreatDoorW.PrintLast Go.Proofs.YteohmbannpbokaaGreatDoorW.PrintMore
attribute [local go_sem] max2_int min2_int max_two min_two max_three min_three max_four min_four
set_option linter.unusedVariables false
set_option linter.unusedSimpArgs false
def spec_one.f  : Option (List Int) := some (([1] : List Int))
set_option maxHeartbeats 8000000 in
set_option maxRecDepth 100000 in
theorem spec_one.calls  (r : List Int) (w : World) (h : spec_one.f  = some r) :
   Calls Tryz.prog 80 #[] w fun e w' => ∃ v0_ : Value, e = .returned (v0_) ∧ Kd.R (Kd.int .u32) 44 w' w.heap.size (fun _ => True) v0_ r ∧ Below w.heap.size w w' := by
 have HB := Aside0.mk (Below.refl w.heap.size w)
 have H : (some (([1] : List Int))) = some r := h
 clear h
 obtain ⟨y101, hy101⟩ : ∃ y_ : List Int, y_ = (([1] : List Int)) := ⟨_, rfl⟩
 replace H : (some y101) = some r := by first | (rw [hy101]; with_reducible exact H) | (have H2_ := (Option.bind_some _ _).symm.trans H; rw [hy101]; with_reducible exact H2_) | (have H2_ := (Option.bind_some _ _).symm.trans H; with_reducible exact H2_) | with_reducible exact H | (rw [hy101]; exact H) | exact H
 have Ny101 := Aside0.mk hy101
 clear hy101
 obtain rfl := Option.some.inj H
 go_enter Tryz.func80, Tryz.ntmps80
 go_wp2_with (first | ((with_reducible refine gate_dst (N := 1) rfl ?_); refine Kd.R_lit (Kd.int .u32) _ 44 ?hg (N := 1) ?hd (xs := ([1] : List Int)) (inner := [.int .u32 1]) (ok := fun _ => True) (okp := fun _ => True) ?hr ?hp (fun _ hk => hk) trivial (Below.refl _ _) (Nat.le_refl _) (by simp) ?_; (case hd => rfl); (case hg => rfl); (case hr => first | (go_simp; done) | (go_simp; rfl)); (case hp => exact (Reps.one (show Kd.M (Kd.int .u32) _ _ _ 1 [.int .u32 1] from rfl) (Reps.none _ _))); intro v102 w1 ho2 hb hg_ hnew_; clear hg_ hnew_; (first | rw [← Ny101.out] at ho2 | (simp only [Int.reduceToNat] at ho2; rw [← Ny101.out] at ho2)); have n0_ := Aside0.mk (Kd.R_lower ho2 (below_size (by repeat (first | (with_reducible first | exact HB.out | apply below_alloc | apply pw_below_drewN | apply below_drew1) | exact HB.out)))); have n1_ := Aside0.mk (below_step (by repeat (first | (with_reducible first | exact HB.out | apply below_alloc | apply pw_below_drewN | apply below_drew1) | exact HB.out)) hb); clear HB; have HO103 := n0_; have HB := n1_; clear n0_ n1_; clear hb ho2))
 go_ret
 exact ⟨_, by first | rfl | (simp [errW_none, errW_some] <;> rfl) | (simp [*, errW_none, errW_some] <;> rfl), by (with_reducible repeat (first | apply Kd.R_alloc | apply Kd.R_drewN | apply Kd.R_drew)); exact HO103.out, by repeat (first | (with_reducible first | exact HB.out | apply below_alloc | apply pw_below_drewN | apply below_drew1) | exact HB.out)⟩
end Go.Proofs.YteohmbannpbokaaGreatDoor.Pone
set_option linter.unusedVariables false
set_option linter.unusedSimpArgs false
namespace Go.Proofs.YteohmbannpbokaaGreatDoor.SpecWalk
open Go.RowKit Go.Proofs.YteohmbannpbokaaGreatDoorW.PrintWords Go.Proofs.YteohmbannpbokaaGreatDoorW.PrintLast Go.Proofs.YteohmbannpbokaaGreatDoorW.PrintMore Go.Proofs.YteohmbannpbokaaGreatDoor.Digs Go.Proofs.YteohmbannpbokaaGreatDoor.StrLaw Go.Proofs.YteohmbannpbokaaGreatDoor.NatLaw Go.Proofs.YteohmbannpbokaaGreatDoor.NatWalk
def sgn (b : Bool) (n : Nat) : Bool := b && decide (0 < n)
theorem len_pos_iff (n : Nat) : decide ((0 : Int) < ((digs n).length : Int)) = decide (0 < n) := by
 by_cases h : n = 0
 · subst h; rw [digs_zero]; rfl
 · have := len_pos h
   rw [decide_eq_true (by omega), decide_eq_true (by omega)]
theorem frz {w w1 : World} (hb : Below w.heap.size w w1) {a : Addr} {v : Value} (hc : w.cell? a = some v) (hf : w.frozen? a = false) : w1.frozen? a = false := (hb.frozen (World.block_lt_of_cell? w _ hc)).trans hf
structure Box (w : World) (g : Nat) (l : List Value) : Prop where
 mk :: (out : ∀ j v, l[j]? = some v → w.cell? ⟨g, j, none⟩ = some v ∧ w.frozen? ⟨g, j, none⟩ = false)
theorem Box.below {w w1 : World} {g : Nat} {l : List Value} (h : Box w g l) (hb : Below w.heap.size w w1) : Box w1 g l :=
 ⟨fun j v hj => ⟨pw_cell_below hb (h.out j v hj).1, frz hb (h.out j v hj).1 (h.out j v hj).2⟩⟩
theorem Box.c0 {w : World} {g : Nat} {x : Value} {l : List Value} (h : Box w g (x :: l)) : w.cell? ⟨g, 0, none⟩ = some x := (h.out 0 x rfl).1
theorem Box.c1 {w : World} {g : Nat} {x y : Value} {l : List Value} (h : Box w g (x :: y :: l)) : w.cell? ⟨g, 1, none⟩ = some y := (h.out 1 y rfl).1
theorem Box.c2 {w : World} {g : Nat} {x y z : Value} {l : List Value} (h : Box w g (x :: y :: z :: l)) : w.cell? ⟨g, 2, none⟩ = some z := (h.out 2 z rfl).1
theorem Box.f0 {w : World} {g : Nat} {x : Value} {l : List Value} (h : Box w g (x :: l)) : w.frozen? ⟨g, 0, none⟩ = false := (h.out 0 x rfl).2
theorem Box.f1 {w : World} {g : Nat} {x y : Value} {l : List Value} (h : Box w g (x :: y :: l)) : w.frozen? ⟨g, 1, none⟩ = false := (h.out 1 y rfl).2
theorem Box.f2 {w : World} {g : Nat} {x y z : Value} {l : List Value} (h : Box w g (x :: y :: z :: l)) : w.frozen? ⟨g, 2, none⟩ = false := (h.out 2 z rfl).2
theorem Box.mk2 {w : World} {g : Nat} {x y : Value} (h0 : w.cell? ⟨g, 0, none⟩ = some x) (h1 : w.cell? ⟨g, 1, none⟩ = some y) (k0 : w.frozen? ⟨g, 0, none⟩ = false) (k1 : w.frozen? ⟨g, 1, none⟩ = false) : Box w g [x, y] :=
 ⟨fun j v hj => by match j, hj with | 0, hj => cases hj; exact ⟨h0, k0⟩ | 1, hj => cases hj; exact ⟨h1, k1⟩⟩
theorem Box.mk3 {w : World} {g : Nat} {x y z : Value} (h0 : w.cell? ⟨g, 0, none⟩ = some x) (h1 : w.cell? ⟨g, 1, none⟩ = some y) (h2 : w.cell? ⟨g, 2, none⟩ = some z) (k0 : w.frozen? ⟨g, 0, none⟩ = false) (k1 : w.frozen? ⟨g, 1, none⟩ = false) (k2 : w.frozen? ⟨g, 2, none⟩ = false) : Box w g [x, y, z] :=
 ⟨fun j v hj => by match j, hj with | 0, hj => cases hj; exact ⟨h0, k0⟩ | 1, hj => cases hj; exact ⟨h1, k1⟩ | 2, hj => cases hj; exact ⟨h2, k2⟩⟩
theorem Box.alloc {w : World} {g : Nat} {l : List Value} (h : Box w g l) (o : Obj) : Box (w.alloc o) g l := h.below ((Below.refl _ _).alloc (Nat.le_refl _) _)
theorem Box.drew {w : World} {g : Nat} {l : List Value} (h : Box w g l) : Box w.drew g l := h.below (Below.refl _ _).drew
theorem Box.far {w : World} {g : Nat} {l : List Value} {p : Addr} (h : Box w g l) (hg : g ≠ p.block) (u : Value) : Box (w.setCell p u) g l := by
 have hb := Below.heap_setCell w p u g hg
 refine ⟨fun j v hj => ?_⟩
 have := h.out j v hj
 refine ⟨?_, ?_⟩
 · simpa [World.cell?, hb] using this.1
 · simpa [World.frozen?, hb] using this.2
theorem Box.far2 {w : World} {g g' : Nat} {l : List Value} (h : Box w g l) (hg : g ≠ g') (x y : Value) : Box ((w.setCell ⟨g', 0, none⟩ x).setCell ⟨g', 1, none⟩ y) g l := (h.far (p := ⟨g', 0, none⟩) hg x).far (p := ⟨g', 1, none⟩) hg y
theorem Box.far3 {w : World} {g g' : Nat} {l : List Value} (h : Box w g l) (hg : g ≠ g') (x y z : Value) : Box (((w.setCell ⟨g', 0, none⟩ x).setCell ⟨g', 1, none⟩ y).setCell ⟨g', 2, none⟩ z) g l := (h.far2 hg x y).far (p := ⟨g', 2, none⟩) hg z
theorem Box.new2 (w : World) (g : Nat) (x y : Value) (t : TypeId) (hg : w.heap.size = g) : Box (w.alloc (.cells #[x, y] t)) g [x, y] := by
 subst hg
 exact .mk2 (by simp) (by simp) (by simp) (by simp)
theorem Box.new3 (w : World) (g : Nat) (x y z : Value) (t : TypeId) (hg : w.heap.size = g) : Box (w.alloc (.cells #[x, y, z] t)) g [x, y, z] := by
 subst hg
 exact .mk3 (by simp) (by simp) (by simp) (by simp) (by simp) (by simp)
theorem below2 {B : Nat} {w0 w : World} {g : Nat} (h : Below B w0 w) (hg : B ≤ g) (x y : Value) : Below B w0 ((w.setCell ⟨g, 0, none⟩ x).setCell ⟨g, 1, none⟩ y) :=
 (h.setCell (p := ⟨g, 0, none⟩) hg x).setCell (p := ⟨g, 1, none⟩) hg y
theorem below3 {B : Nat} {w0 w : World} {g : Nat} (h : Below B w0 w) (hg : B ≤ g) (x y z : Value) : Below B w0 (((w.setCell ⟨g, 0, none⟩ x).setCell ⟨g, 1, none⟩ y).setCell ⟨g, 2, none⟩ z) :=
 (below2 h hg x y).setCell (p := ⟨g, 2, none⟩) hg z
set_option maxHeartbeats 1000000 in
theorem wholeOf_n (b : Bool) (n : Nat) (ok : Nat → Prop) (v : Value) (w : World) (hv : Rdv w ok v n) :
   Calls Tryz.prog 44 #[.bool b, v] w fun e w' => e = .returned (.agg #[.bool (sgn b n), v]) ∧ Below w.heap.size w w' := by
 obtain ⟨A, c, rfl, hl, hc⟩ := hv.form
 have hs := len_pos_iff n
 have hb : sgn b n = (b && decide (0 < n)) := rfl
 rw [← hs] at hb
 have HS := Aside0.mk hb
 clear hb hs hc hl hv
 generalize (digs n).length = m at *
 generalize sgn b n = s at *
 cases b
 · go_enter Tryz.func44, Tryz.ntmps44
   go_wp2
   refine bodyPost_ret (v := .agg #[.bool false, .slice A m c]) (by simp [results, Tryz.results44, go_sem]) rfl ⟨?_, ?_⟩
   · rw [HS.out]; rfl
   · exact (Below.refl _ _).alloc (Nat.le_refl _) _
 · go_enter Tryz.func44, Tryz.ntmps44
   go_wp2
   refine bodyPost_ret (v := .agg #[.bool (decide ((0 : Int) < (m : Int))), .slice A m c]) (by simp [results, Tryz.results44, go_sem]) rfl ⟨?_, ?_⟩
   · rw [HS.out]; rfl
   · exact (Below.refl _ _).alloc (Nat.le_refl _) _
theorem digs_1 : digs 1 = [1] := by rw [digs_one (by decide) (by decide)]; rfl
theorem one_n (w : World) : Calls Tryz.prog 80 #[] w fun e w' => ∃ v, e = .returned v ∧ Rdv w' (fun k => w.heap.size ≤ k) v 1 ∧ Below w.heap.size w w' := by
 refine (Go.Proofs.YteohmbannpbokaaGreatDoor.Pone.spec_one.calls [1] w rfl).mono ?_
 rintro e w' ⟨v, rfl, hr, hb⟩
 rw [← digs_1] at hr
 exact ⟨v, rfl, Rdv.of_R hr, hb⟩
theorem len_pow10 (e : Nat) : (digs (10 ^ e)).length ≤ e + 1 := by
 refine len_digs_le ?_
 rw [show (1000000000 : Nat) = 10 ^ 9 by decide, ← Nat.pow_mul]
 exact Nat.pow_lt_pow_right (by decide) (by omega)
set_option maxHeartbeats 4000000 in
theorem WholeMul_n (a b : Bool) (m n : Nat) (oa ob : Nat → Prop) (v u : Value) (w : World) (hv : Rdv w oa v m) (hu : Rdv w ob u n) (hl : (digs m).length + (digs n).length ≤ 1000000000) :
   Calls Tryz.prog 78 #[.agg #[.bool a, v], .agg #[.bool b, u]] w fun en w' => ∃ z, en = .returned (.agg #[.bool (sgn (a != b) (m * n)), z]) ∧ Rdv w' (fun k => w.heap.size ≤ k) z (m * n) ∧ Below w.heap.size w w' := by
 obtain ⟨A, c, rfl, _, _⟩ := hv.form
 obtain ⟨A', c', rfl, _, _⟩ := hu.form
 have HM := Aside0.mk (fun oa ob v u w hv hu => mul_n m n oa ob v u w hv hu (by omega))
 have HW := Aside0.mk (fun ok v w => wholeOf_n (a != b) (m * n) ok v w)
 clear hl
 generalize m * n = p at *
 generalize hs : sgn (a != b) p = s1 at *
 clear hs
 generalize hm : (digs m).length = m0 at *
 generalize hn : (digs n).length = n0 at *
 clear hm hn
 go_enter Tryz.func78, Tryz.ntmps78
 go_wp2_with fail
 have ax0 : Box (((w.alloc (Obj.cells #[Value.bool a, Value.slice A m0 c] 28)).alloc (Obj.cells #[Value.bool b, Value.slice A' n0 c'] 28)).alloc (Obj.cells #[Value.bool false, Value.slice none 0 0] 28)).drew w.heap.size [.bool a, .slice A m0 c] := (((Box.new2 w _ _ _ _ (by simp)).alloc _).alloc _).drew
 have bx0 : Box (((w.alloc (Obj.cells #[Value.bool a, Value.slice A m0 c] 28)).alloc (Obj.cells #[Value.bool b, Value.slice A' n0 c'] 28)).alloc (Obj.cells #[Value.bool false, Value.slice none 0 0] 28)).drew (w.heap.size + 1) [.bool b, .slice A' n0 c'] := ((Box.new2 (w.alloc (Obj.cells #[Value.bool a, Value.slice A m0 c] 28)) _ _ _ _ (by simp)).alloc _).drew
 have rx0 : Box (((w.alloc (Obj.cells #[Value.bool a, Value.slice A m0 c] 28)).alloc (Obj.cells #[Value.bool b, Value.slice A' n0 c'] 28)).alloc (Obj.cells #[Value.bool false, Value.slice none 0 0] 28)).drew (w.heap.size + 1 + 1) [.bool false, .slice none 0 0] := (Box.new2 ((w.alloc (Obj.cells #[Value.bool a, Value.slice A m0 c] 28)).alloc (Obj.cells #[Value.bool b, Value.slice A' n0 c'] 28)) _ _ _ _ (by simp)).drew
 have hB0 : Below w.heap.size w (((w.alloc (Obj.cells #[Value.bool a, Value.slice A m0 c] 28)).alloc (Obj.cells #[Value.bool b, Value.slice A' n0 c'] 28)).alloc (Obj.cells #[Value.bool false, Value.slice none 0 0] 28)).drew := ((((Below.refl _ _).alloc (Nat.le_refl _) _).alloc (by simp) _).alloc (by simp; omega) _).drew
 replace hv := hv.below hB0
 replace hu := hu.below hB0
 have neax : w.heap.size ≠ (w.heap.size + 1 + 1) := by omega
 have nebx : (w.heap.size + 1) ≠ (w.heap.size + 1 + 1) := by omega
 go_region_held3 (fun w' => w'.cell? ⟨w.heap.size, 0, none⟩ = some (.bool a) ∧ w'.cell? ⟨w.heap.size, 1, none⟩ = some (.slice A m0 c) ∧ w'.cell? ⟨(w.heap.size + 1), 0, none⟩ = some (.bool b) ∧ w'.cell? ⟨(w.heap.size + 1), 1, none⟩ = some (.slice A' n0 c'))
     (first
       | (go_keep; done)
       | exact ⟨ax2.c0, ax2.c1, bx2.c0, bx2.c1⟩
       | exact ⟨ax1.c0, ax1.c1, bx1.c0, bx1.c1⟩
       | exact ⟨(ax2.far2 neax _ _).c0, (ax2.far2 neax _ _).c1, (bx2.far2 nebx _ _).c0, (bx2.far2 nebx _ _).c1⟩)
     (first
       | (go_at_call 37; refine (HM.out _ _ _ _ _ hv hu).mono ?_; rintro e w1 ⟨v1, rfl, hv1, hb1⟩; replace hv1 := hv1.mono (ok' := fun k => w.heap.size + 3 ≤ k) (fun k hk => by simp at hk; omega); obtain ⟨A1, c1, rfl, _, _⟩ := hv1.form; have sz1 := hb1.size; (try simp at sz1); have ax1 := ax0.below hb1; have xax10 := ax1.c0; have xax11 := ax1.c1; have bx1 := bx0.below hb1; have xbx10 := bx1.c0; have xbx11 := bx1.c1; have rx1 := rx0.below hb1; have xrx10 := rx1.c0; have xrx11 := rx1.c1; have yrx10 := rx1.f0; have yrx11 := rx1.f1)
       | (go_at_call 44; refine (HW.out _ _ _ hv1).mono ?_; rintro e w2 ⟨rfl, hb2⟩; have sz2 := hb2.size; have ax2 := ax1.below hb2; have xax20 := ax2.c0; have xax21 := ax2.c1; have bx2 := bx1.below hb2; have xbx20 := bx2.c0; have xbx21 := bx2.c1; have rx2 := rx1.below hb2; have xrx20 := rx2.c0; have xrx21 := rx2.c1; have yrx20 := rx2.f0; have yrx21 := rx2.f1))
 go_wp2
 refine bodyPost_ret (v := .agg #[.bool s1, .slice A1 (digs p).length c1]) (by simp [results, Tryz.results78, go_sem, rx2.c0, rx2.c1]) rfl ?_
 exact ⟨_, rfl, ((hv1.below hb2).far2 (fun k hk => by omega) _ _).mono (fun k hk => by omega), below2 (below_step (below_step hB0 hb1) hb2) (by omega) _ _⟩
def cmpW (a : Bool) (m : Nat) (b : Bool) (n : Nat) : Int := if a = b then (if a then cmpN n m else cmpN m n) else if a then -1 else 1
set_option maxHeartbeats 4000000 in
theorem WholeCmp_n (a b : Bool) (m n : Nat) (oa ob : Nat → Prop) (v u : Value) (w : World) (hv : Rdv w oa v m) (hu : Rdv w ob u n) (hlm : (digs m).length ≤ 4000000000) (hln : (digs n).length ≤ 4000000000) :
   Calls Tryz.prog 31 #[.agg #[.bool a, v], .agg #[.bool b, u]] w fun en w' => en = .returned (.int .i64 (cmpW a m b n)) ∧ Below w.heap.size w w' := by
 have hw := (((Below.refl w.heap.size w).alloc (Nat.le_refl _) (.cells #[.bool a, v] 28)).alloc (by simp) (.cells #[.bool b, u] 28))
 have h1 := fun w1 (h : Below w.heap.size w w1) => cmp_n m n oa ob v u w1 (hv.below h) (hu.below h) hlm
 have h2 := fun w1 (h : Below w.heap.size w w1) => cmp_n n m ob oa u v w1 (hu.below h) (hv.below h) hln
 have H1 := Aside0.mk h1
 have H2 := Aside0.mk h2
 have HW := Aside0.mk hw
 obtain ⟨A, c, rfl, _, _⟩ := hv.form
 obtain ⟨A', c', rfl, _, _⟩ := hu.form
 clear h1 h2 hw hv hu hlm hln
 generalize hm : (digs m).length = m0 at *
 generalize hn : (digs n).length = n0 at *
 clear hm hn
 have HT : Aside0 (cmpW true m true n = cmpN n m) := ⟨rfl⟩
 have HF : Aside0 (cmpW false m false n = cmpN m n) := ⟨rfl⟩
 have HTF : Aside0 (cmpW true m false n = -1) := ⟨rfl⟩
 have HFT : Aside0 (cmpW false m true n = 1) := ⟨rfl⟩
 cases a <;> cases b
 · go_enter Tryz.func31, Tryz.ntmps31
   go_wp2_with (go_at_call 38; refine (H1.out _ HW.out).mono ?_; rintro e w1 ⟨rfl, hd⟩; have HD := Aside0.mk hd; clear hd)
   go_ret
   exact ⟨by rw [HF.out]; rfl, below_step HW.out HD.out.below⟩
 · go_enter Tryz.func31, Tryz.ntmps31
   go_wp2
   go_ret
   exact ⟨by rw [HFT.out]; rfl, HW.out⟩
 · go_enter Tryz.func31, Tryz.ntmps31
   go_wp2
   go_ret
   exact ⟨by rw [HTF.out]; rfl, HW.out⟩
 · go_enter Tryz.func31, Tryz.ntmps31
   go_wp2_with (go_at_call 38; refine (H2.out _ HW.out).mono ?_; rintro e w1 ⟨rfl, hd⟩; have HD := Aside0.mk hd; clear hd)
   go_ret
   exact ⟨by rw [HT.out]; rfl, below_step HW.out HD.out.below⟩
theorem digs_len (n k : Nat) (h : n < 1000000000 ^ k) : (digs n).length ≤ k := len_digs_le h
end Go.Proofs.YteohmbannpbokaaGreatDoor.SpecWalk
namespace Go.Proofs.YteohmbannpbokaaGreatDoor.TextWalk
open Go.RowKit Go.Proofs.YteohmbannpbokaaGreatDoorW.PrintWords Go.Proofs.YteohmbannpbokaaGreatDoorW.PrintLast Go.Proofs.YteohmbannpbokaaGreatDoorW.PrintMore Go.Proofs.YteohmbannpbokaaGreatDoor.Digs Go.Proofs.YteohmbannpbokaaGreatDoor.StrLaw Go.Proofs.YteohmbannpbokaaGreatDoor.NatLaw Go.Proofs.YteohmbannpbokaaGreatDoor.NatWalk Go.Proofs.YteohmbannpbokaaGreatDoor.SpecWalk Go.Proofs.YteohmbannpbokaaGreatDoor.TextLaw
theorem not_empty {s : ByteArray} (h : 0 < s.size) : s.toList.isEmpty = false := by
 rw [List.isEmpty_eq_false_iff]; intro h1
 have h2 := toList_len s
 rw [h1] at h2
 simp at h2
 omega
theorem bt0 (s : ByteArray) : ∀ h : 0 < s.size, ((s[0]'h).toNat : Int) = bt s 0 := fun h => bt_at s 0 h
set_option maxHeartbeats 4000000 in
theorem ParseWhole_plain (s : ByteArray) (w : World) (hD : Digits s) (hl : s.size ≤ 1000000000) :
   Calls Tryz.prog 28 #[.string s] w fun e w' => ∃ v, e = .returned (.tuple #[.agg #[.bool false, v], .bool true]) ∧ Rdv w' (fun k => w.heap.size ≤ k) v (dnum s) ∧ Below w.heap.size w w' := by
 have HN := Aside0.mk (fun w => NatOf_n s w hD hl)
 have hwh := fun ok v w hv => wholeOf_n false (dnum s) ok v w hv
 rw [show sgn false (dnum s) = false from rfl] at hwh
 have HW := Aside0.mk hwh
 have hem := not_empty hD.pos
 have hb := hD.all 0 hD.pos
 have hx := bt0 s
 have hp := eq_true hD.pos
 rw [show ((0 : Nat) : Int) = 0 from rfl] at hb
 have h45 : (bt s 0 == 45) = false := beq_eq_false_iff_ne.mpr (by omega)
 have h43 : (bt s 0 == 43) = false := beq_eq_false_iff_ne.mpr (by omega)
 clear hwh hD hl hb
 generalize bt s 0 = B at *
 go_enter Tryz.func28, Tryz.ntmps28
 go_wp2_with fail
 have rx0 : Box (w.alloc (Obj.cells #[Value.bool false, Value.slice none 0 0] 28)) w.heap.size [.bool false, .slice none 0 0] := (Box.new2 w _ _ _ _ (by simp))
 have hB0 : Below w.heap.size w (w.alloc (Obj.cells #[Value.bool false, Value.slice none 0 0] 28)) := ((Below.refl _ _).alloc (Nat.le_refl _) _)
 have krx00 := rx0.c0; have krx01 := rx0.c1; have qrx00 := rx0.f0; have qrx01 := rx0.f1
 go_wp2_with (first | (go_at_call 53; (with_reducible refine (HN.out _).mono ?_); rintro e w1 ⟨v, rfl, hv, hb1⟩; have sz1 := hb1.size; (try simp at sz1); (with_reducible have rx1 := rx0.below hb1); have krx10 := rx1.c0; have krx11 := rx1.c1; have qrx10 := rx1.f0; have qrx11 := rx1.f1; have HV := Aside0.mk hv; clear hv; obtain ⟨A, c, rfl, _, _⟩ := HV.out.form) | (go_at_call 44; (with_reducible refine (HW.out _ _ _ HV.out).mono ?_); rintro e w2 ⟨rfl, hb2⟩; have sz2 := hb2.size; (try simp at sz2); (with_reducible have rx2 := rx1.below hb2); have krx20 := rx2.c0; have krx21 := rx2.c1; have qrx20 := rx2.f0; have qrx21 := rx2.f1))
 refine bodyPost_ret (v := .tuple #[.agg #[.bool false, .slice A (digs (dnum s)).length c], .bool true]) (by simp [results, Tryz.results28, go_sem, krx20, krx21]) rfl ?_
 exact ⟨_, rfl, ((HV.out.below hb2).far2 (g := w.heap.size) (fun k hk => by have hk' : _ ≤ k := hk; simp at hk'; omega) _ _).mono (fun k hk => by have hk' : _ ≤ k := hk; simp at hk'; omega), below2 (below_step (below_step hB0 hb1) hb2) (Nat.le_refl _) _ _⟩
set_option maxHeartbeats 4000000 in
theorem ParseWhole_minus (t : ByteArray) (w : World) (hD : Digits t) (hl : t.size ≤ 1000000000) :
   Calls Tryz.prog 28 #[.string (minus t)] w fun e w' => ∃ v, e = .returned (.tuple #[.agg #[.bool (sgn true (dnum t)), v], .bool true]) ∧ Rdv w' (fun k => w.heap.size ≤ k) v (dnum t) ∧ Below w.heap.size w w' := by
 have HN := Aside0.mk (fun w => NatOf_n t w hD hl)
 have HW := Aside0.mk (fun ok v w hv => wholeOf_n true (dnum t) ok v w hv)
 have hsz := minus_size t
 have hem := not_empty (s := minus t) (by omega)
 have hx := bt0 (minus t)
 rw [minus_first] at hx
 have hp := eq_true (show 0 < (minus t).size by omega)
 have hext := minus_tail t
 have hle : (1 : Int) ≤ ((minus t).size : Int) := by omega
 have hle2 : 1 ≤ (minus t).size := by omega
 have hmx : ((minus t).size : Int) ≤ 1000000001 := by omega
 clear hD hl hsz
 generalize minus t = s at *
 generalize sgn true (dnum t) = s1 at *
 go_enter Tryz.func28, Tryz.ntmps28
 go_wp2_with fail
 have rx0 : Box (w.alloc (Obj.cells #[Value.bool false, Value.slice none 0 0] 28)) w.heap.size [.bool false, .slice none 0 0] := (Box.new2 w _ _ _ _ (by simp))
 have hB0 : Below w.heap.size w (w.alloc (Obj.cells #[Value.bool false, Value.slice none 0 0] 28)) := ((Below.refl _ _).alloc (Nat.le_refl _) _)
 have krx00 := rx0.c0; have krx01 := rx0.c1; have qrx00 := rx0.f0; have qrx01 := rx0.f1
 go_wp2_with (first | (go_at_call 53; (with_reducible refine (HN.out _).mono ?_); rintro e w1 ⟨v, rfl, hv, hb1⟩; have sz1 := hb1.size; (try simp at sz1); (with_reducible have rx1 := rx0.below hb1); have krx10 := rx1.c0; have krx11 := rx1.c1; have qrx10 := rx1.f0; have qrx11 := rx1.f1; have HV := Aside0.mk hv; clear hv; obtain ⟨A, c, rfl, _, _⟩ := HV.out.form) | (go_at_call 44; (with_reducible refine (HW.out _ _ _ HV.out).mono ?_); rintro e w2 ⟨rfl, hb2⟩; have sz2 := hb2.size; (try simp at sz2); (with_reducible have rx2 := rx1.below hb2); have krx20 := rx2.c0; have krx21 := rx2.c1; have qrx20 := rx2.f0; have qrx21 := rx2.f1))
 refine bodyPost_ret (v := .tuple #[.agg #[.bool s1, .slice A (digs (dnum t)).length c], .bool true]) (by simp [results, Tryz.results28, go_sem, krx20, krx21]) rfl ?_
 exact ⟨_, rfl, ((HV.out.below hb2).far2 (g := w.heap.size) (fun k hk => by have hk' : _ ≤ k := hk; simp at hk'; omega) _ _).mono (fun k hk => by have hk' : _ ≤ k := hk; simp at hk'; omega), below2 (below_step (below_step hB0 hb1) hb2) (Nat.le_refl _) _ _⟩
theorem text_le {n : Nat} (hn : nd n ≤ 100000000) : (text n).size ≤ 100000001 := by
 by_cases h : n = 0
 · subst h; decide
 · rw [TextLaw.size_text h]; omega
theorem ParseWhole_n (b : Bool) (n : Nat) (w : World) (hb : sgn b n = b) (hn : nd n ≤ 100000000) :
   Calls Tryz.prog 28 #[.string (stext b n)] w fun e w' => ∃ v, e = .returned (.tuple #[.agg #[.bool b, v], .bool true]) ∧ Rdv w' (fun k => w.heap.size ≤ k) v n ∧ Below w.heap.size w w' := by
 have hl := text_le hn
 cases b
 · have h := ParseWhole_plain (text n) w (text_digits n) (by omega)
   rw [dnum_text] at h
   exact h
 · have h := ParseWhole_minus (text n) w (text_digits n) (by omega)
   rw [dnum_text, hb] at h
   exact h
set_option maxHeartbeats 4000000 in
theorem WholeIn_n (b : Bool) (n : Nat) (w : World) (hb : sgn b n = b) (hn : nd n ≤ 100000000) :
   Calls Tryz.prog 43 #[.string (stext b n)] w fun e w' => ∃ v, e = .returned (.agg #[.bool b, v]) ∧ Rdv w' (fun k => w.heap.size ≤ k) v n ∧ Below w.heap.size w w' := by
 have HP := Aside0.mk (fun w => ParseWhole_n b n w hb hn)
 clear hb hn
 generalize stext b n = s at *
 go_enter Tryz.func43, Tryz.ntmps43
 go_wp2_with fail
 have rx0 : Box (w.alloc (Obj.cells #[Value.bool false, Value.slice none 0 0] 28)) w.heap.size [.bool false, .slice none 0 0] := (Box.new2 w _ _ _ _ (by simp))
 have hB0 : Below w.heap.size w (w.alloc (Obj.cells #[Value.bool false, Value.slice none 0 0] 28)) := ((Below.refl _ _).alloc (Nat.le_refl _) _)
 have krx00 := rx0.c0; have krx01 := rx0.c1; have qrx00 := rx0.f0; have qrx01 := rx0.f1
 go_wp2_with (first | (go_at_call 28; (with_reducible refine (HP.out _).mono ?_); rintro e w1 ⟨v, rfl, hv, hb1⟩; have sz1 := hb1.size; (try simp at sz1); (with_reducible have rx1 := rx0.below hb1); have krx10 := rx1.c0; have krx11 := rx1.c1; have qrx10 := rx1.f0; have qrx11 := rx1.f1; have HV := Aside0.mk hv; clear hv; obtain ⟨A, c, rfl, _, _⟩ := HV.out.form; have HW := Aside0.mk ((Below.refl w1.heap.size w1).alloc (Nat.le_refl _) (Obj.cells #[.bool b, .slice A (digs n).length c] 28)); have rx1 := rx1.alloc (Obj.cells #[.bool b, .slice A (digs n).length c] 28); have vx1 : Box (w1.alloc (Obj.cells #[.bool b, .slice A (digs n).length c] 28)) w1.heap.size [.bool b, .slice A (digs n).length c] := Box.new2 _ _ _ _ _ rfl; have krx10 := rx1.c0; have krx11 := rx1.c1; have qrx10 := rx1.f0; have qrx11 := rx1.f1; have kvx10 := vx1.c0; have kvx11 := vx1.c1; have qvx10 := vx1.f0; have qvx11 := vx1.f1))
 refine bodyPost_ret (v := .agg #[.bool b, .slice A (digs n).length c]) (by simp [results, Tryz.results43, go_sem, krx10, krx11]) rfl ?_
 exact ⟨_, rfl, ((HV.out.below HW.out).far2 (g := w.heap.size) (fun k hk => by have hk' : _ ≤ k := hk; simp at hk'; omega) _ _).mono (fun k hk => by have hk' : _ ≤ k := hk; simp at hk'; omega), below2 (below_step (below_step hB0 hb1) HW.out) (Nat.le_refl _) _ _⟩
set_option maxHeartbeats 4000000 in
theorem DecIn_n (b : Bool) (n : Nat) (x : Int) (w : World) (hb : sgn b n = b) (hn : nd n ≤ 100000000) :
   Calls Tryz.prog 17 #[.agg #[.string (stext b n), .int .i64 x]] w fun e w' => ∃ v, e = .returned (.agg #[.bool b, v, .int .i64 x]) ∧ Rdv w' (fun k => w.heap.size ≤ k) v n ∧ Below w.heap.size w w' := by
 have HP := Aside0.mk (fun w => WholeIn_n b n w hb hn)
 clear hb hn
 generalize stext b n = s at *
 go_enter Tryz.func17, Tryz.ntmps17
 go_wp2_with fail
 have ax0 : Box ((w.alloc (Obj.cells #[Value.string s, Value.int .i64 x] 50)).alloc (Obj.cells #[Value.bool false, Value.slice none 0 0, Value.int .i64 0] 47)).drew w.heap.size [.string s, .int .i64 x] := ((Box.new2 w _ _ _ _ (by simp)).alloc _).drew
 have rx0 : Box ((w.alloc (Obj.cells #[Value.string s, Value.int .i64 x] 50)).alloc (Obj.cells #[Value.bool false, Value.slice none 0 0, Value.int .i64 0] 47)).drew (w.heap.size + 1) [.bool false, .slice none 0 0, .int .i64 0] := (Box.new3 (w.alloc (Obj.cells #[Value.string s, Value.int .i64 x] 50)) _ _ _ _ _ (by simp)).drew
 have hB0 : Below w.heap.size w ((w.alloc (Obj.cells #[Value.string s, Value.int .i64 x] 50)).alloc (Obj.cells #[Value.bool false, Value.slice none 0 0, Value.int .i64 0] 47)).drew := (((Below.refl _ _).alloc (Nat.le_refl _) _).alloc (by simp) _).drew
 have neax : w.heap.size ≠ (w.heap.size + 1) := by omega
 go_region_held3 (fun w' => w'.cell? ⟨w.heap.size, 0, none⟩ = some (.string s) ∧ w'.cell? ⟨w.heap.size, 1, none⟩ = some (.int .i64 x))
     (first
       | (go_keep; done)
       | exact ⟨ax1.c0, ax1.c1⟩
       | exact ⟨(ax1.far3 neax _ _ _).c0, (ax1.far3 neax _ _ _).c1⟩)
     (first
       | (go_at_call 43; refine (HP.out _).mono ?_; rintro e w1 ⟨v, rfl, hv, hb1⟩; replace hv := hv.mono (ok' := fun k => w.heap.size + 2 ≤ k) (fun k hk => by simp at hk; omega); obtain ⟨A, c, rfl, _, _⟩ := hv.form; have sz1 := hb1.size; (try simp at sz1); have ax1 := ax0.below hb1; have xax10 := ax1.c0; have xax11 := ax1.c1; have rx1 := rx0.below hb1; have xrx10 := rx1.c0; have xrx11 := rx1.c1; have xrx12 := rx1.c2; have yrx10 := rx1.f0; have yrx11 := rx1.f1; have yrx12 := rx1.f2))
 go_wp2
 refine bodyPost_ret (v := .agg #[.bool b, .slice A (digs n).length c, .int .i64 x]) (by simp [results, Tryz.results17, go_sem, rx1.c0, rx1.c1, rx1.c2]) rfl ?_
 exact ⟨_, rfl, (hv.far3 (fun k hk => by omega) _ _ _).mono (fun k hk => by omega), below3 (below_step hB0 hb1) (by omega) _ _ _⟩
end Go.Proofs.YteohmbannpbokaaGreatDoor.TextWalk
namespace Go.Proofs.YteohmbannpbokaaGreatDoor.SpecWalk
open Go.RowKit Go.Proofs.YteohmbannpbokaaGreatDoorW.PrintWords Go.Proofs.YteohmbannpbokaaGreatDoorW.PrintLast Go.Proofs.YteohmbannpbokaaGreatDoorW.PrintMore Go.Proofs.YteohmbannpbokaaGreatDoor.Digs Go.Proofs.YteohmbannpbokaaGreatDoor.StrLaw Go.Proofs.YteohmbannpbokaaGreatDoor.NatLaw Go.Proofs.YteohmbannpbokaaGreatDoor.NatWalk Go.Proofs.YteohmbannpbokaaGreatDoor.TextLaw Go.Proofs.YteohmbannpbokaaGreatDoor.TextWalk
theorem len_le_nd (n : Nat) : (digs n).length ≤ nd n := by
 have h1 := lt_of_nd n
 generalize nd n = L at *
 have h3 : (10 : Nat) ^ L ≤ 1000000000 ^ L := Nat.pow_le_pow_left (by decide) _
 exact len_digs_le (Nat.lt_of_lt_of_le h1 h3)
theorem len_nd {n : Nat} (h : nd n ≤ 100000000) : (digs n).length ≤ 100000000 := Nat.le_trans (len_le_nd n) h
set_option maxHeartbeats 4000000 in
theorem WholeString_n (b : Bool) (n : Nat) (ok : Nat → Prop) (v : Value) (w : World) (hv : Rdv w ok v n) (hn : nd n ≤ 100000000) :
   Calls Tryz.prog 8 #[.agg #[.bool b, v]] w fun en w' => en = .returned (.string (stext b n)) ∧ Below w.heap.size w w' := by
 obtain ⟨A, c, rfl, hl0, hC⟩ := hv.form
 have hl := len_nd hn
 have HS := Aside0.mk (fun w hc => StrWalk.string_calls n A c w hc hl0 (by omega))
 have hsz := text_le hn
 have hsi : ((text n).size : Int) ≤ 100000001 := by omega
 have HB := Aside0.mk ((Below.refl w.heap.size w).alloc (Nat.le_refl _) (Obj.cells #[.bool b, .slice A (digs n).length c] 28))
 have HC := Aside0.mk (Kd.C_below hC HB.out)
 have hs1 : Aside0 (stext true n = ⟨#[45]⟩ ++ text n) := ⟨rfl⟩
 have hs0 : Aside0 (stext false n = text n) := ⟨rfl⟩
 clear hn hl hl0 hC hv hsz
 generalize (digs n).length = m at *
 generalize text n = s at *
 cases b
 · go_enter Tryz.func8, Tryz.ntmps8
   go_wp2_with (go_at_call 14; refine (HS.out _ HC.out).mono ?_; rintro e w' ⟨rfl, hb⟩; have HB1 := Aside0.mk hb; clear hb)
   go_ret
   exact ⟨by rw [hs0.out]; rfl, below_step HB.out HB1.out⟩
 · go_enter Tryz.func8, Tryz.ntmps8
   go_wp2_with (go_at_call 14; refine (HS.out _ HC.out).mono ?_; rintro e w' ⟨rfl, hb⟩; have HB1 := Aside0.mk hb; clear hb)
   go_ret
   exact ⟨by rw [hs1.out]; rfl, below_step HB.out HB1.out⟩
set_option maxHeartbeats 4000000 in
theorem WholeMinus_n (b : Bool) (n : Nat) (ok : Nat → Prop) (v : Value) (w : World) (hv : Rdv w ok v n) :
   Calls Tryz.prog 19 #[.agg #[.bool b, v]] w fun en w' => en = .returned (.agg #[.bool (sgn (!b) n), v]) ∧ Below w.heap.size w w' := by
 obtain ⟨A, c, rfl, _, _⟩ := hv.form
 have HW := Aside0.mk (fun ok v w hv => wholeOf_n (!b) n ok v w hv)
 generalize sgn (!b) n = s1 at *
 generalize hm : (digs n).length = m at *
 go_enter Tryz.func19, Tryz.ntmps19
 go_wp2_with fail
 have bx0 : Box ((w.alloc (Obj.cells #[Value.bool b, Value.slice A m c] 28)).alloc (Obj.cells #[Value.bool false, Value.slice none 0 0] 28)) w.heap.size [.bool b, .slice A m c] := ((Box.new2 w _ _ _ _ (by simp)).alloc _)
 have rx0 : Box ((w.alloc (Obj.cells #[Value.bool b, Value.slice A m c] 28)).alloc (Obj.cells #[Value.bool false, Value.slice none 0 0] 28)) (w.heap.size + 1) [.bool false, .slice none 0 0] := (Box.new2 (w.alloc (Obj.cells #[Value.bool b, Value.slice A m c] 28)) _ _ _ _ (by simp))
 have hB0 : Below w.heap.size w ((w.alloc (Obj.cells #[Value.bool b, Value.slice A m c] 28)).alloc (Obj.cells #[Value.bool false, Value.slice none 0 0] 28)) := (((Below.refl _ _).alloc (Nat.le_refl _) _).alloc (by simp) _)
 have kbx00 := bx0.c0; have kbx01 := bx0.c1; have qbx00 := bx0.f0; have qbx01 := bx0.f1; have krx00 := rx0.c0; have krx01 := rx0.c1; have qrx00 := rx0.f0; have qrx01 := rx0.f1
 replace hv := hv.below hB0
 go_wp2_with (first | (go_at_call 44; (with_reducible refine (HW.out _ _ _ hv).mono ?_); rintro e w1 ⟨rfl, hb1⟩; have sz1 := hb1.size; (try simp at sz1); (with_reducible have bx1 := bx0.below hb1); have kbx10 := bx1.c0; have kbx11 := bx1.c1; have qbx10 := bx1.f0; have qbx11 := bx1.f1; (with_reducible have rx1 := rx0.below hb1); have krx10 := rx1.c0; have krx11 := rx1.c1; have qrx10 := rx1.f0; have qrx11 := rx1.f1))
 refine bodyPost_ret (v := .agg #[.bool s1, .slice A m c]) (by simp [results, Tryz.results19, go_sem, krx10, krx11]) rfl ⟨rfl, below2 (below_step hB0 hb1) (by omega) _ _⟩
set_option maxHeartbeats 4000000 in
theorem FracMinus_n (b : Bool) (n d : Nat) (ok od : Nat → Prop) (v u : Value) (w : World) (hv : Rdv w ok v n) (hu : Rdv w od u d) :
   Calls Tryz.prog 6 #[.agg #[.bool b, v, u]] w fun en w' => en = .returned (.agg #[.bool (sgn (!b) n), v, u]) ∧ Below w.heap.size w w' := by
 obtain ⟨A, c, rfl, _, _⟩ := hv.form
 obtain ⟨A1, c1, rfl, _, _⟩ := hu.form
 have HM := Aside0.mk (fun ok v w hv => WholeMinus_n b n ok v w hv)
 generalize sgn (!b) n = s1 at *
 generalize hm : (digs n).length = m at *
 generalize hm1 : (digs d).length = m1 at *
 go_enter Tryz.func6, Tryz.ntmps6
 go_wp2_with fail
 have bx0 : Box ((w.alloc (Obj.cells #[Value.bool b, Value.slice A m c, Value.slice A1 m1 c1] 30)).alloc (Obj.cells #[Value.bool false, Value.slice none 0 0, Value.slice none 0 0] 30)).drew w.heap.size [.bool b, .slice A m c, .slice A1 m1 c1] := ((Box.new3 w _ _ _ _ _ (by simp)).alloc _).drew
 have rx0 : Box ((w.alloc (Obj.cells #[Value.bool b, Value.slice A m c, Value.slice A1 m1 c1] 30)).alloc (Obj.cells #[Value.bool false, Value.slice none 0 0, Value.slice none 0 0] 30)).drew (w.heap.size + 1) [.bool false, .slice none 0 0, .slice none 0 0] := (Box.new3 (w.alloc (Obj.cells #[Value.bool b, Value.slice A m c, Value.slice A1 m1 c1] 30)) _ _ _ _ _ (by simp)).drew
 have hB0 : Below w.heap.size w ((w.alloc (Obj.cells #[Value.bool b, Value.slice A m c, Value.slice A1 m1 c1] 30)).alloc (Obj.cells #[Value.bool false, Value.slice none 0 0, Value.slice none 0 0] 30)).drew := (((Below.refl _ _).alloc (Nat.le_refl _) _).alloc (by simp) _).drew
 replace hv := hv.below hB0
 have nebx : w.heap.size ≠ (w.heap.size + 1) := by omega
 go_region_held3 (fun w' => w'.cell? ⟨w.heap.size, 0, none⟩ = some (.bool b) ∧ w'.cell? ⟨w.heap.size, 1, none⟩ = some (.slice A m c) ∧ w'.cell? ⟨w.heap.size, 2, none⟩ = some (.slice A1 m1 c1))
     (first
       | (go_keep; done)
       | exact ⟨bx1.c0, bx1.c1, bx1.c2⟩
       | exact ⟨(bx1.far3 nebx _ _ _).c0, (bx1.far3 nebx _ _ _).c1, (bx1.far3 nebx _ _ _).c2⟩)
     (first
       | (go_at_call 19; refine (HM.out _ _ _ hv).mono ?_; rintro e w1 ⟨rfl, hb1⟩; have sz1 := hb1.size; (try simp at sz1); have bx1 := bx0.below hb1; have xbx10 := bx1.c0; have xbx11 := bx1.c1; have xbx12 := bx1.c2; have rx1 := rx0.below hb1; have xrx10 := rx1.c0; have xrx11 := rx1.c1; have xrx12 := rx1.c2; have yrx10 := rx1.f0; have yrx11 := rx1.f1; have yrx12 := rx1.f2))
 go_wp2
 refine bodyPost_ret (v := .agg #[.bool s1, .slice A m c, .slice A1 m1 c1]) (by simp [results, Tryz.results6, go_sem, rx1.c0, rx1.c1, rx1.c2]) rfl ⟨rfl, below3 (below_step hB0 hb1) (by omega) _ _ _⟩
def sig (b : Bool) (n : Nat) : Int := if n = 0 then 0 else if b then -1 else 1
theorem cmpW_zero (b : Bool) (n : Nat) (hb : sgn b n = b) : cmpW b n false 0 = sig b n := by
 unfold cmpW sig cmpN
 cases b
 · by_cases h : n = 0 <;> simp [h]
 · have : 0 < n := by simpa [sgn] using hb
   simp; omega
set_option maxHeartbeats 4000000 in
theorem WholeSign_n (b : Bool) (n : Nat) (ok : Nat → Prop) (v : Value) (w : World) (hv : Rdv w ok v n) (hb : sgn b n = b) (hl : (digs n).length ≤ 4000000000) :
   Calls Tryz.prog 10 #[.agg #[.bool b, v]] w fun en w' => en = .returned (.int .i64 (sig b n)) ∧ Below w.heap.size w w' := by
 have hc := fun w hv hu => WholeCmp_n b false n 0 ok (fun _ => False) v (.slice none 0 0) w hv hu hl (by rw [digs_zero]; decide)
 rw [cmpW_zero b n hb] at hc
 have HC := Aside0.mk hc
 obtain ⟨A, c, rfl, _, _⟩ := hv.form
 clear hc hb hl
 generalize hm : (digs n).length = m at *
 generalize sig b n = r at *
 go_enter Tryz.func10, Tryz.ntmps10
 go_wp2_with fail
 have bx0 : Box (w.alloc (Obj.cells #[Value.bool b, Value.slice A m c] 28)) w.heap.size [.bool b, .slice A m c] := (Box.new2 w _ _ _ _ (by simp))
 have hB0 : Below w.heap.size w (w.alloc (Obj.cells #[Value.bool b, Value.slice A m c] 28)) := ((Below.refl _ _).alloc (Nat.le_refl _) _)
 have kbx00 := bx0.c0; have kbx01 := bx0.c1; have qbx00 := bx0.f0; have qbx01 := bx0.f1
 replace hv := hv.below hB0
 go_wp2_with (first | (go_at_call 31; (with_reducible refine (HC.out _ hv (Rdv.nil _)).mono ?_); rintro e w1 ⟨rfl, hb1⟩; have sz1 := hb1.size; (try simp at sz1); (with_reducible have bx1 := bx0.below hb1); have kbx10 := bx1.c0; have kbx11 := bx1.c1; have qbx10 := bx1.f0; have qbx11 := bx1.f1))
 go_ret
 exact ⟨rfl, below_step hB0 hb1⟩
end Go.Proofs.YteohmbannpbokaaGreatDoor.SpecWalk
