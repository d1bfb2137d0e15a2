/-
 The reference's ranges: products with a negative number, order; a fraction between two whole numbers.
 The reference's whole numbers beside a fraction.
 Words for this claim.
-/
import Derived.Test.YteohmbannpbokaaGreatDoorJ12
import Derived.Test.YteohmbannpbokaaGreatDoorJ14
set_option maxRecDepth 100000
set_option linter.unusedVariables false
set_option linter.unusedSimpArgs false
namespace Go.Proofs.YteohmbannpbokaaGreatDoor.SpecWalk
open Go.RowKit Go.Proofs.YteohmbannpbokaaGreatDoorW.PrintWords Go.Proofs.YteohmbannpbokaaGreatDoorW.PrintLast Go.Proofs.YteohmbannpbokaaGreatDoorW.PrintMore Go.Proofs.YteohmbannpbokaaGreatDoor.Digs Go.Proofs.YteohmbannpbokaaGreatDoor.StrLaw Go.Proofs.YteohmbannpbokaaGreatDoor.NatLaw Go.Proofs.YteohmbannpbokaaGreatDoor.NatWalk
set_option maxHeartbeats 4000000 in
theorem STim_neg (x y k : Int) (ox oy ok : Nat → Prop) (v u t : Value) (w : World) (hk : k < 0) (hv : Rdv w ox v x.natAbs) (hu : Rdv w oy u y.natAbs) (ht : Rdv w ok t k.natAbs)
   (h1 : (digs x.natAbs).length ≤ 100000000) (h2 : (digs y.natAbs).length ≤ 100000000) (h3 : (digs k.natAbs).length ≤ 100000000) :
   Calls Tryz.prog 58 #[.agg #[.bool (ng x), v, .bool (ng y), u], .agg #[.bool (ng k), t]] w fun en w' => ∃ z t, en = .returned (.agg #[.bool (ng (y * k)), z, .bool (ng (x * k)), t]) ∧ Rdv w' (fun k => w.heap.size ≤ k) z (y * k).natAbs ∧ Rdv w' (fun k => w.heap.size ≤ k) t (x * k).natAbs ∧ Below w.heap.size w w' := by
 obtain ⟨A, c, rfl, _, _⟩ := hv.form
 obtain ⟨A', c', rfl, _, _⟩ := hu.form
 obtain ⟨B, d, rfl, _, _⟩ := ht.form
 have H1 := Aside0.mk (fun ox oy v u w hv hu => SMin_n x y ox oy v u w hv hu)
 have H2 := Aside0.mk (fun oa v w hv => WMin_n k oa v w hv)
 have H3 := Aside0.mk (fun ox oy ok v u t w hv hu ht => STim_pos (-y) (-x) (-k) ox oy ok v u t w (by omega) hv hu ht (by rw [Int.natAbs_neg]; exact h2) (by rw [Int.natAbs_neg]; exact h1) (by rw [Int.natAbs_neg]; exact h3))
 have ek : ng k = true := by simp [ng]; omega
 rw [ek] at H2 ⊢
 simp only [Int.neg_mul_neg, Int.natAbs_neg] at H3
 clear h1 h2 h3 hk ek
 generalize ng (x * k) = s at *
 generalize ng (y * k) = s' at *
 generalize ng x = a at *
 generalize ng y = a' at *
 generalize ng (-x) = b at *
 generalize ng (-y) = b' at *
 generalize ng (-k) = b'' at *
 generalize (x * k).natAbs = q at *
 generalize (y * k).natAbs = q' at *
 generalize x.natAbs = p at *
 generalize y.natAbs = p' at *
 generalize k.natAbs = r at *
 generalize hm : (digs p).length = m at *
 generalize hm' : (digs p').length = m' at *
 generalize hn : (digs r).length = n at *
 clear hm hm' hn
 go_enter Tryz.func58, Tryz.ntmps58
 go_wp2_with fail
 have ax0 : Box (((w.alloc (Obj.cells #[Value.bool a, Value.slice A m c, Value.bool a', Value.slice A' m' c'] 74)).alloc (Obj.cells #[Value.bool true, Value.slice B n d] 28)).alloc (Obj.cells #[Value.bool false, Value.slice none 0 0, Value.bool false, Value.slice none 0 0] 74)).drew w.heap.size [.bool a, .slice A m c, .bool a', .slice A' m' c'] := (((Box.new4 w _ _ _ _ _ _ (by simp)).alloc _).alloc _).drew
 have bx0 : Box (((w.alloc (Obj.cells #[Value.bool a, Value.slice A m c, Value.bool a', Value.slice A' m' c'] 74)).alloc (Obj.cells #[Value.bool true, Value.slice B n d] 28)).alloc (Obj.cells #[Value.bool false, Value.slice none 0 0, Value.bool false, Value.slice none 0 0] 74)).drew (w.heap.size + 1) [.bool true, .slice B n d] := ((Box.new2 (w.alloc (Obj.cells #[Value.bool a, Value.slice A m c, Value.bool a', Value.slice A' m' c'] 74)) _ _ _ _ (by simp)).alloc _).drew
 have rx0 : Box (((w.alloc (Obj.cells #[Value.bool a, Value.slice A m c, Value.bool a', Value.slice A' m' c'] 74)).alloc (Obj.cells #[Value.bool true, Value.slice B n d] 28)).alloc (Obj.cells #[Value.bool false, Value.slice none 0 0, Value.bool false, Value.slice none 0 0] 74)).drew (w.heap.size + 1 + 1) [.bool false, .slice none 0 0, .bool false, .slice none 0 0] := (Box.new4 ((w.alloc (Obj.cells #[Value.bool a, Value.slice A m c, Value.bool a', Value.slice A' m' c'] 74)).alloc (Obj.cells #[Value.bool true, Value.slice B n d] 28)) _ _ _ _ _ _ (by simp)).drew
 have hB0 : Below w.heap.size w (((w.alloc (Obj.cells #[Value.bool a, Value.slice A m c, Value.bool a', Value.slice A' m' c'] 74)).alloc (Obj.cells #[Value.bool true, Value.slice B n d] 28)).alloc (Obj.cells #[Value.bool false, Value.slice none 0 0, Value.bool false, Value.slice none 0 0] 74)).drew := ((((Below.refl _ _).alloc (Nat.le_refl _) _).alloc (by simp) _).alloc (by simp; omega) _).drew
 replace hv := hv.below hB0
 replace hu := hu.below hB0
 replace ht := ht.below hB0
 have neax : w.heap.size ≠ (w.heap.size + 1 + 1) := by omega
 have nebx : (w.heap.size + 1) ≠ (w.heap.size + 1 + 1) := by omega
 go_region_held3 (fun w' => w'.cell? ⟨w.heap.size, 0, none⟩ = some (.bool a) ∧ w'.cell? ⟨w.heap.size, 1, none⟩ = some (.slice A m c) ∧ w'.cell? ⟨w.heap.size, 2, none⟩ = some (.bool a') ∧ w'.cell? ⟨w.heap.size, 3, none⟩ = some (.slice A' m' c') ∧ w'.cell? ⟨(w.heap.size + 1), 0, none⟩ = some (.bool true) ∧ w'.cell? ⟨(w.heap.size + 1), 1, none⟩ = some (.slice B n d))
     (first
       | (go_keep; done)
       | exact ⟨ax3.c0, ax3.c1, ax3.c2, ax3.c3, bx3.c0, bx3.c1⟩
       | exact ⟨ax2.c0, ax2.c1, ax2.c2, ax2.c3, bx2.c0, bx2.c1⟩
       | exact ⟨ax1.c0, ax1.c1, ax1.c2, ax1.c3, bx1.c0, bx1.c1⟩
       | exact ⟨(ax3.far4 neax _ _ _ _).c0, (ax3.far4 neax _ _ _ _).c1, (ax3.far4 neax _ _ _ _).c2, (ax3.far4 neax _ _ _ _).c3, (bx3.far4 nebx _ _ _ _).c0, (bx3.far4 nebx _ _ _ _).c1⟩)
     (first
       | (go_at_call 56; with_reducible refine (H1.out _ _ _ _ _ hv hu).mono ?_; rintro e w1 ⟨rfl, hb1⟩; replace hv := hv.below hb1; replace hu := hu.below hb1; replace ht := ht.below hb1; have sz1 := hb1.size; (try simp at sz1); have ax1 := ax0.below hb1; have xax10 := ax1.c0; have xax11 := ax1.c1; have xax12 := ax1.c2; have xax13 := ax1.c3; have bx1 := bx0.below hb1; have xbx10 := bx1.c0; have xbx11 := bx1.c1; have rx1 := rx0.below hb1; have xrx10 := rx1.c0; have xrx11 := rx1.c1; have xrx12 := rx1.c2; have xrx13 := rx1.c3; have yrx10 := rx1.f0; have yrx11 := rx1.f1; have yrx12 := rx1.f2; have yrx13 := rx1.f3)
       | (go_at_call 19; with_reducible refine (H2.out _ _ _ ht).mono ?_; rintro e w2 ⟨rfl, hb2⟩; replace hv := hv.below hb2; replace hu := hu.below hb2; replace ht := ht.below hb2; have sz2 := hb2.size; have ax2 := ax1.below hb2; have xax20 := ax2.c0; have xax21 := ax2.c1; have xax22 := ax2.c2; have xax23 := ax2.c3; have bx2 := bx1.below hb2; have xbx20 := bx2.c0; have xbx21 := bx2.c1; have rx2 := rx1.below hb2; have xrx20 := rx2.c0; have xrx21 := rx2.c1; have xrx22 := rx2.c2; have xrx23 := rx2.c3; have yrx20 := rx2.f0; have yrx21 := rx2.f1; have yrx22 := rx2.f2; have yrx23 := rx2.f3)
       | (go_at_call 58; with_reducible refine (H3.out _ _ _ _ _ _ _ hu hv ht).mono ?_; rintro e w3 ⟨z1, z2, rfl, hz1, hz2, hb3⟩; replace hz1 := hz1.mono (ok' := fun k => w.heap.size + 3 ≤ k) (fun k hk => by have h0 : _ ≤ k := hk; have := hb1.size; have := hb2.size; (try simp at *); omega); replace hz2 := hz2.mono (ok' := fun k => w.heap.size + 3 ≤ k) (fun k hk => by have h0 : _ ≤ k := hk; have := hb1.size; have := hb2.size; (try simp at *); omega); obtain ⟨A1, c1, rfl, _, _⟩ := hz1.form; obtain ⟨A2, c2, rfl, _, _⟩ := hz2.form; have sz3 := hb3.size; have ax3 := ax2.below hb3; have xax30 := ax3.c0; have xax31 := ax3.c1; have xax32 := ax3.c2; have xax33 := ax3.c3; have bx3 := bx2.below hb3; have xbx30 := bx3.c0; have xbx31 := bx3.c1; have rx3 := rx2.below hb3; have xrx30 := rx3.c0; have xrx31 := rx3.c1; have xrx32 := rx3.c2; have xrx33 := rx3.c3; have yrx30 := rx3.f0; have yrx31 := rx3.f1; have yrx32 := rx3.f2; have yrx33 := rx3.f3))
 go_wp2
 refine bodyPost_ret (v := .agg #[.bool s', .slice A1 (digs q').length c1, .bool s, .slice A2 (digs q).length c2]) (by simp [results, Tryz.results58, go_sem, rx3.c0, rx3.c1, rx3.c2, rx3.c3]) rfl ?_
 exact ⟨_, _, rfl, (hz1.far4 (fun k hk => by omega) _ _ _ _).mono (fun k hk => by omega), (hz2.far4 (fun k hk => by omega) _ _ _ _).mono (fun k hk => by omega), below4 (below_step (below_step (below_step hB0 hb1) hb2) hb3) (by omega) _ _ _ _⟩
def bes (x y x' y' : Int) : Int := if y < x' then -1 else if y' < x then 1 else 0
set_option maxHeartbeats 4000000 in
theorem SBes_k (k1 k2 : Int) (a a' b b' : Bool) (p p' r r' : Nat) (ox oy ox' oy' : Nat → Prop) (v u v' u' : Value) (w : World) (hv : Rdv w ox v p) (hu : Rdv w oy u p') (hv' : Rdv w ox' v' r) (hu' : Rdv w oy' u' r')
   (H1 : Aside0 (∀ (oa ob : Nat → Prop) (v u : Value) (w : World), Rdv w oa v p' → Rdv w ob u r → Calls Tryz.prog 31 #[.agg #[.bool a', v], .agg #[.bool b, u]] w fun en w' => en = .returned (.int .i64 k1) ∧ Below w.heap.size w w'))
   (H2 : Aside0 (∀ (oa ob : Nat → Prop) (v u : Value) (w : World), Rdv w oa v p → Rdv w ob u r' → Calls Tryz.prog 31 #[.agg #[.bool a, v], .agg #[.bool b', u]] w fun en w' => en = .returned (.int .i64 k2) ∧ Below w.heap.size w w')) :
   Calls Tryz.prog 33 #[.agg #[.bool a, v, .bool a', u], .agg #[.bool b, v', .bool b', u']] w fun en w' => en = .returned (.int .i64 (if k1 < 0 then -1 else if 0 < k2 then 1 else 0)) ∧ Below w.heap.size w w' := by
 obtain ⟨A, c, rfl, _, _⟩ := hv.form
 obtain ⟨A', c', rfl, _, _⟩ := hu.form
 obtain ⟨B, d, rfl, _, _⟩ := hv'.form
 obtain ⟨B', d', rfl, _, _⟩ := hu'.form
 generalize hm : (digs p).length = m at *
 generalize hm' : (digs p').length = m' at *
 generalize hn : (digs r).length = n at *
 generalize hn' : (digs r').length = n' at *
 clear hm hm' hn hn'
 by_cases h1 : k1 < 0
 · have p1 := eq_true h1
   simp only [if_pos h1]
   clear h1
   go_enter Tryz.func33, Tryz.ntmps33
   go_wp2_with fail
   have ax0 : Box ((w.alloc (Obj.cells #[Value.bool a, Value.slice A m c, Value.bool a', Value.slice A' m' c'] 74)).alloc (Obj.cells #[Value.bool b, Value.slice B n d, Value.bool b', Value.slice B' n' d'] 74)) w.heap.size [.bool a, .slice A m c, .bool a', .slice A' m' c'] := ((Box.new4 w _ _ _ _ _ _ (by simp)).alloc _)
   have bx0 : Box ((w.alloc (Obj.cells #[Value.bool a, Value.slice A m c, Value.bool a', Value.slice A' m' c'] 74)).alloc (Obj.cells #[Value.bool b, Value.slice B n d, Value.bool b', Value.slice B' n' d'] 74)) (w.heap.size + 1) [.bool b, .slice B n d, .bool b', .slice B' n' d'] := (Box.new4 (w.alloc (Obj.cells #[Value.bool a, Value.slice A m c, Value.bool a', Value.slice A' m' c'] 74)) _ _ _ _ _ _ (by simp))
   have hB0 : Below w.heap.size w ((w.alloc (Obj.cells #[Value.bool a, Value.slice A m c, Value.bool a', Value.slice A' m' c'] 74)).alloc (Obj.cells #[Value.bool b, Value.slice B n d, Value.bool b', Value.slice B' n' d'] 74)) := (((Below.refl _ _).alloc (Nat.le_refl _) _).alloc (by simp) _)
   replace hv := hv.below hB0
   replace hu := hu.below hB0
   replace hv' := hv'.below hB0
   replace hu' := hu'.below hB0
   generalize ((w.alloc (Obj.cells #[Value.bool a, Value.slice A m c, Value.bool a', Value.slice A' m' c'] 74)).alloc (Obj.cells #[Value.bool b, Value.slice B n d, Value.bool b', Value.slice B' n' d'] 74)) = w0 at *
   have q0 := ax0.c0; have q1 := ax0.c1; have q2 := ax0.c2; have q3 := ax0.c3; have q4 := bx0.c0; have q5 := bx0.c1; have q6 := bx0.c2; have q7 := bx0.c3
   go_wp2_with (first | (go_at_call 31; with_reducible refine (H1.out _ _ _ _ _ hu hv').mono ?_; rintro e w1 ⟨rfl, hb1⟩; replace hv := hv.below hb1; replace hu' := hu'.below hb1; replace ax0 := ax0.below hb1; replace bx0 := bx0.below hb1; replace hB0 := below_step hB0 hb1; have q0 := ax0.c0; have q1 := ax0.c1; have q2 := ax0.c2; have q3 := ax0.c3; have q4 := bx0.c0; have q5 := bx0.c1; have q6 := bx0.c2; have q7 := bx0.c3) | (go_at_call 31; with_reducible refine (H2.out _ _ _ _ _ hv hu').mono ?_; rintro e w1 ⟨rfl, hb1⟩; replace hB0 := below_step hB0 hb1))
   go_ret
   exact ⟨rfl, hB0⟩
 · have p1 := eq_false h1
   simp only [if_neg h1]
   clear h1
   by_cases h2 : 0 < k2
   · have p2 := eq_true h2
     simp only [if_pos h2]
     clear h2
     go_enter Tryz.func33, Tryz.ntmps33
     go_wp2_with fail
     have ax0 : Box ((w.alloc (Obj.cells #[Value.bool a, Value.slice A m c, Value.bool a', Value.slice A' m' c'] 74)).alloc (Obj.cells #[Value.bool b, Value.slice B n d, Value.bool b', Value.slice B' n' d'] 74)) w.heap.size [.bool a, .slice A m c, .bool a', .slice A' m' c'] := ((Box.new4 w _ _ _ _ _ _ (by simp)).alloc _)
     have bx0 : Box ((w.alloc (Obj.cells #[Value.bool a, Value.slice A m c, Value.bool a', Value.slice A' m' c'] 74)).alloc (Obj.cells #[Value.bool b, Value.slice B n d, Value.bool b', Value.slice B' n' d'] 74)) (w.heap.size + 1) [.bool b, .slice B n d, .bool b', .slice B' n' d'] := (Box.new4 (w.alloc (Obj.cells #[Value.bool a, Value.slice A m c, Value.bool a', Value.slice A' m' c'] 74)) _ _ _ _ _ _ (by simp))
     have hB0 : Below w.heap.size w ((w.alloc (Obj.cells #[Value.bool a, Value.slice A m c, Value.bool a', Value.slice A' m' c'] 74)).alloc (Obj.cells #[Value.bool b, Value.slice B n d, Value.bool b', Value.slice B' n' d'] 74)) := (((Below.refl _ _).alloc (Nat.le_refl _) _).alloc (by simp) _)
     replace hv := hv.below hB0
     replace hu := hu.below hB0
     replace hv' := hv'.below hB0
     replace hu' := hu'.below hB0
     generalize ((w.alloc (Obj.cells #[Value.bool a, Value.slice A m c, Value.bool a', Value.slice A' m' c'] 74)).alloc (Obj.cells #[Value.bool b, Value.slice B n d, Value.bool b', Value.slice B' n' d'] 74)) = w0 at *
     have q0 := ax0.c0; have q1 := ax0.c1; have q2 := ax0.c2; have q3 := ax0.c3; have q4 := bx0.c0; have q5 := bx0.c1; have q6 := bx0.c2; have q7 := bx0.c3
     go_wp2_with (first | (go_at_call 31; with_reducible refine (H1.out _ _ _ _ _ hu hv').mono ?_; rintro e w1 ⟨rfl, hb1⟩; replace hv := hv.below hb1; replace hu' := hu'.below hb1; replace ax0 := ax0.below hb1; replace bx0 := bx0.below hb1; replace hB0 := below_step hB0 hb1; have q0 := ax0.c0; have q1 := ax0.c1; have q2 := ax0.c2; have q3 := ax0.c3; have q4 := bx0.c0; have q5 := bx0.c1; have q6 := bx0.c2; have q7 := bx0.c3) | (go_at_call 31; with_reducible refine (H2.out _ _ _ _ _ hv hu').mono ?_; rintro e w1 ⟨rfl, hb1⟩; replace hB0 := below_step hB0 hb1))
     go_ret
     exact ⟨rfl, hB0⟩
   · have p2 := eq_false h2
     simp only [if_neg h2]
     clear h2
     go_enter Tryz.func33, Tryz.ntmps33
     go_wp2_with fail
     have ax0 : Box ((w.alloc (Obj.cells #[Value.bool a, Value.slice A m c, Value.bool a', Value.slice A' m' c'] 74)).alloc (Obj.cells #[Value.bool b, Value.slice B n d, Value.bool b', Value.slice B' n' d'] 74)) w.heap.size [.bool a, .slice A m c, .bool a', .slice A' m' c'] := ((Box.new4 w _ _ _ _ _ _ (by simp)).alloc _)
     have bx0 : Box ((w.alloc (Obj.cells #[Value.bool a, Value.slice A m c, Value.bool a', Value.slice A' m' c'] 74)).alloc (Obj.cells #[Value.bool b, Value.slice B n d, Value.bool b', Value.slice B' n' d'] 74)) (w.heap.size + 1) [.bool b, .slice B n d, .bool b', .slice B' n' d'] := (Box.new4 (w.alloc (Obj.cells #[Value.bool a, Value.slice A m c, Value.bool a', Value.slice A' m' c'] 74)) _ _ _ _ _ _ (by simp))
     have hB0 : Below w.heap.size w ((w.alloc (Obj.cells #[Value.bool a, Value.slice A m c, Value.bool a', Value.slice A' m' c'] 74)).alloc (Obj.cells #[Value.bool b, Value.slice B n d, Value.bool b', Value.slice B' n' d'] 74)) := (((Below.refl _ _).alloc (Nat.le_refl _) _).alloc (by simp) _)
     replace hv := hv.below hB0
     replace hu := hu.below hB0
     replace hv' := hv'.below hB0
     replace hu' := hu'.below hB0
     generalize ((w.alloc (Obj.cells #[Value.bool a, Value.slice A m c, Value.bool a', Value.slice A' m' c'] 74)).alloc (Obj.cells #[Value.bool b, Value.slice B n d, Value.bool b', Value.slice B' n' d'] 74)) = w0 at *
     have q0 := ax0.c0; have q1 := ax0.c1; have q2 := ax0.c2; have q3 := ax0.c3; have q4 := bx0.c0; have q5 := bx0.c1; have q6 := bx0.c2; have q7 := bx0.c3
     go_wp2_with (first | (go_at_call 31; with_reducible refine (H1.out _ _ _ _ _ hu hv').mono ?_; rintro e w1 ⟨rfl, hb1⟩; replace hv := hv.below hb1; replace hu' := hu'.below hb1; replace ax0 := ax0.below hb1; replace bx0 := bx0.below hb1; replace hB0 := below_step hB0 hb1; have q0 := ax0.c0; have q1 := ax0.c1; have q2 := ax0.c2; have q3 := ax0.c3; have q4 := bx0.c0; have q5 := bx0.c1; have q6 := bx0.c2; have q7 := bx0.c3) | (go_at_call 31; with_reducible refine (H2.out _ _ _ _ _ hv hu').mono ?_; rintro e w1 ⟨rfl, hb1⟩; replace hB0 := below_step hB0 hb1))
     go_ret
     exact ⟨rfl, hB0⟩
theorem SBes_n (x y x' y' : Int) (ox oy ox' oy' : Nat → Prop) (v u v' u' : Value) (w : World) (hv : Rdv w ox v x.natAbs) (hu : Rdv w oy u y.natAbs) (hv' : Rdv w ox' v' x'.natAbs) (hu' : Rdv w oy' u' y'.natAbs)
   (h1 : (digs x.natAbs).length ≤ 1000000000) (h2 : (digs y.natAbs).length ≤ 1000000000) (h3 : (digs x'.natAbs).length ≤ 1000000000) (h4 : (digs y'.natAbs).length ≤ 1000000000) :
   Calls Tryz.prog 33 #[.agg #[.bool (ng x), v, .bool (ng y), u], .agg #[.bool (ng x'), v', .bool (ng y'), u']] w fun en w' => en = .returned (.int .i64 (bes x y x' y')) ∧ Below w.heap.size w w' := by
 have := SBes_k (cmpI y x') (cmpI x y') (ng x) (ng y) (ng x') (ng y') _ _ _ _ ox oy ox' oy' v u v' u' w hv hu hv' hu'
   ⟨fun oa ob v u w hv hu => WCmp_n y x' oa ob v u w hv hu (by omega) (by omega)⟩ ⟨fun oa ob v u w hv hu => WCmp_n x y' oa ob v u w hv hu (by omega) (by omega)⟩
 have e : (if cmpI y x' < 0 then (-1 : Int) else if 0 < cmpI x y' then 1 else 0) = bes x y x' y' := by
   unfold bes cmpI
   repeat' split
   all_goals omega
 rwa [e] at this
def scL (x : Int) (d p : Nat) : Int := x * 10 ^ p / d
def scH (x : Int) (d p : Nat) : Int := -(-x * 10 ^ p / d)
theorem sc_eq (x : Int) (d p : Nat) (hd : 0 < d) : scL x d p = (if ng x then -(rnd true (x.natAbs * 10 ^ p) d : Int) else (rnd false (x.natAbs * 10 ^ p) d : Int)) ∧ scH x d p = (if ng x then -(rnd false (x.natAbs * 10 ^ p) d : Int) else (rnd true (x.natAbs * 10 ^ p) d : Int)) := by
 have key : ∀ n : Nat, (n : Int) / d = (rnd false n d : Int) ∧ -(-(n : Int) / d) = (rnd true n d : Int) := by
   intro n
   constructor
   · unfold rnd
     rw [if_neg (by decide : ¬ (false = true)), ite_self]
     exact (Int.natCast_ediv n d).symm
   · have hm := Nat.div_add_mod n d
     have hl := Nat.mod_lt n hd
     unfold rnd
     generalize n / d = q at *
     generalize n % d = r at *
     by_cases h : r = 0
     · rw [if_pos h]
       have : -(n : Int) = -(q : Int) * d := by rw [← hm, h]; simp [Int.mul_comm, Int.mul_neg]
       rw [this, Int.mul_ediv_cancel _ (by omega)]; omega
     · rw [if_neg h, if_pos rfl]
       have e1 : -(n : Int) / d = -(q : Int) - 1 := by
         have : -(n : Int) = (d - r : Int) + (-(q : Int) - 1) * d := by
           rw [← hm]
           rw [Int.natCast_add, Int.natCast_mul, Int.sub_mul, Int.neg_mul, Int.mul_comm (d : Int) (q : Int)]
           omega
         rw [this, Int.add_mul_ediv_right _ _ (by omega : (d : Int) ≠ 0), Int.ediv_eq_zero_of_lt (by omega) (by omega)]
         omega
       rw [e1]; omega
 obtain ⟨k1, k2⟩ := key (x.natAbs * 10 ^ p)
 have ex := of_ng x
 unfold scL scH
 rw [Int.natCast_mul, Int.natCast_pow] at k1 k2
 have e10 : ((10 : Nat) : Int) = 10 := rfl
 rw [e10] at k1 k2
 cases h1 : ng x <;> rw [h1] at ex <;> simp only [Bool.false_eq_true, if_true, if_false] at ex ⊢
 · rw [← k1, ← k2, ← ex, Int.neg_mul]; exact ⟨rfl, rfl⟩
 · rw [← k1, ← k2]
   have : x * 10 ^ p = -((x.natAbs : Int) * 10 ^ p) := by rw [← Int.neg_mul, ← ex]
   rw [Int.neg_mul, this, Int.neg_neg, Int.neg_neg]
   exact ⟨rfl, rfl⟩
set_option maxHeartbeats 4000000 in
theorem Scaled_k (a : Bool) (m d p : Nat) (oa od : Nat → Prop) (v x : Value) (w : World) (hv : Rdv w oa v m) (hx : Rdv w od x d) (hd : 0 < d) (hp : p ≤ 1000) (hlm : (digs m).length ≤ 1000) (hld : (digs d).length ≤ 1000) :
   Calls Tryz.prog 34 #[.agg #[.bool a, v, x], .int .i64 p] w fun e w' => ∃ z t, e = .returned (.agg #[.bool (sgn a (rnd a (m * 10 ^ p) d)), z, .bool (sgn a (rnd (!a) (m * 10 ^ p) d)), t]) ∧ Rdv w' (fun k => w.heap.size ≤ k) z (rnd a (m * 10 ^ p) d) ∧ Rdv w' (fun k => w.heap.size ≤ k) t (rnd (!a) (m * 10 ^ p) d) ∧ Below w.heap.size w w' := by
 obtain ⟨A, c, rfl, _, _⟩ := hv.form
 obtain ⟨A', c', rfl, _, _⟩ := hx.form
 have H1 := Aside0.mk (fun oa od v x w hv hx => round_n a m d p 2 a oa od v x w hv hx hd hp hlm hld (by simp [Prounds.spec_rounds.f]))
 have H2 := Aside0.mk (fun oa od v x w hv hx => round_n a m d p 3 (!a) oa od v x w hv hx hd hp hlm hld (by simp [Prounds.spec_rounds.f]))
 have hf : ∀ (b : Bool) (A : Option Addr) (l c : Nat) (e : Int) (w : World), (Instr.field 47 (.agg #[.bool b, .slice A l c, .int .i64 e]) 0).run Tryz.prog w = .ok (.agg #[.bool b, .slice A l c]) w := fun _ _ _ _ _ _ => by kernel_rfl
 clear hd hp hlm hld
 generalize sgn a (rnd a (m * 10 ^ p) d) = s at *
 generalize sgn a (rnd (!a) (m * 10 ^ p) d) = s' at *
 generalize rnd a (m * 10 ^ p) d = q at *
 generalize rnd (!a) (m * 10 ^ p) d = q' at *
 generalize (-(p : Int)) = E at *
 generalize (p : Int) = P at *
 generalize hm : (digs m).length = m0 at *
 generalize hn : (digs d).length = m1 at *
 clear hm hn
 go_enter Tryz.func34, Tryz.ntmps34
 go_wp2_with fail
 have ax0 : Box ((w.alloc (Obj.cells #[Value.bool a, Value.slice A m0 c, Value.slice A' m1 c'] 30)).alloc (Obj.cells #[Value.bool false, Value.slice none 0 0, Value.bool false, Value.slice none 0 0] 74)).drew w.heap.size [.bool a, .slice A m0 c, .slice A' m1 c'] := ((Box.new3 w _ _ _ _ _ (by simp)).alloc _).drew
 have rx0 : Box ((w.alloc (Obj.cells #[Value.bool a, Value.slice A m0 c, Value.slice A' m1 c'] 30)).alloc (Obj.cells #[Value.bool false, Value.slice none 0 0, Value.bool false, Value.slice none 0 0] 74)).drew (w.heap.size + 1) [.bool false, .slice none 0 0, .bool false, .slice none 0 0] := (Box.new4 (w.alloc (Obj.cells #[Value.bool a, Value.slice A m0 c, Value.slice A' m1 c'] 30)) _ _ _ _ _ _ (by simp)).drew
 have hB0 : Below w.heap.size w ((w.alloc (Obj.cells #[Value.bool a, Value.slice A m0 c, Value.slice A' m1 c'] 30)).alloc (Obj.cells #[Value.bool false, Value.slice none 0 0, Value.bool false, Value.slice none 0 0] 74)).drew := (((Below.refl _ _).alloc (Nat.le_refl _) _).alloc (by simp) _).drew
 replace hv := hv.below hB0
 replace hx := hx.below hB0
 have neax : w.heap.size ≠ (w.heap.size + 1) := by omega
 go_region_held3 (fun w' => w'.cell? ⟨w.heap.size, 0, none⟩ = some (.bool a) ∧ w'.cell? ⟨w.heap.size, 1, none⟩ = some (.slice A m0 c) ∧ w'.cell? ⟨w.heap.size, 2, none⟩ = some (.slice A' m1 c'))
     (first
       | (go_keep; done)
       | exact ⟨ax2.c0, ax2.c1, ax2.c2⟩
       | exact ⟨ax1.c0, ax1.c1, ax1.c2⟩
       | exact ⟨(ax2.far4 neax _ _ _ _).c0, (ax2.far4 neax _ _ _ _).c1, (ax2.far4 neax _ _ _ _).c2⟩)
     (first
       | (go_at_call 59; with_reducible refine (H1.out _ _ _ _ _ hv hx).mono ?_; rintro e w1 ⟨z1, rfl, hz1, hb1⟩; replace hz1 := hz1.mono (ok' := fun k => w.heap.size + 2 ≤ k) (fun k hk => by simp at hk; omega); obtain ⟨A1, c1, rfl, _, _⟩ := hz1.form; replace hv := hv.below hb1; replace hx := hx.below hb1; have sz1 := hb1.size; (try simp at sz1); have ax1 := ax0.below hb1; have xax10 := ax1.c0; have xax11 := ax1.c1; have xax12 := ax1.c2; have rx1 := rx0.below hb1; have xrx10 := rx1.c0; have xrx11 := rx1.c1; have xrx12 := rx1.c2; have xrx13 := rx1.c3; have yrx10 := rx1.f0; have yrx11 := rx1.f1; have yrx12 := rx1.f2; have yrx13 := rx1.f3)
       | (go_at_call 59; with_reducible refine (H2.out _ _ _ _ _ hv hx).mono ?_; rintro e w2 ⟨z2, rfl, hz2, hb2⟩; replace hz2 := hz2.mono (ok' := fun k => w.heap.size + 2 ≤ k) (fun k hk => by have h0 : _ ≤ k := hk; have := hb1.size; (try simp at this); omega); replace hz1 := hz1.below hb2; obtain ⟨A2, c2, rfl, _, _⟩ := hz2.form; have sz2 := hb2.size; have ax2 := ax1.below hb2; have xax20 := ax2.c0; have xax21 := ax2.c1; have xax22 := ax2.c2; have rx2 := rx1.below hb2; have xrx20 := rx2.c0; have xrx21 := rx2.c1; have xrx22 := rx2.c2; have xrx23 := rx2.c3; have yrx20 := rx2.f0; have yrx21 := rx2.f1; have yrx22 := rx2.f2; have yrx23 := rx2.f3))
 go_wp2
 refine bodyPost_ret (v := .agg #[.bool s, .slice A1 (digs q).length c1, .bool s', .slice A2 (digs q').length c2]) (by simp [results, Tryz.results34, go_sem, rx2.c0, rx2.c1, rx2.c2, rx2.c3]) rfl ?_
 exact ⟨_, _, rfl, (hz1.far4 (fun k hk => by omega) _ _ _ _).mono (fun k hk => by omega), (hz2.far4 (fun k hk => by omega) _ _ _ _).mono (fun k hk => by omega), below4 (below_step (below_step hB0 hb1) hb2) (by omega) _ _ _ _⟩
theorem Scaled_n (x : Int) (d p : Nat) (oa od : Nat → Prop) (v u : Value) (w : World) (hv : Rdv w oa v x.natAbs) (hx : Rdv w od u d) (hd : 0 < d) (hp : p ≤ 1000) (hlm : (digs x.natAbs).length ≤ 1000) (hld : (digs d).length ≤ 1000) :
   Calls Tryz.prog 34 #[.agg #[.bool (ng x), v, u], .int .i64 p] w fun e w' => ∃ z t, e = .returned (.agg #[.bool (ng (scL x d p)), z, .bool (ng (scH x d p)), t]) ∧ Rdv w' (fun k => w.heap.size ≤ k) z (scL x d p).natAbs ∧ Rdv w' (fun k => w.heap.size ≤ k) t (scH x d p).natAbs ∧ Below w.heap.size w w' := by
 have := Scaled_k (ng x) x.natAbs d p oa od v u w hv hx hd hp hlm hld
 obtain ⟨k1, k2⟩ := sc_eq x d p hd
 obtain ⟨e1, e2⟩ := sgn_eq (b := ng x) (n := rnd (ng x) (x.natAbs * 10 ^ p) d) (z := scL x d p) (by rw [k1]; cases ng x <;> rfl)
 obtain ⟨e3, e4⟩ := sgn_eq (b := ng x) (n := rnd (!ng x) (x.natAbs * 10 ^ p) d) (z := scH x d p) (by rw [k2]; cases ng x <;> rfl)
 rwa [e1, e3, e2, e4] at this
end Go.Proofs.YteohmbannpbokaaGreatDoor.SpecWalk
namespace Go.Proofs.YteohmbannpbokaaGreatDoor.ExpLaw
theorem one_pow (n : Nat) : (1 : Rat) ^ n = 1 := by
 induction n with
 | zero => exact Rat.pow_zero 1
 | succ n ih => rw [Rat.pow_succ, ih]; grind
theorem mul_pow (a b : Rat) (n : Nat) : (a * b) ^ n = a ^ n * b ^ n := by
 induction n with
 | zero => simp [Rat.pow_zero]
 | succ n ih => rw [Rat.pow_succ, Rat.pow_succ, Rat.pow_succ, ih]; grind
theorem pow_add (a : Rat) (m n : Nat) : a ^ (m + n) = a ^ m * a ^ n := by
 induction n with
 | zero => simp [Rat.pow_zero]
 | succ n ih => rw [← Nat.add_assoc, Rat.pow_succ, Rat.pow_succ, ih]; grind
theorem pow_mul (a : Rat) (m n : Nat) : a ^ (m * n) = (a ^ m) ^ n := by
 induction n with
 | zero => simp [Rat.pow_zero]
 | succ n ih => rw [Nat.mul_succ, pow_add, Rat.pow_succ, ih]
theorem pow_nonneg {a : Rat} (h : 0 ≤ a) (n : Nat) : 0 ≤ a ^ n := by
 induction n with
 | zero => rw [Rat.pow_zero]; decide
 | succ n ih => rw [Rat.pow_succ]; exact Rat.mul_nonneg ih h
theorem mul_le_mul {a b c d : Rat} (h1 : a ≤ b) (h2 : c ≤ d) (ha : 0 ≤ a) (hd : 0 ≤ d) : a * c ≤ b * d :=
 Rat.le_trans (Rat.mul_le_mul_of_nonneg_left h2 ha) (Rat.mul_le_mul_of_nonneg_right h1 hd)
theorem pow_le {a b : Rat} (h : 0 ≤ a) (hab : a ≤ b) (n : Nat) : a ^ n ≤ b ^ n := by
 induction n with
 | zero => rw [Rat.pow_zero, Rat.pow_zero]; exact Rat.le_refl
 | succ n ih =>
   rw [Rat.pow_succ, Rat.pow_succ]
   exact mul_le_mul ih hab (pow_nonneg h n) (by grind)
theorem pow_le_one {a : Rat} (h : 0 ≤ a) (h1 : a ≤ 1) (n : Nat) : a ^ n ≤ 1 := by
 have := pow_le h h1 n
 rwa [one_pow] at this
theorem one_le_pow {a : Rat} (h1 : 1 ≤ a) (n : Nat) : 1 ≤ a ^ n := by
 have := pow_le (by decide : (0 : Rat) ≤ 1) h1 n
 rwa [one_pow] at this
theorem cast_succ (n : Nat) : ((n + 1 : Nat) : Rat) = (n : Rat) + 1 := by simp
theorem cast_nonneg (n : Nat) : (0 : Rat) ≤ (n : Rat) := by
 have := (Rat.natCast_le_natCast (a := 0) (b := n)).2 (Nat.zero_le n)
 simpa using this
theorem cast_le {m n : Nat} (h : m ≤ n) : (m : Rat) ≤ (n : Rat) := Rat.natCast_le_natCast.2 h
theorem cast_pos {n : Nat} (h : 0 < n) : (0 : Rat) < (n : Rat) := by
 have := cast_le (Nat.succ_le_of_lt h)
 rw [cast_succ] at this
 grind
theorem bern {x : Rat} (hx : -1 ≤ x) (n : Nat) : 1 + n * x ≤ (1 + x) ^ n := by
 induction n with
 | zero => rw [Rat.pow_zero]; grind
 | succ n ih =>
   rw [Rat.pow_succ, cast_succ]
   have h := Rat.mul_le_mul_of_nonneg_right ih (by grind : (0 : Rat) ≤ 1 + x)
   have hn := cast_nonneg n
   have h2 : 0 ≤ (n : Rat) * (x * x) := Rat.mul_nonneg hn (by
     rcases Rat.le_total (a := 0) (b := x) with h | h
     · exact Rat.mul_nonneg h h
     · have := Rat.mul_nonneg (by grind : 0 ≤ -x) (by grind : 0 ≤ -x); grind)
   grind
theorem sq_nonneg (x : Rat) : 0 ≤ x * x := by
 rcases Rat.le_total (a := 0) (b := x) with h | h
 · exact Rat.mul_nonneg h h
 · have := Rat.mul_nonneg (by grind : 0 ≤ -x) (by grind : 0 ≤ -x); grind
theorem arch (c : Rat) : ∃ n : Nat, c ≤ (n : Rat) := by
 refine ⟨c.ceil.toNat, ?_⟩
 have h1 : c ≤ (c.ceil : Rat) := Rat.le_ceil
 have h2 : ((c.ceil : Int) : Rat) ≤ ((c.ceil.toNat : Nat) : Rat) := by
   have : c.ceil ≤ ((c.ceil.toNat : Nat) : Int) := by omega
   have := Rat.intCast_le_intCast.2 this
   rwa [Rat.intCast_natCast] at this
 exact Rat.le_trans h1 h2
theorem div_mul {a b : Rat} (hb : b ≠ 0) : a / b * b = a := by grind
def ELe (y r : Rat) : Prop := ∀ e : Rat, 0 < e → ∃ n0 : Nat, ∀ n : Nat, n0 ≤ n → (1 + y / n) ^ n ≤ r * (1 + e)
theorem small (y : Rat) {d : Rat} (hd : 0 < d) : ∃ n0 : Nat, ∀ n : Nat, n0 ≤ n → 0 < (n : Rat) ∧ -d ≤ y / n ∧ y / n ≤ d := by
 obtain ⟨m1, h1⟩ := arch (y / d)
 obtain ⟨m2, h2⟩ := arch (-y / d)
 refine ⟨m1 + m2 + 1, fun n hn => ?_⟩
 have hp : 0 < (n : Rat) := cast_pos (by omega)
 have c1 : (m1 : Rat) ≤ n := cast_le (by omega)
 have c2 : (m2 : Rat) ≤ n := cast_le (by omega)
 have e1 : y / d * d = y := div_mul (by grind)
 have e2 : y / n * n = y := div_mul (by grind)
 have e3 : -y / d * d = -y := div_mul (by grind)
 have k1 : y ≤ n * d := by
   rw [← e1]
   exact Rat.mul_le_mul_of_nonneg_right (by grind) (by grind)
 have k2 : -y ≤ n * d := by
   rw [← e3]
   exact Rat.mul_le_mul_of_nonneg_right (by grind) (by grind)
 refine ⟨hp, ?_, ?_⟩
 · apply Rat.not_lt.1
   intro hlt
   have := Rat.mul_lt_mul_of_pos_right hlt hp
   grind
 · apply Rat.not_lt.1
   intro hlt
   have := Rat.mul_lt_mul_of_pos_right hlt hp
   grind
theorem pow_small {x d : Rat} {n : Nat} (hx : 0 ≤ x) (hd : 0 ≤ d) (hd1 : d ≤ 1) (hn : n * x ≤ d / 2) (hx1 : x ≤ 1) : (1 + x) ^ n ≤ 1 + d := by
 have h1 := bern (x := -x) (by grind) n
 have h2 : (1 + x) ^ n * (1 + -x) ^ n ≤ 1 := by
   rw [← mul_pow]
   have hs := sq_nonneg x
   have h1 : x * x ≤ 1 := by
     have := mul_le_mul hx1 hx1 hx (by decide)
     grind
   exact pow_le_one (by grind) (by grind) n
 have h3 := pow_nonneg (a := 1 + x) (by grind) n
 have h4 : (1 + x) ^ n * (1 - d / 2) ≤ 1 := by
   have := Rat.mul_le_mul_of_nonneg_left (a := 1 - d / 2) (b := (1 + -x) ^ n) (by grind) h3
   grind
 have h5 : 1 ≤ (1 + d) * (1 - d / 2) := by
   have : 0 ≤ d * (1 - d) := Rat.mul_nonneg hd (by grind)
   grind
 apply Rat.not_lt.1
 intro hlt
 have := Rat.mul_lt_mul_of_pos_right hlt (by grind : 0 < 1 - d / 2)
 grind
theorem ELe.small {u r : Rat} (hu : u < 1) (h : 1 ≤ r * (1 - u)) : ELe u r := by
 intro e he
 obtain ⟨n0, h0⟩ := ExpLaw.small u (d := 1) (by decide)
 refine ⟨n0, fun n hn => ?_⟩
 obtain ⟨hp, h1, h2⟩ := h0 n hn
 have e1 : u / n * n = u := div_mul (by grind)
 generalize u / n = x at *
 have h3 := bern (x := -x) (by grind) n
 have h4 : (1 + x) ^ n * (1 + -x) ^ n ≤ 1 := by
   rw [← mul_pow]
   have hs := sq_nonneg x
   have h1 : x * x ≤ 1 := by
     rcases Rat.le_total (a := 0) (b := x) with h | h
     · have := mul_le_mul h2 h2 h (by decide); grind
     · have := mul_le_mul (by grind : -x ≤ 1) (by grind : -x ≤ 1) (by grind) (by decide); grind
   exact pow_le_one (by grind) (by grind) n
 have h5 := pow_nonneg (a := 1 + x) (by grind) n
 have h6 : (1 + x) ^ n * (1 - u) ≤ 1 := by
   have := Rat.mul_le_mul_of_nonneg_left (a := 1 - u) (b := (1 + -x) ^ n) (by grind) h5
   grind
 have h7 : (1 + x) ^ n ≤ r := by
   apply Rat.not_lt.1
   intro hlt
   have := Rat.mul_lt_mul_of_pos_right hlt (by grind : 0 < 1 - u)
   grind
 have hr : 0 ≤ r := by grind
 have := Rat.mul_nonneg hr (by grind : 0 ≤ e)
 grind
theorem ELe.mono {y y' r r' : Rat} (h : ELe y' r) (hy : y ≤ y') (hr : r ≤ r') : ELe y r' := by
 intro e he
 obtain ⟨n0, h0⟩ := h e he
 obtain ⟨n1, h1⟩ := ExpLaw.small y (d := 1) (by decide)
 refine ⟨n0 + n1, fun n hn => ?_⟩
 obtain ⟨hp, k1, _⟩ := h1 n (by omega)
 have e1 : y / n * n = y := div_mul (by grind)
 have e2 : y' / n * n = y' := div_mul (by grind)
 have h2 := h0 n (by omega)
 have h3 : y / n ≤ y' / n := by
   apply Rat.not_lt.1
   intro hlt
   have := Rat.mul_lt_mul_of_pos_right hlt hp
   grind
 have h4 := pow_le (a := 1 + y / n) (b := 1 + y' / n) (by grind) (by grind) n
 have h5 := Rat.mul_le_mul_of_nonneg_right hr (by grind : 0 ≤ 1 + e)
 grind
theorem ELe.close {y r : Rat} (hr : 0 ≤ r) (h : ∀ d : Rat, 0 < d → ∃ r', ELe y r' ∧ r' ≤ r * (1 + d)) : ELe y r := by
 intro e he
 obtain ⟨d, hd0, hd1, hde⟩ : ∃ d : Rat, 0 < d ∧ d ≤ 1 ∧ 3 * d ≤ e := by
   rcases Rat.le_total (a := e) (b := 1) with h | h
   · exact ⟨e / 3, by grind, by grind, by grind⟩
   · exact ⟨1 / 3, by grind, by grind, by grind⟩
 obtain ⟨r', h1, h2⟩ := h d hd0
 obtain ⟨n0, h0⟩ := h1 d hd0
 refine ⟨n0, fun n hn => ?_⟩
 have h3 := h0 n hn
 have h4 := Rat.mul_le_mul_of_nonneg_right h2 (by grind : 0 ≤ 1 + d)
 have h5 : r * (1 + d) * (1 + d) ≤ r * (1 + e) := by
   have : (1 + d) * (1 + d) ≤ 1 + e := by
     have : d * d ≤ 1 * d := Rat.mul_le_mul_of_nonneg_right hd1 (by grind)
     grind
   have := Rat.mul_le_mul_of_nonneg_left this hr
   grind
 grind
theorem ELe.add {y y' r r' : Rat} (h : ELe y r) (h' : ELe y' r') (hr : 0 ≤ r) (hr' : 0 ≤ r') : ELe (y + y') (r * r') := by
 intro e he
 obtain ⟨d, hd0, hd1, hde⟩ : ∃ d : Rat, 0 < d ∧ d ≤ 1 ∧ 7 * d ≤ e := by
   rcases Rat.le_total (a := e) (b := 1) with h | h
   · exact ⟨e / 7, by grind, by grind, by grind⟩
   · exact ⟨1 / 7, by grind, by grind, by grind⟩
 obtain ⟨c, hc0, hc⟩ : ∃ c : Rat, 0 ≤ c ∧ -(y * y') ≤ c := by
   rcases Rat.le_total (a := 0) (b := y * y') with h | h
   · exact ⟨0, by grind, by grind⟩
   · exact ⟨-(y * y'), by grind, by grind⟩
 obtain ⟨n0, h0⟩ := h d hd0
 obtain ⟨n1, h1⟩ := h' d hd0
 obtain ⟨n2, h2⟩ := ExpLaw.small y (d := 1 / 4) (by grind)
 obtain ⟨n3, h3⟩ := ExpLaw.small y' (d := 1 / 4) (by grind)
 obtain ⟨n4, h4⟩ := ExpLaw.small (4 * c) (d := d / 2) (by grind)
 refine ⟨n0 + n1 + n2 + n3 + n4 + 1, fun n hn => ?_⟩
 have hn1 : (1 : Rat) ≤ n := by
   have := cast_le (by omega : 1 ≤ n)
   simpa using this
 have k0 := h0 n (by omega)
 have k1 := h1 n (by omega)
 obtain ⟨hp, k2, k2'⟩ := h2 n (by omega)
 obtain ⟨_, k3, k3'⟩ := h3 n (by omega)
 obtain ⟨_, k4, k4'⟩ := h4 n (by omega)
 have e1 : y / n * n = y := div_mul (by grind)
 have e2 : y' / n * n = y' := div_mul (by grind)
 have e3 : 4 * c / n * n = 4 * c := div_mul (by grind)
 have e4 : (y + y') / n = y / n + y' / n := by grind
 have e5 : 4 * c / n / n * n = 4 * c / n := div_mul (by grind)
 rw [e4]
 generalize y / n = a at *
 generalize y' / n = b at *
 have hx0 : 0 ≤ 4 * c / n := by
   apply Rat.not_lt.1
   intro hlt
   have := Rat.mul_lt_mul_of_pos_right hlt hp
   grind
 generalize 4 * c / n = q at *
 have hx1 : 0 ≤ q / n := by
   apply Rat.not_lt.1
   intro hlt
   have := Rat.mul_lt_mul_of_pos_right hlt hp
   grind
 have hx2 : q / n ≤ 1 := by
   apply Rat.not_lt.1
   intro hlt
   have := Rat.mul_lt_mul_of_pos_right hlt hp
   grind
 generalize q / n = x at *
 have hab : -(4 * (a * b)) ≤ x := by
   apply Rat.not_lt.1
   intro hlt
   have h1 := Rat.mul_lt_mul_of_pos_right hlt hp
   have h2 := Rat.mul_lt_mul_of_pos_right h1 hp
   have h3 : -(4 * (a * b)) * n * n = -(4 * (y * y')) := by rw [← e1, ← e2]; clear h2 h1 hlt h0 h4; grind
   have h5 : x * n * n = 4 * c := by rw [e5, e3]
   rw [h3, h5] at h2
   clear h3 h5 h1 hlt h0 h4 k0 k1 e1 e2 e3 e4 e5
   grind
 have hps := pow_small (x := x) (d := d) (n := n) hx1 (by grind) hd1 (by grind) hx2
 have hfac : 1 + (a + b) ≤ (1 + a) * (1 + b) * (1 + x) := by
   have p1 : 0 ≤ (3 / 4 + a - (-(1/4)) ) := by grind
   have q1 : (3 : Rat) / 4 ≤ 1 + a := by grind
   have q2 : (3 : Rat) / 4 ≤ 1 + b := by grind
   have q3 := mul_le_mul q1 q2 (by grind) (by grind)
   have q4 := Rat.mul_le_mul_of_nonneg_right q3 hx1
   have q5 : (1 : Rat) / 4 * x ≤ (1 + a) * (1 + b) * x := by grind
   grind
 have hs : 0 ≤ 1 + (a + b) := by grind
 have h5 := pow_le hs hfac n
 rw [mul_pow, mul_pow] at h5
 have g1 := pow_nonneg (a := 1 + a) (by grind) n
 have g2 := pow_nonneg (a := 1 + b) (by grind) n
 have g3 := pow_nonneg (a := 1 + x) (by grind) n
 have f1 := mul_le_mul k0 k1 g1 (by have := Rat.mul_nonneg hr' (by grind : 0 ≤ 1 + d); grind)
 have f2 := mul_le_mul f1 hps (Rat.mul_nonneg g1 g2) (by grind)
 have f3 : r * (1 + d) * (r' * (1 + d)) * (1 + d) ≤ r * r' * (1 + e) := by
   have t1 : (1 + d) * (1 + d) * (1 + d) ≤ 1 + e := by
     have u1 : d * d ≤ 1 * d := Rat.mul_le_mul_of_nonneg_right hd1 (by grind)
     have u2 : d * d * d ≤ 1 * d * d := by
       have := Rat.mul_le_mul_of_nonneg_right u1 (by grind : 0 ≤ d)
       grind
     grind
   have := Rat.mul_le_mul_of_nonneg_left t1 (Rat.mul_nonneg hr hr')
   grind
 grind
theorem ELe.zero : ELe 0 1 := ELe.small (by decide) (by grind)
theorem ELe.pow {y r : Rat} (h : ELe y r) (hr : 0 ≤ r) (k : Nat) : ELe (k * y) (r ^ k) := by
 induction k with
 | zero => rw [Rat.pow_zero]; exact ELe.zero.mono (by grind) Rat.le_refl
 | succ k ih =>
   rw [Rat.pow_succ, cast_succ]
   exact (ih.add h (pow_nonneg hr k) hr).mono (by grind) Rat.le_refl
theorem ELe.one_le {s r : Rat} (h : ELe s r) (hs : 0 ≤ s) : 1 ≤ r := by
 apply Rat.not_lt.1
 intro hr
 obtain ⟨e, he, hre⟩ : ∃ e : Rat, 0 < e ∧ r * (1 + e) < 1 := by
   rcases Rat.le_total (a := r) (b := 0) with h | h
   · refine ⟨1, by decide, by grind⟩
   · refine ⟨1 - r, by grind, ?_⟩
     have : 0 < (1 - r) * (1 - r) := Rat.mul_pos (by grind) (by grind)
     grind
 obtain ⟨n0, h0⟩ := h e he
 have h1 := h0 (n0 + 1) (by omega)
 have hp : 0 < ((n0 + 1 : Nat) : Rat) := cast_pos (by omega)
 have e1 : s / ((n0 + 1 : Nat) : Rat) * ((n0 + 1 : Nat) : Rat) = s := div_mul (by grind)
 have h2 : 0 ≤ s / ((n0 + 1 : Nat) : Rat) := by
   apply Rat.not_lt.1
   intro hlt
   have := Rat.mul_lt_mul_of_pos_right hlt hp
   grind
 have h3 := one_le_pow (a := 1 + s / ((n0 + 1 : Nat) : Rat)) (by grind) (n0 + 1)
 grind
end Go.Proofs.YteohmbannpbokaaGreatDoor.ExpLaw
