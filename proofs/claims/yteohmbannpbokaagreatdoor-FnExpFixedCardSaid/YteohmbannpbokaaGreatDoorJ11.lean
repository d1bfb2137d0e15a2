/-
 The reference's whole numbers, told by integers: sums, products, order.
-/
import Derived.Test.YteohmbannpbokaaGreatDoorJ09
import Derived.Test.YteohmbannpbokaaGreatDoorJ10
set_option maxRecDepth 100000
set_option linter.unusedVariables false
set_option linter.unusedSimpArgs false
namespace Go.Proofs.YteohmbannpbokaaGreatDoor.SpecWalk
open Go.RowKit Go.Proofs.YteohmbannpbokaaGreatDoorW.PrintWords Go.Proofs.YteohmbannpbokaaGreatDoorW.PrintLast Go.Proofs.YteohmbannpbokaaGreatDoorW.PrintMore Go.Proofs.YteohmbannpbokaaGreatDoor.Digs Go.Proofs.YteohmbannpbokaaGreatDoor.StrLaw Go.Proofs.YteohmbannpbokaaGreatDoor.NatLaw Go.Proofs.YteohmbannpbokaaGreatDoor.NatWalk
theorem WAdd_same (a : Bool) (m n : Nat) (oa ob : Nat → Prop) (v u : Value) (w : World) (hv : Rdv w oa v m) (hu : Rdv w ob u n) (hl : (digs m).length ≤ 1000000000) (hl2 : (digs n).length ≤ 1000000000) :
   Calls Tryz.prog 30 #[.agg #[.bool a, v], .agg #[.bool a, u]] w fun en w' => ∃ z, en = .returned (.agg #[.bool (sgn a (m + n)), z]) ∧ Rdv w' (fun k => w.heap.size ≤ k) z (m + n) ∧ Below w.heap.size w w' := by
 obtain ⟨A, c, rfl, _, _⟩ := hv.form
 obtain ⟨A', c', rfl, _, _⟩ := hu.form
 have HM := Aside0.mk (fun oa ob v u w hv hu => add_n m n oa ob v u w hv hu (by omega) (by omega))
 have HW := Aside0.mk (fun ok v w => wholeOf_n a (m + n) ok v w)
 clear hl hl2
 generalize m + n = p at *
 generalize hs : sgn a p = s1 at *
 clear hs
 generalize hm : (digs m).length = m0 at *
 generalize hn : (digs n).length = n0 at *
 clear hm hn
 go_enter Tryz.func30, Tryz.ntmps30
 go_wp2_with fail
 have ax0 : Box (((w.alloc (Obj.cells #[Value.bool a, Value.slice A m0 c] 28)).alloc (Obj.cells #[Value.bool a, Value.slice A' n0 c'] 28)).alloc (Obj.cells #[Value.bool false, Value.slice none 0 0] 28)).drew w.heap.size [.bool a, .slice A m0 c] := (((Box.new2 w _ _ _ _ (by simp)).alloc _).alloc _).drew
 have bx0 : Box (((w.alloc (Obj.cells #[Value.bool a, Value.slice A m0 c] 28)).alloc (Obj.cells #[Value.bool a, Value.slice A' n0 c'] 28)).alloc (Obj.cells #[Value.bool false, Value.slice none 0 0] 28)).drew (w.heap.size + 1) [.bool a, .slice A' n0 c'] := ((Box.new2 (w.alloc (Obj.cells #[Value.bool a, Value.slice A m0 c] 28)) _ _ _ _ (by simp)).alloc _).drew
 have rx0 : Box (((w.alloc (Obj.cells #[Value.bool a, Value.slice A m0 c] 28)).alloc (Obj.cells #[Value.bool a, Value.slice A' n0 c'] 28)).alloc (Obj.cells #[Value.bool false, Value.slice none 0 0] 28)).drew (w.heap.size + 1 + 1) [.bool false, .slice none 0 0] := (Box.new2 ((w.alloc (Obj.cells #[Value.bool a, Value.slice A m0 c] 28)).alloc (Obj.cells #[Value.bool a, Value.slice A' n0 c'] 28)) _ _ _ _ (by simp)).drew
 have hB0 : Below w.heap.size w (((w.alloc (Obj.cells #[Value.bool a, Value.slice A m0 c] 28)).alloc (Obj.cells #[Value.bool a, Value.slice A' n0 c'] 28)).alloc (Obj.cells #[Value.bool false, Value.slice none 0 0] 28)).drew := ((((Below.refl _ _).alloc (Nat.le_refl _) _).alloc (by simp) _).alloc (by simp; omega) _).drew
 replace hv := hv.below hB0
 replace hu := hu.below hB0
 have neax : w.heap.size ≠ (w.heap.size + 1 + 1) := by omega
 have nebx : (w.heap.size + 1) ≠ (w.heap.size + 1 + 1) := by omega
 go_region_held3 (fun w' => w'.cell? ⟨w.heap.size, 0, none⟩ = some (.bool a) ∧ w'.cell? ⟨w.heap.size, 1, none⟩ = some (.slice A m0 c) ∧ w'.cell? ⟨(w.heap.size + 1), 0, none⟩ = some (.bool a) ∧ w'.cell? ⟨(w.heap.size + 1), 1, none⟩ = some (.slice A' n0 c'))
     (first
       | (go_keep; done)
       | exact ⟨ax2.c0, ax2.c1, bx2.c0, bx2.c1⟩
       | exact ⟨ax1.c0, ax1.c1, bx1.c0, bx1.c1⟩
       | exact ⟨(ax2.far2 neax _ _).c0, (ax2.far2 neax _ _).c1, (bx2.far2 nebx _ _).c0, (bx2.far2 nebx _ _).c1⟩)
     (first
       | (go_at_call 54; refine (HM.out _ _ _ _ _ hv hu).mono ?_; rintro e w1 ⟨v1, rfl, hv1, hb1⟩; replace hv1 := hv1.mono (ok' := fun k => w.heap.size + 3 ≤ k) (fun k hk => by simp at hk; omega); obtain ⟨A1, c1, rfl, _, _⟩ := hv1.form; have sz1 := hb1.size; (try simp at sz1); have ax1 := ax0.below hb1; have xax10 := ax1.c0; have xax11 := ax1.c1; have bx1 := bx0.below hb1; have xbx10 := bx1.c0; have xbx11 := bx1.c1; have rx1 := rx0.below hb1; have xrx10 := rx1.c0; have xrx11 := rx1.c1; have yrx10 := rx1.f0; have yrx11 := rx1.f1)
       | (go_at_call 44; refine (HW.out _ _ _ hv1).mono ?_; rintro e w2 ⟨rfl, hb2⟩; have sz2 := hb2.size; have ax2 := ax1.below hb2; have xax20 := ax2.c0; have xax21 := ax2.c1; have bx2 := bx1.below hb2; have xbx20 := bx2.c0; have xbx21 := bx2.c1; have rx2 := rx1.below hb2; have xrx20 := rx2.c0; have xrx21 := rx2.c1; have yrx20 := rx2.f0; have yrx21 := rx2.f1))
 go_wp2
 refine bodyPost_ret (v := .agg #[.bool s1, .slice A1 (digs p).length c1]) (by simp [results, Tryz.results30, go_sem, rx2.c0, rx2.c1]) rfl ?_
 exact ⟨_, rfl, ((hv1.below hb2).far2 (fun k hk => by omega) _ _).mono (fun k hk => by omega), below2 (below_step (below_step hB0 hb1) hb2) (by omega) _ _⟩
theorem cmpN_ge {m n : Nat} (h : n ≤ m) : 0 ≤ cmpN m n := by
 unfold cmpN
 split
 · omega
 · split <;> decide
theorem cmpN_lt {m n : Nat} (h : m < n) : ¬ 0 ≤ cmpN m n := by
 unfold cmpN
 rw [if_pos h]; decide
theorem WAdd_pn (m n : Nat) (oa ob : Nat → Prop) (v u : Value) (w : World) (hv : Rdv w oa v m) (hu : Rdv w ob u n) (hl : (digs m).length ≤ 1000000000) (hl2 : (digs n).length ≤ 1000000000) (hc : n ≤ m) :
   Calls Tryz.prog 30 #[.agg #[.bool false, v], .agg #[.bool true, u]] w fun en w' => ∃ z, en = .returned (.agg #[.bool (sgn false (m - n)), z]) ∧ Rdv w' (fun k => w.heap.size ≤ k) z (m - n) ∧ Below w.heap.size w w' := by
 obtain ⟨A, c, rfl, _, _⟩ := hv.form
 obtain ⟨A', c', rfl, _, _⟩ := hu.form
 have hcc : ((0 ≤ cmpN m n) = True) := eq_true (cmpN_ge hc)
 have HC := Aside0.mk (fun oa ob v u w hv hu => cmp_n m n oa ob v u w hv hu (by omega))
 have HM := Aside0.mk (fun oa ob v u w hv hu => sub_n m n oa ob v u w hv hu (by omega) (by omega))
 have HW := Aside0.mk (fun ok v w => wholeOf_n false (m - n) ok v w)
 clear hl hl2 hc
 generalize cmpN m n = cc at *
 generalize m - n = p at *
 generalize hs : sgn false p = s1 at *
 clear hs
 generalize hm : (digs m).length = m0 at *
 generalize hn : (digs n).length = n0 at *
 clear hm hn
 go_enter Tryz.func30, Tryz.ntmps30
 go_wp2_with fail
 have ax0 : Box (((w.alloc (Obj.cells #[Value.bool false, Value.slice A m0 c] 28)).alloc (Obj.cells #[Value.bool true, Value.slice A' n0 c'] 28)).alloc (Obj.cells #[Value.bool false, Value.slice none 0 0] 28)) w.heap.size [.bool false, .slice A m0 c] := (((Box.new2 w _ _ _ _ (by simp)).alloc _).alloc _)
 have bx0 : Box (((w.alloc (Obj.cells #[Value.bool false, Value.slice A m0 c] 28)).alloc (Obj.cells #[Value.bool true, Value.slice A' n0 c'] 28)).alloc (Obj.cells #[Value.bool false, Value.slice none 0 0] 28)) (w.heap.size + 1) [.bool true, .slice A' n0 c'] := ((Box.new2 (w.alloc (Obj.cells #[Value.bool false, Value.slice A m0 c] 28)) _ _ _ _ (by simp)).alloc _)
 have rx0 : Box (((w.alloc (Obj.cells #[Value.bool false, Value.slice A m0 c] 28)).alloc (Obj.cells #[Value.bool true, Value.slice A' n0 c'] 28)).alloc (Obj.cells #[Value.bool false, Value.slice none 0 0] 28)) (w.heap.size + 1 + 1) [.bool false, .slice none 0 0] := (Box.new2 ((w.alloc (Obj.cells #[Value.bool false, Value.slice A m0 c] 28)).alloc (Obj.cells #[Value.bool true, Value.slice A' n0 c'] 28)) _ _ _ _ (by simp))
 have hB0 : Below w.heap.size w (((w.alloc (Obj.cells #[Value.bool false, Value.slice A m0 c] 28)).alloc (Obj.cells #[Value.bool true, Value.slice A' n0 c'] 28)).alloc (Obj.cells #[Value.bool false, Value.slice none 0 0] 28)) := ((((Below.refl _ _).alloc (Nat.le_refl _) _).alloc (by simp) _).alloc (by simp; omega) _)
 replace hv := hv.below hB0
 replace hu := hu.below hB0
 have w0s : (((w.alloc (Obj.cells #[Value.bool false, Value.slice A m0 c] 28)).alloc (Obj.cells #[Value.bool true, Value.slice A' n0 c'] 28)).alloc (Obj.cells #[Value.bool false, Value.slice none 0 0] 28)).heap.size = w.heap.size + 1 + 1 + 1 := by simp
 generalize (((w.alloc (Obj.cells #[Value.bool false, Value.slice A m0 c] 28)).alloc (Obj.cells #[Value.bool true, Value.slice A' n0 c'] 28)).alloc (Obj.cells #[Value.bool false, Value.slice none 0 0] 28)) = w0 at *
 have q0 := ax0.c0; have q1 := ax0.c1; have q2 := bx0.c0; have q3 := bx0.c1; have q4 := rx0.c0; have q5 := rx0.c1; have q6 := rx0.f0; have q7 := rx0.f1
 go_wp2_with (first | ((go_at_call 38); refine (HC.out _ _ _ _ _ hv hu).mono ?_; rintro e wq ⟨rfl, hd⟩; have hbc := hd.below; clear hd q0 q1 q2 q3 q4 q5 q6 q7; have sz0 := hbc.size; replace hv := hv.below hbc; replace hu := hu.below hbc; replace ax0 := ax0.below hbc; replace bx0 := bx0.below hbc; replace rx0 := rx0.below hbc; replace hB0 := below_step hB0 hbc; have q0 := ax0.c0; have q1 := ax0.c1; have q2 := bx0.c0; have q3 := bx0.c1; have q4 := rx0.c0; have q5 := rx0.c1; have q6 := rx0.f0; have q7 := rx0.f1))
 replace ax0 := ax0.drew; replace bx0 := bx0.drew; replace rx0 := rx0.drew; replace hv := hv.drew; replace hu := hu.drew; replace hB0 := hB0.drew
 have r0 := ax0.c0; have r1 := ax0.c1; have r2 := bx0.c0; have r3 := bx0.c1; have r4 := rx0.c0; have r5 := rx0.c1; have r6 := rx0.f0; have r7 := rx0.f1
 have neax : w.heap.size ≠ (w.heap.size + 1 + 1) := by omega
 have nebx : (w.heap.size + 1) ≠ (w.heap.size + 1 + 1) := by omega
 go_region_held3 (fun w' => w'.cell? ⟨w.heap.size, 0, none⟩ = some (.bool false) ∧ w'.cell? ⟨w.heap.size, 1, none⟩ = some (.slice A m0 c) ∧ w'.cell? ⟨(w.heap.size + 1), 0, none⟩ = some (.bool true) ∧ w'.cell? ⟨(w.heap.size + 1), 1, none⟩ = some (.slice A' n0 c'))
     (first
       | (go_keep; done)
       | exact ⟨ax2.c0, ax2.c1, bx2.c0, bx2.c1⟩
       | exact ⟨ax1.c0, ax1.c1, bx1.c0, bx1.c1⟩
       | exact ⟨(ax2.far2 neax _ _).c0, (ax2.far2 neax _ _).c1, (bx2.far2 nebx _ _).c0, (bx2.far2 nebx _ _).c1⟩)
     (first
       | (go_at_call 42; refine (HM.out _ _ _ _ _ hv hu).mono ?_; rintro e w1 ⟨v1, rfl, hv1, hb1⟩; replace hv1 := hv1.mono (ok' := fun k => w.heap.size + 3 ≤ k) (fun k hk => by (try simp at hk); omega); obtain ⟨A1, c1, rfl, _, _⟩ := hv1.form; have sz1 := hb1.size; (try simp at sz1); have ax1 := ax0.below hb1; have xax10 := ax1.c0; have xax11 := ax1.c1; have bx1 := bx0.below hb1; have xbx10 := bx1.c0; have xbx11 := bx1.c1; have rx1 := rx0.below hb1; have xrx10 := rx1.c0; have xrx11 := rx1.c1; have yrx10 := rx1.f0; have yrx11 := rx1.f1)
       | (go_at_call 44; refine (HW.out _ _ _ hv1).mono ?_; rintro e w2 ⟨rfl, hb2⟩; have sz2 := hb2.size; have ax2 := ax1.below hb2; have xax20 := ax2.c0; have xax21 := ax2.c1; have bx2 := bx1.below hb2; have xbx20 := bx2.c0; have xbx21 := bx2.c1; have rx2 := rx1.below hb2; have xrx20 := rx2.c0; have xrx21 := rx2.c1; have yrx20 := rx2.f0; have yrx21 := rx2.f1))
 go_wp2
 refine bodyPost_ret (v := .agg #[.bool s1, .slice A1 (digs p).length c1]) (by simp [results, Tryz.results30, go_sem, rx2.c0, rx2.c1]) rfl ?_
 exact ⟨_, rfl, ((hv1.below hb2).far2 (fun k hk => by omega) _ _).mono (fun k hk => by omega), below2 (below_step (below_step hB0 hb1) hb2) (by omega) _ _⟩
theorem WAdd_pn2 (m n : Nat) (oa ob : Nat → Prop) (v u : Value) (w : World) (hv : Rdv w oa v m) (hu : Rdv w ob u n) (hl : (digs m).length ≤ 1000000000) (hl2 : (digs n).length ≤ 1000000000) (hc : m < n) :
   Calls Tryz.prog 30 #[.agg #[.bool false, v], .agg #[.bool true, u]] w fun en w' => ∃ z, en = .returned (.agg #[.bool (sgn true (n - m)), z]) ∧ Rdv w' (fun k => w.heap.size ≤ k) z (n - m) ∧ Below w.heap.size w w' := by
 obtain ⟨A, c, rfl, _, _⟩ := hv.form
 obtain ⟨A', c', rfl, _, _⟩ := hu.form
 have hcc : ((0 ≤ cmpN m n) = False) := eq_false (cmpN_lt hc)
 have HC := Aside0.mk (fun oa ob v u w hv hu => cmp_n m n oa ob v u w hv hu (by omega))
 have HM := Aside0.mk (fun oa ob v u w hv hu => sub_n n m oa ob v u w hv hu (by omega) (by omega))
 have HW := Aside0.mk (fun ok v w => wholeOf_n true (n - m) ok v w)
 clear hl hl2 hc
 generalize cmpN m n = cc at *
 generalize n - m = p at *
 generalize hs : sgn true p = s1 at *
 clear hs
 generalize hm : (digs m).length = m0 at *
 generalize hn : (digs n).length = n0 at *
 clear hm hn
 go_enter Tryz.func30, Tryz.ntmps30
 go_wp2_with fail
 have ax0 : Box (((w.alloc (Obj.cells #[Value.bool false, Value.slice A m0 c] 28)).alloc (Obj.cells #[Value.bool true, Value.slice A' n0 c'] 28)).alloc (Obj.cells #[Value.bool false, Value.slice none 0 0] 28)) w.heap.size [.bool false, .slice A m0 c] := (((Box.new2 w _ _ _ _ (by simp)).alloc _).alloc _)
 have bx0 : Box (((w.alloc (Obj.cells #[Value.bool false, Value.slice A m0 c] 28)).alloc (Obj.cells #[Value.bool true, Value.slice A' n0 c'] 28)).alloc (Obj.cells #[Value.bool false, Value.slice none 0 0] 28)) (w.heap.size + 1) [.bool true, .slice A' n0 c'] := ((Box.new2 (w.alloc (Obj.cells #[Value.bool false, Value.slice A m0 c] 28)) _ _ _ _ (by simp)).alloc _)
 have rx0 : Box (((w.alloc (Obj.cells #[Value.bool false, Value.slice A m0 c] 28)).alloc (Obj.cells #[Value.bool true, Value.slice A' n0 c'] 28)).alloc (Obj.cells #[Value.bool false, Value.slice none 0 0] 28)) (w.heap.size + 1 + 1) [.bool false, .slice none 0 0] := (Box.new2 ((w.alloc (Obj.cells #[Value.bool false, Value.slice A m0 c] 28)).alloc (Obj.cells #[Value.bool true, Value.slice A' n0 c'] 28)) _ _ _ _ (by simp))
 have hB0 : Below w.heap.size w (((w.alloc (Obj.cells #[Value.bool false, Value.slice A m0 c] 28)).alloc (Obj.cells #[Value.bool true, Value.slice A' n0 c'] 28)).alloc (Obj.cells #[Value.bool false, Value.slice none 0 0] 28)) := ((((Below.refl _ _).alloc (Nat.le_refl _) _).alloc (by simp) _).alloc (by simp; omega) _)
 replace hv := hv.below hB0
 replace hu := hu.below hB0
 have w0s : (((w.alloc (Obj.cells #[Value.bool false, Value.slice A m0 c] 28)).alloc (Obj.cells #[Value.bool true, Value.slice A' n0 c'] 28)).alloc (Obj.cells #[Value.bool false, Value.slice none 0 0] 28)).heap.size = w.heap.size + 1 + 1 + 1 := by simp
 generalize (((w.alloc (Obj.cells #[Value.bool false, Value.slice A m0 c] 28)).alloc (Obj.cells #[Value.bool true, Value.slice A' n0 c'] 28)).alloc (Obj.cells #[Value.bool false, Value.slice none 0 0] 28)) = w0 at *
 have q0 := ax0.c0; have q1 := ax0.c1; have q2 := bx0.c0; have q3 := bx0.c1; have q4 := rx0.c0; have q5 := rx0.c1; have q6 := rx0.f0; have q7 := rx0.f1
 go_wp2_with (first | ((go_at_call 38); refine (HC.out _ _ _ _ _ hv hu).mono ?_; rintro e wq ⟨rfl, hd⟩; have hbc := hd.below; clear hd q0 q1 q2 q3 q4 q5 q6 q7; have sz0 := hbc.size; replace hv := hv.below hbc; replace hu := hu.below hbc; replace ax0 := ax0.below hbc; replace bx0 := bx0.below hbc; replace rx0 := rx0.below hbc; replace hB0 := below_step hB0 hbc; have q0 := ax0.c0; have q1 := ax0.c1; have q2 := bx0.c0; have q3 := bx0.c1; have q4 := rx0.c0; have q5 := rx0.c1; have q6 := rx0.f0; have q7 := rx0.f1))
 replace ax0 := ax0.drew; replace bx0 := bx0.drew; replace rx0 := rx0.drew; replace hv := hv.drew; replace hu := hu.drew; replace hB0 := hB0.drew
 have r0 := ax0.c0; have r1 := ax0.c1; have r2 := bx0.c0; have r3 := bx0.c1; have r4 := rx0.c0; have r5 := rx0.c1; have r6 := rx0.f0; have r7 := rx0.f1
 have neax : w.heap.size ≠ (w.heap.size + 1 + 1) := by omega
 have nebx : (w.heap.size + 1) ≠ (w.heap.size + 1 + 1) := by omega
 go_region_held3 (fun w' => w'.cell? ⟨w.heap.size, 0, none⟩ = some (.bool false) ∧ w'.cell? ⟨w.heap.size, 1, none⟩ = some (.slice A m0 c) ∧ w'.cell? ⟨(w.heap.size + 1), 0, none⟩ = some (.bool true) ∧ w'.cell? ⟨(w.heap.size + 1), 1, none⟩ = some (.slice A' n0 c'))
     (first
       | (go_keep; done)
       | exact ⟨ax2.c0, ax2.c1, bx2.c0, bx2.c1⟩
       | exact ⟨ax1.c0, ax1.c1, bx1.c0, bx1.c1⟩
       | exact ⟨(ax2.far2 neax _ _).c0, (ax2.far2 neax _ _).c1, (bx2.far2 nebx _ _).c0, (bx2.far2 nebx _ _).c1⟩)
     (first
       | (go_at_call 42; refine (HM.out _ _ _ _ _ hu hv).mono ?_; rintro e w1 ⟨v1, rfl, hv1, hb1⟩; replace hv1 := hv1.mono (ok' := fun k => w.heap.size + 3 ≤ k) (fun k hk => by (try simp at hk); omega); obtain ⟨A1, c1, rfl, _, _⟩ := hv1.form; have sz1 := hb1.size; (try simp at sz1); have ax1 := ax0.below hb1; have xax10 := ax1.c0; have xax11 := ax1.c1; have bx1 := bx0.below hb1; have xbx10 := bx1.c0; have xbx11 := bx1.c1; have rx1 := rx0.below hb1; have xrx10 := rx1.c0; have xrx11 := rx1.c1; have yrx10 := rx1.f0; have yrx11 := rx1.f1)
       | (go_at_call 44; refine (HW.out _ _ _ hv1).mono ?_; rintro e w2 ⟨rfl, hb2⟩; have sz2 := hb2.size; have ax2 := ax1.below hb2; have xax20 := ax2.c0; have xax21 := ax2.c1; have bx2 := bx1.below hb2; have xbx20 := bx2.c0; have xbx21 := bx2.c1; have rx2 := rx1.below hb2; have xrx20 := rx2.c0; have xrx21 := rx2.c1; have yrx20 := rx2.f0; have yrx21 := rx2.f1))
 go_wp2
 refine bodyPost_ret (v := .agg #[.bool s1, .slice A1 (digs p).length c1]) (by simp [results, Tryz.results30, go_sem, rx2.c0, rx2.c1]) rfl ?_
 exact ⟨_, rfl, ((hv1.below hb2).far2 (fun k hk => by omega) _ _).mono (fun k hk => by omega), below2 (below_step (below_step hB0 hb1) hb2) (by omega) _ _⟩
theorem WAdd_np (m n : Nat) (oa ob : Nat → Prop) (v u : Value) (w : World) (hv : Rdv w oa v m) (hu : Rdv w ob u n) (hl : (digs m).length ≤ 1000000000) (hl2 : (digs n).length ≤ 1000000000) (hc : n ≤ m) :
   Calls Tryz.prog 30 #[.agg #[.bool true, v], .agg #[.bool false, u]] w fun en w' => ∃ z, en = .returned (.agg #[.bool (sgn true (m - n)), z]) ∧ Rdv w' (fun k => w.heap.size ≤ k) z (m - n) ∧ Below w.heap.size w w' := by
 obtain ⟨A, c, rfl, _, _⟩ := hv.form
 obtain ⟨A', c', rfl, _, _⟩ := hu.form
 have hcc : ((0 ≤ cmpN m n) = True) := eq_true (cmpN_ge hc)
 have HC := Aside0.mk (fun oa ob v u w hv hu => cmp_n m n oa ob v u w hv hu (by omega))
 have HM := Aside0.mk (fun oa ob v u w hv hu => sub_n m n oa ob v u w hv hu (by omega) (by omega))
 have HW := Aside0.mk (fun ok v w => wholeOf_n true (m - n) ok v w)
 clear hl hl2 hc
 generalize cmpN m n = cc at *
 generalize m - n = p at *
 generalize hs : sgn true p = s1 at *
 clear hs
 generalize hm : (digs m).length = m0 at *
 generalize hn : (digs n).length = n0 at *
 clear hm hn
 go_enter Tryz.func30, Tryz.ntmps30
 go_wp2_with fail
 have ax0 : Box (((w.alloc (Obj.cells #[Value.bool true, Value.slice A m0 c] 28)).alloc (Obj.cells #[Value.bool false, Value.slice A' n0 c'] 28)).alloc (Obj.cells #[Value.bool false, Value.slice none 0 0] 28)) w.heap.size [.bool true, .slice A m0 c] := (((Box.new2 w _ _ _ _ (by simp)).alloc _).alloc _)
 have bx0 : Box (((w.alloc (Obj.cells #[Value.bool true, Value.slice A m0 c] 28)).alloc (Obj.cells #[Value.bool false, Value.slice A' n0 c'] 28)).alloc (Obj.cells #[Value.bool false, Value.slice none 0 0] 28)) (w.heap.size + 1) [.bool false, .slice A' n0 c'] := ((Box.new2 (w.alloc (Obj.cells #[Value.bool true, Value.slice A m0 c] 28)) _ _ _ _ (by simp)).alloc _)
 have rx0 : Box (((w.alloc (Obj.cells #[Value.bool true, Value.slice A m0 c] 28)).alloc (Obj.cells #[Value.bool false, Value.slice A' n0 c'] 28)).alloc (Obj.cells #[Value.bool false, Value.slice none 0 0] 28)) (w.heap.size + 1 + 1) [.bool false, .slice none 0 0] := (Box.new2 ((w.alloc (Obj.cells #[Value.bool true, Value.slice A m0 c] 28)).alloc (Obj.cells #[Value.bool false, Value.slice A' n0 c'] 28)) _ _ _ _ (by simp))
 have hB0 : Below w.heap.size w (((w.alloc (Obj.cells #[Value.bool true, Value.slice A m0 c] 28)).alloc (Obj.cells #[Value.bool false, Value.slice A' n0 c'] 28)).alloc (Obj.cells #[Value.bool false, Value.slice none 0 0] 28)) := ((((Below.refl _ _).alloc (Nat.le_refl _) _).alloc (by simp) _).alloc (by simp; omega) _)
 replace hv := hv.below hB0
 replace hu := hu.below hB0
 have w0s : (((w.alloc (Obj.cells #[Value.bool true, Value.slice A m0 c] 28)).alloc (Obj.cells #[Value.bool false, Value.slice A' n0 c'] 28)).alloc (Obj.cells #[Value.bool false, Value.slice none 0 0] 28)).heap.size = w.heap.size + 1 + 1 + 1 := by simp
 generalize (((w.alloc (Obj.cells #[Value.bool true, Value.slice A m0 c] 28)).alloc (Obj.cells #[Value.bool false, Value.slice A' n0 c'] 28)).alloc (Obj.cells #[Value.bool false, Value.slice none 0 0] 28)) = w0 at *
 have q0 := ax0.c0; have q1 := ax0.c1; have q2 := bx0.c0; have q3 := bx0.c1; have q4 := rx0.c0; have q5 := rx0.c1; have q6 := rx0.f0; have q7 := rx0.f1
 go_wp2_with (first | ((go_at_call 38); refine (HC.out _ _ _ _ _ hv hu).mono ?_; rintro e wq ⟨rfl, hd⟩; have hbc := hd.below; clear hd q0 q1 q2 q3 q4 q5 q6 q7; have sz0 := hbc.size; replace hv := hv.below hbc; replace hu := hu.below hbc; replace ax0 := ax0.below hbc; replace bx0 := bx0.below hbc; replace rx0 := rx0.below hbc; replace hB0 := below_step hB0 hbc; have q0 := ax0.c0; have q1 := ax0.c1; have q2 := bx0.c0; have q3 := bx0.c1; have q4 := rx0.c0; have q5 := rx0.c1; have q6 := rx0.f0; have q7 := rx0.f1))
 replace ax0 := ax0.drew; replace bx0 := bx0.drew; replace rx0 := rx0.drew; replace hv := hv.drew; replace hu := hu.drew; replace hB0 := hB0.drew
 have r0 := ax0.c0; have r1 := ax0.c1; have r2 := bx0.c0; have r3 := bx0.c1; have r4 := rx0.c0; have r5 := rx0.c1; have r6 := rx0.f0; have r7 := rx0.f1
 have neax : w.heap.size ≠ (w.heap.size + 1 + 1) := by omega
 have nebx : (w.heap.size + 1) ≠ (w.heap.size + 1 + 1) := by omega
 go_region_held3 (fun w' => w'.cell? ⟨w.heap.size, 0, none⟩ = some (.bool true) ∧ w'.cell? ⟨w.heap.size, 1, none⟩ = some (.slice A m0 c) ∧ w'.cell? ⟨(w.heap.size + 1), 0, none⟩ = some (.bool false) ∧ w'.cell? ⟨(w.heap.size + 1), 1, none⟩ = some (.slice A' n0 c'))
     (first
       | (go_keep; done)
       | exact ⟨ax2.c0, ax2.c1, bx2.c0, bx2.c1⟩
       | exact ⟨ax1.c0, ax1.c1, bx1.c0, bx1.c1⟩
       | exact ⟨(ax2.far2 neax _ _).c0, (ax2.far2 neax _ _).c1, (bx2.far2 nebx _ _).c0, (bx2.far2 nebx _ _).c1⟩)
     (first
       | (go_at_call 42; refine (HM.out _ _ _ _ _ hv hu).mono ?_; rintro e w1 ⟨v1, rfl, hv1, hb1⟩; replace hv1 := hv1.mono (ok' := fun k => w.heap.size + 3 ≤ k) (fun k hk => by (try simp at hk); omega); obtain ⟨A1, c1, rfl, _, _⟩ := hv1.form; have sz1 := hb1.size; (try simp at sz1); have ax1 := ax0.below hb1; have xax10 := ax1.c0; have xax11 := ax1.c1; have bx1 := bx0.below hb1; have xbx10 := bx1.c0; have xbx11 := bx1.c1; have rx1 := rx0.below hb1; have xrx10 := rx1.c0; have xrx11 := rx1.c1; have yrx10 := rx1.f0; have yrx11 := rx1.f1)
       | (go_at_call 44; refine (HW.out _ _ _ hv1).mono ?_; rintro e w2 ⟨rfl, hb2⟩; have sz2 := hb2.size; have ax2 := ax1.below hb2; have xax20 := ax2.c0; have xax21 := ax2.c1; have bx2 := bx1.below hb2; have xbx20 := bx2.c0; have xbx21 := bx2.c1; have rx2 := rx1.below hb2; have xrx20 := rx2.c0; have xrx21 := rx2.c1; have yrx20 := rx2.f0; have yrx21 := rx2.f1))
 go_wp2
 refine bodyPost_ret (v := .agg #[.bool s1, .slice A1 (digs p).length c1]) (by simp [results, Tryz.results30, go_sem, rx2.c0, rx2.c1]) rfl ?_
 exact ⟨_, rfl, ((hv1.below hb2).far2 (fun k hk => by omega) _ _).mono (fun k hk => by omega), below2 (below_step (below_step hB0 hb1) hb2) (by omega) _ _⟩
theorem WAdd_np2 (m n : Nat) (oa ob : Nat → Prop) (v u : Value) (w : World) (hv : Rdv w oa v m) (hu : Rdv w ob u n) (hl : (digs m).length ≤ 1000000000) (hl2 : (digs n).length ≤ 1000000000) (hc : m < n) :
   Calls Tryz.prog 30 #[.agg #[.bool true, v], .agg #[.bool false, u]] w fun en w' => ∃ z, en = .returned (.agg #[.bool (sgn false (n - m)), z]) ∧ Rdv w' (fun k => w.heap.size ≤ k) z (n - m) ∧ Below w.heap.size w w' := by
 obtain ⟨A, c, rfl, _, _⟩ := hv.form
 obtain ⟨A', c', rfl, _, _⟩ := hu.form
 have hcc : ((0 ≤ cmpN m n) = False) := eq_false (cmpN_lt hc)
 have HC := Aside0.mk (fun oa ob v u w hv hu => cmp_n m n oa ob v u w hv hu (by omega))
 have HM := Aside0.mk (fun oa ob v u w hv hu => sub_n n m oa ob v u w hv hu (by omega) (by omega))
 have HW := Aside0.mk (fun ok v w => wholeOf_n false (n - m) ok v w)
 clear hl hl2 hc
 generalize cmpN m n = cc at *
 generalize n - m = p at *
 generalize hs : sgn false p = s1 at *
 clear hs
 generalize hm : (digs m).length = m0 at *
 generalize hn : (digs n).length = n0 at *
 clear hm hn
 go_enter Tryz.func30, Tryz.ntmps30
 go_wp2_with fail
 have ax0 : Box (((w.alloc (Obj.cells #[Value.bool true, Value.slice A m0 c] 28)).alloc (Obj.cells #[Value.bool false, Value.slice A' n0 c'] 28)).alloc (Obj.cells #[Value.bool false, Value.slice none 0 0] 28)) w.heap.size [.bool true, .slice A m0 c] := (((Box.new2 w _ _ _ _ (by simp)).alloc _).alloc _)
 have bx0 : Box (((w.alloc (Obj.cells #[Value.bool true, Value.slice A m0 c] 28)).alloc (Obj.cells #[Value.bool false, Value.slice A' n0 c'] 28)).alloc (Obj.cells #[Value.bool false, Value.slice none 0 0] 28)) (w.heap.size + 1) [.bool false, .slice A' n0 c'] := ((Box.new2 (w.alloc (Obj.cells #[Value.bool true, Value.slice A m0 c] 28)) _ _ _ _ (by simp)).alloc _)
 have rx0 : Box (((w.alloc (Obj.cells #[Value.bool true, Value.slice A m0 c] 28)).alloc (Obj.cells #[Value.bool false, Value.slice A' n0 c'] 28)).alloc (Obj.cells #[Value.bool false, Value.slice none 0 0] 28)) (w.heap.size + 1 + 1) [.bool false, .slice none 0 0] := (Box.new2 ((w.alloc (Obj.cells #[Value.bool true, Value.slice A m0 c] 28)).alloc (Obj.cells #[Value.bool false, Value.slice A' n0 c'] 28)) _ _ _ _ (by simp))
 have hB0 : Below w.heap.size w (((w.alloc (Obj.cells #[Value.bool true, Value.slice A m0 c] 28)).alloc (Obj.cells #[Value.bool false, Value.slice A' n0 c'] 28)).alloc (Obj.cells #[Value.bool false, Value.slice none 0 0] 28)) := ((((Below.refl _ _).alloc (Nat.le_refl _) _).alloc (by simp) _).alloc (by simp; omega) _)
 replace hv := hv.below hB0
 replace hu := hu.below hB0
 have w0s : (((w.alloc (Obj.cells #[Value.bool true, Value.slice A m0 c] 28)).alloc (Obj.cells #[Value.bool false, Value.slice A' n0 c'] 28)).alloc (Obj.cells #[Value.bool false, Value.slice none 0 0] 28)).heap.size = w.heap.size + 1 + 1 + 1 := by simp
 generalize (((w.alloc (Obj.cells #[Value.bool true, Value.slice A m0 c] 28)).alloc (Obj.cells #[Value.bool false, Value.slice A' n0 c'] 28)).alloc (Obj.cells #[Value.bool false, Value.slice none 0 0] 28)) = w0 at *
 have q0 := ax0.c0; have q1 := ax0.c1; have q2 := bx0.c0; have q3 := bx0.c1; have q4 := rx0.c0; have q5 := rx0.c1; have q6 := rx0.f0; have q7 := rx0.f1
 go_wp2_with (first | ((go_at_call 38); refine (HC.out _ _ _ _ _ hv hu).mono ?_; rintro e wq ⟨rfl, hd⟩; have hbc := hd.below; clear hd q0 q1 q2 q3 q4 q5 q6 q7; have sz0 := hbc.size; replace hv := hv.below hbc; replace hu := hu.below hbc; replace ax0 := ax0.below hbc; replace bx0 := bx0.below hbc; replace rx0 := rx0.below hbc; replace hB0 := below_step hB0 hbc; have q0 := ax0.c0; have q1 := ax0.c1; have q2 := bx0.c0; have q3 := bx0.c1; have q4 := rx0.c0; have q5 := rx0.c1; have q6 := rx0.f0; have q7 := rx0.f1))
 replace ax0 := ax0.drew; replace bx0 := bx0.drew; replace rx0 := rx0.drew; replace hv := hv.drew; replace hu := hu.drew; replace hB0 := hB0.drew
 have r0 := ax0.c0; have r1 := ax0.c1; have r2 := bx0.c0; have r3 := bx0.c1; have r4 := rx0.c0; have r5 := rx0.c1; have r6 := rx0.f0; have r7 := rx0.f1
 have neax : w.heap.size ≠ (w.heap.size + 1 + 1) := by omega
 have nebx : (w.heap.size + 1) ≠ (w.heap.size + 1 + 1) := by omega
 go_region_held3 (fun w' => w'.cell? ⟨w.heap.size, 0, none⟩ = some (.bool true) ∧ w'.cell? ⟨w.heap.size, 1, none⟩ = some (.slice A m0 c) ∧ w'.cell? ⟨(w.heap.size + 1), 0, none⟩ = some (.bool false) ∧ w'.cell? ⟨(w.heap.size + 1), 1, none⟩ = some (.slice A' n0 c'))
     (first
       | (go_keep; done)
       | exact ⟨ax2.c0, ax2.c1, bx2.c0, bx2.c1⟩
       | exact ⟨ax1.c0, ax1.c1, bx1.c0, bx1.c1⟩
       | exact ⟨(ax2.far2 neax _ _).c0, (ax2.far2 neax _ _).c1, (bx2.far2 nebx _ _).c0, (bx2.far2 nebx _ _).c1⟩)
     (first
       | (go_at_call 42; refine (HM.out _ _ _ _ _ hu hv).mono ?_; rintro e w1 ⟨v1, rfl, hv1, hb1⟩; replace hv1 := hv1.mono (ok' := fun k => w.heap.size + 3 ≤ k) (fun k hk => by (try simp at hk); omega); obtain ⟨A1, c1, rfl, _, _⟩ := hv1.form; have sz1 := hb1.size; (try simp at sz1); have ax1 := ax0.below hb1; have xax10 := ax1.c0; have xax11 := ax1.c1; have bx1 := bx0.below hb1; have xbx10 := bx1.c0; have xbx11 := bx1.c1; have rx1 := rx0.below hb1; have xrx10 := rx1.c0; have xrx11 := rx1.c1; have yrx10 := rx1.f0; have yrx11 := rx1.f1)
       | (go_at_call 44; refine (HW.out _ _ _ hv1).mono ?_; rintro e w2 ⟨rfl, hb2⟩; have sz2 := hb2.size; have ax2 := ax1.below hb2; have xax20 := ax2.c0; have xax21 := ax2.c1; have bx2 := bx1.below hb2; have xbx20 := bx2.c0; have xbx21 := bx2.c1; have rx2 := rx1.below hb2; have xrx20 := rx2.c0; have xrx21 := rx2.c1; have yrx20 := rx2.f0; have yrx21 := rx2.f1))
 go_wp2
 refine bodyPost_ret (v := .agg #[.bool s1, .slice A1 (digs p).length c1]) (by simp [results, Tryz.results30, go_sem, rx2.c0, rx2.c1]) rfl ?_
 exact ⟨_, rfl, ((hv1.below hb2).far2 (fun k hk => by omega) _ _).mono (fun k hk => by omega), below2 (below_step (below_step hB0 hb1) hb2) (by omega) _ _⟩
def ng (z : Int) : Bool := decide (z < 0)
theorem sgn_ng (z : Int) : sgn (ng z) z.natAbs = ng z := by
 unfold sgn ng
 by_cases h : z < 0
 · simp [h] <;> omega
 · simp [h]
theorem sgn_eq {b : Bool} {n : Nat} {z : Int} (h : z = if b then -(n : Int) else n) : sgn b n = ng z ∧ n = z.natAbs := by
 subst h
 unfold sgn ng
 cases b <;> simp <;> omega
theorem of_ng (z : Int) : z = if ng z then -(z.natAbs : Int) else z.natAbs := by
 unfold ng
 by_cases h : z < 0
 · simp [h]; omega
 · simp [h]; omega
theorem WAdd_n (x y : Int) (oa ob : Nat → Prop) (v u : Value) (w : World) (hv : Rdv w oa v x.natAbs) (hu : Rdv w ob u y.natAbs) (hl : (digs x.natAbs).length ≤ 1000000000) (hl2 : (digs y.natAbs).length ≤ 1000000000) :
   Calls Tryz.prog 30 #[.agg #[.bool (ng x), v], .agg #[.bool (ng y), u]] w fun en w' => ∃ z, en = .returned (.agg #[.bool (ng (x + y)), z]) ∧ Rdv w' (fun k => w.heap.size ≤ k) z (x + y).natAbs ∧ Below w.heap.size w w' := by
 have ex := of_ng x
 have ey := of_ng y
 cases h1 : ng x <;> cases h2 : ng y <;> rw [h1] at ex <;> rw [h2] at ey <;> simp only [Bool.false_eq_true, if_true, if_false] at ex ey
 · obtain ⟨e1, e2⟩ := sgn_eq (b := false) (n := x.natAbs + y.natAbs) (z := x + y) (by simp; omega)
   have := WAdd_same false x.natAbs y.natAbs oa ob v u w hv hu hl hl2
   rwa [e1, e2] at this
 · rcases Nat.lt_or_ge x.natAbs y.natAbs with h | h
   · obtain ⟨e1, e2⟩ := sgn_eq (b := true) (n := y.natAbs - x.natAbs) (z := x + y) (by simp; omega)
     have := WAdd_pn2 x.natAbs y.natAbs oa ob v u w hv hu hl hl2 h
     rwa [e1, e2] at this
   · obtain ⟨e1, e2⟩ := sgn_eq (b := false) (n := x.natAbs - y.natAbs) (z := x + y) (by simp; omega)
     have := WAdd_pn x.natAbs y.natAbs oa ob v u w hv hu hl hl2 h
     rwa [e1, e2] at this
 · rcases Nat.lt_or_ge x.natAbs y.natAbs with h | h
   · obtain ⟨e1, e2⟩ := sgn_eq (b := false) (n := y.natAbs - x.natAbs) (z := x + y) (by simp; omega)
     have := WAdd_np2 x.natAbs y.natAbs oa ob v u w hv hu hl hl2 h
     rwa [e1, e2] at this
   · obtain ⟨e1, e2⟩ := sgn_eq (b := true) (n := x.natAbs - y.natAbs) (z := x + y) (by simp; omega)
     have := WAdd_np x.natAbs y.natAbs oa ob v u w hv hu hl hl2 h
     rwa [e1, e2] at this
 · obtain ⟨e1, e2⟩ := sgn_eq (b := true) (n := x.natAbs + y.natAbs) (z := x + y) (by simp; omega)
   have := WAdd_same true x.natAbs y.natAbs oa ob v u w hv hu hl hl2
   rwa [e1, e2] at this
theorem prod_sign (a b : Bool) (X Y : Int) : (if a then -X else X) * (if b then -Y else Y) = if (a != b) = true then -(X * Y) else X * Y := by
 cases a <;> cases b <;> simp [Int.neg_mul, Int.mul_neg]
theorem WMul_n (x y : Int) (oa ob : Nat → Prop) (v u : Value) (w : World) (hv : Rdv w oa v x.natAbs) (hu : Rdv w ob u y.natAbs) (hl : (digs x.natAbs).length + (digs y.natAbs).length ≤ 1000000000) :
   Calls Tryz.prog 78 #[.agg #[.bool (ng x), v], .agg #[.bool (ng y), u]] w fun en w' => ∃ z, en = .returned (.agg #[.bool (ng (x * y)), z]) ∧ Rdv w' (fun k => w.heap.size ≤ k) z (x * y).natAbs ∧ Below w.heap.size w w' := by
 have := WholeMul_n (ng x) (ng y) x.natAbs y.natAbs oa ob v u w hv hu hl
 obtain ⟨e1, e2⟩ := sgn_eq (b := ng x != ng y) (n := x.natAbs * y.natAbs) (z := x * y) (by
   have e := prod_sign (ng x) (ng y) x.natAbs y.natAbs
   rw [← of_ng x, ← of_ng y] at e
   rw [e, Int.natCast_mul])
 rwa [e1, e2] at this
theorem WMin_n (x : Int) (oa : Nat → Prop) (v : Value) (w : World) (hv : Rdv w oa v x.natAbs) :
   Calls Tryz.prog 19 #[.agg #[.bool (ng x), v]] w fun en w' => en = .returned (.agg #[.bool (ng (-x)), v]) ∧ Below w.heap.size w w' := by
 have := WholeMinus_n (ng x) x.natAbs oa v w hv
 obtain ⟨e1, e2⟩ := sgn_eq (b := !ng x) (n := x.natAbs) (z := -x) (by
   have ex := of_ng x
   cases h1 : ng x <;> rw [h1] at ex <;> simp only [Bool.false_eq_true, if_true, if_false] at ex <;> simp <;> omega)
 rwa [e1] at this
theorem WCmp_n (x y : Int) (oa ob : Nat → Prop) (v u : Value) (w : World) (hv : Rdv w oa v x.natAbs) (hu : Rdv w ob u y.natAbs) (hl : (digs x.natAbs).length ≤ 4000000000) (hl2 : (digs y.natAbs).length ≤ 4000000000) :
   Calls Tryz.prog 31 #[.agg #[.bool (ng x), v], .agg #[.bool (ng y), u]] w fun en w' => en = .returned (.int .i64 (cmpI x y)) ∧ Below w.heap.size w w' := by
 have := WholeCmp_n (ng x) (ng y) x.natAbs y.natAbs oa ob v u w hv hu hl hl2
 have e : cmpW (ng x) x.natAbs (ng y) y.natAbs = cmpI x y := by
   unfold cmpW cmpI cmpN ng
   by_cases h1 : x < 0 <;> by_cases h2 : y < 0 <;> simp only [h1, h2, decide_true, decide_false, if_true, if_false, Bool.false_eq_true, Bool.true_eq_false] <;> (repeat' split) <;> omega
 rwa [e] at this
theorem WSign_n (x : Int) (oa : Nat → Prop) (v : Value) (w : World) (hv : Rdv w oa v x.natAbs) (hl : (digs x.natAbs).length ≤ 4000000000) :
   Calls Tryz.prog 10 #[.agg #[.bool (ng x), v]] w fun en w' => en = .returned (.int .i64 (cmpI x 0)) ∧ Below w.heap.size w w' := by
 have := WholeSign_n (ng x) x.natAbs oa v w hv (sgn_ng x) hl
 have e : sig (ng x) x.natAbs = cmpI x 0 := by
   unfold sig cmpI ng
   by_cases h1 : x < 0 <;> simp only [h1, decide_true, decide_false, if_true, if_false, Bool.false_eq_true] <;> (repeat' split) <;> omega
 rwa [e] at this
set_option maxHeartbeats 4000000 in
theorem WOf_n (x : Int) (w : World) (hx : -1000000 ≤ x ∧ x ≤ 1000000) :
   Calls Tryz.prog 29 #[.int .i64 x] w fun en w' => ∃ z, en = .returned (.agg #[.bool (ng x), z]) ∧ Rdv w' (fun k => w.heap.size ≤ k) z x.natAbs ∧ Below w.heap.size w w' := by
 by_cases h : x < 0
 · skip
   have e : ng x = true := by simp [ng, h]
   have HF := Aside0.mk (fun w => from_n x.natAbs w (by omega))
   rw [e]
   clear e
   have hn : ((x.natAbs : Nat) : Int) = -(x + 1) + 1 := by omega
   rw [hn] at HF
   generalize x.natAbs = n at *
   clear hn
   go_enter Tryz.func29, Tryz.ntmps29
   go_wp2_with fail
   have rx0 := Box.new2 w w.heap.size (.bool false) (.slice none 0 0) 28 rfl
   have hB0 := ((Below.refl w.heap.size w).alloc (Nat.le_refl _) (.cells #[.bool false, .slice none 0 0] 28))
   have sz0 : (w.alloc (Obj.cells #[.bool false, .slice none 0 0] 28)).heap.size = w.heap.size + 1 := by simp
   generalize (w.alloc (Obj.cells #[.bool false, .slice none 0 0] 28)) = w0 at *
   go_wp2_with (first | (go_at_call 36; refine (HF.out _).mono ?_; rintro e w1 ⟨v1, rfl, hv1, hb1⟩; obtain ⟨A1, c1, rfl, _, _⟩ := hv1.form; replace rx0 := rx0.below hb1; have sz1 := hb1.size; have q0 := rx0.c0; have q1 := rx0.c1; have q2 := rx0.f0; have q3 := rx0.f1))
   refine bodyPost_ret (v := .agg #[.bool true, .slice A1 (digs n).length c1]) (by simp [results, Tryz.results29, go_sem, q0, q1, q2, q3]) rfl ?_
   exact ⟨_, rfl, (hv1.far2 (fun k hk => by omega) _ _).mono (fun k hk => by omega), below2 (below_step hB0 hb1) (by omega) _ _⟩
 · skip
   have e : ng x = false := by simp [ng, h]
   have HF := Aside0.mk (fun w => from_n x.natAbs w (by omega))
   rw [e]
   clear e
   have hn : ((x.natAbs : Nat) : Int) = x := by omega
   rw [hn] at HF
   generalize x.natAbs = n at *
   clear hn
   go_enter Tryz.func29, Tryz.ntmps29
   go_wp2_with fail
   have rx0 := Box.new2 w w.heap.size (.bool false) (.slice none 0 0) 28 rfl
   have hB0 := ((Below.refl w.heap.size w).alloc (Nat.le_refl _) (.cells #[.bool false, .slice none 0 0] 28))
   have sz0 : (w.alloc (Obj.cells #[.bool false, .slice none 0 0] 28)).heap.size = w.heap.size + 1 := by simp
   generalize (w.alloc (Obj.cells #[.bool false, .slice none 0 0] 28)) = w0 at *
   go_wp2_with (first | (go_at_call 36; refine (HF.out _).mono ?_; rintro e w1 ⟨v1, rfl, hv1, hb1⟩; obtain ⟨A1, c1, rfl, _, _⟩ := hv1.form; replace rx0 := rx0.below hb1; have sz1 := hb1.size; have q0 := rx0.c0; have q1 := rx0.c1; have q2 := rx0.f0; have q3 := rx0.f1))
   refine bodyPost_ret (v := .agg #[.bool false, .slice A1 (digs n).length c1]) (by simp [results, Tryz.results29, go_sem, q0, q1, q2, q3]) rfl ?_
   exact ⟨_, rfl, (hv1.far2 (fun k hk => by omega) _ _).mono (fun k hk => by omega), below2 (below_step hB0 hb1) (by omega) _ _⟩
set_option maxHeartbeats 4000000 in
theorem WFrom_n (x : Int) (w : World) (hx : -1000000 ≤ x ∧ x ≤ 1000000) :
   Calls Tryz.prog 77 #[.int .i64 x] w fun en w' => ∃ z, en = .returned (.agg #[.bool (ng x), z]) ∧ Rdv w' (fun k => w.heap.size ≤ k) z x.natAbs ∧ Below w.heap.size w w' := by
 have HF := Aside0.mk (fun w => WOf_n x w hx)
 generalize x.natAbs = n at *
 generalize ng x = b at *
 go_enter Tryz.func77, Tryz.ntmps77
 go_wp2_with fail
 have rx0 := Box.new2 w w.heap.size (.bool false) (.slice none 0 0) 28 rfl
 have hB0 := ((Below.refl w.heap.size w).alloc (Nat.le_refl _) (.cells #[.bool false, .slice none 0 0] 28))
 have sz0 : (w.alloc (Obj.cells #[.bool false, .slice none 0 0] 28)).heap.size = w.heap.size + 1 := by simp
 generalize (w.alloc (Obj.cells #[.bool false, .slice none 0 0] 28)) = w0 at *
 go_wp2_with (first | (go_at_call 29; refine (HF.out _).mono ?_; rintro e w1 ⟨v1, rfl, hv1, hb1⟩; obtain ⟨A1, c1, rfl, _, _⟩ := hv1.form; replace rx0 := rx0.below hb1; have sz1 := hb1.size; have q0 := rx0.c0; have q1 := rx0.c1; have q2 := rx0.f0; have q3 := rx0.f1))
 refine bodyPost_ret (v := .agg #[.bool b, .slice A1 (digs n).length c1]) (by simp [results, Tryz.results77, go_sem, q0, q1, q2, q3]) rfl ?_
 exact ⟨_, rfl, (hv1.far2 (fun k hk => by omega) _ _).mono (fun k hk => by omega), below2 (below_step hB0 hb1) (by omega) _ _⟩
end Go.Proofs.YteohmbannpbokaaGreatDoor.SpecWalk
