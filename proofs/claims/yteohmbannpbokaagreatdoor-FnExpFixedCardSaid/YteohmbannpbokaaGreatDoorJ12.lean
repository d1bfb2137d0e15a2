/-
 The reference's ranges: sums, products, order.
 Words for this claim.
 The reference's guess of a digit of a quotient: at least the digit, and one limb.
-/
import Derived.Test.YteohmbannpbokaaGreatDoorJ11
import Derived.Test.YteohmbannpbokaaGreatDoorProg
import Derived.Below
import Derived.Deep.Draws
import Derived.Deep.AppendLies
import Derived.Maps.AppendAt
import Derived.OwnWalk
import Derived.Laws.BytesArg
import Derived.Laws.MakeOwn
import Derived.Laws.OwnMore
import Derived.Deep.OwnRows
import Derived.Tactics
import Derived.Lib.ConvBytes
import Derived.Laws.Slices
import Derived.WalkKit
import Derived.KernelRfl
import Derived.RowKit3
import Derived.Deep.LoopGhost
import Derived.Deep.QuietTactic
import Derived.BigQuiet
import Derived.WideLaws
import Derived.Deep.DeepCutAuto
import Derived.Deep.CutBlock
import Derived.Deep.RegionHeld3
import Derived.Laws.Rows
import Derived.Lib.AppendStr
import Derived.ArgAppend
import Derived.Laws.IdiomCopy
import Derived.OrdersHeld
import Derived.Laws.BitsLemmas
import Derived.RowKit
import Derived.Test.YteohmbannpbokaaGreatDoorJ02
import Derived.Test.YteohmbannpbokaaGreatDoorJ01
import Derived.Test.YteohmbannpbokaaGreatDoorJ03
import Derived.Test.YteohmbannpbokaaGreatDoorJ04
import Derived.Test.YteohmbannpbokaaGreatDoorJ10
set_option maxRecDepth 100000
set_option linter.unusedVariables false
set_option linter.unusedSimpArgs false
namespace Go.Proofs.YteohmbannpbokaaGreatDoor.SpecWalk
open Go.RowKit Go.Proofs.YteohmbannpbokaaGreatDoorW.PrintWords Go.Proofs.YteohmbannpbokaaGreatDoorW.PrintLast Go.Proofs.YteohmbannpbokaaGreatDoorW.PrintMore Go.Proofs.YteohmbannpbokaaGreatDoor.Digs Go.Proofs.YteohmbannpbokaaGreatDoor.StrLaw Go.Proofs.YteohmbannpbokaaGreatDoor.NatLaw Go.Proofs.YteohmbannpbokaaGreatDoor.NatWalk
theorem Box.c3 {w : World} {g : Nat} {x y z t : Value} {l : List Value} (h : Box w g (x :: y :: z :: t :: l)) : w.cell? ⟨g, 3, none⟩ = some t := (h.out 3 t rfl).1
theorem Box.f3 {w : World} {g : Nat} {x y z t : Value} {l : List Value} (h : Box w g (x :: y :: z :: t :: l)) : w.frozen? ⟨g, 3, none⟩ = false := (h.out 3 t rfl).2
theorem Box.mk4 {w : World} {g : Nat} {x y z t : Value} (h0 : w.cell? ⟨g, 0, none⟩ = some x) (h1 : w.cell? ⟨g, 1, none⟩ = some y) (h2 : w.cell? ⟨g, 2, none⟩ = some z) (h3 : w.cell? ⟨g, 3, none⟩ = some t) (k0 : w.frozen? ⟨g, 0, none⟩ = false) (k1 : w.frozen? ⟨g, 1, none⟩ = false) (k2 : w.frozen? ⟨g, 2, none⟩ = false) (k3 : w.frozen? ⟨g, 3, none⟩ = false) : Box w g [x, y, z, t] := by
 refine ⟨fun j v hj => ?_⟩
 match j, hj with
 | 0, hj => injection hj with hj; subst hj; exact ⟨h0, k0⟩
 | 1, hj => injection hj with hj; subst hj; exact ⟨h1, k1⟩
 | 2, hj => injection hj with hj; subst hj; exact ⟨h2, k2⟩
 | 3, hj => injection hj with hj; subst hj; exact ⟨h3, k3⟩
 | k + 4, hj => simp at hj
theorem Box.new4 (w : World) (g : Nat) (x y z u : Value) (t : TypeId) (hg : w.heap.size = g) : Box (w.alloc (.cells #[x, y, z, u] t)) g [x, y, z, u] := by
 subst hg
 exact .mk4 (by simp) (by simp) (by simp) (by simp) (by simp) (by simp) (by simp) (by simp)
theorem Box.far4 {w : World} {g g' : Nat} {l : List Value} (h : Box w g l) (hg : g ≠ g') (x y z t : Value) : Box ((((w.setCell ⟨g', 0, none⟩ x).setCell ⟨g', 1, none⟩ y).setCell ⟨g', 2, none⟩ z).setCell ⟨g', 3, none⟩ t) g l := (h.far3 hg x y z).far (p := ⟨g', 3, none⟩) hg t
theorem below4 {B : Nat} {w0 w : World} {g : Nat} (h : Below B w0 w) (hg : B ≤ g) (x y z t : Value) : Below B w0 ((((w.setCell ⟨g, 0, none⟩ x).setCell ⟨g, 1, none⟩ y).setCell ⟨g, 2, none⟩ z).setCell ⟨g, 3, none⟩ t) := Below.setCell (below3 h hg x y z) hg _
theorem _root_.Go.Proofs.YteohmbannpbokaaGreatDoor.NatWalk.Rdv.far4 {w : World} {ok : Nat → Prop} {v : Value} {n g : Nat} (h : Rdv w ok v n) (ho : ∀ k, ok k → k ≠ g) (x y z t : Value) : Rdv ((((w.setCell ⟨g, 0, none⟩ x).setCell ⟨g, 1, none⟩ y).setCell ⟨g, 2, none⟩ z).setCell ⟨g, 3, none⟩ t) ok v n := (h.far3 ho x y z).far (p := ⟨g, 3, none⟩) ho t
set_option maxHeartbeats 4000000 in
theorem SMin_n (x y : Int) (ox oy : Nat → Prop) (v u : Value) (w : World) (hv : Rdv w ox v x.natAbs) (hu : Rdv w oy u y.natAbs) :
   Calls Tryz.prog 56 #[.agg #[.bool (ng x), v, .bool (ng y), u]] w fun en w' => en = .returned (.agg #[.bool (ng (-y)), u, .bool (ng (-x)), v]) ∧ Below w.heap.size w w' := by
 obtain ⟨A, c, rfl, _, _⟩ := hv.form
 obtain ⟨A', c', rfl, _, _⟩ := hu.form
 have H1 := Aside0.mk (fun oa v w hv => WMin_n y oa v w hv)
 have H2 := Aside0.mk (fun oa v w hv => WMin_n x oa v w hv)
 generalize ng x = a at *
 generalize ng y = a' at *
 generalize ng (-x) = s at *
 generalize ng (-y) = s' at *
 generalize x.natAbs = p at *
 generalize y.natAbs = p' at *
 generalize hm : (digs p).length = m at *
 generalize hm' : (digs p').length = m' at *
 clear hm hm'
 go_enter Tryz.func56, Tryz.ntmps56
 go_wp2_with fail
 have ax0 : Box ((w.alloc (Obj.cells #[Value.bool a, Value.slice A m c, Value.bool a', Value.slice A' m' c'] 74)).alloc (Obj.cells #[Value.bool false, Value.slice none 0 0, Value.bool false, Value.slice none 0 0] 74)).drew w.heap.size [.bool a, .slice A m c, .bool a', .slice A' m' c'] := ((Box.new4 w _ _ _ _ _ _ (by simp)).alloc _).drew
 have rx0 : Box ((w.alloc (Obj.cells #[Value.bool a, Value.slice A m c, Value.bool a', Value.slice A' m' c'] 74)).alloc (Obj.cells #[Value.bool false, Value.slice none 0 0, Value.bool false, Value.slice none 0 0] 74)).drew (w.heap.size + 1) [.bool false, .slice none 0 0, .bool false, .slice none 0 0] := (Box.new4 (w.alloc (Obj.cells #[Value.bool a, Value.slice A m c, Value.bool a', Value.slice A' m' c'] 74)) _ _ _ _ _ _ (by simp)).drew
 have hB0 : Below w.heap.size w ((w.alloc (Obj.cells #[Value.bool a, Value.slice A m c, Value.bool a', Value.slice A' m' c'] 74)).alloc (Obj.cells #[Value.bool false, Value.slice none 0 0, Value.bool false, Value.slice none 0 0] 74)).drew := (((Below.refl _ _).alloc (Nat.le_refl _) _).alloc (by simp) _).drew
 replace hv := hv.below hB0
 replace hu := hu.below hB0
 have neax : w.heap.size ≠ (w.heap.size + 1) := by omega
 go_region_held3 (fun w' => w'.cell? ⟨w.heap.size, 0, none⟩ = some (.bool a) ∧ w'.cell? ⟨w.heap.size, 1, none⟩ = some (.slice A m c) ∧ w'.cell? ⟨w.heap.size, 2, none⟩ = some (.bool a') ∧ w'.cell? ⟨w.heap.size, 3, none⟩ = some (.slice A' m' c'))
     (first
       | (go_keep; done)
       | exact ⟨ax2.c0, ax2.c1, ax2.c2, ax2.c3⟩
       | exact ⟨ax1.c0, ax1.c1, ax1.c2, ax1.c3⟩
       | exact ⟨(ax2.far4 neax _ _ _ _).c0, (ax2.far4 neax _ _ _ _).c1, (ax2.far4 neax _ _ _ _).c2, (ax2.far4 neax _ _ _ _).c3⟩)
     (first
       | (go_at_call 19; with_reducible refine (H1.out _ _ _ hu).mono ?_; rintro e w1 ⟨rfl, hb1⟩; replace hv := hv.below hb1; have sz1 := hb1.size; (try simp at sz1); have ax1 := ax0.below hb1; have xax10 := ax1.c0; have xax11 := ax1.c1; have xax12 := ax1.c2; have xax13 := ax1.c3; have rx1 := rx0.below hb1; have xrx10 := rx1.c0; have xrx11 := rx1.c1; have xrx12 := rx1.c2; have xrx13 := rx1.c3; have yrx10 := rx1.f0; have yrx11 := rx1.f1; have yrx12 := rx1.f2; have yrx13 := rx1.f3)
       | (go_at_call 19; with_reducible refine (H2.out _ _ _ hv).mono ?_; rintro e w2 ⟨rfl, hb2⟩; have sz2 := hb2.size; have ax2 := ax1.below hb2; have xax20 := ax2.c0; have xax21 := ax2.c1; have xax22 := ax2.c2; have xax23 := ax2.c3; have rx2 := rx1.below hb2; have xrx20 := rx2.c0; have xrx21 := rx2.c1; have xrx22 := rx2.c2; have xrx23 := rx2.c3; have yrx20 := rx2.f0; have yrx21 := rx2.f1; have yrx22 := rx2.f2; have yrx23 := rx2.f3))
 go_wp2
 refine bodyPost_ret (v := .agg #[.bool s', .slice A' m' c', .bool s, .slice A m c]) (by simp [results, Tryz.results56, go_sem, rx2.c0, rx2.c1, rx2.c2, rx2.c3]) rfl ?_
 exact ⟨rfl, below4 (below_step (below_step hB0 hb1) hb2) (by omega) _ _ _ _⟩
set_option maxHeartbeats 4000000 in
theorem SAdd_n (x y x' y' : Int) (ox oy ox' oy' : Nat → Prop) (v u v' u' : Value) (w : World) (hv : Rdv w ox v x.natAbs) (hu : Rdv w oy u y.natAbs) (hv' : Rdv w ox' v' x'.natAbs) (hu' : Rdv w oy' u' y'.natAbs)
   (h1 : (digs x.natAbs).length ≤ 1000000000) (h2 : (digs y.natAbs).length ≤ 1000000000) (h3 : (digs x'.natAbs).length ≤ 1000000000) (h4 : (digs y'.natAbs).length ≤ 1000000000) :
   Calls Tryz.prog 57 #[.agg #[.bool (ng x), v, .bool (ng y), u], .agg #[.bool (ng x'), v', .bool (ng y'), u']] w fun en w' => ∃ z t, en = .returned (.agg #[.bool (ng (x + x')), z, .bool (ng (y + y')), t]) ∧ Rdv w' (fun k => w.heap.size ≤ k) z (x + x').natAbs ∧ Rdv w' (fun k => w.heap.size ≤ k) t (y + y').natAbs ∧ Below w.heap.size w w' := by
 obtain ⟨A, c, rfl, _, _⟩ := hv.form
 obtain ⟨A', c', rfl, _, _⟩ := hu.form
 obtain ⟨B, d, rfl, _, _⟩ := hv'.form
 obtain ⟨B', d', rfl, _, _⟩ := hu'.form
 have H1 := Aside0.mk (fun oa ob v u w hv hu => WAdd_n x x' oa ob v u w hv hu h1 h3)
 have H2 := Aside0.mk (fun oa ob v u w hv hu => WAdd_n y y' oa ob v u w hv hu h2 h4)
 clear h1 h2 h3 h4
 generalize ng (x + x') = s at *
 generalize ng (y + y') = s' at *
 generalize ng x = a at *
 generalize ng y = a' at *
 generalize ng x' = b at *
 generalize ng y' = b' at *
 generalize (x + x').natAbs = q at *
 generalize (y + y').natAbs = q' at *
 generalize x.natAbs = p at *
 generalize y.natAbs = p' at *
 generalize x'.natAbs = r at *
 generalize y'.natAbs = r' at *
 generalize hm : (digs p).length = m at *
 generalize hm' : (digs p').length = m' at *
 generalize hn : (digs r).length = n at *
 generalize hn' : (digs r').length = n' at *
 clear hm hm' hn hn'
 go_enter Tryz.func57, Tryz.ntmps57
 go_wp2_with fail
 have ax0 : Box (((w.alloc (Obj.cells #[Value.bool a, Value.slice A m c, Value.bool a', Value.slice A' m' c'] 74)).alloc (Obj.cells #[Value.bool b, Value.slice B n d, Value.bool b', Value.slice B' n' d'] 74)).alloc (Obj.cells #[Value.bool false, Value.slice none 0 0, Value.bool false, Value.slice none 0 0] 74)).drew w.heap.size [.bool a, .slice A m c, .bool a', .slice A' m' c'] := (((Box.new4 w _ _ _ _ _ _ (by simp)).alloc _).alloc _).drew
 have bx0 : Box (((w.alloc (Obj.cells #[Value.bool a, Value.slice A m c, Value.bool a', Value.slice A' m' c'] 74)).alloc (Obj.cells #[Value.bool b, Value.slice B n d, Value.bool b', Value.slice B' n' d'] 74)).alloc (Obj.cells #[Value.bool false, Value.slice none 0 0, Value.bool false, Value.slice none 0 0] 74)).drew (w.heap.size + 1) [.bool b, .slice B n d, .bool b', .slice B' n' d'] := ((Box.new4 (w.alloc (Obj.cells #[Value.bool a, Value.slice A m c, Value.bool a', Value.slice A' m' c'] 74)) _ _ _ _ _ _ (by simp)).alloc _).drew
 have rx0 : Box (((w.alloc (Obj.cells #[Value.bool a, Value.slice A m c, Value.bool a', Value.slice A' m' c'] 74)).alloc (Obj.cells #[Value.bool b, Value.slice B n d, Value.bool b', Value.slice B' n' d'] 74)).alloc (Obj.cells #[Value.bool false, Value.slice none 0 0, Value.bool false, Value.slice none 0 0] 74)).drew (w.heap.size + 1 + 1) [.bool false, .slice none 0 0, .bool false, .slice none 0 0] := (Box.new4 ((w.alloc (Obj.cells #[Value.bool a, Value.slice A m c, Value.bool a', Value.slice A' m' c'] 74)).alloc (Obj.cells #[Value.bool b, Value.slice B n d, Value.bool b', Value.slice B' n' d'] 74)) _ _ _ _ _ _ (by simp)).drew
 have hB0 : Below w.heap.size w (((w.alloc (Obj.cells #[Value.bool a, Value.slice A m c, Value.bool a', Value.slice A' m' c'] 74)).alloc (Obj.cells #[Value.bool b, Value.slice B n d, Value.bool b', Value.slice B' n' d'] 74)).alloc (Obj.cells #[Value.bool false, Value.slice none 0 0, Value.bool false, Value.slice none 0 0] 74)).drew := ((((Below.refl _ _).alloc (Nat.le_refl _) _).alloc (by simp) _).alloc (by simp; omega) _).drew
 replace hv := hv.below hB0
 replace hu := hu.below hB0
 replace hv' := hv'.below hB0
 replace hu' := hu'.below hB0
 have neax : w.heap.size ≠ (w.heap.size + 1 + 1) := by omega
 have nebx : (w.heap.size + 1) ≠ (w.heap.size + 1 + 1) := by omega
 go_region_held3 (fun w' => w'.cell? ⟨w.heap.size, 0, none⟩ = some (.bool a) ∧ w'.cell? ⟨w.heap.size, 1, none⟩ = some (.slice A m c) ∧ w'.cell? ⟨w.heap.size, 2, none⟩ = some (.bool a') ∧ w'.cell? ⟨w.heap.size, 3, none⟩ = some (.slice A' m' c') ∧ w'.cell? ⟨(w.heap.size + 1), 0, none⟩ = some (.bool b) ∧ w'.cell? ⟨(w.heap.size + 1), 1, none⟩ = some (.slice B n d) ∧ w'.cell? ⟨(w.heap.size + 1), 2, none⟩ = some (.bool b') ∧ w'.cell? ⟨(w.heap.size + 1), 3, none⟩ = some (.slice B' n' d'))
     (first
       | (go_keep; done)
       | exact ⟨ax2.c0, ax2.c1, ax2.c2, ax2.c3, bx2.c0, bx2.c1, bx2.c2, bx2.c3⟩
       | exact ⟨ax1.c0, ax1.c1, ax1.c2, ax1.c3, bx1.c0, bx1.c1, bx1.c2, bx1.c3⟩
       | exact ⟨(ax2.far4 neax _ _ _ _).c0, (ax2.far4 neax _ _ _ _).c1, (ax2.far4 neax _ _ _ _).c2, (ax2.far4 neax _ _ _ _).c3, (bx2.far4 nebx _ _ _ _).c0, (bx2.far4 nebx _ _ _ _).c1, (bx2.far4 nebx _ _ _ _).c2, (bx2.far4 nebx _ _ _ _).c3⟩)
     (first
       | (go_at_call 30; with_reducible refine (H1.out _ _ _ _ _ hv hv').mono ?_; rintro e w1 ⟨z1, rfl, hz1, hb1⟩; replace hz1 := hz1.mono (ok' := fun k => w.heap.size + 3 ≤ k) (fun k hk => by simp at hk; omega); obtain ⟨A1, c1, rfl, _, _⟩ := hz1.form; replace hu := hu.below hb1; replace hu' := hu'.below hb1; have sz1 := hb1.size; (try simp at sz1); have ax1 := ax0.below hb1; have xax10 := ax1.c0; have xax11 := ax1.c1; have xax12 := ax1.c2; have xax13 := ax1.c3; have bx1 := bx0.below hb1; have xbx10 := bx1.c0; have xbx11 := bx1.c1; have xbx12 := bx1.c2; have xbx13 := bx1.c3; have rx1 := rx0.below hb1; have xrx10 := rx1.c0; have xrx11 := rx1.c1; have xrx12 := rx1.c2; have xrx13 := rx1.c3; have yrx10 := rx1.f0; have yrx11 := rx1.f1; have yrx12 := rx1.f2; have yrx13 := rx1.f3)
       | (go_at_call 30; with_reducible refine (H2.out _ _ _ _ _ hu hu').mono ?_; rintro e w2 ⟨z2, rfl, hz2, hb2⟩; replace hz2 := hz2.mono (ok' := fun k => w.heap.size + 3 ≤ k) (fun k hk => by have h0 : _ ≤ k := hk; have := hb1.size; (try simp at this); omega); replace hz1 := hz1.below hb2; obtain ⟨A2, c2, rfl, _, _⟩ := hz2.form; have sz2 := hb2.size; have ax2 := ax1.below hb2; have xax20 := ax2.c0; have xax21 := ax2.c1; have xax22 := ax2.c2; have xax23 := ax2.c3; have bx2 := bx1.below hb2; have xbx20 := bx2.c0; have xbx21 := bx2.c1; have xbx22 := bx2.c2; have xbx23 := bx2.c3; have rx2 := rx1.below hb2; have xrx20 := rx2.c0; have xrx21 := rx2.c1; have xrx22 := rx2.c2; have xrx23 := rx2.c3; have yrx20 := rx2.f0; have yrx21 := rx2.f1; have yrx22 := rx2.f2; have yrx23 := rx2.f3))
 go_wp2
 refine bodyPost_ret (v := .agg #[.bool s, .slice A1 (digs q).length c1, .bool s', .slice A2 (digs q').length c2]) (by simp [results, Tryz.results57, go_sem, rx2.c0, rx2.c1, rx2.c2, rx2.c3]) rfl ?_
 exact ⟨_, _, rfl, (hz1.far4 (fun k hk => by omega) _ _ _ _).mono (fun k hk => by omega), (hz2.far4 (fun k hk => by omega) _ _ _ _).mono (fun k hk => by omega), below4 (below_step (below_step hB0 hb1) hb2) (by omega) _ _ _ _⟩
set_option maxHeartbeats 4000000 in
theorem STim_pos (x y k : Int) (ox oy ok : Nat → Prop) (v u t : Value) (w : World) (hk : 0 ≤ k) (hv : Rdv w ox v x.natAbs) (hu : Rdv w oy u y.natAbs) (ht : Rdv w ok t k.natAbs)
   (h1 : (digs x.natAbs).length ≤ 100000000) (h2 : (digs y.natAbs).length ≤ 100000000) (h3 : (digs k.natAbs).length ≤ 100000000) :
   Calls Tryz.prog 58 #[.agg #[.bool (ng x), v, .bool (ng y), u], .agg #[.bool (ng k), t]] w fun en w' => ∃ z t, en = .returned (.agg #[.bool (ng (x * k)), z, .bool (ng (y * k)), t]) ∧ Rdv w' (fun k => w.heap.size ≤ k) z (x * k).natAbs ∧ Rdv w' (fun k => w.heap.size ≤ k) t (y * k).natAbs ∧ Below w.heap.size w w' := by
 obtain ⟨A, c, rfl, _, _⟩ := hv.form
 obtain ⟨A', c', rfl, _, _⟩ := hu.form
 obtain ⟨B, d, rfl, _, _⟩ := ht.form
 have H1 := Aside0.mk (fun oa ob v u w hv hu => WMul_n x k oa ob v u w hv hu (by omega))
 have H2 := Aside0.mk (fun oa ob v u w hv hu => WMul_n y k oa ob v u w hv hu (by omega))
 have ek : ng k = false := by simp [ng]; omega
 rw [ek] at H1 H2 ⊢
 clear h1 h2 h3 hk ek
 generalize ng (x * k) = s at *
 generalize ng (y * k) = s' at *
 generalize ng x = a at *
 generalize ng y = a' at *
 generalize (x * k).natAbs = q at *
 generalize (y * k).natAbs = q' at *
 generalize x.natAbs = p at *
 generalize y.natAbs = p' at *
 generalize k.natAbs = r at *
 generalize hm : (digs p).length = m at *
 generalize hm' : (digs p').length = m' at *
 generalize hn : (digs r).length = n at *
 clear hm hm' hn
 go_enter Tryz.func58, Tryz.ntmps58
 go_wp2_with fail
 have ax0 : Box (((w.alloc (Obj.cells #[Value.bool a, Value.slice A m c, Value.bool a', Value.slice A' m' c'] 74)).alloc (Obj.cells #[Value.bool false, Value.slice B n d] 28)).alloc (Obj.cells #[Value.bool false, Value.slice none 0 0, Value.bool false, Value.slice none 0 0] 74)).drew w.heap.size [.bool a, .slice A m c, .bool a', .slice A' m' c'] := (((Box.new4 w _ _ _ _ _ _ (by simp)).alloc _).alloc _).drew
 have bx0 : Box (((w.alloc (Obj.cells #[Value.bool a, Value.slice A m c, Value.bool a', Value.slice A' m' c'] 74)).alloc (Obj.cells #[Value.bool false, Value.slice B n d] 28)).alloc (Obj.cells #[Value.bool false, Value.slice none 0 0, Value.bool false, Value.slice none 0 0] 74)).drew (w.heap.size + 1) [.bool false, .slice B n d] := ((Box.new2 (w.alloc (Obj.cells #[Value.bool a, Value.slice A m c, Value.bool a', Value.slice A' m' c'] 74)) _ _ _ _ (by simp)).alloc _).drew
 have rx0 : Box (((w.alloc (Obj.cells #[Value.bool a, Value.slice A m c, Value.bool a', Value.slice A' m' c'] 74)).alloc (Obj.cells #[Value.bool false, Value.slice B n d] 28)).alloc (Obj.cells #[Value.bool false, Value.slice none 0 0, Value.bool false, Value.slice none 0 0] 74)).drew (w.heap.size + 1 + 1) [.bool false, .slice none 0 0, .bool false, .slice none 0 0] := (Box.new4 ((w.alloc (Obj.cells #[Value.bool a, Value.slice A m c, Value.bool a', Value.slice A' m' c'] 74)).alloc (Obj.cells #[Value.bool false, Value.slice B n d] 28)) _ _ _ _ _ _ (by simp)).drew
 have hB0 : Below w.heap.size w (((w.alloc (Obj.cells #[Value.bool a, Value.slice A m c, Value.bool a', Value.slice A' m' c'] 74)).alloc (Obj.cells #[Value.bool false, Value.slice B n d] 28)).alloc (Obj.cells #[Value.bool false, Value.slice none 0 0, Value.bool false, Value.slice none 0 0] 74)).drew := ((((Below.refl _ _).alloc (Nat.le_refl _) _).alloc (by simp) _).alloc (by simp; omega) _).drew
 replace hv := hv.below hB0
 replace hu := hu.below hB0
 replace ht := ht.below hB0
 have neax : w.heap.size ≠ (w.heap.size + 1 + 1) := by omega
 have nebx : (w.heap.size + 1) ≠ (w.heap.size + 1 + 1) := by omega
 go_region_held3 (fun w' => w'.cell? ⟨w.heap.size, 0, none⟩ = some (.bool a) ∧ w'.cell? ⟨w.heap.size, 1, none⟩ = some (.slice A m c) ∧ w'.cell? ⟨w.heap.size, 2, none⟩ = some (.bool a') ∧ w'.cell? ⟨w.heap.size, 3, none⟩ = some (.slice A' m' c') ∧ w'.cell? ⟨(w.heap.size + 1), 0, none⟩ = some (.bool false) ∧ w'.cell? ⟨(w.heap.size + 1), 1, none⟩ = some (.slice B n d))
     (first
       | (go_keep; done)
       | exact ⟨ax2.c0, ax2.c1, ax2.c2, ax2.c3, bx2.c0, bx2.c1⟩
       | exact ⟨ax1.c0, ax1.c1, ax1.c2, ax1.c3, bx1.c0, bx1.c1⟩
       | exact ⟨(ax2.far4 neax _ _ _ _).c0, (ax2.far4 neax _ _ _ _).c1, (ax2.far4 neax _ _ _ _).c2, (ax2.far4 neax _ _ _ _).c3, (bx2.far4 nebx _ _ _ _).c0, (bx2.far4 nebx _ _ _ _).c1⟩)
     (first
       | (go_at_call 78; with_reducible refine (H1.out _ _ _ _ _ hv ht).mono ?_; rintro e w1 ⟨z1, rfl, hz1, hb1⟩; replace hz1 := hz1.mono (ok' := fun k => w.heap.size + 3 ≤ k) (fun k hk => by simp at hk; omega); obtain ⟨A1, c1, rfl, _, _⟩ := hz1.form; replace hu := hu.below hb1; replace ht := ht.below hb1; have sz1 := hb1.size; (try simp at sz1); have ax1 := ax0.below hb1; have xax10 := ax1.c0; have xax11 := ax1.c1; have xax12 := ax1.c2; have xax13 := ax1.c3; have bx1 := bx0.below hb1; have xbx10 := bx1.c0; have xbx11 := bx1.c1; have rx1 := rx0.below hb1; have xrx10 := rx1.c0; have xrx11 := rx1.c1; have xrx12 := rx1.c2; have xrx13 := rx1.c3; have yrx10 := rx1.f0; have yrx11 := rx1.f1; have yrx12 := rx1.f2; have yrx13 := rx1.f3)
       | (go_at_call 78; with_reducible refine (H2.out _ _ _ _ _ hu ht).mono ?_; rintro e w2 ⟨z2, rfl, hz2, hb2⟩; replace hz2 := hz2.mono (ok' := fun k => w.heap.size + 3 ≤ k) (fun k hk => by have h0 : _ ≤ k := hk; have := hb1.size; (try simp at this); omega); replace hz1 := hz1.below hb2; obtain ⟨A2, c2, rfl, _, _⟩ := hz2.form; have sz2 := hb2.size; have ax2 := ax1.below hb2; have xax20 := ax2.c0; have xax21 := ax2.c1; have xax22 := ax2.c2; have xax23 := ax2.c3; have bx2 := bx1.below hb2; have xbx20 := bx2.c0; have xbx21 := bx2.c1; have rx2 := rx1.below hb2; have xrx20 := rx2.c0; have xrx21 := rx2.c1; have xrx22 := rx2.c2; have xrx23 := rx2.c3; have yrx20 := rx2.f0; have yrx21 := rx2.f1; have yrx22 := rx2.f2; have yrx23 := rx2.f3))
 go_wp2
 refine bodyPost_ret (v := .agg #[.bool s, .slice A1 (digs q).length c1, .bool s', .slice A2 (digs q').length c2]) (by simp [results, Tryz.results58, go_sem, rx2.c0, rx2.c1, rx2.c2, rx2.c3]) rfl ?_
 exact ⟨_, _, rfl, (hz1.far4 (fun k hk => by omega) _ _ _ _).mono (fun k hk => by omega), (hz2.far4 (fun k hk => by omega) _ _ _ _).mono (fun k hk => by omega), below4 (below_step (below_step hB0 hb1) hb2) (by omega) _ _ _ _⟩
end Go.Proofs.YteohmbannpbokaaGreatDoor.SpecWalk
namespace Go.Proofs.YteohmbannpbokaaGreatDoor.PnatGuess
open Go.RowKit Go.Proofs.YteohmbannpbokaaGreatDoorW.PrintWords Go.Proofs.YteohmbannpbokaaGreatDoorW.PrintLast Go.Proofs.YteohmbannpbokaaGreatDoorW.PrintMore
attribute [local go_sem] max2_int min2_int max_two min_two max_three min_three max_four min_four
set_option linter.unusedVariables false
set_option linter.unusedSimpArgs false
def errW : Option Int → Value
 | none => .nilIface
 | some c => .iface 0 (.int .i64 c)
theorem errW_none : errW none = .nilIface := rfl
theorem errW_some (c : Int) : errW (some c) = .iface 0 (.int .i64 c) := rfl
attribute [local go_sem] max2_int min2_int max_two min_two max_three min_three max_four min_four
set_option linter.unusedVariables false
set_option linter.unusedSimpArgs false
def spec_natGuess.f (l0 : List Int) (l1 : List Int) : Option (Int) := if (l0.length : Int) < (l1.length : Int) then (some 0) else (if 0 ≤ (wrap64 ((l1.length : Int) - 1)) then (if (wrap64 ((l1.length : Int) - 1)) < (l0.length : Int) then (if (l0.length : Int) > (l1.length : Int) then (if 0 ≤ (l1.length : Int) then (if (l1.length : Int) < (l0.length : Int) then (if (wrap64 ((l1.length : Int) - 1)) < (l1.length : Int) then (if (IntKind.u64.wrap (rd l1 (wrap64 ((l1.length : Int) - 1)))) = 0 then (none) else (some (mn (IntKind.u64.wrap (Int.tdiv (IntKind.u64.wrap ((IntKind.u64.wrap (rd l0 (wrap64 ((l1.length : Int) - 1)))) + (IntKind.u64.wrap ((IntKind.u64.wrap (rd l0 (l1.length : Int))) * 1000000000)))) (IntKind.u64.wrap (rd l1 (wrap64 ((l1.length : Int) - 1)))))) 999999999))) else (none)) else (none)) else (none)) else (if (wrap64 ((l1.length : Int) - 1)) < (l1.length : Int) then (if (IntKind.u64.wrap (rd l1 (wrap64 ((l1.length : Int) - 1)))) = 0 then (none) else (some (mn (IntKind.u64.wrap (Int.tdiv (IntKind.u64.wrap (rd l0 (wrap64 ((l1.length : Int) - 1)))) (IntKind.u64.wrap (rd l1 (wrap64 ((l1.length : Int) - 1)))))) 999999999))) else (none))) else (none)) else (none))
set_option maxHeartbeats 8000000 in
set_option maxRecDepth 100000 in
theorem spec_natGuess.calls (A0 : Option Addr) (c0 : Nat) (l0 : List Int) (A1 : Option Addr) (c1 : Nat) (l1 : List Int) (r : Int) (w : World) (hr0 : Kd.C (Kd.int .u32) w A0 l0.length l0) (hc0 : l0.length ≤ c0) (hr1 : Kd.C (Kd.int .u32) w A1 l1.length l1) (hc1 : l1.length ≤ c1) (h : spec_natGuess.f l0 l1 = some r) :
   Calls Tryz.prog 41 #[.slice A0 l0.length c0, .slice A1 l1.length c1] w fun e w' => e = .returned (.int .u64 r) ∧ Below w.heap.size w w' := by
 have HR0 := Aside0.mk hr0
 have HC0 := Aside0.mk hc0
 clear hr0 hc0
 have HR1 := Aside0.mk hr1
 have HC1 := Aside0.mk hc1
 clear hr1 hc1
 have HB := Aside0.mk (Below.refl w.heap.size w)
 have H : (if (l0.length : Int) < (l1.length : Int) then (some 0) else (if 0 ≤ (wrap64 ((l1.length : Int) - 1)) then (if (wrap64 ((l1.length : Int) - 1)) < (l0.length : Int) then (if (l0.length : Int) > (l1.length : Int) then (if 0 ≤ (l1.length : Int) then (if (l1.length : Int) < (l0.length : Int) then (if (wrap64 ((l1.length : Int) - 1)) < (l1.length : Int) then (if (IntKind.u64.wrap (rd l1 (wrap64 ((l1.length : Int) - 1)))) = 0 then (none) else (some (mn (IntKind.u64.wrap (Int.tdiv (IntKind.u64.wrap ((IntKind.u64.wrap (rd l0 (wrap64 ((l1.length : Int) - 1)))) + (IntKind.u64.wrap ((IntKind.u64.wrap (rd l0 (l1.length : Int))) * 1000000000)))) (IntKind.u64.wrap (rd l1 (wrap64 ((l1.length : Int) - 1)))))) 999999999))) else (none)) else (none)) else (none)) else (if (wrap64 ((l1.length : Int) - 1)) < (l1.length : Int) then (if (IntKind.u64.wrap (rd l1 (wrap64 ((l1.length : Int) - 1)))) = 0 then (none) else (some (mn (IntKind.u64.wrap (Int.tdiv (IntKind.u64.wrap (rd l0 (wrap64 ((l1.length : Int) - 1)))) (IntKind.u64.wrap (rd l1 (wrap64 ((l1.length : Int) - 1)))))) 999999999))) else (none))) else (none)) else (none))) = some r := h
 clear h
 by_cases c3 : (l0.length : Int) < (l1.length : Int)
 · rw [if_pos c3] at H
   have c3b0 : decide ((l0.length : Int) < (l1.length : Int)) = true := decide_eq_true c3
   have c3b1 : decide (l0.length < l1.length) = true := decide_eq_true (Int.ofNat_lt.mp c3)
   clear c3
   obtain rfl := Option.some.inj H
   go_enter Tryz.func41, Tryz.ntmps41
   go_wp2
   go_ret
   exact ⟨by first | rfl | (simp [errW_none, errW_some] <;> rfl) | (simp [*, errW_none, errW_some] <;> rfl), by repeat (first | (with_reducible first | exact HB.out | apply below_alloc | apply pw_below_drewN | apply below_drew1) | exact HB.out)⟩
 · rw [if_neg c3] at H
   have c3b0 : decide ((l0.length : Int) < (l1.length : Int)) = false := decide_eq_false c3
   have c3b1 : decide (l0.length < l1.length) = false := decide_eq_false (fun h => c3 (Int.ofNat_lt.mpr h))
   clear c3
   obtain ⟨ji4, hji4⟩ : ∃ j_ : Int, (wrap64 ((l1.length : Int) - 1)) = j_ := ⟨_, rfl⟩
   replace H : (if 0 ≤ (ji4) then (if (ji4) < (l0.length : Int) then (if (l0.length : Int) > (l1.length : Int) then (if 0 ≤ (l1.length : Int) then (if (l1.length : Int) < (l0.length : Int) then (if (ji4) < (l1.length : Int) then (if (IntKind.u64.wrap (rd l1 (ji4))) = 0 then (none) else (some (mn (IntKind.u64.wrap (Int.tdiv (IntKind.u64.wrap ((IntKind.u64.wrap (rd l0 (ji4))) + (IntKind.u64.wrap ((IntKind.u64.wrap (rd l0 (l1.length : Int))) * 1000000000)))) (IntKind.u64.wrap (rd l1 (ji4))))) 999999999))) else (none)) else (none)) else (none)) else (if (ji4) < (l1.length : Int) then (if (IntKind.u64.wrap (rd l1 (ji4))) = 0 then (none) else (some (mn (IntKind.u64.wrap (Int.tdiv (IntKind.u64.wrap (rd l0 (ji4))) (IntKind.u64.wrap (rd l1 (ji4))))) 999999999))) else (none))) else (none)) else (none)) = some r := by first | (rw [hji4] at H; exact H) | (simp only [hji4] at H ⊢; exact H)
   have hji4w : (IntKind.i64.wrap ((l1.length : Int) - 1)) = ji4 := (i64_w _).trans hji4
   by_cases c5 : 0 ≤ (ji4)
   · rw [if_pos c5] at H
     have c5b0 : decide (0 ≤ (ji4)) = true := decide_eq_true c5
     clear c5
     by_cases c6 : (ji4) < (l0.length : Int)
     · rw [if_pos c6] at H
       have c6b0 : decide ((ji4) < (l0.length : Int)) = true := decide_eq_true c6
       clear c6
       by_cases c7 : (l0.length : Int) > (l1.length : Int)
       · rw [if_pos c7] at H
         have c7b0 : decide ((l1.length : Int) < (l0.length : Int)) = true := decide_eq_true c7
         have c7b1 : decide (l1.length < l0.length) = true := decide_eq_true (Int.ofNat_lt.mp c7)
         clear c7
         by_cases c8 : 0 ≤ (l1.length : Int)
         · rw [if_pos c8] at H
           have c8b0 : decide (0 ≤ (l1.length : Int)) = true := decide_eq_true c8
           have c8b1 : decide (0 ≤ l1.length) = true := decide_eq_true (by omega)
           clear c8
           by_cases c9 : (l1.length : Int) < (l0.length : Int)
           · rw [if_pos c9] at H
             have c9b0 : decide ((l1.length : Int) < (l0.length : Int)) = true := decide_eq_true c9
             have c9b1 : decide (l1.length < l0.length) = true := decide_eq_true (Int.ofNat_lt.mp c9)
             clear c9
             by_cases c10 : (ji4) < (l1.length : Int)
             · rw [if_pos c10] at H
               have c10b0 : decide ((ji4) < (l1.length : Int)) = true := decide_eq_true c10
               clear c10
               by_cases c11 : (IntKind.u64.wrap (rd l1 (ji4))) = 0
               · rw [if_pos c11] at H
                 exact absurd H (by simp)
               · rw [if_neg c11] at H
                 have c11b0 : ((IntKind.u64.wrap (rd l1 (ji4))) == 0) = false := beq_eq_false_iff_ne.mpr c11
                 have c11b1 : ((IntKind.u64.wrap (rd l1 (ji4))) != 0) = true := bne_iff_ne.mpr c11
                 obtain ⟨ji12, hji12⟩ : ∃ j_ : Int, (mn (IntKind.u64.wrap (Int.tdiv (IntKind.u64.wrap ((IntKind.u64.wrap (rd l0 (ji4))) + (IntKind.u64.wrap ((IntKind.u64.wrap (rd l0 (l1.length : Int))) * 1000000000)))) (IntKind.u64.wrap (rd l1 (ji4))))) 999999999) = j_ := ⟨_, rfl⟩
                 replace H : (some ji12) = some r := by first | (rw [hji12] at H; exact H) | (simp only [hji12] at H ⊢; exact H)
                 have hji12_ : (if 999999999 < (IntKind.u64.wrap (Int.tdiv (IntKind.u64.wrap ((IntKind.u64.wrap (rd l0 (ji4))) + (IntKind.u64.wrap ((IntKind.u64.wrap (rd l0 (l1.length : Int))) * 1000000000)))) (IntKind.u64.wrap (rd l1 (ji4))))) then 999999999 else (IntKind.u64.wrap (Int.tdiv (IntKind.u64.wrap ((IntKind.u64.wrap (rd l0 (ji4))) + (IntKind.u64.wrap ((IntKind.u64.wrap (rd l0 (l1.length : Int))) * 1000000000)))) (IntKind.u64.wrap (rd l1 (ji4)))))) = ji12 := hji12
                 obtain rfl := Option.some.inj H
                 have p101 : 0 ≤ ((ji4) : Int) := of_decide_eq_true (by first | (with_reducible assumption) | assumption)
                 have q101 : (ji4) < (l0.length : Int) := of_decide_eq_true (by first | (with_reducible assumption) | assumption)
                 obtain ⟨ad101, e101, hx101_0⟩ := Kd.at_int HR0.out (ji4) p101 q101
                 cases e101
                 replace p101 := eq_true p101
                 replace q101 := eq_true q101
                 have p102 : 0 ≤ ((l1.length : Int) : Int) := of_decide_eq_true (by first | (with_reducible assumption) | assumption)
                 have q102 : (l1.length : Int) < (l0.length : Int) := of_decide_eq_true (by first | (with_reducible assumption) | assumption)
                 obtain ⟨ad102, e102, hx102_0⟩ := Kd.at_int HR0.out (l1.length : Int) p102 q102
                 obtain rfl : ad101 = ad102 := (by injection e102)
                 (try simp only [Go.IntWalk.toNatUp] at hx102_0)
                 replace p102 := eq_true p102
                 replace q102 := eq_true q102
                 have p103 : 0 ≤ ((ji4) : Int) := of_decide_eq_true (by first | (with_reducible assumption) | assumption)
                 have q103 : (ji4) < (l1.length : Int) := of_decide_eq_true (by first | (with_reducible assumption) | assumption)
                 obtain ⟨ad103, e103, hx103_0⟩ := Kd.at_int HR1.out (ji4) p103 q103
                 cases e103
                 replace p103 := eq_true p103
                 replace q103 := eq_true q103
                 go_enter Tryz.func41, Tryz.ntmps41
                 go_wp2
                 go_ret
                 exact ⟨by first | rfl | (simp [errW_none, errW_some] <;> rfl) | (simp only [← hji4, ← hji12]; first | rfl | (simp [errW_none, errW_some] <;> rfl)) | (simp [*, errW_none, errW_some] <;> rfl), by repeat (first | (with_reducible first | exact HB.out | apply below_alloc | apply pw_below_drewN | apply below_drew1) | exact HB.out)⟩
             · rw [if_neg c10] at H
               exact absurd H (by simp)
           · rw [if_neg c9] at H
             exact absurd H (by simp)
         · rw [if_neg c8] at H
           exact absurd H (by simp)
       · rw [if_neg c7] at H
         have c7b0 : decide ((l1.length : Int) < (l0.length : Int)) = false := decide_eq_false c7
         have c7b1 : decide (l1.length < l0.length) = false := decide_eq_false (fun h => c7 (Int.ofNat_lt.mpr h))
         clear c7
         by_cases c13 : (ji4) < (l1.length : Int)
         · rw [if_pos c13] at H
           have c13b0 : decide ((ji4) < (l1.length : Int)) = true := decide_eq_true c13
           clear c13
           by_cases c14 : (IntKind.u64.wrap (rd l1 (ji4))) = 0
           · rw [if_pos c14] at H
             exact absurd H (by simp)
           · rw [if_neg c14] at H
             have c14b0 : ((IntKind.u64.wrap (rd l1 (ji4))) == 0) = false := beq_eq_false_iff_ne.mpr c14
             have c14b1 : ((IntKind.u64.wrap (rd l1 (ji4))) != 0) = true := bne_iff_ne.mpr c14
             obtain ⟨ji15, hji15⟩ : ∃ j_ : Int, (mn (IntKind.u64.wrap (Int.tdiv (IntKind.u64.wrap (rd l0 (ji4))) (IntKind.u64.wrap (rd l1 (ji4))))) 999999999) = j_ := ⟨_, rfl⟩
             replace H : (some ji15) = some r := by first | (rw [hji15] at H; exact H) | (simp only [hji15] at H ⊢; exact H)
             have hji15_ : (if 999999999 < (IntKind.u64.wrap (Int.tdiv (IntKind.u64.wrap (rd l0 (ji4))) (IntKind.u64.wrap (rd l1 (ji4))))) then 999999999 else (IntKind.u64.wrap (Int.tdiv (IntKind.u64.wrap (rd l0 (ji4))) (IntKind.u64.wrap (rd l1 (ji4)))))) = ji15 := hji15
             obtain rfl := Option.some.inj H
             have p101 : 0 ≤ ((ji4) : Int) := of_decide_eq_true (by first | (with_reducible assumption) | assumption)
             have q101 : (ji4) < (l0.length : Int) := of_decide_eq_true (by first | (with_reducible assumption) | assumption)
             obtain ⟨ad101, e101, hx101_0⟩ := Kd.at_int HR0.out (ji4) p101 q101
             cases e101
             replace p101 := eq_true p101
             replace q101 := eq_true q101
             have p104 : 0 ≤ ((ji4) : Int) := of_decide_eq_true (by first | (with_reducible assumption) | assumption)
             have q104 : (ji4) < (l1.length : Int) := of_decide_eq_true (by first | (with_reducible assumption) | assumption)
             obtain ⟨ad104, e104, hx104_0⟩ := Kd.at_int HR1.out (ji4) p104 q104
             cases e104
             replace p104 := eq_true p104
             replace q104 := eq_true q104
             go_enter Tryz.func41, Tryz.ntmps41
             go_wp2
             go_ret
             exact ⟨by first | rfl | (simp [errW_none, errW_some] <;> rfl) | (simp only [← hji4, ← hji15]; first | rfl | (simp [errW_none, errW_some] <;> rfl)) | (simp [*, errW_none, errW_some] <;> rfl), by repeat (first | (with_reducible first | exact HB.out | apply below_alloc | apply pw_below_drewN | apply below_drew1) | exact HB.out)⟩
         · rw [if_neg c13] at H
           exact absurd H (by simp)
     · rw [if_neg c6] at H
       exact absurd H (by simp)
   · rw [if_neg c5] at H
     exact absurd H (by simp)
end Go.Proofs.YteohmbannpbokaaGreatDoor.PnatGuess
namespace Go.Proofs.YteohmbannpbokaaGreatDoor.NatLaw
open Go.RowKit Go.Proofs.YteohmbannpbokaaGreatDoorW.PrintWords Go.Proofs.YteohmbannpbokaaGreatDoorW.PrintLast Go.Proofs.YteohmbannpbokaaGreatDoorW.PrintMore Go.Proofs.YteohmbannpbokaaGreatDoor.Digs Go.Proofs.YteohmbannpbokaaGreatDoor.StrLaw Go.Proofs.YteohmbannpbokaaGreatDoor.PnatGuess
theorem guess_top {r y p yt : Nat} (hp : 0 < p) (ht : 0 < yt) (hy : yt * p ≤ y) : r / y ≤ (r / p) / yt := by
 have hy0 : 0 < y := Nat.lt_of_lt_of_le (Nat.mul_pos ht hp) hy
 rw [Nat.le_div_iff_mul_le ht, Nat.le_div_iff_mul_le hp, Nat.mul_assoc]
 exact Nat.le_trans (Nat.mul_le_mul_left _ hy) (Nat.div_mul_le_self r y)
theorem guess_limb {r y : Nat} (hy : 0 < y) (hr : r < y * 1000000000) : r / y ≤ 999999999 := by
 have := (Nat.div_lt_iff_lt_mul hy).mpr (by rw [Nat.mul_comm]; exact hr)
 omega
theorem rd_digs : ∀ (i n : Nat), rd (digs n) (i : Int) = ((n / 1000000000 ^ i % 1000000000 : Nat) : Int) := by
 intro i
 induction i with
 | zero =>
   intro n
   rw [rd_nat]
   by_cases h : n = 0
   · subst h; rw [digs_zero]; rfl
   · rw [digs_pos h, Nat.pow_zero, Nat.div_one]; rfl
 | succ i ih =>
   intro n
   rw [rd_nat]
   by_cases h : n = 0
   · subst h; rw [digs_zero, Nat.zero_div]; rfl
   · rw [digs_pos h, List.getD_cons_succ, ← rd_nat, ih, Nat.pow_succ, Nat.mul_comm (1000000000 ^ i), Nat.div_div_eq_div_mul]
theorem div_pow_lt {n L : Nat} (h : (digs n).length ≤ L + 1) : n / 1000000000 ^ L < 1000000000 := by
 rw [Nat.div_lt_iff_lt_mul (Nat.pow_pos (by decide))]
 have h1 := lt_of_len n
 have h2 : 1000000000 ^ (digs n).length ≤ 1000000000 ^ (L + 1) := Nat.pow_le_pow_right (by decide) h
 rw [Nat.pow_succ, Nat.mul_comm] at h2
 omega
theorem guess_mn {q t : Nat} (h1 : q ≤ t) (h2 : q ≤ 999999999) : (q : Int) ≤ mn (t : Int) 999999999 ∧ mn (t : Int) 999999999 ≤ 999999999 := by
 unfold mn
 split <;> omega
theorem guess_ev (r y : Nat) (hy : 0 < y) (hr : r < y * 1000000000) (hl : (digs y).length ≤ 4000000000) : ∃ g : Int, spec_natGuess.f (digs r) (digs y) = some g ∧ ((r / y : Nat) : Int) ≤ g ∧ g ≤ 999999999 := by
 obtain ⟨L, hL⟩ : ∃ L, (digs y).length = L + 1 := ⟨(digs y).length - 1, by have := len_pos (n := y) (by omega); omega⟩
 have hrl : (digs r).length ≤ L + 2 := by
   refine len_digs_le (Nat.lt_of_lt_of_le hr ?_)
   have h1 := lt_of_len y
   rw [hL] at h1
   rw [show L + 2 = (L + 1) + 1 by omega, Nat.pow_succ 1000000000 (L + 1)]
   exact Nat.mul_le_mul_right _ (Nat.le_of_lt h1)
 have hw : wrap64 (((L + 1 : Nat) : Int) - 1) = ((L : Nat) : Int) := by rw [w64 _ (by omega) (by omega)]; omega
 have hyt : y / 1000000000 ^ L < 1000000000 := div_pow_lt (by omega)
 have hyt0 : 0 < y / 1000000000 ^ L := by
   refine Nat.div_pos ?_ (Nat.pow_pos (by decide))
   apply Classical.byContradiction
   intro h
   have := len_digs_le (Nat.not_le.mp h)
   omega
 have hq := guess_limb hy hr
 have ht := guess_top (r := r) (p := 1000000000 ^ L) (yt := y / 1000000000 ^ L) (Nat.pow_pos (by decide)) hyt0 (Nat.div_mul_le_self y _)
 unfold spec_natGuess.f
 rw [hL, hw, rd_digs L y, rd_digs L r, rd_digs (L + 1) r, Nat.mod_eq_of_lt hyt]
 by_cases h1 : ((digs r).length : Int) < ((L + 1 : Nat) : Int)
 · rw [if_pos h1]
   refine ⟨0, rfl, ?_, by decide⟩
   rw [Nat.div_eq_of_lt (len_digs_lt (by omega))]
   decide
 · rw [if_neg h1, if_pos (by omega), if_pos (by omega)]
   have hT := Nat.div_add_mod (r / 1000000000 ^ L) 1000000000
   rw [Nat.div_div_eq_div_mul, ← Nat.pow_succ] at hT
   have hwy : IntKind.u64.wrap ((y / 1000000000 ^ L : Nat) : Int) = ((y / 1000000000 ^ L : Nat) : Int) := wu64 _ (by omega) (by omega)
   have hm := Nat.mod_lt (r / 1000000000 ^ L) (show 0 < 1000000000 by decide)
   by_cases h2 : ((digs r).length : Int) > ((L + 1 : Nat) : Int)
   · have h3 : r / 1000000000 ^ (L + 1) < 1000000000 := div_pow_lt (by omega)
     rw [if_pos h2, if_pos (by omega), if_pos (by omega), if_pos (by omega), Nat.mod_eq_of_lt h3, hwy, if_neg (by omega)]
     generalize r / 1000000000 ^ (L + 1) = A at *
     generalize hM : r / 1000000000 ^ L % 1000000000 = M at *
     generalize hTT : r / 1000000000 ^ L = T at *
     generalize y / 1000000000 ^ L = Y at *
     rw [wu64 (A : Int) (by omega) (by omega), wu64 (M : Int) (by omega) (by omega), wu64 ((A : Int) * 1000000000) (by omega) (by omega), wu64 ((M : Int) + (A : Int) * 1000000000) (by omega) (by omega), show (M : Int) + (A : Int) * 1000000000 = ((T : Nat) : Int) by omega]
     have hTY : T / Y ≤ T := Nat.div_le_self _ _
     have htd : Int.tdiv (T : Int) (Y : Int) = ((T / Y : Nat) : Int) := rfl
     rw [htd]
     clear htd
     generalize T / Y = G at *
     rw [wu64 (G : Int) (by omega) (by omega)]
     exact ⟨_, rfl, guess_mn ht hq⟩
   · have h3 : r / 1000000000 ^ L < 1000000000 := div_pow_lt (by omega)
     rw [if_neg h2, if_pos (by omega), Nat.mod_eq_of_lt h3, hwy, if_neg (by omega)]
     generalize r / 1000000000 ^ L = T at *
     generalize y / 1000000000 ^ L = Y at *
     have hTY : T / Y ≤ T := Nat.div_le_self _ _
     have htd : Int.tdiv (T : Int) (Y : Int) = ((T / Y : Nat) : Int) := rfl
     rw [wu64 (T : Int) (by omega) (by omega), htd]
     clear htd
     generalize T / Y = G at *
     rw [wu64 (G : Int) (by omega) (by omega)]
     exact ⟨_, rfl, guess_mn ht hq⟩
structure DivInv (x : List Int) (X Y : Nat) (q : List Int) (R : Nat) (i : Int) : Prop where
 mk :: (out : ∃ t : Nat, i = (t : Int) - 1 ∧ t ≤ x.length ∧ Dig q ∧ q.length = x.length ∧ R < Y ∧ (∀ m : Nat, m < t → rd q m = 0) ∧ val q * Y + R * 1000000000 ^ t + val (x.take t) = X)
theorem DivInv.start {x : List Int} {X Y : Nat} (hx : val x = X) (hY : 0 < Y) : DivInv x X Y (List.replicate x.length 0) 0 ((x.length : Int) - 1) :=
 ⟨x.length, rfl, Nat.le_refl _, Dig.rep _, by simp, hY, fun m _ => rd_rep _ m, by rw [val_rep, List.take_length, hx]; simp⟩
theorem DivInv.bound {x q : List Int} {X Y R : Nat} {i : Int} (h : DivInv x X Y q R i) : -1 ≤ i ∧ i < x.length ∧ q.length = x.length ∧ R < Y := by
 obtain ⟨t, rfl, ht, _, hl, hR, _, _⟩ := h
 exact ⟨by omega, by omega, hl, hR⟩
theorem DivInv.step {x q : List Int} {X Y R : Nat} {i : Int} (h : DivInv x X Y q R i) (hi : 0 ≤ i) (hx : Dig x) {R1 : Nat} (h1 : (R1 : Int) = rd x i + R * 1000000000) :
   DivInv x X Y (q.set i.toNat ((R1 / Y : Nat) : Int)) (R1 % Y) (i - 1) ∧ R1 < Y * 1000000000 := by
 obtain ⟨t, rfl, ht, hD, hl, hR, hz, hv⟩ := h
 obtain ⟨m, rfl⟩ : ∃ m, t = m + 1 := ⟨t - 1, by omega⟩
 have e : ((m + 1 : Nat) : Int) - 1 = (m : Int) := by omega
 rw [e] at h1 ⊢
 have hxm := dig_rd hx (m : Int)
 have hlim : R1 < Y * 1000000000 := by omega
 have hY : 0 < Y := by omega
 have hq := guess_limb hY hlim
 refine ⟨⟨m, rfl, by omega, hD.set _ ⟨Int.natCast_nonneg _, by have : ((R1 / Y : Nat) : Int) ≤ 999999999 := Int.ofNat_le.mpr hq; omega⟩, by simpa using hl, Nat.mod_lt _ hY, ?_, ?_⟩, hlim⟩
 · intro j hj
   rw [show ((m : Int)).toNat = m by omega, rd_set_ne (by omega)]
   exact hz j (by omega)
 · rw [show ((m : Int)).toNat = m by omega, val_set q m _ (by omega), hz m (by omega)]
   rw [val_take_succ (by omega), pw_succ] at hv
   have hdm : ((R1 : Nat) : Int) = Y * ((R1 / Y : Nat) : Int) + ((R1 % Y : Nat) : Int) := by
     exact_mod_cast (Nat.div_add_mod R1 Y).symm
   grind
theorem DivInv.done {x q : List Int} {X Y R : Nat} {i : Int} (h : DivInv x X Y q R i) (hi : ¬ 0 ≤ i) : Dig q ∧ val q = ((X / Y : Nat) : Int) ∧ R = X % Y := by
 obtain ⟨t, rfl, ht, hD, hl, hR, hz, hv⟩ := h
 obtain rfl : t = 0 := by omega
 obtain ⟨Q, hQ⟩ := Int.eq_ofNat_of_zero_le (val_nonneg hD)
 rw [hQ] at hv ⊢
 simp only [List.take_zero, val, Int.pow_zero, Int.mul_one, Int.add_zero] at hv
 have hv' : Q * Y + R = X := by exact_mod_cast hv
 have hY : 0 < Y := by omega
 refine ⟨hD, ?_, ?_⟩
 · rw [← hv', Nat.add_comm, Nat.add_mul_div_right _ _ hY, Nat.div_eq_of_lt hR, Nat.zero_add]
 · rw [← hv', Nat.add_comm, Nat.add_mul_mod_self_right, Nat.mod_eq_of_lt hR]
end Go.Proofs.YteohmbannpbokaaGreatDoor.NatLaw
