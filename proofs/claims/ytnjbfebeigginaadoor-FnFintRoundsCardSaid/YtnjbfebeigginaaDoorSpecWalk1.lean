/-
  The reference's calls over whole numbers and fractions, told by the numbers alone; nothing that was there is changed.
-/
import Derived.Test.YtnjbfebeigginaaDoorNatWalk2
import Derived.Test.YtnjbfebeigginaaDoorPonex1
import Derived.Deep.RegionHeld3
import Derived.Deep.RegionWith
import Derived.Deep.QuietTactic
import Derived.BigQuiet
set_option linter.unusedVariables false
set_option linter.unusedSimpArgs false
namespace Go.Proofs.YtnjbfebeigginaaDoor.SpecWalk
open Go.RowKit Go.Proofs.YtnjbfebeigginaaDoorW.PrintWords Go.Proofs.YtnjbfebeigginaaDoorW.PrintLast Go.Proofs.YtnjbfebeigginaaDoorW.PrintMore Go.Proofs.YtnjbfebeigginaaDoor.Digs Go.Proofs.YtnjbfebeigginaaDoor.StrLaw Go.Proofs.YtnjbfebeigginaaDoor.NatLaw Go.Proofs.YtnjbfebeigginaaDoor.NatWalk

/-- The sign that a whole number bears. -/
def sgn (b : Bool) (n : Nat) : Bool := b && decide (0 < n)
theorem len_pos_iff (n : Nat) : decide ((0 : Int) < ((digs n).length : Int)) = decide (0 < n) := by
  by_cases h : n = 0
  · subst h; rw [digs_zero]; rfl
  · have := len_pos h
    rw [decide_eq_true (by omega), decide_eq_true (by omega)]

theorem frz {w w1 : World} (hb : Below w.heap.size w w1) {a : Addr} {v : Value} (hc : w.cell? a = some v) (hf : w.frozen? a = false) : w1.frozen? a = false := (hb.frozen (World.block_lt_of_cell? w _ hc)).trans hf
/-- A block of cells, none frozen: kept by whatever only makes memory. -/
structure Box (w : World) (g : Nat) (l : List Value) : Prop where
  mk :: (out : ∀ j v, l[j]? = some v → w.cell? ⟨g, j, none⟩ = some v ∧ w.frozen? ⟨g, j, none⟩ = false)
theorem Box.below {w w1 : World} {g : Nat} {l : List Value} (h : Box w g l) (hb : Below w.heap.size w w1) : Box w1 g l :=
  ⟨fun j v hj => ⟨pw_cell_below hb (h.out j v hj).1, frz hb (h.out j v hj).1 (h.out j v hj).2⟩⟩
theorem Box.c0 {w : World} {g : Nat} {x : Value} {l : List Value} (h : Box w g (x :: l)) : w.cell? ⟨g, 0, none⟩ = some x := (h.out 0 x rfl).1
theorem Box.c1 {w : World} {g : Nat} {x y : Value} {l : List Value} (h : Box w g (x :: y :: l)) : w.cell? ⟨g, 1, none⟩ = some y := (h.out 1 y rfl).1
theorem Box.c2 {w : World} {g : Nat} {x y z : Value} {l : List Value} (h : Box w g (x :: y :: z :: l)) : w.cell? ⟨g, 2, none⟩ = some z := (h.out 2 z rfl).1
theorem Box.f0 {w : World} {g : Nat} {x : Value} {l : List Value} (h : Box w g (x :: l)) : w.frozen? ⟨g, 0, none⟩ = false := (h.out 0 x rfl).2
theorem Box.f1 {w : World} {g : Nat} {x y : Value} {l : List Value} (h : Box w g (x :: y :: l)) : w.frozen? ⟨g, 1, none⟩ = false := (h.out 1 y rfl).2
theorem Box.f2 {w : World} {g : Nat} {x y z : Value} {l : List Value} (h : Box w g (x :: y :: z :: l)) : w.frozen? ⟨g, 2, none⟩ = false := (h.out 2 z rfl).2
theorem Box.mk2 {w : World} {g : Nat} {x y : Value} (h0 : w.cell? ⟨g, 0, none⟩ = some x) (h1 : w.cell? ⟨g, 1, none⟩ = some y) (k0 : w.frozen? ⟨g, 0, none⟩ = false) (k1 : w.frozen? ⟨g, 1, none⟩ = false) : Box w g [x, y] :=
  ⟨fun j v hj => by match j, hj with | 0, hj => cases hj; exact ⟨h0, k0⟩ | 1, hj => cases hj; exact ⟨h1, k1⟩⟩
theorem Box.mk3 {w : World} {g : Nat} {x y z : Value} (h0 : w.cell? ⟨g, 0, none⟩ = some x) (h1 : w.cell? ⟨g, 1, none⟩ = some y) (h2 : w.cell? ⟨g, 2, none⟩ = some z) (k0 : w.frozen? ⟨g, 0, none⟩ = false) (k1 : w.frozen? ⟨g, 1, none⟩ = false) (k2 : w.frozen? ⟨g, 2, none⟩ = false) : Box w g [x, y, z] :=
  ⟨fun j v hj => by match j, hj with | 0, hj => cases hj; exact ⟨h0, k0⟩ | 1, hj => cases hj; exact ⟨h1, k1⟩ | 2, hj => cases hj; exact ⟨h2, k2⟩⟩

theorem Box.alloc {w : World} {g : Nat} {l : List Value} (h : Box w g l) (o : Obj) : Box (w.alloc o) g l := h.below ((Below.refl _ _).alloc (Nat.le_refl _) _)
theorem Box.drew {w : World} {g : Nat} {l : List Value} (h : Box w g l) : Box w.drew g l := h.below (Below.refl _ _).drew
theorem Box.far {w : World} {g : Nat} {l : List Value} {p : Addr} (h : Box w g l) (hg : g ≠ p.block) (u : Value) : Box (w.setCell p u) g l := by
  have hb := Below.heap_setCell w p u g hg
  refine ⟨fun j v hj => ?_⟩
  have := h.out j v hj
  refine ⟨?_, ?_⟩
  · simpa [World.cell?, hb] using this.1
  · simpa [World.frozen?, hb] using this.2
theorem Box.far2 {w : World} {g g' : Nat} {l : List Value} (h : Box w g l) (hg : g ≠ g') (x y : Value) : Box ((w.setCell ⟨g', 0, none⟩ x).setCell ⟨g', 1, none⟩ y) g l := (h.far (p := ⟨g', 0, none⟩) hg x).far (p := ⟨g', 1, none⟩) hg y
theorem Box.far3 {w : World} {g g' : Nat} {l : List Value} (h : Box w g l) (hg : g ≠ g') (x y z : Value) : Box (((w.setCell ⟨g', 0, none⟩ x).setCell ⟨g', 1, none⟩ y).setCell ⟨g', 2, none⟩ z) g l := (h.far2 hg x y).far (p := ⟨g', 2, none⟩) hg z
theorem Box.new2 (w : World) (g : Nat) (x y : Value) (t : TypeId) (hg : w.heap.size = g) : Box (w.alloc (.cells #[x, y] t)) g [x, y] := by
  subst hg
  exact .mk2 (by simp) (by simp) (by simp) (by simp)
theorem Box.new3 (w : World) (g : Nat) (x y z : Value) (t : TypeId) (hg : w.heap.size = g) : Box (w.alloc (.cells #[x, y, z] t)) g [x, y, z] := by
  subst hg
  exact .mk3 (by simp) (by simp) (by simp) (by simp) (by simp) (by simp)
theorem below2 {B : Nat} {w0 w : World} {g : Nat} (h : Below B w0 w) (hg : B ≤ g) (x y : Value) : Below B w0 ((w.setCell ⟨g, 0, none⟩ x).setCell ⟨g, 1, none⟩ y) :=
  (h.setCell (p := ⟨g, 0, none⟩) hg x).setCell (p := ⟨g, 1, none⟩) hg y
theorem below3 {B : Nat} {w0 w : World} {g : Nat} (h : Below B w0 w) (hg : B ≤ g) (x y z : Value) : Below B w0 (((w.setCell ⟨g, 0, none⟩ x).setCell ⟨g, 1, none⟩ y).setCell ⟨g, 2, none⟩ z) :=
  (below2 h hg x y).setCell (p := ⟨g, 2, none⟩) hg z

set_option maxHeartbeats 1000000 in
theorem wholeOf_n (b : Bool) (n : Nat) (ok : Nat → Prop) (v : Value) (w : World) (hv : Rdv w ok v n) :
    Calls Tryd.prog 35 #[.bool b, v] w fun e w' => e = .returned (.agg #[.bool (sgn b n), v]) ∧ Below w.heap.size w w' := by
  obtain ⟨A, c, rfl, hl, hc⟩ := hv.form
  have hs := len_pos_iff n
  have hb : sgn b n = (b && decide (0 < n)) := rfl
  rw [← hs] at hb
  have HS := Aside0.mk hb
  clear hb hs hc hl hv
  generalize (digs n).length = m at *
  generalize sgn b n = s at *
  cases b
  · go_enter Tryd.func35, Tryd.ntmps35
    go_wp2
    refine bodyPost_ret (v := .agg #[.bool false, .slice A m c]) (by simp [results, Tryd.results35, go_sem]) rfl ⟨?_, ?_⟩
    · rw [HS.out]; rfl
    · exact (Below.refl _ _).alloc (Nat.le_refl _) _
  · go_enter Tryd.func35, Tryd.ntmps35
    go_wp2
    refine bodyPost_ret (v := .agg #[.bool (decide ((0 : Int) < (m : Int))), .slice A m c]) (by simp [results, Tryd.results35, go_sem]) rfl ⟨?_, ?_⟩
    · rw [HS.out]; rfl
    · exact (Below.refl _ _).alloc (Nat.le_refl _) _

set_option maxHeartbeats 4000000 in
theorem FixDec_n (b : Bool) (n : Nat) (s : Int) (w : World) (hn : n < 18446744073709551616) (hs : -9223372036854775807 ≤ s) (hs2 : s ≤ 9223372036854775807) :
    Calls Tryd.prog 22 #[.agg #[.bool b, .int .u64 n, .int .i64 s]] w fun e w' => ∃ v, e = .returned (.agg #[.bool (sgn b n), v, .int .i64 (-s)]) ∧ Rdv w' (fun k => w.heap.size ≤ k) v n ∧ Below w.heap.size w w' := by
  have HF := Aside0.mk (fun w => from_n n w hn)
  have HW := Aside0.mk (fun ok v w => wholeOf_n b n ok v w)
  have hneg : IntKind.i64.wrap (-s) = -s := IntWalk.i64_in _ (by omega)
  clear hn
  generalize hx : (n : Int) = x at *
  clear hx
  generalize sgn b n = s1 at *
  go_enter Tryd.func22, Tryd.ntmps22
  go_wp2_with fail
  have bx0 : Box ((w.alloc (Obj.cells #[Value.bool b, Value.int IntKind.u64 x, Value.int IntKind.i64 s] 24)).alloc (Obj.cells #[Value.bool false, Value.slice none 0 0, Value.int IntKind.i64 0] 41)).drew w.heap.size [.bool b, .int IntKind.u64 x, .int IntKind.i64 s] := ((Box.new3 w _ _ _ _ _ (by simp)).alloc _).drew
  have rx0 : Box ((w.alloc (Obj.cells #[Value.bool b, Value.int IntKind.u64 x, Value.int IntKind.i64 s] 24)).alloc (Obj.cells #[Value.bool false, Value.slice none 0 0, Value.int IntKind.i64 0] 41)).drew (w.heap.size + 1) [.bool false, .slice none 0 0, .int IntKind.i64 0] := (Box.new3 (w.alloc (Obj.cells #[Value.bool b, Value.int IntKind.u64 x, Value.int IntKind.i64 s] 24)) _ _ _ _ _ (by simp)).drew
  have hB0 : Below w.heap.size w ((w.alloc (Obj.cells #[Value.bool b, Value.int IntKind.u64 x, Value.int IntKind.i64 s] 24)).alloc (Obj.cells #[Value.bool false, Value.slice none 0 0, Value.int IntKind.i64 0] 41)).drew := (((Below.refl _ _).alloc (Nat.le_refl _) _).alloc (by simp) _).drew
  have nebx : w.heap.size ≠ (w.heap.size + 1) := by omega
  go_region_held3 (fun w' => w'.cell? ⟨w.heap.size, 0, none⟩ = some (.bool b) ∧ w'.cell? ⟨w.heap.size, 1, none⟩ = some (.int IntKind.u64 x) ∧ w'.cell? ⟨w.heap.size, 2, none⟩ = some (.int IntKind.i64 s))
      (first
        | (go_keep; done)
        | exact ⟨bx2.c0, bx2.c1, bx2.c2⟩
        | exact ⟨bx1.c0, bx1.c1, bx1.c2⟩
        | exact ⟨(bx2.far3 nebx _ _ _).c0, (bx2.far3 nebx _ _ _).c1, (bx2.far3 nebx _ _ _).c2⟩)
      (first
        | (go_at_call 11; refine (HF.out _).mono ?_; rintro e w1 ⟨v, rfl, hv, hb1⟩; replace hv := hv.mono (ok' := fun k => w.heap.size + 2 ≤ k) (fun k hk => by simp at hk; omega); obtain ⟨A, c, rfl, _, _⟩ := hv.form; have sz1 := hb1.size; simp at sz1; have bx1 := bx0.below hb1; have xbx10 := bx1.c0; have xbx11 := bx1.c1; have xbx12 := bx1.c2; have rx1 := rx0.below hb1; have xrx10 := rx1.c0; have xrx11 := rx1.c1; have xrx12 := rx1.c2; have yrx10 := rx1.f0; have yrx11 := rx1.f1; have yrx12 := rx1.f2)
        | (go_at_call 35; refine (HW.out _ _ _ hv).mono ?_; rintro e w2 ⟨rfl, hb2⟩; have sz2 := hb2.size; have bx2 := bx1.below hb2; have xbx20 := bx2.c0; have xbx21 := bx2.c1; have xbx22 := bx2.c2; have rx2 := rx1.below hb2; have xrx20 := rx2.c0; have xrx21 := rx2.c1; have xrx22 := rx2.c2; have yrx20 := rx2.f0; have yrx21 := rx2.f1; have yrx22 := rx2.f2))
  go_wp2
  refine bodyPost_ret (v := .agg #[.bool s1, .slice A (digs n).length c, .int .i64 (-s)]) (by simp [results, Tryd.results22, go_sem, rx2.c0, rx2.c1, rx2.c2]) rfl ?_
  have hf : ∀ k, w.heap.size + 2 ≤ k → k ≠ w.heap.size + 1 := fun k hk => by omega
  exact ⟨_, rfl, ((hv.below hb2).far3 hf _ _ _).mono (fun k hk => by omega), below3 (below_step (below_step hB0 hb1) hb2) (by omega) _ _ _⟩

theorem digs_1 : digs 1 = [1] := by rw [digs_one (by decide) (by decide)]; rfl
theorem one_n (w : World) : Calls Tryd.prog 34 #[] w fun e w' => ∃ v, e = .returned v ∧ Rdv w' (fun k => w.heap.size ≤ k) v 1 ∧ Below w.heap.size w w' := by
  refine (Go.Proofs.YtnjbfebeigginaaDoor.Pone.spec_one.calls [1] w rfl).mono ?_
  rintro e w' ⟨v, rfl, hr, hb⟩
  rw [← digs_1] at hr
  exact ⟨v, rfl, Rdv.of_R hr, hb⟩

theorem len_pow10 (e : Nat) : (digs (10 ^ e)).length ≤ e + 1 := by
  refine len_digs_le ?_
  rw [show (1000000000 : Nat) = 10 ^ 9 by decide, ← Nat.pow_mul]
  exact Nat.pow_lt_pow_right (by decide) (by omega)

set_option maxHeartbeats 4000000 in
/-- A decimal number with an exponent that is not below 0, as a fraction. -/
theorem frac_pos (b : Bool) (n e : Nat) (ok : Nat → Prop) (v : Value) (w : World) (hv : Rdv w ok v n) (he : e ≤ 1000000) (hl : (digs n).length ≤ 1000000000) :
    Calls Tryd.prog 42 #[.agg #[.bool b, v, .int .i64 e]] w fun en w' => ∃ u d, en = .returned (.agg #[.bool (sgn b (n * 10 ^ e)), u, d]) ∧ Rdv w' (fun k => w.heap.size ≤ k) u (n * 10 ^ e) ∧ Rdv w' (fun k => w.heap.size ≤ k) d 1 ∧ Below w.heap.size w w' := by
  obtain ⟨A, c, rfl, hl0, hC0⟩ := hv.form
  have hle := len_pow10 e
  have HP := Aside0.mk (fun w => pow10_n e w he)
  have HM := Aside0.mk (fun oa ob v u w hv hu => mul_n n (10 ^ e) oa ob v u w hv hu (by omega))
  have HW := Aside0.mk (fun ok v w => wholeOf_n b (n * 10 ^ e) ok v w)
  have h0 : (0 : Int) ≤ (e : Int) := Int.natCast_nonneg _
  have h1 : (e : Int) ≤ 1000000 := by omega
  clear hle he hl hC0 hl0
  generalize n * 10 ^ e = p at *
  generalize 10 ^ e = q at *
  generalize sgn b p = s1 at *
  generalize (e : Int) = E at *
  generalize hm : (digs n).length = m at *
  clear hm
  go_enter Tryd.func42, Tryd.ntmps42
  go_wp2_with fail
  have bx0 : Box ((w.alloc (Obj.cells #[Value.bool b, Value.slice A m c, Value.int IntKind.i64 E] 41)).alloc (Obj.cells #[Value.bool false, Value.slice none 0 0, Value.slice none 0 0] 38)).drew w.heap.size [.bool b, .slice A m c, .int IntKind.i64 E] := ((Box.new3 w _ _ _ _ _ (by simp)).alloc _).drew
  have rx0 : Box ((w.alloc (Obj.cells #[Value.bool b, Value.slice A m c, Value.int IntKind.i64 E] 41)).alloc (Obj.cells #[Value.bool false, Value.slice none 0 0, Value.slice none 0 0] 38)).drew (w.heap.size + 1) [.bool false, .slice none 0 0, .slice none 0 0] := (Box.new3 (w.alloc (Obj.cells #[Value.bool b, Value.slice A m c, Value.int IntKind.i64 E] 41)) _ _ _ _ _ (by simp)).drew
  have hB0 : Below w.heap.size w ((w.alloc (Obj.cells #[Value.bool b, Value.slice A m c, Value.int IntKind.i64 E] 41)).alloc (Obj.cells #[Value.bool false, Value.slice none 0 0, Value.slice none 0 0] 38)).drew := (((Below.refl _ _).alloc (Nat.le_refl _) _).alloc (by simp) _).drew
  replace hv := hv.below hB0
  have nebx : w.heap.size ≠ (w.heap.size + 1) := by omega
  go_region_held3 (fun w' => w'.cell? ⟨w.heap.size, 0, none⟩ = some (.bool b) ∧ w'.cell? ⟨w.heap.size, 1, none⟩ = some (.slice A m c) ∧ w'.cell? ⟨w.heap.size, 2, none⟩ = some (.int IntKind.i64 E))
      (first
        | (go_keep; done)
        | exact ⟨bx4.c0, bx4.c1, bx4.c2⟩
        | exact ⟨bx3.c0, bx3.c1, bx3.c2⟩
        | exact ⟨bx2.c0, bx2.c1, bx2.c2⟩
        | exact ⟨bx1.c0, bx1.c1, bx1.c2⟩
        | exact ⟨(bx4.far3 nebx _ _ _).c0, (bx4.far3 nebx _ _ _).c1, (bx4.far3 nebx _ _ _).c2⟩)
      (first
        | (go_at_call 12; refine (HP.out _).mono ?_; rintro e w1 ⟨v1, rfl, hv1, hb1⟩; replace hv1 := hv1.mono (ok' := fun k => w.heap.size + 2 ≤ k) (fun k hk => by simp at hk; omega); obtain ⟨A1, c1, rfl, _, _⟩ := hv1.form; have sz1 := hb1.size; simp at sz1; have bx1 := bx0.below hb1; have xbx10 := bx1.c0; have xbx11 := bx1.c1; have xbx12 := bx1.c2; have rx1 := rx0.below hb1; have xrx10 := rx1.c0; have xrx11 := rx1.c1; have xrx12 := rx1.c2; have yrx10 := rx1.f0; have yrx11 := rx1.f1; have yrx12 := rx1.f2)
        | (go_at_call 30; refine (HM.out _ _ _ _ _ (hv.below hb1) hv1).mono ?_; rintro e w2 ⟨v2, rfl, hv2, hb2⟩; replace hv2 := hv2.mono (ok' := fun k => w.heap.size + 2 ≤ k) (fun k hk => by have : _ ≤ k := hk; omega); obtain ⟨A2, c2, rfl, _, _⟩ := hv2.form; have sz2 := hb2.size; have bx2 := bx1.below hb2; have xbx20 := bx2.c0; have xbx21 := bx2.c1; have xbx22 := bx2.c2; have rx2 := rx1.below hb2; have xrx20 := rx2.c0; have xrx21 := rx2.c1; have xrx22 := rx2.c2; have yrx20 := rx2.f0; have yrx21 := rx2.f1; have yrx22 := rx2.f2)
        | (go_at_call 35; refine (HW.out _ _ _ hv2).mono ?_; rintro e w3 ⟨rfl, hb3⟩; have sz3 := hb3.size; have bx3 := bx2.below hb3; have xbx30 := bx3.c0; have xbx31 := bx3.c1; have xbx32 := bx3.c2; have rx3 := rx2.below hb3; have xrx30 := rx3.c0; have xrx31 := rx3.c1; have xrx32 := rx3.c2; have yrx30 := rx3.f0; have yrx31 := rx3.f1; have yrx32 := rx3.f2)
        | (go_at_call 34; refine (one_n _).mono ?_; rintro e w4 ⟨v4, rfl, hv4, hb4⟩; replace hv4 := hv4.mono (ok' := fun k => w.heap.size + 2 ≤ k) (fun k hk => by have : _ ≤ k := hk; omega); obtain ⟨A4, c4, rfl, _, _⟩ := hv4.form; have sz4 := hb4.size; have bx4 := bx3.below hb4; have xbx40 := bx4.c0; have xbx41 := bx4.c1; have xbx42 := bx4.c2; have rx4 := rx3.below hb4; have xrx40 := rx4.c0; have xrx41 := rx4.c1; have xrx42 := rx4.c2; have yrx40 := rx4.f0; have yrx41 := rx4.f1; have yrx42 := rx4.f2))
  go_wp2
  refine bodyPost_ret (v := .agg #[.bool s1, .slice A2 (digs p).length c2, .slice A4 (digs 1).length c4]) (by simp [results, Tryd.results42, go_sem, rx4.c0, rx4.c1, rx4.c2]) rfl ?_
  have hf : ∀ k, w.heap.size + 2 ≤ k → k ≠ w.heap.size + 1 := fun k hk => by omega
  exact ⟨_, _, rfl, (((hv2.below hb3).below hb4).far3 hf _ _ _).mono (fun k hk => by omega), (hv4.far3 hf _ _ _).mono (fun k hk => by omega), below3 (below_step (below_step (below_step (below_step hB0 hb1) hb2) hb3) hb4) (by omega) _ _ _⟩

set_option maxHeartbeats 4000000 in
/-- A decimal number with an exponent below 0, as a fraction. -/
theorem frac_neg (b : Bool) (n e : Nat) (ok : Nat → Prop) (v : Value) (w : World) (hv : Rdv w ok v n) (he : e ≤ 1000000) (he0 : 0 < e) :
    Calls Tryd.prog 42 #[.agg #[.bool b, v, .int .i64 (-(e : Int))]] w fun en w' => ∃ d, en = .returned (.agg #[.bool b, v, d]) ∧ Rdv w' (fun k => ok k) v n ∧ Rdv w' (fun k => w.heap.size ≤ k) d (10 ^ e) ∧ Below w.heap.size w w' := by
  obtain ⟨A, c, rfl, hl0, hC0⟩ := hv.form
  have HP := Aside0.mk (fun w => pow10_n e w he)
  obtain ⟨E, hE⟩ : ∃ E : Int, E = -(e : Int) := ⟨_, rfl⟩
  have hneg : IntKind.i64.wrap (-E) = (e : Int) := by rw [hE, Int.neg_neg]; exact IntWalk.i64_in _ (by omega)
  have h0 : E < 0 := by omega
  have hd0 : decide (0 ≤ E) = false := decide_eq_false (by omega)
  rw [← hE]
  clear hE he he0 hC0 hl0
  generalize 10 ^ e = q at *
  generalize (e : Int) = X at *
  have hb0 := hv.bound
  generalize hm : (digs n).length = m at *
  clear hm
  go_enter Tryd.func42, Tryd.ntmps42
  go_wp2_with fail
  have bx0 : Box ((w.alloc (Obj.cells #[Value.bool b, Value.slice A m c, Value.int IntKind.i64 E] 41)).alloc (Obj.cells #[Value.bool false, Value.slice none 0 0, Value.slice none 0 0] 38)).drew w.heap.size [.bool b, .slice A m c, .int IntKind.i64 E] := ((Box.new3 w _ _ _ _ _ (by simp)).alloc _).drew
  have rx0 : Box ((w.alloc (Obj.cells #[Value.bool b, Value.slice A m c, Value.int IntKind.i64 E] 41)).alloc (Obj.cells #[Value.bool false, Value.slice none 0 0, Value.slice none 0 0] 38)).drew (w.heap.size + 1) [.bool false, .slice none 0 0, .slice none 0 0] := (Box.new3 (w.alloc (Obj.cells #[Value.bool b, Value.slice A m c, Value.int IntKind.i64 E] 41)) _ _ _ _ _ (by simp)).drew
  have hB0 : Below w.heap.size w ((w.alloc (Obj.cells #[Value.bool b, Value.slice A m c, Value.int IntKind.i64 E] 41)).alloc (Obj.cells #[Value.bool false, Value.slice none 0 0, Value.slice none 0 0] 38)).drew := (((Below.refl _ _).alloc (Nat.le_refl _) _).alloc (by simp) _).drew
  replace hb0 := hb0.below hB0
  have nebx : w.heap.size ≠ (w.heap.size + 1) := by omega
  go_region_held3 (fun w' => w'.cell? ⟨w.heap.size, 0, none⟩ = some (.bool b) ∧ w'.cell? ⟨w.heap.size, 1, none⟩ = some (.slice A m c) ∧ w'.cell? ⟨w.heap.size, 2, none⟩ = some (.int IntKind.i64 E))
      (first
        | (go_keep; done)
        | exact ⟨bx1.c0, bx1.c1, bx1.c2⟩
        | exact ⟨(bx1.far3 nebx _ _ _).c0, (bx1.far3 nebx _ _ _).c1, (bx1.far3 nebx _ _ _).c2⟩)
      (first
        | (go_at_call 12; refine (HP.out _).mono ?_; rintro e w1 ⟨v1, rfl, hv1, hb1⟩; replace hv1 := hv1.mono (ok' := fun k => w.heap.size + 2 ≤ k) (fun k hk => by simp at hk; omega); obtain ⟨A1, c1, rfl, _, _⟩ := hv1.form; have sz1 := hb1.size; simp at sz1; have bx1 := bx0.below hb1; have xbx10 := bx1.c0; have xbx11 := bx1.c1; have xbx12 := bx1.c2; have rx1 := rx0.below hb1; have xrx10 := rx1.c0; have xrx11 := rx1.c1; have xrx12 := rx1.c2; have yrx10 := rx1.f0; have yrx11 := rx1.f1; have yrx12 := rx1.f2))
  go_wp2
  refine bodyPost_ret (v := .agg #[.bool b, .slice A m c, .slice A1 (digs q).length c1]) (by simp [results, Tryd.results42, go_sem, rx1.c0, rx1.c1, rx1.c2]) rfl ?_
  have hf : ∀ k, w.heap.size + 2 ≤ k → k ≠ w.heap.size + 1 := fun k hk => by omega
  exact ⟨_, rfl, ((hb0.below hb1).far3 (fun k hk => by omega) _ _ _).mono (fun k hk => hk.1), (hv1.far3 hf _ _ _).mono (fun k hk => by omega), below3 (below_step hB0 hb1) (by omega) _ _ _⟩

theorem sgn_sgn (b : Bool) (n : Nat) : sgn (sgn b n) n = sgn b n := by unfold sgn; cases b <;> simp
/-- A decimal number with so many places, as a fraction. -/
theorem frac_dec (b : Bool) (n s : Nat) (ok : Nat → Prop) (v : Value) (w : World) (hv : Rdv w ok v n) (hb : sgn b n = b) (hs : s ≤ 1000000) (hl : (digs n).length ≤ 1000000000) :
    Calls Tryd.prog 42 #[.agg #[.bool b, v, .int .i64 (-(s : Int))]] w fun en w' => ∃ u d, en = .returned (.agg #[.bool b, u, d]) ∧ Rdv w' (fun k => ok k ∨ w.heap.size ≤ k) u n ∧ Rdv w' (fun k => w.heap.size ≤ k) d (10 ^ s) ∧ Below w.heap.size w w' := by
  by_cases h : s = 0
  · subst h
    have hc := frac_pos b n 0 ok v w hv (by omega) hl
    refine hc.mono ?_
    rw [Nat.pow_zero, Nat.mul_one, hb]
    rintro e w' ⟨u, d, rfl, hu, hd, hbl⟩
    exact ⟨u, d, rfl, hu.mono (fun _ => .inr), hd, hbl⟩
  · refine (frac_neg b n s ok v w hv hs (by omega)).mono ?_
    rintro e w' ⟨d, rfl, hu, hd, hbl⟩
    exact ⟨v, d, rfl, hu.mono (fun _ => .inl), hd, hbl⟩

set_option maxHeartbeats 4000000 in
/-- A decimal of the package as a fraction. -/
theorem FixNum_n (b : Bool) (n s : Nat) (w : World) (hn : n < 18446744073709551616) (hs : s ≤ 1000000) :
    Calls Tryd.prog 29 #[.agg #[.bool b, .int .u64 n, .int .i64 s]] w fun en w' => ∃ u d, en = .returned (.agg #[.bool (sgn b n), u, d]) ∧ Rdv w' (fun k => w.heap.size ≤ k) u n ∧ Rdv w' (fun k => w.heap.size ≤ k) d (10 ^ s) ∧ Below w.heap.size w w' := by
  have hl : (digs n).length ≤ 1000000000 := by have := len_digs_le (n := n) (L := 3) (by omega); omega
  have HD := Aside0.mk (fun w => FixDec_n b n s w hn (by omega) (by omega))
  have HF := Aside0.mk (fun ok v w hv => frac_dec (sgn b n) n s ok v w hv (sgn_sgn b n) hs hl)
  clear hl hn hs
  generalize 10 ^ s = q at *
  generalize sgn b n = s1 at *
  generalize hE : -(s : Int) = E at *
  clear hE
  generalize hx : (n : Int) = x at *
  clear hx
  generalize (s : Int) = s at *
  go_enter Tryd.func29, Tryd.ntmps29
  have bx0 : Box ((w.alloc (Obj.cells #[Value.bool b, Value.int IntKind.u64 x, Value.int IntKind.i64 s] 24)).alloc (Obj.cells #[Value.bool false, Value.slice none 0 0, Value.slice none 0 0] 38)) w.heap.size [.bool b, .int IntKind.u64 x, .int IntKind.i64 s] := ((Box.new3 w _ _ _ _ _ (by simp)).alloc _)
  have rx0 : Box ((w.alloc (Obj.cells #[Value.bool b, Value.int IntKind.u64 x, Value.int IntKind.i64 s] 24)).alloc (Obj.cells #[Value.bool false, Value.slice none 0 0, Value.slice none 0 0] 38)) (w.heap.size + 1) [.bool false, .slice none 0 0, .slice none 0 0] := (Box.new3 (w.alloc (Obj.cells #[Value.bool b, Value.int IntKind.u64 x, Value.int IntKind.i64 s] 24)) _ _ _ _ _ (by simp))
  have hB0 : Below w.heap.size w ((w.alloc (Obj.cells #[Value.bool b, Value.int IntKind.u64 x, Value.int IntKind.i64 s] 24)).alloc (Obj.cells #[Value.bool false, Value.slice none 0 0, Value.slice none 0 0] 38)) := (((Below.refl _ _).alloc (Nat.le_refl _) _).alloc (by simp) _)
  go_wp2_with (first | (go_at_call 22; refine (HD.out _).mono ?_; rintro e w1 ⟨v1, rfl, hv1, hb1⟩; replace hv1 := hv1.mono (ok' := fun k => w.heap.size + 2 ≤ k) (fun k hk => by simp at hk; omega); obtain ⟨A1, c1, rfl, _, _⟩ := hv1.form; have sz1 := hb1.size; simp at sz1; have bx1 := bx0.below hb1; have xbx10 := bx1.c0; have xbx11 := bx1.c1; have xbx12 := bx1.c2; have rx1 := rx0.below hb1; have xrx10 := rx1.c0; have xrx11 := rx1.c1; have xrx12 := rx1.c2; have yrx10 := rx1.f0; have yrx11 := rx1.f1; have yrx12 := rx1.f2) | (go_at_call 42; refine (HF.out _ _ _ hv1).mono ?_; rintro e w2 ⟨u, d, rfl, hu, hd, hb2⟩; replace hu := hu.mono (ok' := fun k => w.heap.size + 2 ≤ k) (fun k hk => by rcases hk with hk | hk <;> omega); replace hd := hd.mono (ok' := fun k => w.heap.size + 2 ≤ k) (fun k hk => by have : _ ≤ k := hk; omega); obtain ⟨A2, c2, rfl, _, _⟩ := hu.form; obtain ⟨A3, c3, rfl, _, _⟩ := hd.form; have sz2 := hb2.size; have bx2 := bx1.below hb2; have xbx20 := bx2.c0; have xbx21 := bx2.c1; have xbx22 := bx2.c2; have rx2 := rx1.below hb2; have xrx20 := rx2.c0; have xrx21 := rx2.c1; have xrx22 := rx2.c2; have yrx20 := rx2.f0; have yrx21 := rx2.f1; have yrx22 := rx2.f2))
  refine bodyPost_ret (v := .agg #[.bool s1, .slice A2 (digs n).length c2, .slice A3 (digs q).length c3]) (by simp [results, Tryd.results29, go_sem, rx2.c0, rx2.c1, rx2.c2]) rfl ?_
  have hf : ∀ k, w.heap.size + 2 ≤ k → k ≠ w.heap.size + 1 := fun k hk => by omega
  exact ⟨_, _, rfl, (hu.far3 hf _ _ _).mono (fun k hk => by omega), (hd.far3 hf _ _ _).mono (fun k hk => by omega), below3 (below_step (below_step hB0 hb1) hb2) (by omega) _ _ _⟩
end Go.Proofs.YtnjbfebeigginaaDoor.SpecWalk
