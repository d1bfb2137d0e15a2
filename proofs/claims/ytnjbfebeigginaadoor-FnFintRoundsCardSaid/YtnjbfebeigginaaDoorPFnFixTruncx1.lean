-- PRINTED BY print.sh 35421559b90ae4d0a3588c463048766b98c2df88dd9212a6774a882060cdf62d: not written by this session
import Derived.Test.YtnjbfebeigginaaDoorPFnFixTruncx0
namespace Go.Proofs.YtnjbfebeigginaaDoor.PFnFixTrunc
open Go.RowKit Go.Proofs.YtnjbfebeigginaaDoorW.PrintWords Go.Proofs.YtnjbfebeigginaaDoorW.PrintLast Go.Proofs.YtnjbfebeigginaaDoorW.PrintMore
attribute [local go_sem] max2_int min2_int max_two min_two max_three min_three max_four min_four   -- for this text's walks alone
set_option linter.unusedVariables false
set_option linter.unusedSimpArgs false

/-! ### govalues_newUnsafe: function 52 -/
def govalues_newUnsafe.f (a0 : Bool) (a1 : Int) (a2 : Int) : Option (Bool × Int × Int) := if a1 = 0 then (some (false, IntKind.i8.wrap (a2), a1)) else (some (a0, IntKind.i8.wrap (a2), a1))
set_option maxHeartbeats 8000000 in
set_option maxRecDepth 100000 in
theorem govalues_newUnsafe.calls (a0 : Bool) (a1 : Int) (a2 : Int) (r1 : Bool) (r2 : Int) (r3 : Int) (w : World) (h : govalues_newUnsafe.f a0 a1 a2 = some (r1, r2, r3)) :
    Calls Tryd.prog 52 #[.bool a0, .int .u64 a1, .int .i64 a2] w fun e w' => e = .returned (.agg #[.bool r1, .int .i8 r2, .int .u64 r3]) ∧ Below w.heap.size w w' := by
  have hu52 := Tryd.underlying52
  have HB := Aside0.mk (Below.refl w.heap.size w)
  have H : (if a1 = 0 then (some (false, IntKind.i8.wrap (a2), a1)) else (some (a0, IntKind.i8.wrap (a2), a1))) = some (r1, r2, r3) := h
  clear h
  by_cases c4 : a1 = 0
  · rw [if_pos c4] at H
    have c4b0 : (a1 == 0) = true := beq_iff_eq.mpr c4
    have c4b1 : (a1 != 0) = false := bne_eq_false_iff_eq.mpr c4
    clear c4
    simp only [Option.some.injEq, Prod.mk.injEq] at H
    obtain ⟨rfl, rfl, rfl⟩ := H
    go_enter Tryd.func52, Tryd.ntmps52
    go_wp2_with (first | ((with_reducible refine gate_dst (N := 6) rfl ?_); refine box_event ?hg (N := 6) ?hd (cs := #[.bool false, .int .i8 0, .int .u64 0]) (t := 52) ?hr ?_; (case hd => rfl); (case hg => rfl); (case hr => first | (go_simp; done) | (go_simp; rfl)); intro gb101 hg w5 hbox hb; have n0_ := Aside0.mk (below_step (by repeat (first | (with_reducible first | exact HB.out | apply below_alloc | apply pw_below_drewN | apply below_drew1) | exact HB.out)) hb); have n1_ := Aside0.mk (hbox); have n2_ := Aside0.mk ((by rw [hg]; exact (below_size (by repeat (first | (with_reducible first | exact HB.out | apply below_alloc | apply pw_below_drewN | apply below_drew1) | exact HB.out))) : w.heap.size ≤ gb101)); have n3_ := Aside0.mk ((by rw [hg]; exact (below_size (by repeat (first | (with_reducible first | exact HB.out | apply below_alloc | apply pw_below_drewN | apply below_drew1) | exact HB.out))) : w.heap.size ≤ gb101)); clear HB; have HB := n0_; have BK101 := n1_; have GW101 := n2_; have GE101 := n3_; clear n0_ n1_ n2_ n3_; clear hb hbox hg; have hcz6_0 : w5.cell? ⟨gb101, 0, none⟩ = some (.bool false) := (blk_cell BK101.out 0).trans rfl; have hcz6_1 : w5.cell? ⟨gb101, 1, none⟩ = some (.int .i8 0) := (blk_cell BK101.out 1).trans rfl; have hcz6_2 : w5.cell? ⟨gb101, 2, none⟩ = some (.int .u64 0) := (blk_cell BK101.out 2).trans rfl; have hfz6_0 := blk_frozen BK101.out 0; have hfz6_1 := blk_frozen BK101.out 1; have hfz6_2 := blk_frozen BK101.out 2))
    refine bodyPost_ret (results_cell_row rfl _ _ gb101 52 #[.bool false, .int .i8 (IntKind.i8.wrap (a2)), .int .u64 a1] (0, 0) _ rfl (by (with_reducible repeat (first | refine blk_drewN ?_ _ | refine blk_drew ?_ | refine blk_alloc ?_ _)); refine blk_put (cs := #[.bool false, .int .i8 (IntKind.i8.wrap (a2)), .int .u64 0]) ?_ 2 _ rfl; (with_reducible repeat (first | refine blk_drewN ?_ _ | refine blk_drew ?_ | refine blk_alloc ?_ _)); refine blk_put (cs := #[.bool false, .int .i8 0, .int .u64 0]) ?_ 1 _ rfl; (with_reducible repeat (first | refine blk_drewN ?_ _ | refine blk_drew ?_ | refine blk_alloc ?_ _)); refine blk_put (cs := #[.bool false, .int .i8 0, .int .u64 0]) ?_ 0 _ rfl; (with_reducible repeat (first | refine blk_drewN ?_ _ | refine blk_drew ?_ | refine blk_alloc ?_ _)); exact BK101.out) Tryd.underlying52 rfl (by kernel_rfl)) rfl ?_
    exact ⟨by first | rfl | (simp [errW_none, errW_some] <;> rfl) | (simp [*, errW_none, errW_some] <;> rfl), by repeat (first | (with_reducible first | exact HB.out | apply below_alloc | apply pw_below_drewN | apply below_drew1 | refine below_set ?_ GE101.out) | exact HB.out)⟩
  · rw [if_neg c4] at H
    have c4b0 : (a1 == 0) = false := beq_eq_false_iff_ne.mpr c4
    have c4b1 : (a1 != 0) = true := bne_iff_ne.mpr c4
    simp only [Option.some.injEq, Prod.mk.injEq] at H
    obtain ⟨rfl, rfl, rfl⟩ := H
    go_enter Tryd.func52, Tryd.ntmps52
    go_wp2_with (first | ((with_reducible refine gate_dst (N := 6) rfl ?_); refine box_event ?hg (N := 6) ?hd (cs := #[.bool false, .int .i8 0, .int .u64 0]) (t := 52) ?hr ?_; (case hd => rfl); (case hg => rfl); (case hr => first | (go_simp; done) | (go_simp; rfl)); intro gb101 hg w7 hbox hb; have n0_ := Aside0.mk (below_step (by repeat (first | (with_reducible first | exact HB.out | apply below_alloc | apply pw_below_drewN | apply below_drew1) | exact HB.out)) hb); have n1_ := Aside0.mk (hbox); have n2_ := Aside0.mk ((by rw [hg]; exact (below_size (by repeat (first | (with_reducible first | exact HB.out | apply below_alloc | apply pw_below_drewN | apply below_drew1) | exact HB.out))) : w.heap.size ≤ gb101)); have n3_ := Aside0.mk ((by rw [hg]; exact (below_size (by repeat (first | (with_reducible first | exact HB.out | apply below_alloc | apply pw_below_drewN | apply below_drew1) | exact HB.out))) : w.heap.size ≤ gb101)); clear HB; have HB := n0_; have BK101 := n1_; have GW101 := n2_; have GE101 := n3_; clear n0_ n1_ n2_ n3_; clear hb hbox hg; have hcz8_0 : w7.cell? ⟨gb101, 0, none⟩ = some (.bool false) := (blk_cell BK101.out 0).trans rfl; have hcz8_1 : w7.cell? ⟨gb101, 1, none⟩ = some (.int .i8 0) := (blk_cell BK101.out 1).trans rfl; have hcz8_2 : w7.cell? ⟨gb101, 2, none⟩ = some (.int .u64 0) := (blk_cell BK101.out 2).trans rfl; have hfz8_0 := blk_frozen BK101.out 0; have hfz8_1 := blk_frozen BK101.out 1; have hfz8_2 := blk_frozen BK101.out 2))
    refine bodyPost_ret (results_cell_row rfl _ _ gb101 52 #[.bool a0, .int .i8 (IntKind.i8.wrap (a2)), .int .u64 a1] (0, 0) _ rfl (by (with_reducible repeat (first | refine blk_drewN ?_ _ | refine blk_drew ?_ | refine blk_alloc ?_ _)); refine blk_put (cs := #[.bool a0, .int .i8 (IntKind.i8.wrap (a2)), .int .u64 0]) ?_ 2 _ rfl; (with_reducible repeat (first | refine blk_drewN ?_ _ | refine blk_drew ?_ | refine blk_alloc ?_ _)); refine blk_put (cs := #[.bool a0, .int .i8 0, .int .u64 0]) ?_ 1 _ rfl; (with_reducible repeat (first | refine blk_drewN ?_ _ | refine blk_drew ?_ | refine blk_alloc ?_ _)); refine blk_put (cs := #[.bool false, .int .i8 0, .int .u64 0]) ?_ 0 _ rfl; (with_reducible repeat (first | refine blk_drewN ?_ _ | refine blk_drew ?_ | refine blk_alloc ?_ _)); exact BK101.out) Tryd.underlying52 rfl (by kernel_rfl)) rfl ?_
    exact ⟨by first | rfl | (simp [errW_none, errW_some] <;> rfl) | (simp [*, errW_none, errW_some] <;> rfl), by repeat (first | (with_reducible first | exact HB.out | apply below_alloc | apply pw_below_drewN | apply below_drew1 | refine below_set ?_ GE101.out) | exact HB.out)⟩

-- NOT PRINTED: function 63 (govalues_newSafe)

-- NOT PRINTED: function 47 (govalues_ZzMake)

-- NOT PRINTED: function 26 (impl_fixed)

/-! ### govalues_Decimal_IsNeg: function 48 -/
def govalues_Decimal_IsNeg.f (a0_0 : Bool) (a0_1 : Int) (a0_2 : Int) : Option (Bool) := some a0_0
set_option maxHeartbeats 8000000 in
set_option maxRecDepth 100000 in
theorem govalues_Decimal_IsNeg.calls (a0_0 : Bool) (a0_1 : Int) (a0_2 : Int) (r : Bool) (w : World) (h : govalues_Decimal_IsNeg.f a0_0 a0_1 a0_2 = some r) :
    Calls Tryd.prog 48 #[.agg #[.bool a0_0, .int .i8 a0_1, .int .u64 a0_2]] w fun e w' => e = .returned (.bool r) ∧ Below w.heap.size w w' := by
  have hu52 := Tryd.underlying52
  have HB := Aside0.mk (Below.refl w.heap.size w)
  have H : (some a0_0) = some r := h
  clear h
  obtain rfl := Option.some.inj H
  go_enter Tryd.func48, Tryd.ntmps48
  go_wp2_with (first | ((with_reducible refine gate_dst (N := 1) rfl ?_); refine box_event ?hg (N := 1) ?hd (cs := #[.bool a0_0, .int .i8 a0_1, .int .u64 a0_2]) (t := 52) ?hr ?_; (case hd => rfl); (case hg => rfl); (case hr => first | (go_simp; done) | (go_simp; rfl)); intro gb106 hg w2 hbox hb; have n0_ := Aside0.mk (below_step (by repeat (first | (with_reducible first | exact HB.out | apply below_alloc | apply pw_below_drewN | apply below_drew1) | exact HB.out)) hb); have n1_ := Aside0.mk (hbox); have n2_ := Aside0.mk ((by rw [hg]; exact (below_size (by repeat (first | (with_reducible first | exact HB.out | apply below_alloc | apply pw_below_drewN | apply below_drew1) | exact HB.out))) : w.heap.size ≤ gb106)); have n3_ := Aside0.mk ((by rw [hg]; exact (below_size (by repeat (first | (with_reducible first | exact HB.out | apply below_alloc | apply pw_below_drewN | apply below_drew1) | exact HB.out))) : w.heap.size ≤ gb106)); clear HB; have HB := n0_; have BK106 := n1_; have GW106 := n2_; have GE106 := n3_; clear n0_ n1_ n2_ n3_; clear hb hbox hg; have hcz3_0 : w2.cell? ⟨gb106, 0, none⟩ = some (.bool a0_0) := (blk_cell BK106.out 0).trans rfl; have hcz3_1 : w2.cell? ⟨gb106, 1, none⟩ = some (.int .i8 a0_1) := (blk_cell BK106.out 1).trans rfl; have hcz3_2 : w2.cell? ⟨gb106, 2, none⟩ = some (.int .u64 a0_2) := (blk_cell BK106.out 2).trans rfl; have hfz3_0 := blk_frozen BK106.out 0; have hfz3_1 := blk_frozen BK106.out 1; have hfz3_2 := blk_frozen BK106.out 2))
  go_ret
  exact ⟨by first | rfl | (simp [errW_none, errW_some] <;> rfl) | (simp [*, errW_none, errW_some] <;> rfl), by repeat (first | (with_reducible first | exact HB.out | apply below_alloc | apply pw_below_drewN | apply below_drew1 | refine below_set ?_ GE106.out) | exact HB.out)⟩

/-! ### govalues_Decimal_Coef: function 49 -/
def govalues_Decimal_Coef.f (a0_0 : Bool) (a0_1 : Int) (a0_2 : Int) : Option (Int) := some a0_2
set_option maxHeartbeats 8000000 in
set_option maxRecDepth 100000 in
theorem govalues_Decimal_Coef.calls (a0_0 : Bool) (a0_1 : Int) (a0_2 : Int) (r : Int) (w : World) (h : govalues_Decimal_Coef.f a0_0 a0_1 a0_2 = some r) :
    Calls Tryd.prog 49 #[.agg #[.bool a0_0, .int .i8 a0_1, .int .u64 a0_2]] w fun e w' => e = .returned (.int .u64 r) ∧ Below w.heap.size w w' := by
  have hu52 := Tryd.underlying52
  have HB := Aside0.mk (Below.refl w.heap.size w)
  have H : (some a0_2) = some r := h
  clear h
  obtain rfl := Option.some.inj H
  go_enter Tryd.func49, Tryd.ntmps49
  go_wp2_with (first | ((with_reducible refine gate_dst (N := 1) rfl ?_); refine box_event ?hg (N := 1) ?hd (cs := #[.bool a0_0, .int .i8 a0_1, .int .u64 a0_2]) (t := 52) ?hr ?_; (case hd => rfl); (case hg => rfl); (case hr => first | (go_simp; done) | (go_simp; rfl)); intro gb107 hg w2 hbox hb; have n0_ := Aside0.mk (below_step (by repeat (first | (with_reducible first | exact HB.out | apply below_alloc | apply pw_below_drewN | apply below_drew1) | exact HB.out)) hb); have n1_ := Aside0.mk (hbox); have n2_ := Aside0.mk ((by rw [hg]; exact (below_size (by repeat (first | (with_reducible first | exact HB.out | apply below_alloc | apply pw_below_drewN | apply below_drew1) | exact HB.out))) : w.heap.size ≤ gb107)); have n3_ := Aside0.mk ((by rw [hg]; exact (below_size (by repeat (first | (with_reducible first | exact HB.out | apply below_alloc | apply pw_below_drewN | apply below_drew1) | exact HB.out))) : w.heap.size ≤ gb107)); clear HB; have HB := n0_; have BK107 := n1_; have GW107 := n2_; have GE107 := n3_; clear n0_ n1_ n2_ n3_; clear hb hbox hg; have hcz3_0 : w2.cell? ⟨gb107, 0, none⟩ = some (.bool a0_0) := (blk_cell BK107.out 0).trans rfl; have hcz3_1 : w2.cell? ⟨gb107, 1, none⟩ = some (.int .i8 a0_1) := (blk_cell BK107.out 1).trans rfl; have hcz3_2 : w2.cell? ⟨gb107, 2, none⟩ = some (.int .u64 a0_2) := (blk_cell BK107.out 2).trans rfl; have hfz3_0 := blk_frozen BK107.out 0; have hfz3_1 := blk_frozen BK107.out 1; have hfz3_2 := blk_frozen BK107.out 2))
  go_ret
  exact ⟨by first | rfl | (simp [errW_none, errW_some] <;> rfl) | (simp [*, errW_none, errW_some] <;> rfl), by repeat (first | (with_reducible first | exact HB.out | apply below_alloc | apply pw_below_drewN | apply below_drew1 | refine below_set ?_ GE107.out) | exact HB.out)⟩

/-! ### govalues_Decimal_Scale: function 50 -/
def govalues_Decimal_Scale.f (a0_0 : Bool) (a0_1 : Int) (a0_2 : Int) : Option (Int) := some (wrap64 (a0_1))
set_option maxHeartbeats 8000000 in
set_option maxRecDepth 100000 in
theorem govalues_Decimal_Scale.calls (a0_0 : Bool) (a0_1 : Int) (a0_2 : Int) (r : Int) (w : World) (h : govalues_Decimal_Scale.f a0_0 a0_1 a0_2 = some r) :
    Calls Tryd.prog 50 #[.agg #[.bool a0_0, .int .i8 a0_1, .int .u64 a0_2]] w fun e w' => e = .returned (.int .i64 r) ∧ Below w.heap.size w w' := by
  have hu52 := Tryd.underlying52
  have HB := Aside0.mk (Below.refl w.heap.size w)
  have H : (some (wrap64 (a0_1))) = some r := h
  clear h
  obtain rfl := Option.some.inj H
  go_enter Tryd.func50, Tryd.ntmps50
  go_wp2_with (first | ((with_reducible refine gate_dst (N := 1) rfl ?_); refine box_event ?hg (N := 1) ?hd (cs := #[.bool a0_0, .int .i8 a0_1, .int .u64 a0_2]) (t := 52) ?hr ?_; (case hd => rfl); (case hg => rfl); (case hr => first | (go_simp; done) | (go_simp; rfl)); intro gb108 hg w2 hbox hb; have n0_ := Aside0.mk (below_step (by repeat (first | (with_reducible first | exact HB.out | apply below_alloc | apply pw_below_drewN | apply below_drew1) | exact HB.out)) hb); have n1_ := Aside0.mk (hbox); have n2_ := Aside0.mk ((by rw [hg]; exact (below_size (by repeat (first | (with_reducible first | exact HB.out | apply below_alloc | apply pw_below_drewN | apply below_drew1) | exact HB.out))) : w.heap.size ≤ gb108)); have n3_ := Aside0.mk ((by rw [hg]; exact (below_size (by repeat (first | (with_reducible first | exact HB.out | apply below_alloc | apply pw_below_drewN | apply below_drew1) | exact HB.out))) : w.heap.size ≤ gb108)); clear HB; have HB := n0_; have BK108 := n1_; have GW108 := n2_; have GE108 := n3_; clear n0_ n1_ n2_ n3_; clear hb hbox hg; have hcz3_0 : w2.cell? ⟨gb108, 0, none⟩ = some (.bool a0_0) := (blk_cell BK108.out 0).trans rfl; have hcz3_1 : w2.cell? ⟨gb108, 1, none⟩ = some (.int .i8 a0_1) := (blk_cell BK108.out 1).trans rfl; have hcz3_2 : w2.cell? ⟨gb108, 2, none⟩ = some (.int .u64 a0_2) := (blk_cell BK108.out 2).trans rfl; have hfz3_0 := blk_frozen BK108.out 0; have hfz3_1 := blk_frozen BK108.out 1; have hfz3_2 := blk_frozen BK108.out 2))
  go_ret
  exact ⟨by first | rfl | (simp [errW_none, errW_some] <;> rfl) | (simp [*, errW_none, errW_some] <;> rfl), by repeat (first | (with_reducible first | exact HB.out | apply below_alloc | apply pw_below_drewN | apply below_drew1 | refine below_set ?_ GE108.out) | exact HB.out)⟩

/-! ### impl_fix: function 27 -/
def impl_fix.f (a0_0 : Bool) (a0_1 : Int) (a0_2 : Int) : Option (Bool × Int × Int) := (govalues_Decimal_IsNeg.f a0_0 a0_1 a0_2).bind fun t111 => ((govalues_Decimal_Coef.f a0_0 a0_1 a0_2).bind fun t112 => ((govalues_Decimal_Scale.f a0_0 a0_1 a0_2).bind fun t113 => (some (t111, t112, t113))))
def impl_fix.T1 : Bool × List (List Nat × List Nat) := (true, [([], []), ([0], [0]), ([], []), ([2, 1], [2]), ([], []), ([4, 3], [4]), ([1, 3, 5], [1, 3, 5]), ([6, 5, 0, 1, 2, 3, 4, 5, 6], [6])])
def impl_fix.B1 : List Nat := [0, 1, 0, 7, 0, 31, 63, 127]
theorem impl_fix.tab1 : rtab .any (opsOf Tryd.f27 1) = impl_fix.T1 := by kernel_rfl
theorem impl_fix.bits1 : waitsOk impl_fix.T1.2 impl_fix.B1 = true := by kernel_rfl
set_option maxHeartbeats 8000000 in
set_option maxRecDepth 100000 in
theorem impl_fix.calls (a0_0 : Bool) (a0_1 : Int) (a0_2 : Int) (r1 : Bool) (r2 : Int) (r3 : Int) (w : World) (h : impl_fix.f a0_0 a0_1 a0_2 = some (r1, r2, r3)) :
    Calls Tryd.prog 27 #[.agg #[.bool a0_0, .int .i8 a0_1, .int .u64 a0_2]] w fun e w' => e = .returned (.agg #[.bool r1, .int .u64 r2, .int .i64 r3]) ∧ Below w.heap.size w w' := by
  have hu52 := Tryd.underlying52
  have hu24 := Tryd.underlying24
  have HB := Aside0.mk (Below.refl w.heap.size w)
  have H : ((govalues_Decimal_IsNeg.f a0_0 a0_1 a0_2).bind fun t111 => ((govalues_Decimal_Coef.f a0_0 a0_1 a0_2).bind fun t112 => ((govalues_Decimal_Scale.f a0_0 a0_1 a0_2).bind fun t113 => (some (t111, t112, t113))))) = some (r1, r2, r3) := h
  clear h
  replace H := Option.bind_eq_some_iff.mp H
  obtain ⟨t111, A20, H⟩ := H
  replace H : ((govalues_Decimal_Coef.f a0_0 a0_1 a0_2).bind fun t112 => ((govalues_Decimal_Scale.f a0_0 a0_1 a0_2).bind fun t113 => (some (t111, t112, t113)))) = some (r1, r2, r3) := H
  have A2 := Aside0.mk A20
  clear A20
  replace H := Option.bind_eq_some_iff.mp H
  obtain ⟨t112, A30, H⟩ := H
  replace H : ((govalues_Decimal_Scale.f a0_0 a0_1 a0_2).bind fun t113 => (some (t111, t112, t113))) = some (r1, r2, r3) := H
  have A3 := Aside0.mk A30
  clear A30
  replace H := Option.bind_eq_some_iff.mp H
  obtain ⟨t113, A40, H⟩ := H
  replace H : (some (t111, t112, t113)) = some (r1, r2, r3) := H
  have A4 := Aside0.mk A40
  clear A40
  simp only [Option.some.injEq, Prod.mk.injEq] at H
  obtain ⟨rfl, rfl, rfl⟩ := H
  go_enter Tryd.func27, Tryd.ntmps27
  try go_wp2_with (first | ((with_reducible refine gate_dst (N := 1) rfl ?_); refine box_event ?hg (N := 1) ?hd (cs := #[.bool a0_0, .int .i8 a0_1, .int .u64 a0_2]) (t := 52) ?hr ?_; (case hd => rfl); (case hg => rfl); (case hr => first | (go_simp; done) | (go_simp; rfl)); intro gb109 hg w5 hbox hb; have n0_ := Aside0.mk (below_step (by repeat (first | (with_reducible first | exact HB.out | apply below_alloc | apply pw_below_drewN | apply below_drew1) | exact HB.out)) hb); have n1_ := Aside0.mk (hbox); have n2_ := Aside0.mk ((by rw [hg]; exact (below_size (by repeat (first | (with_reducible first | exact HB.out | apply below_alloc | apply pw_below_drewN | apply below_drew1) | exact HB.out))) : w.heap.size ≤ gb109)); have n3_ := Aside0.mk ((by rw [hg]; exact (below_size (by repeat (first | (with_reducible first | exact HB.out | apply below_alloc | apply pw_below_drewN | apply below_drew1) | exact HB.out))) : w.heap.size ≤ gb109)); clear HB; have HB := n0_; have BK109 := n1_; have GW109 := n2_; have GE109 := n3_; clear n0_ n1_ n2_ n3_; clear hb hbox hg) | ((with_reducible refine gate_dst (N := 2) rfl ?_); refine box_event ?hg (N := 2) ?hd (cs := #[.bool false, .int .u64 0, .int .i64 0]) (t := 24) ?hr ?_; (case hd => rfl); (case hg => rfl); (case hr => first | (go_simp; done) | (go_simp; rfl)); intro gb110 hg w6 hbox hb; have n0_ := Aside0.mk (blk_below (g := gb109) (o := .cells #[.bool a0_0, .int .i8 a0_1, .int .u64 a0_2] 52 (0, 0)) (by (with_reducible repeat (first | refine blk_drewN ?_ _ | refine blk_drew ?_ | refine blk_alloc ?_ _)); exact BK109.out) hb); have n1_ := Aside0.mk (below_step (by repeat (first | (with_reducible first | exact HB.out | apply below_alloc | apply pw_below_drewN | apply below_drew1 | refine below_set ?_ GE109.out) | exact HB.out)) hb); have n2_ := Aside0.mk (hbox); have n3_ := Aside0.mk ((by rw [hg]; exact (below_size (by repeat (first | (with_reducible first | exact HB.out | apply below_alloc | apply pw_below_drewN | apply below_drew1 | refine below_set ?_ GE109.out) | exact HB.out))) : w.heap.size ≤ gb110)); have n4_ := Aside0.mk ((by rw [hg]; exact (below_size (by repeat (first | (with_reducible first | exact HB.out | apply below_alloc | apply pw_below_drewN | apply below_drew1 | refine below_set ?_ GE109.out) | exact HB.out))) : w.heap.size ≤ gb110)); have n5_ := Aside0.mk ((by rw [hg]; exact Nat.ne_of_lt (blk_lt (g := gb109) (o := .cells #[.bool a0_0, .int .i8 a0_1, .int .u64 a0_2] 52 (0, 0)) (by (with_reducible repeat (first | refine blk_drewN ?_ _ | refine blk_drew ?_ | refine blk_alloc ?_ _)); exact BK109.out)) : gb109 ≠ gb110)); have n6_ := Aside0.mk ((by rw [hg]; exact Nat.ne_of_gt (blk_lt (g := gb109) (o := .cells #[.bool a0_0, .int .i8 a0_1, .int .u64 a0_2] 52 (0, 0)) (by (with_reducible repeat (first | refine blk_drewN ?_ _ | refine blk_drew ?_ | refine blk_alloc ?_ _)); exact BK109.out)) : gb110 ≠ gb109)); clear BK109; clear HB; have BK109 := n0_; have HB := n1_; have BK110 := n2_; have GW110 := n3_; have GE110 := n4_; have NB109_110 := n5_; have NB110_109 := n6_; clear n0_ n1_ n2_ n3_ n4_ n5_ n6_; clear hb hbox hg))
  have n0_ := Aside0.mk (blk_drew BK109.out)
  have n1_ := Aside0.mk (blk_drew BK110.out)
  have n2_ := Aside0.mk (below_drew1 HB.out)
  clear BK109
  clear BK110
  clear HB
  have BK109 := n0_
  have BK110 := n1_
  have HB := n2_
  clear n0_ n1_ n2_
  refine start_ (n := 8) (S := fun w' => w'.cell? ⟨gb109, 0, none⟩ = some (.bool a0_0) ∧ w'.cell? ⟨gb109, 1, none⟩ = some (.int .i8 a0_1) ∧ w'.cell? ⟨gb109, 2, none⟩ = some (.int .u64 a0_2)) (ds := []) #[false, false, false, false, false, false, false, false] (by kernel_rfl) rfl rfl ⟨(blk_cell BK109.out 0).trans rfl, (blk_cell BK109.out 1).trans rfl, (blk_cell BK109.out 2).trans rfl⟩ (fun hHeld => ?_); refine with_tabW impl_fix.tab1 impl_fix.bits1 (fun HT_ HW_ => ?_)
  generalize w6.drew = w7 at BK109 BK110 HB hHeld ⊢
  refine take_ (i := 0) (N := some 3) (v := ?_) (a' := ?_) #[true, false, false, false, false, false, false, false] rfl rfl (take_ofW HT_.out HW_.out (by kernel_rfl)) (fun _ _ _ h => h) (Or.inl ⟨by rfl, ?_⟩) hHeld ?_ ?_
  rotate_left
  · rintro w' ⟨s0, s1, s2⟩
    go_simp
    with_reducible rfl
  rotate_left
  · simp only [Act.put, List.setIfInBounds_toArray, List.set_cons_zero, List.set_cons_succ, i64_w, i32_w]
    rfl
  refine take_ (i := 2) (N := some 5) (v := ?_) (a' := ?_) #[true, false, true, false, false, false, false, false] rfl rfl (take_ofW HT_.out HW_.out (by kernel_rfl)) (fun _ _ _ h => h) (Or.inl ⟨by rfl, ?_⟩) hHeld ?_ ?_
  rotate_left
  · rintro w' ⟨s0, s1, s2⟩
    go_simp
    with_reducible rfl
  rotate_left
  · simp only [Act.put, List.setIfInBounds_toArray, List.set_cons_zero, List.set_cons_succ, i64_w, i32_w]
    rfl
  refine take_ (i := 4) (N := some 7) (v := ?_) (a' := ?_) #[true, false, true, false, true, false, false, false] rfl rfl (take_ofW HT_.out HW_.out (by kernel_rfl)) (fun _ _ _ h => h) (Or.inl ⟨by rfl, ?_⟩) hHeld ?_ ?_
  rotate_left
  · rintro w' ⟨s0, s1, s2⟩
    go_simp
    with_reducible rfl
  rotate_left
  · simp only [Act.put, List.setIfInBounds_toArray, List.set_cons_zero, List.set_cons_succ, i64_w, i32_w]
    rfl
  refine one_ (i := 1) (N := some 4) #[true, true, true, false, true, false, false, false] rfl rfl (one_of HT_.out (by kernel_rfl)) (by decide) (fun K hK => ?_)
  refine goes_ Tryd.func48 (by kernel_rfl) rfl #[.agg #[.bool a0_0, .int .i8 a0_1, .int .u64 a0_2]] (by rfl) rfl rfl (by (try simp only [List.map_toArray, List.map_cons, List.map_nil]); first | done | rfl | (simp only [List.length_drop, List.length_take]; rfl)) ?_
  with_reducible refine (govalues_Decimal_IsNeg.calls a0_0 a0_1 a0_2 t111 _ A2.out).mono ?_
  rintro e w8 ⟨rfl, hb⟩
  refine ⟨_, rfl, ?_⟩
  have n0_ := Aside0.mk (blk_below (g := gb109) (o := .cells #[.bool a0_0, .int .i8 a0_1, .int .u64 a0_2] 52 (0, 0)) (by (with_reducible repeat (first | refine blk_drewN ?_ _ | refine blk_drew ?_ | refine blk_alloc ?_ _)); exact BK109.out) hb)
  have n1_ := Aside0.mk (blk_below (g := gb110) (o := .cells #[.bool false, .int .u64 0, .int .i64 0] 24 (0, 0)) (by (with_reducible repeat (first | refine blk_drewN ?_ _ | refine blk_drew ?_ | refine blk_alloc ?_ _)); exact BK110.out) hb)
  have n2_ := Aside0.mk (below_step (by repeat (first | (with_reducible first | exact HB.out | apply below_alloc | apply pw_below_drewN | apply below_drew1 | refine below_set ?_ GE109.out | refine below_set ?_ GE110.out) | exact HB.out)) hb)
  clear BK109
  clear BK110
  clear HB
  have BK109 := n0_
  have BK110 := n1_
  have HB := n2_
  clear n0_ n1_ n2_
  (try clear hb)
  (try clear hb2)
  (try clear hk)
  (try clear hi)
  refine hK.out _ _ ⟨(blk_cell BK109.out 0).trans rfl, (blk_cell BK109.out 1).trans rfl, (blk_cell BK109.out 2).trans rfl⟩ (fun hHeld => ?_)
  clear hK K
  refine norm_ (a' := ?_) ?_ ?_
  rotate_left
  · show Act.put _ (some 4) _ = _
    simp only [Act.put, List.setIfInBounds_toArray, List.set_cons_zero, List.set_cons_succ, i64_w, i32_w]
    rfl
  refine one_ (i := 3) (N := some 6) #[true, true, true, true, true, false, false, false] rfl rfl (one_of HT_.out (by kernel_rfl)) (by decide) (fun K hK => ?_)
  refine goes_ Tryd.func49 (by kernel_rfl) rfl #[.agg #[.bool a0_0, .int .i8 a0_1, .int .u64 a0_2]] (by rfl) rfl rfl (by (try simp only [List.map_toArray, List.map_cons, List.map_nil]); first | done | rfl | (simp only [List.length_drop, List.length_take]; rfl)) ?_
  with_reducible refine (govalues_Decimal_Coef.calls a0_0 a0_1 a0_2 t112 _ A3.out).mono ?_
  rintro e w9 ⟨rfl, hb⟩
  refine ⟨_, rfl, ?_⟩
  have n0_ := Aside0.mk (blk_below (g := gb109) (o := .cells #[.bool a0_0, .int .i8 a0_1, .int .u64 a0_2] 52 (0, 0)) (by (with_reducible repeat (first | refine blk_drewN ?_ _ | refine blk_drew ?_ | refine blk_alloc ?_ _)); exact BK109.out) hb)
  have n1_ := Aside0.mk (blk_below (g := gb110) (o := .cells #[.bool false, .int .u64 0, .int .i64 0] 24 (0, 0)) (by (with_reducible repeat (first | refine blk_drewN ?_ _ | refine blk_drew ?_ | refine blk_alloc ?_ _)); exact BK110.out) hb)
  have n2_ := Aside0.mk (below_step (by repeat (first | (with_reducible first | exact HB.out | apply below_alloc | apply pw_below_drewN | apply below_drew1 | refine below_set ?_ GE109.out | refine below_set ?_ GE110.out) | exact HB.out)) hb)
  clear BK109
  clear BK110
  clear HB
  have BK109 := n0_
  have BK110 := n1_
  have HB := n2_
  clear n0_ n1_ n2_
  (try clear hb)
  (try clear hb2)
  (try clear hk)
  (try clear hi)
  refine hK.out _ _ ⟨(blk_cell BK109.out 0).trans rfl, (blk_cell BK109.out 1).trans rfl, (blk_cell BK109.out 2).trans rfl⟩ (fun hHeld => ?_)
  clear hK K
  refine norm_ (a' := ?_) ?_ ?_
  rotate_left
  · show Act.put _ (some 6) _ = _
    simp only [Act.put, List.setIfInBounds_toArray, List.set_cons_zero, List.set_cons_succ, i64_w, i32_w]
    rfl
  refine one_ (i := 5) (N := some 8) #[true, true, true, true, true, true, false, false] rfl rfl (one_of HT_.out (by kernel_rfl)) (by decide) (fun K hK => ?_)
  refine goes_ Tryd.func50 (by kernel_rfl) rfl #[.agg #[.bool a0_0, .int .i8 a0_1, .int .u64 a0_2]] (by rfl) rfl rfl (by (try simp only [List.map_toArray, List.map_cons, List.map_nil]); first | done | rfl | (simp only [List.length_drop, List.length_take]; rfl)) ?_
  with_reducible refine (govalues_Decimal_Scale.calls a0_0 a0_1 a0_2 t113 _ A4.out).mono ?_
  rintro e w10 ⟨rfl, hb⟩
  refine ⟨_, rfl, ?_⟩
  have n0_ := Aside0.mk (blk_below (g := gb109) (o := .cells #[.bool a0_0, .int .i8 a0_1, .int .u64 a0_2] 52 (0, 0)) (by (with_reducible repeat (first | refine blk_drewN ?_ _ | refine blk_drew ?_ | refine blk_alloc ?_ _)); exact BK109.out) hb)
  have n1_ := Aside0.mk (blk_below (g := gb110) (o := .cells #[.bool false, .int .u64 0, .int .i64 0] 24 (0, 0)) (by (with_reducible repeat (first | refine blk_drewN ?_ _ | refine blk_drew ?_ | refine blk_alloc ?_ _)); exact BK110.out) hb)
  have n2_ := Aside0.mk (below_step (by repeat (first | (with_reducible first | exact HB.out | apply below_alloc | apply pw_below_drewN | apply below_drew1 | refine below_set ?_ GE109.out | refine below_set ?_ GE110.out) | exact HB.out)) hb)
  clear BK109
  clear BK110
  clear HB
  have BK109 := n0_
  have BK110 := n1_
  have HB := n2_
  clear n0_ n1_ n2_
  (try clear hb)
  (try clear hb2)
  (try clear hk)
  (try clear hi)
  refine hK.out _ _ ⟨(blk_cell BK109.out 0).trans rfl, (blk_cell BK109.out 1).trans rfl, (blk_cell BK109.out 2).trans rfl⟩ (fun hHeld => ?_)
  clear hK K
  refine norm_ (a' := ?_) ?_ ?_
  rotate_left
  · show Act.put _ (some 8) _ = _
    simp only [Act.put, List.setIfInBounds_toArray, List.set_cons_zero, List.set_cons_succ, i64_w, i32_w]
    rfl
  refine pure_ (i := 6) (N := some 9) (v := ?_) (a' := ?_) #[true, true, true, true, true, true, true, false] rfl rfl (any_of HT_.out (by kernel_rfl)) (fun _ _ _ h => h) (Or.inl ⟨by rfl, ?_⟩) ?_ ?_
  rotate_left
  · intro w'
    go_simp
    with_reducible rfl
  rotate_left
  · simp only [Act.put, List.setIfInBounds_toArray, List.set_cons_zero, List.set_cons_succ, i64_w, i32_w]
    rfl
  refine one_ (i := 7) (N := none) #[true, true, true, true, true, true, true, true] rfl rfl (one_of HT_.out (by kernel_rfl)) (by decide) (fun K hK => ?_)
  have hs11 : w10.cell? ⟨gb110, 0, none⟩ = some (.bool false) := (blk_cell BK110.out 0).trans rfl
  have hfs11 := blk_frozen BK110.out 0
  have hns11_0 := NB109_110.out
  have hms11_0 := NB110_109.out
  have hs12 : w10.cell? ⟨gb110, 1, none⟩ = some (.int .u64 0) := (blk_cell BK110.out 1).trans rfl
  have hfs12 := blk_frozen BK110.out 1
  have hns12_0 := NB109_110.out
  have hms12_0 := NB110_109.out
  have hs13 : w10.cell? ⟨gb110, 2, none⟩ = some (.int .i64 0) := (blk_cell BK110.out 2).trans rfl
  have hfs13 := blk_frozen BK110.out 2
  have hns13_0 := NB109_110.out
  have hms13_0 := NB110_109.out
  refine skip_ (w1 := ?_) (by rfl) rfl ?_ ?_
  rotate_left
  · go_simp
    rfl
  refine hK.out _ _ ⟨((cell_far (p := ⟨gb110, _, none⟩) NB109_110.out _).trans (((cell_far (p := ⟨gb110, _, none⟩) NB109_110.out _).trans (((cell_far (p := ⟨gb110, _, none⟩) NB109_110.out _).trans (hHeld.1)))))), ((cell_far (p := ⟨gb110, _, none⟩) NB109_110.out _).trans (((cell_far (p := ⟨gb110, _, none⟩) NB109_110.out _).trans (((cell_far (p := ⟨gb110, _, none⟩) NB109_110.out _).trans (hHeld.2.1)))))), ((cell_far (p := ⟨gb110, _, none⟩) NB109_110.out _).trans (((cell_far (p := ⟨gb110, _, none⟩) NB109_110.out _).trans (((cell_far (p := ⟨gb110, _, none⟩) NB109_110.out _).trans (hHeld.2.2))))))⟩ (fun hHeld => ?_)
  clear hK K
  refine done_ (done_of HT_.out (by kernel_rfl)) ?_
  try go_wp2
  refine bodyPost_ret (results_cell_row rfl _ _ gb110 24 #[.bool t111, .int .u64 t112, .int .i64 t113] (0, 0) _ rfl (by (with_reducible repeat (first | refine blk_drewN ?_ _ | refine blk_drew ?_ | refine blk_alloc ?_ _)); refine blk_put (cs := #[.bool t111, .int .u64 t112, .int .i64 0]) ?_ 2 _ rfl; (with_reducible repeat (first | refine blk_drewN ?_ _ | refine blk_drew ?_ | refine blk_alloc ?_ _)); refine blk_put (cs := #[.bool t111, .int .u64 0, .int .i64 0]) ?_ 1 _ rfl; (with_reducible repeat (first | refine blk_drewN ?_ _ | refine blk_drew ?_ | refine blk_alloc ?_ _)); refine blk_put (cs := #[.bool false, .int .u64 0, .int .i64 0]) ?_ 0 _ rfl; (with_reducible repeat (first | refine blk_drewN ?_ _ | refine blk_drew ?_ | refine blk_alloc ?_ _)); exact BK110.out) Tryd.underlying24 rfl (by kernel_rfl)) rfl ?_
  exact ⟨by first | rfl | (simp [errW_none, errW_some] <;> rfl) | (simp [*, errW_none, errW_some] <;> rfl), by repeat (first | (with_reducible first | exact HB.out | apply below_alloc | apply pw_below_drewN | apply below_drew1 | refine below_set ?_ GE109.out | refine below_set ?_ GE110.out) | exact HB.out)⟩

-- NOT PRINTED: function 51 (govalues_fint_rshDown)

-- NOT PRINTED: function 28 (govalues_Decimal_Trunc)

-- NOT PRINTED: function 7 (impl_FixTrunc)

/-! ### spec_FixIs: function 8 -/
def spec_FixIs.f (a0_0 : Bool) (a0_1 : Int) (a0_2 : Int) : Option (Bool) := if a0_1 ≤ 9999999999999999999 then (if a0_2 ≥ 0 then (some (decide (a0_2 ≤ 19))) else (some false)) else (some false)
set_option maxHeartbeats 8000000 in
set_option maxRecDepth 100000 in
theorem spec_FixIs.calls (a0_0 : Bool) (a0_1 : Int) (a0_2 : Int) (r : Bool) (w : World) (h : spec_FixIs.f a0_0 a0_1 a0_2 = some r) :
    Calls Tryd.prog 8 #[.agg #[.bool a0_0, .int .u64 a0_1, .int .i64 a0_2]] w fun e w' => e = .returned (.bool r) ∧ Below w.heap.size w w' := by
  have hu24 := Tryd.underlying24
  have HB := Aside0.mk (Below.refl w.heap.size w)
  have H : (if a0_1 ≤ 9999999999999999999 then (if a0_2 ≥ 0 then (some (decide (a0_2 ≤ 19))) else (some false)) else (some false)) = some r := h
  clear h
  by_cases c2 : a0_1 ≤ 9999999999999999999
  · rw [if_pos c2] at H
    have c2b0 : decide (a0_1 ≤ 9999999999999999999) = true := decide_eq_true c2
    clear c2
    by_cases c3 : a0_2 ≥ 0
    · rw [if_pos c3] at H
      have c3b0 : decide (0 ≤ a0_2) = true := decide_eq_true c3
      clear c3
      obtain rfl := Option.some.inj H
      go_enter Tryd.func8, Tryd.ntmps8
      go_wp2_with (first | ((with_reducible refine gate_dst (N := 1) rfl ?_); refine box_event ?hg (N := 1) ?hd (cs := #[.bool a0_0, .int .u64 a0_1, .int .i64 a0_2]) (t := 24) ?hr ?_; (case hd => rfl); (case hg => rfl); (case hr => first | (go_simp; done) | (go_simp; rfl)); intro gb120 hg w4 hbox hb; have n0_ := Aside0.mk (below_step (by repeat (first | (with_reducible first | exact HB.out | apply below_alloc | apply pw_below_drewN | apply below_drew1) | exact HB.out)) hb); have n1_ := Aside0.mk (hbox); have n2_ := Aside0.mk ((by rw [hg]; exact (below_size (by repeat (first | (with_reducible first | exact HB.out | apply below_alloc | apply pw_below_drewN | apply below_drew1) | exact HB.out))) : w.heap.size ≤ gb120)); have n3_ := Aside0.mk ((by rw [hg]; exact (below_size (by repeat (first | (with_reducible first | exact HB.out | apply below_alloc | apply pw_below_drewN | apply below_drew1) | exact HB.out))) : w.heap.size ≤ gb120)); clear HB; have HB := n0_; have BK120 := n1_; have GW120 := n2_; have GE120 := n3_; clear n0_ n1_ n2_ n3_; clear hb hbox hg; have hcz5_0 : w4.cell? ⟨gb120, 0, none⟩ = some (.bool a0_0) := (blk_cell BK120.out 0).trans rfl; have hcz5_1 : w4.cell? ⟨gb120, 1, none⟩ = some (.int .u64 a0_1) := (blk_cell BK120.out 1).trans rfl; have hcz5_2 : w4.cell? ⟨gb120, 2, none⟩ = some (.int .i64 a0_2) := (blk_cell BK120.out 2).trans rfl; have hfz5_0 := blk_frozen BK120.out 0; have hfz5_1 := blk_frozen BK120.out 1; have hfz5_2 := blk_frozen BK120.out 2))
      go_ret
      exact ⟨by first | rfl | (simp [errW_none, errW_some] <;> rfl) | (simp [*, errW_none, errW_some] <;> rfl), by repeat (first | (with_reducible first | exact HB.out | apply below_alloc | apply pw_below_drewN | apply below_drew1 | refine below_set ?_ GE120.out) | exact HB.out)⟩
    · rw [if_neg c3] at H
      have c3b0 : decide (0 ≤ a0_2) = false := decide_eq_false c3
      clear c3
      obtain rfl := Option.some.inj H
      go_enter Tryd.func8, Tryd.ntmps8
      go_wp2_with (first | ((with_reducible refine gate_dst (N := 1) rfl ?_); refine box_event ?hg (N := 1) ?hd (cs := #[.bool a0_0, .int .u64 a0_1, .int .i64 a0_2]) (t := 24) ?hr ?_; (case hd => rfl); (case hg => rfl); (case hr => first | (go_simp; done) | (go_simp; rfl)); intro gb120 hg w6 hbox hb; have n0_ := Aside0.mk (below_step (by repeat (first | (with_reducible first | exact HB.out | apply below_alloc | apply pw_below_drewN | apply below_drew1) | exact HB.out)) hb); have n1_ := Aside0.mk (hbox); have n2_ := Aside0.mk ((by rw [hg]; exact (below_size (by repeat (first | (with_reducible first | exact HB.out | apply below_alloc | apply pw_below_drewN | apply below_drew1) | exact HB.out))) : w.heap.size ≤ gb120)); have n3_ := Aside0.mk ((by rw [hg]; exact (below_size (by repeat (first | (with_reducible first | exact HB.out | apply below_alloc | apply pw_below_drewN | apply below_drew1) | exact HB.out))) : w.heap.size ≤ gb120)); clear HB; have HB := n0_; have BK120 := n1_; have GW120 := n2_; have GE120 := n3_; clear n0_ n1_ n2_ n3_; clear hb hbox hg; have hcz7_0 : w6.cell? ⟨gb120, 0, none⟩ = some (.bool a0_0) := (blk_cell BK120.out 0).trans rfl; have hcz7_1 : w6.cell? ⟨gb120, 1, none⟩ = some (.int .u64 a0_1) := (blk_cell BK120.out 1).trans rfl; have hcz7_2 : w6.cell? ⟨gb120, 2, none⟩ = some (.int .i64 a0_2) := (blk_cell BK120.out 2).trans rfl; have hfz7_0 := blk_frozen BK120.out 0; have hfz7_1 := blk_frozen BK120.out 1; have hfz7_2 := blk_frozen BK120.out 2))
      go_ret
      exact ⟨by first | rfl | (simp [errW_none, errW_some] <;> rfl) | (simp [*, errW_none, errW_some] <;> rfl), by repeat (first | (with_reducible first | exact HB.out | apply below_alloc | apply pw_below_drewN | apply below_drew1 | refine below_set ?_ GE120.out) | exact HB.out)⟩
  · rw [if_neg c2] at H
    have c2b0 : decide (a0_1 ≤ 9999999999999999999) = false := decide_eq_false c2
    clear c2
    obtain rfl := Option.some.inj H
    go_enter Tryd.func8, Tryd.ntmps8
    go_wp2_with (first | ((with_reducible refine gate_dst (N := 1) rfl ?_); refine box_event ?hg (N := 1) ?hd (cs := #[.bool a0_0, .int .u64 a0_1, .int .i64 a0_2]) (t := 24) ?hr ?_; (case hd => rfl); (case hg => rfl); (case hr => first | (go_simp; done) | (go_simp; rfl)); intro gb120 hg w8 hbox hb; have n0_ := Aside0.mk (below_step (by repeat (first | (with_reducible first | exact HB.out | apply below_alloc | apply pw_below_drewN | apply below_drew1) | exact HB.out)) hb); have n1_ := Aside0.mk (hbox); have n2_ := Aside0.mk ((by rw [hg]; exact (below_size (by repeat (first | (with_reducible first | exact HB.out | apply below_alloc | apply pw_below_drewN | apply below_drew1) | exact HB.out))) : w.heap.size ≤ gb120)); have n3_ := Aside0.mk ((by rw [hg]; exact (below_size (by repeat (first | (with_reducible first | exact HB.out | apply below_alloc | apply pw_below_drewN | apply below_drew1) | exact HB.out))) : w.heap.size ≤ gb120)); clear HB; have HB := n0_; have BK120 := n1_; have GW120 := n2_; have GE120 := n3_; clear n0_ n1_ n2_ n3_; clear hb hbox hg; have hcz9_0 : w8.cell? ⟨gb120, 0, none⟩ = some (.bool a0_0) := (blk_cell BK120.out 0).trans rfl; have hcz9_1 : w8.cell? ⟨gb120, 1, none⟩ = some (.int .u64 a0_1) := (blk_cell BK120.out 1).trans rfl; have hcz9_2 : w8.cell? ⟨gb120, 2, none⟩ = some (.int .i64 a0_2) := (blk_cell BK120.out 2).trans rfl; have hfz9_0 := blk_frozen BK120.out 0; have hfz9_1 := blk_frozen BK120.out 1; have hfz9_2 := blk_frozen BK120.out 2))
    go_ret
    exact ⟨by first | rfl | (simp [errW_none, errW_some] <;> rfl) | (simp [*, errW_none, errW_some] <;> rfl), by repeat (first | (with_reducible first | exact HB.out | apply below_alloc | apply pw_below_drewN | apply below_drew1 | refine below_set ?_ GE120.out) | exact HB.out)⟩

/-! ### spec_Pow10: function 12 -/
def spec_Pow10.l0 : Nat → Int → List Int → Int → Int → Option (List Int)
  | 0, _, _, _, _ => none
  | k + 1, x0, x3, x4, x5 => if x5 < (Int.tmod x0 9) then (spec_Pow10.l0 k x0 x3 ((x4 * 10) % 4294967296) (wrap64 (x5 + 1))) else (if 0 ≤ (wrap64 (Int.tdiv x0 9)) then (if (wrap64 (Int.tdiv x0 9)) < (x3.length : Int) then (some (x3.set ((wrap64 (Int.tdiv x0 9)) : Int).toNat x4)) else (none)) else (none))
def spec_Pow10.f (k : Nat) (a0 : Int) : Option (List Int) := if a0 < 0 then (some ([] : List Int)) else (if 0 ≤ (wrap64 ((wrap64 (Int.tdiv a0 9)) + 1)) then (if (wrap64 ((wrap64 (Int.tdiv a0 9)) + 1) : Int).toNat ≤ 70368744177664 then (spec_Pow10.l0 k a0 (List.replicate (wrap64 ((wrap64 (Int.tdiv a0 9)) + 1) : Int).toNat 0) 1 0) else (none)) else (none))
theorem spec_Pow10.mono_l : ∀ k, (∀ y0 y1 y2 y3, LeO (spec_Pow10.l0 k y0 y1 y2 y3) (spec_Pow10.l0 (k + 1) y0 y1 y2 y3))
  | 0 => fun _ _ _ _ r h => by simp [spec_Pow10.l0] at h
  | k + 1 => by
    have ih0 := spec_Pow10.mono_l k
    · intro y0 y1 y2 y3
      unfold spec_Pow10.l0
      repeat' first
      | (with_reducible exact ih0 _ _ _ _)
      | (with_reducible exact LeO.refl _)
      | (with_reducible exact LeO.none _)
      | (with_reducible refine LeO.ite ?_ ?_)
      | (with_reducible refine LeO.bind ?_ (fun _ => ?_))
      | exact ih0 _ _ _ _
      | exact LeO.none _
      | refine LeO.ite ?_ ?_
      | refine LeO.bind ?_ (fun _ => ?_)
theorem spec_Pow10.mono : ∀ a0 k, LeO (spec_Pow10.f k a0) (spec_Pow10.f (k + 1) a0) := by
  intro a0 k
  have ih0 := spec_Pow10.mono_l k
  unfold spec_Pow10.f
  repeat' first
      | (with_reducible exact ih0 _ _ _ _)
      | (with_reducible exact LeO.refl _)
      | (with_reducible exact LeO.none _)
      | (with_reducible refine LeO.ite ?_ ?_)
      | (with_reducible refine LeO.bind ?_ (fun _ => ?_))
      | exact ih0 _ _ _ _
      | exact LeO.none _
      | refine LeO.ite ?_ ?_
      | refine LeO.bind ?_ (fun _ => ?_)
set_option maxHeartbeats 8000000 in
set_option maxRecDepth 100000 in
theorem spec_Pow10.calls (k : Nat) (a0 : Int) (r : List Int) (w : World) (h : spec_Pow10.f k a0 = some r) :
    Calls Tryd.prog 12 #[.int .i64 a0] w fun e w' => ∃ v0_ : Value, e = .returned (v0_) ∧ Kd.R (Kd.int .u32) 59 w' w.heap.size (fun _ => True) v0_ r ∧ Below w.heap.size w w' := by
  have HB := Aside0.mk (Below.refl w.heap.size w)
  have H : (if a0 < 0 then (some ([] : List Int)) else (if 0 ≤ (wrap64 ((wrap64 (Int.tdiv a0 9)) + 1)) then (if (wrap64 ((wrap64 (Int.tdiv a0 9)) + 1) : Int).toNat ≤ 70368744177664 then (spec_Pow10.l0 k a0 (List.replicate (wrap64 ((wrap64 (Int.tdiv a0 9)) + 1) : Int).toNat 0) 1 0) else (none)) else (none))) = some r := h
  clear h
  by_cases c2 : a0 < 0
  · rw [if_pos c2] at H
    have c2b0 : decide (a0 < 0) = true := decide_eq_true c2
    clear c2
    obtain rfl := Option.some.inj H
    go_enter Tryd.func12, Tryd.ntmps12
    go_wp2
    go_ret
    exact ⟨_, by first | rfl | (simp [errW_none, errW_some] <;> rfl) | (simp [*, errW_none, errW_some] <;> rfl), by first | exact Kd.R_nil _ _ _ _ _ | exact Kd.N_nil _ _ _ _ _ | exact Kd.V_nil _ _ _ _ _ | exact Kd.Q_nil _ _ _ _ _ | exact Kd.S_nil _ _ _ _ _, by repeat (first | (with_reducible first | exact HB.out | apply below_alloc | apply pw_below_drewN | apply below_drew1) | exact HB.out)⟩
  · rw [if_neg c2] at H
    have c2b0 : decide (a0 < 0) = false := decide_eq_false c2
    clear c2
    obtain ⟨ji3, hji3⟩ : ∃ j_ : Int, (wrap64 ((wrap64 (Int.tdiv a0 9)) + 1)) = j_ := ⟨_, rfl⟩
    replace H : (if 0 ≤ (ji3) then (if (ji3 : Int).toNat ≤ 70368744177664 then (spec_Pow10.l0 k a0 (List.replicate (ji3 : Int).toNat 0) 1 0) else (none)) else (none)) = some r := by first | (rw [hji3] at H; exact H) | (simp only [hji3] at H ⊢; exact H)
    have hji3w : (IntKind.i64.wrap ((wrap64 (Int.tdiv a0 9)) + 1)) = ji3 := (i64_w _).trans hji3
    by_cases c4 : 0 ≤ (ji3)
    · rw [if_pos c4] at H
      have c4b0 := eq_true c4
      have c4b1 : decide (0 ≤ (ji3)) = true := decide_eq_true c4
      clear c4
      by_cases c5 : (ji3 : Int).toNat ≤ 70368744177664
      · rw [if_pos c5] at H
        have c5b0 := eq_true c5
        have c5b1 : decide ((ji3 : Int).toNat ≤ 70368744177664) = true := decide_eq_true c5
        clear c5
        obtain ⟨y121, hy121⟩ : ∃ y_ : List Int, y_ = (List.replicate (ji3 : Int).toNat 0) := ⟨_, rfl⟩
        replace H : (spec_Pow10.l0 k a0 y121 1 0) = some r := by first | (rw [hy121]; with_reducible exact H) | (have H2_ := (Option.bind_some _ _).symm.trans H; rw [hy121]; with_reducible exact H2_) | (have H2_ := (Option.bind_some _ _).symm.trans H; with_reducible exact H2_) | with_reducible exact H | (rw [hy121]; exact H) | exact H
        have Ny121 := Aside0.mk hy121
        clear hy121
        have H' := Aside0.mk H
        clear H
        go_enter Tryd.func12, Tryd.ntmps12
        go_wp2_with (first | ((with_reducible refine gate_dst (N := 11) rfl ?_); refine Kd.R_make (Kd.int .u32) _ 59 rfl (N := 11) rfl 32 _ _ rfl ji3 rfl rfl Tryd.underlying32 (.int .u32 0) 4 info59 rfl (by decide) (by omega) 0 (ok := fun _ => True) (okp := fun _ => True) rfl (fun _ hk => hk) trivial (of_decide_eq_true (by first | (with_reducible assumption) | assumption)) (Nat.le_trans (Nat.mul_le_mul_right _ (of_decide_eq_true (by first | (with_reducible assumption) | assumption) : ji3.toNat ≤ 70368744177664)) (by omega)) (Below.refl _ _) (Nat.le_refl _) ?_; intro v122 w6 ho7 hb hg_ hnew_; clear hg_ hnew_; (first | rw [← Ny121.out] at ho7 | (simp only [Int.reduceToNat] at ho7; rw [← Ny121.out] at ho7)); have n0_ := Aside0.mk (Kd.R_lower ho7 (below_size (by repeat (first | (with_reducible first | exact HB.out | apply below_alloc | apply pw_below_drewN | apply below_drew1) | exact HB.out)))); have n1_ := Aside0.mk (below_step (by repeat (first | (with_reducible first | exact HB.out | apply below_alloc | apply pw_below_drewN | apply below_drew1) | exact HB.out)) hb); clear HB; have HO123 := n0_; have HB := n1_; clear n0_ n1_; clear hb ho7))
        go_loopg [4, 5] k (fun kq v4 v5 w' => ∃ (x4_1 : Int) (x5_1 : Int), v4 = .int .u32 x4_1 ∧ v5 = .int .i64 x5_1 ∧ Aside0 (spec_Pow10.l0 kq a0 y121 x4_1 x5_1 = some r) ∧ Aside0 (kq ≤ k) ∧ Aside0 (Kd.R (Kd.int .u32) 59 w' w.heap.size (fun _ => True) v122 y121) ∧ Aside0 (Below w.heap.size w w'))
        case atStart => exact ⟨(1), (0), (by first | rfl | (simp; done) | (simp [*]; done)), (by first | rfl | (simp; done) | (simp [*]; done)), H', ⟨Nat.le_refl _⟩, ⟨by (with_reducible repeat (first | apply Kd.R_alloc | apply Kd.R_drewN | apply Kd.R_drew)); exact HO123.out⟩, ⟨by repeat (first | (with_reducible first | exact HB.out | apply below_alloc | apply pw_below_drewN | apply below_drew1) | exact HB.out)⟩⟩
        case round =>
          clear H'
          try clear c1
          try clear c2
          try clear c2b0
          try clear p2
          try clear c4
          try clear c4b0
          try clear c4b1
          try clear c5
          try clear c5b0
          try clear c5b1
          try clear p6
          obtain ⟨x4_1, x5_1, rfl, rfl, HA, HK1, HO_3, HB⟩ := hrel
          cases gk with
          | zero => exact absurd HA.out (by simp [spec_Pow10.l0])
          | succ k1 =>
            have H := HA.out
            clear HA
            simp only [spec_Pow10.l0] at H
            by_cases c8 : x5_1 < (Int.tmod a0 9)
            · rw [if_pos c8] at H
              have c8b0 : decide (x5_1 < (Int.tmod a0 9)) = true := decide_eq_true c8
              clear c8
              have H' := Aside0.mk H
              clear H
              go_wp2
              go_roundg k1
              case measure => have := HK1.out; omega
              case rel => exact ⟨((x4_1 * 10) % 4294967296), (wrap64 (x5_1 + 1)), (by first | rfl | (simp; done) | (simp [*]; done)), (by first | rfl | (simp; done) | (simp [*]; done)), H', ⟨by have := HK1.out; omega⟩, ⟨by (with_reducible repeat (first | apply Kd.R_alloc | apply Kd.R_drewN | apply Kd.R_drew)); exact HO_3.out⟩, ⟨by repeat (first | (with_reducible first | exact HB.out | apply below_alloc | apply pw_below_drewN | apply below_drew1) | exact HB.out)⟩⟩
            · rw [if_neg c8] at H
              have c8b0 : decide (x5_1 < (Int.tmod a0 9)) = false := decide_eq_false c8
              clear c8
              obtain ⟨ji9, hji9⟩ : ∃ j_ : Int, (wrap64 (Int.tdiv a0 9)) = j_ := ⟨_, rfl⟩
              replace H : (if 0 ≤ (ji9) then (if (ji9) < (y121.length : Int) then (some (y121.set ((ji9) : Int).toNat x4_1)) else (none)) else (none)) = some r := by first | (rw [hji9] at H; exact H) | (simp only [hji9] at H ⊢; exact H)
              have hji9w : (IntKind.i64.wrap (Int.tdiv a0 9)) = ji9 := (i64_w _).trans hji9
              by_cases c10 : 0 ≤ (ji9)
              · rw [if_pos c10] at H
                have c10b0 : decide (0 ≤ (ji9)) = true := decide_eq_true c10
                clear c10
                by_cases c11 : (ji9) < (y121.length : Int)
                · rw [if_pos c11] at H
                  have c11b0 : decide ((ji9) < (y121.length : Int)) = true := decide_eq_true c11
                  clear c11
                  obtain ⟨y124, hy124⟩ : ∃ y_ : List Int, y_ = (y121.set ((ji9) : Int).toNat x4_1) := ⟨_, rfl⟩
                  replace H : (some y124) = some r := by first | (rw [hy124]; with_reducible exact H) | (have H2_ := (Option.bind_some _ _).symm.trans H; rw [hy124]; with_reducible exact H2_) | (have H2_ := (Option.bind_some _ _).symm.trans H; with_reducible exact H2_) | with_reducible exact H | (rw [hy124]; exact H) | exact H
                  have Ny124 := Aside0.mk hy124
                  clear hy124
                  obtain rfl := Option.some.inj H
                  have p12 : 0 ≤ ((ji9) : Int) := of_decide_eq_true (by first | (with_reducible assumption) | assumption)
                  have q12 : ((ji9) : Int) < ((y121.length : Int) : Int) := of_decide_eq_true (by first | (with_reducible assumption) | assumption)
                  obtain ⟨go12, co12, eo12, gb12, gl12, cl12, HG12⟩ := Kd.R_form HO_3.out (by omega)
                  (first | cases eo12 | (injection eo12 with ea_ en_ ec_; (first | subst ea_ | (injection ea_ with ea_; subst ea_)); subst ec_; clear en_))
                  have GB12 := Aside0.mk gb12
                  have GG12 := Aside0.mk HG12
                  clear gb12 gl12 HG12
                  obtain ⟨hx12_0, hf12_0⟩ := Kd.R_celln 0 HO_3.out ((ji9) : Int) p12 q12
                  replace p12 := eq_true p12
                  replace q12 := eq_true q12
                  have HP13 := Kd.R_putg HO_3.out ((ji9) : Int) x4_1
                  go_wp2_with (first | ((with_reducible refine gate_store (t := 59) (p := 24) rfl ?_); refine store_event (t := 59) (p := 24) (v := ?vo_w14) (w1 := (wr.setCell ⟨go12, ((ji9) : Int).toNat, none⟩ (.int .u32 x4_1))) ?hg ?ho ?hn ?hr ?_; (case ho => rfl); (case hg => rfl); (case hn => rfl); (case hr => first | (go_simp; done) | (go_simp; rfl)); intro w14 hw; have hg : wr.grownBy w14 (some go12) := (by rw [hw]; exact HP13.2); have hp_ : Kd.R (Kd.int .u32) 59 w14 w.heap.size (fun _ => True) (.slice (some ⟨go12, 0, none⟩) y121.length co12) y124 := (by rw [hw, Ny124.out]; exact HP13.1); clear HP13; have n0_ := Aside0.mk (hp_); have n1_ := Aside0.mk ((by rw [hw]; exact below_set (HB.out) GB12.out : Below w.heap.size w w14)); clear HO_3; clear HB; have HO_3 := n0_; have HB := n1_; clear n0_ n1_; clear hg hw hp_))
                  go_ret
                  exact ⟨_, by first | rfl | (simp [errW_none, errW_some] <;> rfl) | (simp only [← hji3, ← hji9]; first | rfl | (simp [errW_none, errW_some] <;> rfl)) | (simp [*, errW_none, errW_some] <;> rfl), by (with_reducible repeat (first | apply Kd.R_alloc | apply Kd.R_drewN | apply Kd.R_drew)); exact HO_3.out, by repeat (first | (with_reducible first | exact HB.out | apply below_alloc | apply pw_below_drewN | apply below_drew1) | exact HB.out)⟩
                · rw [if_neg c11] at H
                  exact absurd H (by simp)
              · rw [if_neg c10] at H
                exact absurd H (by simp)
      · rw [if_neg c5] at H
        exact absurd H (by simp)
    · rw [if_neg c4] at H
      exact absurd H (by simp)

/-! ### spec_NatCmp: function 14 -/
def spec_NatCmp.l0 : Nat → List Int → List Int → Int → Option (Int)
  | 0, _, _, _ => none
  | k + 1, x0, x1, x5 => if x5 ≥ 0 then (if 0 ≤ x5 then (if x5 < (x0.length : Int) then (if x5 < (x1.length : Int) then (if (rd x0 x5) = (rd x1 x5) then (spec_NatCmp.l0 k x0 x1 (wrap64 (x5 - 1))) else (if (rd x0 x5) < (rd x1 x5) then (some (-1)) else (some 1))) else (none)) else (none)) else (none)) else (some 0)
def spec_NatCmp.f (k : Nat) (l0 : List Int) (l1 : List Int) : Option (Int) := if (l0.length : Int) = (l1.length : Int) then (spec_NatCmp.l0 k l0 l1 (wrap64 ((l0.length : Int) - 1))) else (if (l0.length : Int) < (l1.length : Int) then (some (-1)) else (some 1))
theorem spec_NatCmp.mono_l : ∀ k, (∀ y0 y1 y2, LeO (spec_NatCmp.l0 k y0 y1 y2) (spec_NatCmp.l0 (k + 1) y0 y1 y2))
  | 0 => fun _ _ _ r h => by simp [spec_NatCmp.l0] at h
  | k + 1 => by
    have ih0 := spec_NatCmp.mono_l k
    · intro y0 y1 y2
      unfold spec_NatCmp.l0
      repeat' first
      | (with_reducible exact ih0 _ _ _)
      | (with_reducible exact LeO.refl _)
      | (with_reducible exact LeO.none _)
      | (with_reducible refine LeO.ite ?_ ?_)
      | (with_reducible refine LeO.bind ?_ (fun _ => ?_))
      | exact ih0 _ _ _
      | exact LeO.none _
      | refine LeO.ite ?_ ?_
      | refine LeO.bind ?_ (fun _ => ?_)
theorem spec_NatCmp.mono : ∀ a0 a1 k, LeO (spec_NatCmp.f k a0 a1) (spec_NatCmp.f (k + 1) a0 a1) := by
  intro a0 a1 k
  have ih0 := spec_NatCmp.mono_l k
  unfold spec_NatCmp.f
  repeat' first
      | (with_reducible exact ih0 _ _ _)
      | (with_reducible exact LeO.refl _)
      | (with_reducible exact LeO.none _)
      | (with_reducible refine LeO.ite ?_ ?_)
      | (with_reducible refine LeO.bind ?_ (fun _ => ?_))
      | exact ih0 _ _ _
      | exact LeO.none _
      | refine LeO.ite ?_ ?_
      | refine LeO.bind ?_ (fun _ => ?_)
set_option maxHeartbeats 8000000 in
set_option maxRecDepth 100000 in
theorem spec_NatCmp.calls (k : Nat) (A0 : Option Addr) (c0 : Nat) (l0 : List Int) (A1 : Option Addr) (c1 : Nat) (l1 : List Int) (r : Int) (w : World) (hr0 : Kd.C (Kd.int .u32) w A0 l0.length l0) (hc0 : l0.length ≤ c0) (hr1 : Kd.C (Kd.int .u32) w A1 l1.length l1) (hc1 : l1.length ≤ c1) (h : spec_NatCmp.f k l0 l1 = some r) :
    Calls Tryd.prog 14 #[.slice A0 l0.length c0, .slice A1 l1.length c1] w fun e w' => e = .returned (.int .i64 r) ∧ Drawn0 w w' := by
  have HR0 := Aside0.mk hr0
  have HC0 := Aside0.mk hc0
  clear hr0 hc0
  have HR1 := Aside0.mk hr1
  have HC1 := Aside0.mk hc1
  clear hr1 hc1
  have H : (if (l0.length : Int) = (l1.length : Int) then (spec_NatCmp.l0 k l0 l1 (wrap64 ((l0.length : Int) - 1))) else (if (l0.length : Int) < (l1.length : Int) then (some (-1)) else (some 1))) = some r := h
  clear h
  by_cases c3 : (l0.length : Int) = (l1.length : Int)
  · rw [if_pos c3] at H
    have c3b0 : ((l0.length : Int) == (l1.length : Int)) = true := beq_iff_eq.mpr c3
    have c3b1 : ((l0.length : Int) != (l1.length : Int)) = false := bne_eq_false_iff_eq.mpr c3
    have c3b2 : (l0.length == l1.length) = true := by first | simpa using c3 | (simp at c3 ⊢; omega)
    clear c3
    have H' := Aside0.mk H
    clear H
    go_enter Tryd.func14, Tryd.ntmps14
    go_wp2
    repeat (go_quiet (fail); try go_wp2)
    go_loopg [5] k (fun kq v5 w' => ∃ (x5_1 : Int), v5 = .int .i64 x5_1 ∧ Aside0 (spec_NatCmp.l0 kq l0 l1 x5_1 = some r) ∧ Aside0 (kq ≤ k) ∧ Drawn0 w w')
    case atStart => exact ⟨(wrap64 ((l0.length : Int) - 1)), (by first | rfl | (simp; done) | (simp [*]; done)), H', ⟨Nat.le_refl _⟩, by repeat (first | exact Drawn0.refl _ | apply Drawn0.step)⟩
    case round =>
      clear H'
      try clear c1
      try clear p2
      try clear c3
      try clear c3b0
      try clear c3b1
      try clear c3b2
      obtain ⟨x5_1, rfl, HA, HK1, ⟨m1, rfl⟩⟩ := hrel
      cases gk with
      | zero => exact absurd HA.out (by simp [spec_NatCmp.l0])
      | succ k1 =>
        have H := HA.out
        clear HA
        simp only [spec_NatCmp.l0] at H
        by_cases c4 : x5_1 ≥ 0
        · rw [if_pos c4] at H
          have c4b0 : decide (0 ≤ x5_1) = true := decide_eq_true c4
          clear c4
          by_cases c5 : 0 ≤ x5_1
          · rw [if_pos c5] at H
            have c5b0 : decide (0 ≤ x5_1) = true := decide_eq_true c5
            clear c5
            by_cases c6 : x5_1 < (l0.length : Int)
            · rw [if_pos c6] at H
              have c6b0 : decide (x5_1 < (l0.length : Int)) = true := decide_eq_true c6
              clear c6
              by_cases c7 : x5_1 < (l1.length : Int)
              · rw [if_pos c7] at H
                have c7b0 : decide (x5_1 < (l1.length : Int)) = true := decide_eq_true c7
                clear c7
                by_cases c8 : (rd l0 x5_1) = (rd l1 x5_1)
                · rw [if_pos c8] at H
                  have c8b0 : ((rd l0 x5_1) == (rd l1 x5_1)) = true := beq_iff_eq.mpr c8
                  have c8b1 : ((rd l0 x5_1) != (rd l1 x5_1)) = false := bne_eq_false_iff_eq.mpr c8
                  clear c8
                  have H' := Aside0.mk H
                  clear H
                  have p125 : 0 ≤ (x5_1 : Int) := of_decide_eq_true (by first | (with_reducible assumption) | assumption)
                  have q125 : x5_1 < (l0.length : Int) := of_decide_eq_true (by first | (with_reducible assumption) | assumption)
                  obtain ⟨ad125, e125, hx125_0⟩ := Kd.at_int HR0.out x5_1 p125 q125
                  cases e125
                  replace p125 := eq_true p125
                  replace q125 := eq_true q125
                  have p126 : 0 ≤ (x5_1 : Int) := of_decide_eq_true (by first | (with_reducible assumption) | assumption)
                  have q126 : x5_1 < (l1.length : Int) := of_decide_eq_true (by first | (with_reducible assumption) | assumption)
                  obtain ⟨ad126, e126, hx126_0⟩ := Kd.at_int HR1.out x5_1 p126 q126
                  cases e126
                  replace p126 := eq_true p126
                  replace q126 := eq_true q126
                  go_wp2
                  repeat (go_quiet (fail); try go_wp2)
                  go_roundg k1
                  case measure => have := HK1.out; omega
                  case rel => exact ⟨(wrap64 (x5_1 - 1)), (by first | rfl | (simp; done) | (simp [*]; done)), H', ⟨by have := HK1.out; omega⟩, by repeat (first | exact Drawn0.refl _ | apply Drawn0.step)⟩
                · rw [if_neg c8] at H
                  have c8b0 : ((rd l0 x5_1) == (rd l1 x5_1)) = false := beq_eq_false_iff_ne.mpr c8
                  have c8b1 : ((rd l0 x5_1) != (rd l1 x5_1)) = true := bne_iff_ne.mpr c8
                  by_cases c9 : (rd l0 x5_1) < (rd l1 x5_1)
                  · rw [if_pos c9] at H
                    have c9b0 : decide ((rd l0 x5_1) < (rd l1 x5_1)) = true := decide_eq_true c9
                    clear c9
                    obtain rfl := Option.some.inj H
                    have p125 : 0 ≤ (x5_1 : Int) := of_decide_eq_true (by first | (with_reducible assumption) | assumption)
                    have q125 : x5_1 < (l0.length : Int) := of_decide_eq_true (by first | (with_reducible assumption) | assumption)
                    obtain ⟨ad125, e125, hx125_0⟩ := Kd.at_int HR0.out x5_1 p125 q125
                    cases e125
                    replace p125 := eq_true p125
                    replace q125 := eq_true q125
                    have p126 : 0 ≤ (x5_1 : Int) := of_decide_eq_true (by first | (with_reducible assumption) | assumption)
                    have q126 : x5_1 < (l1.length : Int) := of_decide_eq_true (by first | (with_reducible assumption) | assumption)
                    obtain ⟨ad126, e126, hx126_0⟩ := Kd.at_int HR1.out x5_1 p126 q126
                    cases e126
                    replace p126 := eq_true p126
                    replace q126 := eq_true q126
                    have p127 : 0 ≤ (x5_1 : Int) := of_decide_eq_true (by first | (with_reducible assumption) | assumption)
                    have q127 : x5_1 < (l0.length : Int) := of_decide_eq_true (by first | (with_reducible assumption) | assumption)
                    obtain ⟨ad127, e127, hx127_0⟩ := Kd.at_int HR0.out x5_1 p127 q127
                    obtain rfl : ad125 = ad127 := (by injection e127)
                    replace p127 := eq_true p127
                    replace q127 := eq_true q127
                    have p128 : 0 ≤ (x5_1 : Int) := of_decide_eq_true (by first | (with_reducible assumption) | assumption)
                    have q128 : x5_1 < (l1.length : Int) := of_decide_eq_true (by first | (with_reducible assumption) | assumption)
                    obtain ⟨ad128, e128, hx128_0⟩ := Kd.at_int HR1.out x5_1 p128 q128
                    obtain rfl : ad126 = ad128 := (by injection e128)
                    replace p128 := eq_true p128
                    replace q128 := eq_true q128
                    go_wp2
                    repeat (go_quiet (fail); try go_wp2)
                    go_ret
                    exact ⟨by first | rfl | (simp; done) | (simp [*]; done), by repeat (first | exact Drawn0.refl _ | apply Drawn0.step)⟩
                  · rw [if_neg c9] at H
                    have c9b0 : decide ((rd l0 x5_1) < (rd l1 x5_1)) = false := decide_eq_false c9
                    clear c9
                    obtain rfl := Option.some.inj H
                    have p125 : 0 ≤ (x5_1 : Int) := of_decide_eq_true (by first | (with_reducible assumption) | assumption)
                    have q125 : x5_1 < (l0.length : Int) := of_decide_eq_true (by first | (with_reducible assumption) | assumption)
                    obtain ⟨ad125, e125, hx125_0⟩ := Kd.at_int HR0.out x5_1 p125 q125
                    cases e125
                    replace p125 := eq_true p125
                    replace q125 := eq_true q125
                    have p126 : 0 ≤ (x5_1 : Int) := of_decide_eq_true (by first | (with_reducible assumption) | assumption)
                    have q126 : x5_1 < (l1.length : Int) := of_decide_eq_true (by first | (with_reducible assumption) | assumption)
                    obtain ⟨ad126, e126, hx126_0⟩ := Kd.at_int HR1.out x5_1 p126 q126
                    cases e126
                    replace p126 := eq_true p126
                    replace q126 := eq_true q126
                    have p127 : 0 ≤ (x5_1 : Int) := of_decide_eq_true (by first | (with_reducible assumption) | assumption)
                    have q127 : x5_1 < (l0.length : Int) := of_decide_eq_true (by first | (with_reducible assumption) | assumption)
                    obtain ⟨ad127, e127, hx127_0⟩ := Kd.at_int HR0.out x5_1 p127 q127
                    obtain rfl : ad125 = ad127 := (by injection e127)
                    replace p127 := eq_true p127
                    replace q127 := eq_true q127
                    have p128 : 0 ≤ (x5_1 : Int) := of_decide_eq_true (by first | (with_reducible assumption) | assumption)
                    have q128 : x5_1 < (l1.length : Int) := of_decide_eq_true (by first | (with_reducible assumption) | assumption)
                    obtain ⟨ad128, e128, hx128_0⟩ := Kd.at_int HR1.out x5_1 p128 q128
                    obtain rfl : ad126 = ad128 := (by injection e128)
                    replace p128 := eq_true p128
                    replace q128 := eq_true q128
                    go_wp2
                    repeat (go_quiet (fail); try go_wp2)
                    go_ret
                    exact ⟨by first | rfl | (simp; done) | (simp [*]; done), by repeat (first | exact Drawn0.refl _ | apply Drawn0.step)⟩
              · rw [if_neg c7] at H
                exact absurd H (by simp)
            · rw [if_neg c6] at H
              exact absurd H (by simp)
          · rw [if_neg c5] at H
            exact absurd H (by simp)
        · rw [if_neg c4] at H
          have c4b0 : decide (0 ≤ x5_1) = false := decide_eq_false c4
          clear c4
          obtain rfl := Option.some.inj H
          go_wp2
          repeat (go_quiet (fail); try go_wp2)
          go_ret
          exact ⟨by first | rfl | (simp; done) | (simp [*]; done), by repeat (first | exact Drawn0.refl _ | apply Drawn0.step)⟩
  · rw [if_neg c3] at H
    have c3b0 : ((l0.length : Int) == (l1.length : Int)) = false := beq_eq_false_iff_ne.mpr c3
    have c3b1 : ((l0.length : Int) != (l1.length : Int)) = true := bne_iff_ne.mpr c3
    have c3b2 : (l0.length == l1.length) = false := by first | simpa using c3 | (simp at c3 ⊢; omega)
    by_cases c10 : (l0.length : Int) < (l1.length : Int)
    · rw [if_pos c10] at H
      have c10b0 : decide ((l0.length : Int) < (l1.length : Int)) = true := decide_eq_true c10
      have c10b1 : decide (l0.length < l1.length) = true := decide_eq_true (Int.ofNat_lt.mp c10)
      clear c10
      obtain rfl := Option.some.inj H
      go_enter Tryd.func14, Tryd.ntmps14
      go_wp2
      repeat (go_quiet (fail); try go_wp2)
      go_ret
      exact ⟨by first | rfl | (simp; done) | (simp [*]; done), by repeat (first | exact Drawn0.refl _ | apply Drawn0.step)⟩
    · rw [if_neg c10] at H
      have c10b0 : decide ((l0.length : Int) < (l1.length : Int)) = false := decide_eq_false c10
      have c10b1 : decide (l0.length < l1.length) = false := decide_eq_false (fun h => c10 (Int.ofNat_lt.mpr h))
      clear c10
      obtain rfl := Option.some.inj H
      go_enter Tryd.func14, Tryd.ntmps14
      go_wp2
      repeat (go_quiet (fail); try go_wp2)
      go_ret
      exact ⟨by first | rfl | (simp; done) | (simp [*]; done), by repeat (first | exact Drawn0.refl _ | apply Drawn0.step)⟩

/-! ### spec_natTrim: function 53 -/
def spec_natTrim.l0 : Nat → List Int → Option (List Int)
  | 0, _ => none
  | k + 1, x0 => if (x0.length : Int) > 0 then (if 0 ≤ (wrap64 ((x0.length : Int) - 1)) then (if (wrap64 ((x0.length : Int) - 1)) < (x0.length : Int) then (if (rd x0 (wrap64 ((x0.length : Int) - 1))) = 0 then (if (wrap64 ((x0.length : Int) - 1)) ≤ (x0.length : Int) then (spec_natTrim.l0 k (x0.take ((wrap64 ((x0.length : Int) - 1)) : Int).toNat)) else (none)) else (some x0)) else (none)) else (none)) else (some x0)
def spec_natTrim.f (k : Nat) (l0 : List Int) : Option (List Int) := spec_natTrim.l0 k l0
theorem spec_natTrim.mono_l : ∀ k, (∀ y0, LeO (spec_natTrim.l0 k y0) (spec_natTrim.l0 (k + 1) y0))
  | 0 => fun _ r h => by simp [spec_natTrim.l0] at h
  | k + 1 => by
    have ih0 := spec_natTrim.mono_l k
    · intro y0
      unfold spec_natTrim.l0
      repeat' first
      | (with_reducible exact ih0 _)
      | (with_reducible exact LeO.refl _)
      | (with_reducible exact LeO.none _)
      | (with_reducible refine LeO.ite ?_ ?_)
      | (with_reducible refine LeO.bind ?_ (fun _ => ?_))
      | exact ih0 _
      | exact LeO.none _
      | refine LeO.ite ?_ ?_
      | refine LeO.bind ?_ (fun _ => ?_)
theorem spec_natTrim.mono : ∀ a0 k, LeO (spec_natTrim.f k a0) (spec_natTrim.f (k + 1) a0) := by
  intro a0 k
  have ih0 := spec_natTrim.mono_l k
  unfold spec_natTrim.f
  repeat' first
      | (with_reducible exact ih0 _)
      | (with_reducible exact LeO.refl _)
      | (with_reducible exact LeO.none _)
      | (with_reducible refine LeO.ite ?_ ?_)
      | (with_reducible refine LeO.bind ?_ (fun _ => ?_))
      | exact ih0 _
      | exact LeO.none _
      | refine LeO.ite ?_ ?_
      | refine LeO.bind ?_ (fun _ => ?_)
set_option maxHeartbeats 8000000 in
set_option maxRecDepth 100000 in
theorem spec_natTrim.calls (k : Nat) (P0_ : Nat → Prop) (A0 : Option Addr) (c0 : Nat) (l0 : List Int) (r : List Int) (w : World) (hs0 : Kd.V (Kd.int .u32) 59 w w.heap.size (fun k_ => P0_ k_) (.slice A0 l0.length c0) l0) (h : spec_natTrim.f k l0 = some r) :
    Calls Tryd.prog 53 #[.slice A0 l0.length c0] w fun e w' => ∃ v0_ : Value, e = .returned (v0_) ∧ Kd.V (Kd.int .u32) 59 w' w.heap.size (fun k_ => (P0_ k_ ∨ w.heap.size ≤ k_)) v0_ r ∧ Below w.heap.size w w' := by
  have HO0 := Aside0.mk (show Kd.V (Kd.int .u32) 59 w w.heap.size (fun k_ => (P0_ k_ ∨ w.heap.size ≤ k_)) (.slice A0 l0.length c0) l0 from Kd.V_mono hs0 (fun k_ hk => .inl hk))
  have HB := Aside0.mk (Below.refl w.heap.size w)
  have H : (spec_natTrim.l0 k l0) = some r := h
  clear h
  have H' := Aside0.mk H
  clear H
  go_enter Tryd.func53, Tryd.ntmps53
  go_wp2
  go_loopg [0] k (fun kq v0 w' => ∃ (x0_1 : List Int), Aside0 (spec_natTrim.l0 kq x0_1 = some r) ∧ Aside0 (kq ≤ k) ∧ Aside0 (Kd.V (Kd.int .u32) 59 w' w.heap.size (fun k_ => (P0_ k_ ∨ w.heap.size ≤ k_)) v0 x0_1) ∧ Aside0 (Below w.heap.size w w'))
  case atStart => exact ⟨(l0), H', ⟨Nat.le_refl _⟩, ⟨by (with_reducible repeat (first | apply Kd.V_alloc | apply Kd.V_drewN | apply Kd.V_drew)); exact HO0.out⟩, ⟨by repeat (first | (with_reducible first | exact HB.out | apply below_alloc | apply pw_below_drewN | apply below_drew1) | exact HB.out)⟩⟩
  case round =>
    clear H'
    obtain ⟨x0_1, HA, HK1, HO_0, HB⟩ := hrel
    cases gk with
    | zero => exact absurd HA.out (by simp [spec_natTrim.l0])
    | succ k1 =>
      have H := HA.out
      clear HA
      simp only [spec_natTrim.l0] at H
      by_cases c2 : (x0_1.length : Int) > 0
      · rw [if_pos c2] at H
        have c2b0 : decide (0 < (x0_1.length : Int)) = true := decide_eq_true c2
        have c2b1 : decide (0 < x0_1.length) = true := decide_eq_true (by omega)
        clear c2
        obtain ⟨ji3, hji3⟩ : ∃ j_ : Int, (wrap64 ((x0_1.length : Int) - 1)) = j_ := ⟨_, rfl⟩
        replace H : (if 0 ≤ (ji3) then (if (ji3) < (x0_1.length : Int) then (if (rd x0_1 (ji3)) = 0 then (if (ji3) ≤ (x0_1.length : Int) then (spec_natTrim.l0 k1 (x0_1.take ((ji3) : Int).toNat)) else (none)) else (some x0_1)) else (none)) else (none)) = some r := by first | (rw [hji3] at H; exact H) | (simp only [hji3] at H ⊢; exact H)
        have hji3w : (IntKind.i64.wrap ((x0_1.length : Int) - 1)) = ji3 := (i64_w _).trans hji3
        by_cases c4 : 0 ≤ (ji3)
        · rw [if_pos c4] at H
          have c4b0 : decide (0 ≤ (ji3)) = true := decide_eq_true c4
          clear c4
          by_cases c5 : (ji3) < (x0_1.length : Int)
          · rw [if_pos c5] at H
            have c5b0 : decide ((ji3) < (x0_1.length : Int)) = true := decide_eq_true c5
            clear c5
            by_cases c6 : (rd x0_1 (ji3)) = 0
            · rw [if_pos c6] at H
              have c6b0 : ((rd x0_1 (ji3)) == 0) = true := beq_iff_eq.mpr c6
              have c6b1 : ((rd x0_1 (ji3)) != 0) = false := bne_eq_false_iff_eq.mpr c6
              clear c6
              have c7b0 := eq_true (of_decide_eq_true (by first | (with_reducible assumption) | assumption) : 0 ≤ (ji3))
              by_cases c8 : (ji3) ≤ (x0_1.length : Int)
              · rw [if_pos c8] at H
                have c8b0 := eq_true c8
                have c8b1 : decide ((ji3) ≤ (x0_1.length : Int)) = true := decide_eq_true c8
                clear c8
                obtain ⟨y130, hy130⟩ : ∃ y_ : List Int, y_ = (x0_1.take ((ji3) : Int).toNat) := ⟨_, rfl⟩
                replace H : (spec_natTrim.l0 k1 y130) = some r := by first | (rw [hy130]; with_reducible exact H) | (have H2_ := (Option.bind_some _ _).symm.trans H; rw [hy130]; with_reducible exact H2_) | (have H2_ := (Option.bind_some _ _).symm.trans H; with_reducible exact H2_) | with_reducible exact H | (rw [hy130]; exact H) | exact H
                have Ny130 := Aside0.mk hy130
                clear hy130
                have H' := Aside0.mk H
                clear H
                obtain ⟨Ao9, co9, eo9⟩ := Kd.V_slice HO_0.out
                subst eo9
                have p129 : 0 ≤ ((ji3) : Int) := of_decide_eq_true (by first | (with_reducible assumption) | assumption)
                have q129 : (ji3) < (x0_1.length : Int) := of_decide_eq_true (by first | (with_reducible assumption) | assumption)
                obtain ⟨ad129, e129, hx129_0⟩ := Kd.at_int (Kd.V_reads' HO_0.out).2.2 (ji3) p129 q129
                cases e129
                replace p129 := eq_true p129
                replace q129 := eq_true q129
                have q10 : ((ji3) : Int) ≤ ((x0_1.length : Int) : Int) := of_decide_eq_true (by first | (with_reducible assumption) | assumption)
                obtain ⟨i010, hi010, _, hsz10, _⟩ := info_parts info59
                have hroom10 : x0_1.length ≤ co9 := (Kd.V_reads' HO_0.out).2.1
                have hC10 : Kd.F (Kd.int .u32) _ _ (some ad129) x0_1.length x0_1 := (Kd.V_at (base := w.heap.size) HO_0.out).2.2
                have hcut10 := cut_to (P := Tryd.prog) 32 59 .i64 Tryd.underlying32 hi010 (some ad129) x0_1.length co9 (ji3) (of_decide_eq_true (by first | (with_reducible assumption) | assumption)) q10 hroom10
                have hr10 := Kd.F_take (m := ((ji3) : Int).toNat) hC10 (by omega)
                have hy10 : y130.length = ((ji3) : Int).toNat := (by rw [Ny130.out, List.length_take]; omega)
                rw [← Ny130.out] at hr10
                rw [← hy10] at hcut10
                have HO134 := Aside0.mk (show Kd.V (Kd.int .u32) 59 _ w.heap.size _ (.slice (some ad129) y130.length co9) y130 from Kd.V_mk (by omega) hr10)
                have HC134 := Aside0.mk (show y130.length ≤ co9 from by omega)
                clear hr10 hC10 hroom10 hi010 hsz10
                have KY10 := Aside0.mk hy10
                clear hy10
                replace q10 := eq_true q10
                go_wp2
                go_roundg k1
                case measure => have := HK1.out; omega
                case rel => exact ⟨(y130), H', ⟨by have := HK1.out; omega⟩, ⟨by (with_reducible repeat (first | apply Kd.V_alloc | apply Kd.V_drewN | apply Kd.V_drew)); exact HO134.out⟩, ⟨by repeat (first | (with_reducible first | exact HB.out | apply below_alloc | apply pw_below_drewN | apply below_drew1) | exact HB.out)⟩⟩
              · rw [if_neg c8] at H
                exact absurd H (by simp)
            · rw [if_neg c6] at H
              have c6b0 : ((rd x0_1 (ji3)) == 0) = false := beq_eq_false_iff_ne.mpr c6
              have c6b1 : ((rd x0_1 (ji3)) != 0) = true := bne_iff_ne.mpr c6
              obtain rfl := Option.some.inj H
              obtain ⟨Ao11, co11, eo11⟩ := Kd.V_slice HO_0.out
              subst eo11
              have p129 : 0 ≤ ((ji3) : Int) := of_decide_eq_true (by first | (with_reducible assumption) | assumption)
              have q129 : (ji3) < (x0_1.length : Int) := of_decide_eq_true (by first | (with_reducible assumption) | assumption)
              obtain ⟨ad129, e129, hx129_0⟩ := Kd.at_int (Kd.V_reads' HO_0.out).2.2 (ji3) p129 q129
              cases e129
              replace p129 := eq_true p129
              replace q129 := eq_true q129
              go_wp2
              go_ret
              exact ⟨_, by first | rfl | (simp [errW_none, errW_some] <;> rfl) | (simp only [← hji3]; first | rfl | (simp [errW_none, errW_some] <;> rfl)) | (simp [*, errW_none, errW_some] <;> rfl), by (with_reducible repeat (first | apply Kd.V_alloc | apply Kd.V_drewN | apply Kd.V_drew)); exact HO_0.out, by repeat (first | (with_reducible first | exact HB.out | apply below_alloc | apply pw_below_drewN | apply below_drew1) | exact HB.out)⟩
          · rw [if_neg c5] at H
            exact absurd H (by simp)
        · rw [if_neg c4] at H
          exact absurd H (by simp)
      · rw [if_neg c2] at H
        have c2b0 : decide (0 < (x0_1.length : Int)) = false := decide_eq_false c2
        have c2b1 : decide (0 < x0_1.length) = false := decide_eq_false (by omega)
        clear c2
        obtain rfl := Option.some.inj H
        obtain ⟨Ao12, co12, eo12⟩ := Kd.V_slice HO_0.out
        subst eo12
        go_wp2
        go_ret
        exact ⟨_, by first | rfl | (simp [errW_none, errW_some] <;> rfl) | (simp [*, errW_none, errW_some] <;> rfl), by (with_reducible repeat (first | apply Kd.V_alloc | apply Kd.V_drewN | apply Kd.V_drew)); exact HO_0.out, by repeat (first | (with_reducible first | exact HB.out | apply below_alloc | apply pw_below_drewN | apply below_drew1) | exact HB.out)⟩

end Go.Proofs.YtnjbfebeigginaaDoor.PFnFixTrunc
