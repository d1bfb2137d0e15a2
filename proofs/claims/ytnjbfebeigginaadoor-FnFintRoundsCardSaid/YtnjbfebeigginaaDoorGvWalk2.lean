/-
  The package's decimals: made from a coefficient and a scale, or refused; the thin package's way in.
-/
import Derived.Test.YtnjbfebeigginaaDoorGvWalk1
import Derived.Test.YtnjbfebeigginaaDoorPFnFixTruncx1
import Derived.WalkLawsBesides
set_option linter.unusedVariables false
set_option linter.unusedSimpArgs false
namespace Go.Proofs.YtnjbfebeigginaaDoor.GvWalk
open Go.RowKit Go.Proofs.YtnjbfebeigginaaDoorW.PrintWords Go.Proofs.YtnjbfebeigginaaDoorW.PrintLast Go.Proofs.YtnjbfebeigginaaDoorW.PrintMore Go.Proofs.YtnjbfebeigginaaDoor.Digs Go.Proofs.YtnjbfebeigginaaDoor.StrLaw Go.Proofs.YtnjbfebeigginaaDoor.NatLaw Go.Proofs.YtnjbfebeigginaaDoor.NatWalk Go.Proofs.YtnjbfebeigginaaDoor.SpecWalk
open Go.Proofs.YtnjbfebeigginaaDoor.PFnFixTrunc

/-- The two errors, as they are laid: values that are not nil. -/
structure Errs (w : World) : Prop where
  mk :: (one : ∃ t v, w.cell? ⟨1, 0, none⟩ = some (.iface t v)) (two : ∃ t v, w.cell? ⟨2, 0, none⟩ = some (.iface t v))
theorem Errs.below {w w1 : World} (h : Errs w) (hb : Below w.heap.size w w1) : Errs w1 := by
  obtain ⟨⟨t, v, h1⟩, t2, v2, h2⟩ := h
  exact ⟨⟨t, v, pw_cell_below hb h1⟩, t2, v2, pw_cell_below hb h2⟩
theorem sgn_zero (b : Bool) : sgn b 0 = false := by cases b <;> rfl
theorem sgn_pos (b : Bool) {n : Nat} (h : n ≠ 0) : sgn b n = b := by simp [sgn, Nat.pos_of_ne_zero h]
theorem i8_in (s : Nat) (h : s ≤ 19) : IntKind.i8.wrap (s : Int) = s := (by decide : ∀ s : Fin 20, IntKind.i8.wrap ((s.val : Nat) : Int) = ((s.val : Nat) : Int)) ⟨s, by omega⟩
theorem w64_in (s : Nat) (h : s ≤ 19) : wrap64 (s : Int) = s := by simp only [wrap64]; omega
theorem newUnsafe_n (b : Bool) (n s : Nat) (w : World) (hs : s ≤ 19) :
    Calls Tryd.prog 52 #[.bool b, .int .u64 n, .int .i64 s] w fun e w' => e = .returned (.agg #[.bool (sgn b n), .int .i8 s, .int .u64 n]) ∧ Below w.heap.size w w' := by
  refine govalues_newUnsafe.calls b n s (sgn b n) s n w ?_
  simp only [govalues_newUnsafe.f]
  by_cases h : n = 0
  · subst h; rw [if_pos (by rfl), sgn_zero, i8_in s hs]
  · rw [if_neg (by omega), sgn_pos b h, i8_in s hs]
theorem isNeg_n (b : Bool) (n s : Nat) (w : World) : Calls Tryd.prog 48 #[.agg #[.bool b, .int .i8 s, .int .u64 n]] w fun e w' => e = .returned (.bool b) ∧ Below w.heap.size w w' :=
  govalues_Decimal_IsNeg.calls b s n b w rfl
theorem scale_n (b : Bool) (n s : Nat) (w : World) (hs : s ≤ 19) : Calls Tryd.prog 50 #[.agg #[.bool b, .int .i8 s, .int .u64 n]] w fun e w' => e = .returned (.int .i64 s) ∧ Below w.heap.size w w' :=
  govalues_Decimal_Scale.calls b s n s w (by simp only [govalues_Decimal_Scale.f, w64_in s hs])
theorem fix_n (b : Bool) (n s : Nat) (w : World) (hs : s ≤ 19) : Calls Tryd.prog 27 #[.agg #[.bool b, .int .i8 s, .int .u64 n]] w fun e w' => e = .returned (.agg #[.bool b, .int .u64 n, .int .i64 s]) ∧ Below w.heap.size w w' :=
  impl_fix.calls b s n b n s w (by simp only [impl_fix.f, govalues_Decimal_Scale.f, w64_in s hs]; rfl)

set_option maxHeartbeats 2000000 in
theorem newSafe_ok (b : Bool) (n s : Nat) (w : World) (hs : s ≤ 19) (hn : n ≤ 9999999999999999999) :
    Calls Tryd.prog 63 #[.bool b, .int .u64 n, .int .i64 s] w fun e w' => e = .returned (.tuple #[.agg #[.bool (sgn b n), .int .i8 s, .int .u64 n], .nilIface]) ∧ Below w.heap.size w w' := by
  have HU := Aside0.mk (fun w => newUnsafe_n b n s w hs)
  have h1 : ¬ (9999999999999999999 : Int) < (n : Int) := by omega
  have h2 : ¬ (19 : Int) < (s : Int) := by omega
  have h3 : ¬ (s : Int) < 0 := by omega
  clear hs hn
  generalize sgn b n = s1 at *
  go_enter Tryd.func63, Tryd.ntmps63
  go_wp2_with fail
  have rx0 : Box (w.alloc (Obj.cells #[Value.bool false, Value.int .i8 0, Value.int .u64 0] 52)) w.heap.size [.bool false, .int .i8 0, .int .u64 0] := (Box.new3 w _ _ _ _ _ (by simp))
  have hB0 : Below w.heap.size w (w.alloc (Obj.cells #[Value.bool false, Value.int .i8 0, Value.int .u64 0] 52)) := ((Below.refl _ _).alloc (Nat.le_refl _) _)
  go_wp2_with (first | (go_at_call 52; refine (HU.out _).mono ?_; rintro e w1 ⟨rfl, hb1⟩; have sz1 := hb1.size; simp at sz1; have rx1 := rx0.below hb1; have xrx10 := rx1.c0; have xrx11 := rx1.c1; have xrx12 := rx1.c2; have yrx10 := rx1.f0; have yrx11 := rx1.f1; have yrx12 := rx1.f2))
  refine bodyPost_ret (v := .tuple #[.agg #[.bool s1, .int .i8 s, .int .u64 n], .nilIface]) (by simp [results, Tryd.results63, go_sem, rx1.c0, rx1.c1, rx1.c2]) rfl ⟨rfl, ?_⟩
  exact below3 (below_step hB0 hb1) (Nat.le_refl _) _ _ _

set_option maxHeartbeats 2000000 in
/-- Refused: an error that is not nil. -/
theorem newSafe_bad (b : Bool) (n s : Int) (w : World) (he : Errs w) (hr : ¬ (0 ≤ s ∧ s ≤ 19 ∧ n ≤ 9999999999999999999)) :
    Calls Tryd.prog 63 #[.bool b, .int .u64 n, .int .i64 s] w fun e w' => (∃ t v, e = .returned (.tuple #[.agg #[.bool false, .int .i8 0, .int .u64 0], .iface t v])) ∧ Below w.heap.size w w' := by
  obtain ⟨⟨t1, v1, hc1⟩, t2, v2, hc2⟩ := he
  have hs1 := World.block_lt_of_cell? w _ hc1
  have hs2 := World.block_lt_of_cell? w _ hc2
  have hB0 : Below w.heap.size w (w.alloc (Obj.cells #[.bool false, .int .i8 0, .int .u64 0] 52)) := (Below.refl _ _).alloc (Nat.le_refl _) _
  replace hc1 := pw_cell_below hB0 hc1
  replace hc2 := pw_cell_below hB0 hc2
  by_cases h0 : s < 0
  · go_enter Tryd.func63, Tryd.ntmps63
    go_wp2
    go_region
    all_goals go_wp2
    exact bodyPost_ret (v := .tuple #[.agg #[.bool false, .int .i8 0, .int .u64 0], .iface t1 v1]) (by simp [results, Tryd.results63, go_sem]) rfl ⟨⟨_, _, rfl⟩, hB0.drew⟩
  · by_cases h3 : 19 < s
    · go_enter Tryd.func63, Tryd.ntmps63
      go_wp2
      go_region
      all_goals go_wp2
      exact bodyPost_ret (v := .tuple #[.agg #[.bool false, .int .i8 0, .int .u64 0], .iface t1 v1]) (by simp [results, Tryd.results63, go_sem]) rfl ⟨⟨_, _, rfl⟩, hB0.drew⟩
    · have h4 : 9999999999999999999 < n := by omega
      clear hr
      go_enter Tryd.func63, Tryd.ntmps63
      go_wp2
      go_region
      all_goals go_wp2
      exact bodyPost_ret (v := .tuple #[.agg #[.bool false, .int .i8 0, .int .u64 0], .iface t2 v2]) (by simp [results, Tryd.results63, go_sem]) rfl ⟨⟨_, _, rfl⟩, hB0.drew⟩

set_option maxHeartbeats 2000000 in
theorem make_ok (b : Bool) (n s : Nat) (w : World) (hs : s ≤ 19) (hn : n ≤ 9999999999999999999) :
    Calls Tryd.prog 47 #[.bool b, .int .u64 n, .int .i64 s] w fun e w' => e = .returned (.tuple #[.agg #[.bool (sgn b n), .int .i8 s, .int .u64 n], .nilIface]) ∧ Below w.heap.size w w' := by
  have HU := Aside0.mk (fun w => newSafe_ok b n s w hs hn)
  have h7 : IntKind.u64.wrap (n : Int) = (n : Int) := IntWalk.u64_in _ (by omega)
  clear hs hn
  generalize sgn b n = s1 at *
  go_enter Tryd.func47, Tryd.ntmps47
  go_wp2_with fail
  have rx0 : Box (w.alloc (Obj.cells #[Value.bool false, Value.int .i8 0, Value.int .u64 0] 52)) w.heap.size [.bool false, .int .i8 0, .int .u64 0] := (Box.new3 w _ _ _ _ _ (by simp))
  have hB0 : Below w.heap.size w (w.alloc (Obj.cells #[Value.bool false, Value.int .i8 0, Value.int .u64 0] 52)) := ((Below.refl _ _).alloc (Nat.le_refl _) _)
  go_wp2_with (first | (go_at_call 63; refine (HU.out _).mono ?_; rintro e w1 ⟨rfl, hb1⟩; have sz1 := hb1.size; simp at sz1; have rx1 := rx0.below hb1; have xrx10 := rx1.c0; have xrx11 := rx1.c1; have xrx12 := rx1.c2; have yrx10 := rx1.f0; have yrx11 := rx1.f1; have yrx12 := rx1.f2))
  refine bodyPost_ret (v := .tuple #[.agg #[.bool s1, .int .i8 s, .int .u64 n], .nilIface]) (by simp [results, Tryd.results47, go_sem, rx1.c0, rx1.c1, rx1.c2]) rfl ⟨rfl, ?_⟩
  exact below3 (below_step hB0 hb1) (Nat.le_refl _) _ _ _

set_option maxHeartbeats 2000000 in
theorem make_bad (b : Bool) (n s : Int) (w : World) (he : Errs w) (hn : 0 ≤ n ∧ n ≤ 18446744073709551615) (hr : ¬ (0 ≤ s ∧ s ≤ 19 ∧ n ≤ 9999999999999999999)) :
    Calls Tryd.prog 47 #[.bool b, .int .u64 n, .int .i64 s] w fun e w' => (∃ t v, e = .returned (.tuple #[.agg #[.bool false, .int .i8 0, .int .u64 0], .iface t v])) ∧ Below w.heap.size w w' := by
  have HU := Aside0.mk (fun w he => newSafe_bad b n s w he hr)
  have h7 : IntKind.u64.wrap n = n := IntWalk.u64_in _ hn
  clear hr hn
  go_enter Tryd.func47, Tryd.ntmps47
  go_wp2_with fail
  have rx0 : Box (w.alloc (Obj.cells #[Value.bool false, Value.int .i8 0, Value.int .u64 0] 52)) w.heap.size [.bool false, .int .i8 0, .int .u64 0] := (Box.new3 w _ _ _ _ _ (by simp))
  have hB0 : Below w.heap.size w (w.alloc (Obj.cells #[Value.bool false, Value.int .i8 0, Value.int .u64 0] 52)) := ((Below.refl _ _).alloc (Nat.le_refl _) _)
  replace he := he.below hB0
  go_wp2_with (first | (go_at_call 63; refine (HU.out _ he).mono ?_; rintro e w1 ⟨⟨t, v, rfl⟩, hb1⟩; have sz1 := hb1.size; simp at sz1; have rx1 := rx0.below hb1; have xrx10 := rx1.c0; have xrx11 := rx1.c1; have xrx12 := rx1.c2; have yrx10 := rx1.f0; have yrx11 := rx1.f1; have yrx12 := rx1.f2))
  refine bodyPost_ret (v := .tuple #[.agg #[.bool false, .int .i8 0, .int .u64 0], .iface t v]) (by simp [results, Tryd.results47, go_sem, rx1.c0, rx1.c1, rx1.c2]) rfl ⟨⟨_, _, rfl⟩, ?_⟩
  exact below3 (below_step hB0 hb1) (Nat.le_refl _) _ _ _

set_option maxHeartbeats 4000000 in
/-- The thin package's way in: a decimal, where it is one. -/
theorem fixed_ok (b : Bool) (n s : Nat) (w : World) (hs : s ≤ 19) (hn : n ≤ 9999999999999999999) :
    Calls Tryd.prog 26 #[.agg #[.bool b, .int .u64 n, .int .i64 s]] w fun e w' => e = .returned (.tuple #[.agg #[.bool (sgn b n), .int .i8 s, .int .u64 n], .bool true]) ∧ Below w.heap.size w w' := by
  have HU := Aside0.mk (fun w => make_ok b n s w hs hn)
  have hq : ∀ (w : World), (binOp .eql 72 .nilIface .nilIface).run Tryd.prog w = .ok (.bool true) w := fun w => rfl
  clear hs hn
  generalize sgn b n = s1 at *
  go_enter Tryd.func26, Tryd.ntmps26
  go_wp2_with fail
  have bx0 : Box ((w.alloc (Obj.cells #[Value.bool b, Value.int .u64 n, Value.int .i64 s] 24)).alloc (Obj.cells #[Value.bool false, Value.int .i8 0, Value.int .u64 0] 52)) w.heap.size [.bool b, .int .u64 n, .int .i64 s] := ((Box.new3 w _ _ _ _ _ (by simp)).alloc _)
  have rx0 : Box ((w.alloc (Obj.cells #[Value.bool b, Value.int .u64 n, Value.int .i64 s] 24)).alloc (Obj.cells #[Value.bool false, Value.int .i8 0, Value.int .u64 0] 52)) (w.heap.size + 1) [.bool false, .int .i8 0, .int .u64 0] := (Box.new3 (w.alloc (Obj.cells #[Value.bool b, Value.int .u64 n, Value.int .i64 s] 24)) _ _ _ _ _ (by simp))
  have hB0 : Below w.heap.size w ((w.alloc (Obj.cells #[Value.bool b, Value.int .u64 n, Value.int .i64 s] 24)).alloc (Obj.cells #[Value.bool false, Value.int .i8 0, Value.int .u64 0] 52)) := (((Below.refl _ _).alloc (Nat.le_refl _) _).alloc (by simp) _)
  go_wp2_with (first | (go_at_call 47; refine (HU.out _).mono ?_; rintro e w1 ⟨rfl, hb1⟩; have sz1 := hb1.size; simp at sz1; have bx1 := bx0.below hb1; have xbx10 := bx1.c0; have xbx11 := bx1.c1; have xbx12 := bx1.c2; have rx1 := rx0.below hb1; have xrx10 := rx1.c0; have xrx11 := rx1.c1; have xrx12 := rx1.c2))
  have ry := rx1.alloc (Obj.cells #[.bool s1, .int .i8 s, .int .u64 n] 52)
  have kry0 := ry.c0; have kry1 := ry.c1; have kry2 := ry.c2; have qry0 := ry.f0; have qry1 := ry.f1; have qry2 := ry.f2
  have hB2 := ((below_step hB0 hb1)).alloc (by have := sz1; omega) (Obj.cells #[.bool s1, .int .i8 s, .int .u64 n] 52)
  go_region
  all_goals go_wp2
  refine bodyPost_ret (v := .tuple #[.agg #[.bool s1, .int .i8 s, .int .u64 n], .bool true]) (by simp [results, Tryd.results26, go_sem, ry.c0, ry.c1, ry.c2]) rfl ⟨rfl, ?_⟩
  exact (below3 hB2 (by omega) _ _ _).drew

set_option maxHeartbeats 4000000 in
theorem fixed_bad (b : Bool) (n s : Int) (w : World) (he : Errs w) (hn : 0 ≤ n ∧ n ≤ 18446744073709551615) (hr : ¬ (0 ≤ s ∧ s ≤ 19 ∧ n ≤ 9999999999999999999)) :
    Calls Tryd.prog 26 #[.agg #[.bool b, .int .u64 n, .int .i64 s]] w fun e w' => e = .returned (.tuple #[.agg #[.bool false, .int .i8 0, .int .u64 0], .bool false]) ∧ Below w.heap.size w w' := by
  have HU := Aside0.mk (fun w he => make_bad b n s w he hn hr)
  have hq : ∀ (t : TypeId) (v : Value) (w : World), (binOp .eql 72 (.iface t v) .nilIface).run Tryd.prog w = .ok (.bool false) w := fun _ _ w => rfl
  clear hr hn
  go_enter Tryd.func26, Tryd.ntmps26
  go_wp2_with fail
  have bx0 : Box ((w.alloc (Obj.cells #[Value.bool b, Value.int .u64 n, Value.int .i64 s] 24)).alloc (Obj.cells #[Value.bool false, Value.int .i8 0, Value.int .u64 0] 52)) w.heap.size [.bool b, .int .u64 n, .int .i64 s] := ((Box.new3 w _ _ _ _ _ (by simp)).alloc _)
  have rx0 : Box ((w.alloc (Obj.cells #[Value.bool b, Value.int .u64 n, Value.int .i64 s] 24)).alloc (Obj.cells #[Value.bool false, Value.int .i8 0, Value.int .u64 0] 52)) (w.heap.size + 1) [.bool false, .int .i8 0, .int .u64 0] := (Box.new3 (w.alloc (Obj.cells #[Value.bool b, Value.int .u64 n, Value.int .i64 s] 24)) _ _ _ _ _ (by simp))
  have hB0 : Below w.heap.size w ((w.alloc (Obj.cells #[Value.bool b, Value.int .u64 n, Value.int .i64 s] 24)).alloc (Obj.cells #[Value.bool false, Value.int .i8 0, Value.int .u64 0] 52)) := (((Below.refl _ _).alloc (Nat.le_refl _) _).alloc (by simp) _)
  replace he := he.below hB0
  go_wp2_with (first | (go_at_call 47; refine (HU.out _ he).mono ?_; rintro e w1 ⟨⟨t, v, rfl⟩, hb1⟩; have sz1 := hb1.size; simp at sz1; have bx1 := bx0.below hb1; have xbx10 := bx1.c0; have xbx11 := bx1.c1; have xbx12 := bx1.c2; have rx1 := rx0.below hb1; have xrx10 := rx1.c0; have xrx11 := rx1.c1; have xrx12 := rx1.c2))
  have ry := rx1.alloc (Obj.cells #[.bool false, .int .i8 0, .int .u64 0] 52)
  have kry0 := ry.c0; have kry1 := ry.c1; have kry2 := ry.c2; have qry0 := ry.f0; have qry1 := ry.f1; have qry2 := ry.f2
  have hB2 := ((below_step hB0 hb1)).alloc (by have := sz1; omega) (Obj.cells #[.bool false, .int .i8 0, .int .u64 0] 52)
  go_region
  all_goals go_wp2
  refine bodyPost_ret (v := .tuple #[.agg #[.bool false, .int .i8 0, .int .u64 0], .bool false]) (by simp [results, Tryd.results26, go_sem, ry.c0, ry.c1, ry.c2]) rfl ⟨rfl, ?_⟩
  exact (below3 hB2 (by omega) _ _ _).drew
end Go.Proofs.YtnjbfebeigginaaDoor.GvWalk
