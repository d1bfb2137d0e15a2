/-
  The thin package's doors: a deferred closure that recovers stands behind each; where nothing panics it does nothing.
-/
import Derived.Test.YtnjbfebeigginaaDoorGvWalk3
import Derived.Defers
import Derived.Recover
set_option linter.unusedVariables false
set_option linter.unusedSimpArgs false
namespace Go.Proofs.YtnjbfebeigginaaDoor.GvWalk
open Go.RowKit Go.Proofs.YtnjbfebeigginaaDoorW.PrintWords Go.Proofs.YtnjbfebeigginaaDoorW.PrintLast Go.Proofs.YtnjbfebeigginaaDoorW.PrintMore Go.Proofs.YtnjbfebeigginaaDoor.Digs Go.Proofs.YtnjbfebeigginaaDoor.StrLaw Go.Proofs.YtnjbfebeigginaaDoor.NatLaw Go.Proofs.YtnjbfebeigginaaDoor.NatWalk Go.Proofs.YtnjbfebeigginaaDoor.SpecWalk
open Go.Proofs.YtnjbfebeigginaaDoor.PFnFixTrunc

/-- A decimal of the package, and what is told of it. -/
structure Dv (R : Bool → Nat → Nat → Prop) (v : Value) : Prop where
  mk :: (out : ∃ (c : Bool) (m k : Nat), v = .agg #[.bool c, .int .i8 k, .int .u64 m] ∧ k ≤ 19 ∧ R c m k)
structure Fv (R : Bool → Nat → Nat → Prop) (v : Value) : Prop where
  mk :: (out : ∃ (c : Bool) (m k : Nat), v = .agg #[.bool c, .int .u64 m, .int .i64 k] ∧ k ≤ 19 ∧ R c m k)
theorem _root_.Go.Proofs.YtnjbfebeigginaaDoor.SpecWalk.Box.new1 (w : World) (g : Nat) (x : Value) (t : TypeId) (hg : w.heap.size = g) : Box (w.alloc (.cells #[x] t)) g [x] := by
  subst hg
  exact ⟨fun j v hj => by match j, hj with | 0, hj => cases hj; exact ⟨by simp, by simp⟩⟩
theorem catch_trunc (x y : Value) (w : World) :
    CallsD Tryd.prog 25 #[x, y] .returning w fun e u' w' => e = .returned (.tuple #[]) ∧ u' = .returning ∧ w' = w := by
  refine callsD_of_wpS Tryd.func25 rfl fun c₀ cs hu => ?_
  apply wpS_seq
  apply wpS_region
  simp [wpOpsS, go_sem, recoverD, hu, Tryd.ntmps25, Exit.thenS]
  refine wpS_cond (t := false) (by simp [Act.eval, Array.replicate]) ?_
  simp only [Bool.false_eq_true, if_false]
  refine wpS_of_wp (wp_skip ?_)
  cases c₀
  simp_all [bodyPostS, results, Tryd.results25]

set_option maxHeartbeats 4000000 in
/-- A decimal that is one goes through: what the package's method returns, with no fault. -/
theorem door_trunc_ok (b : Bool) (n s : Nat) (t : Int) (R : Bool → Nat → Nat → Prop) (w : World) (hp : Pows w) (hs : s ≤ 19) (hn : n ≤ 9999999999999999999)
    (ht : ∀ w, Pows w → Calls Tryd.prog 28 #[.agg #[.bool (sgn b n), .int .i8 s, .int .u64 n], .int .i64 t] w fun e w' => ∃ v, e = .returned v ∧ Dv R v ∧ Below w.heap.size w w') :
    Calls Tryd.prog 7 #[.agg #[.bool b, .int .u64 n, .int .i64 s], .int .i64 t] w fun e w' => ∃ v, e = .returned (.tuple #[v, .int .i64 0]) ∧ Fv R v ∧ Below w.heap.size w w' := by
  have hmf : ∀ (fn : Fn) (first cap : Array Value) (w : World), (Instr.makeFunc fn first cap).run Tryd.prog w = .ok (.func fn first cap) w := fun _ _ _ _ => rfl
  have HF := Aside0.mk (fun w => fixed_ok b n s w hs hn)
  have HT := Aside0.mk ht
  clear ht hs hn
  generalize sgn b n = s1 at *
  go_enter_defers Tryd.func7, Tryd.ntmps7
  go_wp2_with fail
  have bx0 : Box (((w.alloc (Obj.cells #[Value.bool b, Value.int .u64 n, Value.int .i64 s] 24)).alloc (Obj.cells #[Value.bool false, Value.int .u64 0, Value.int .i64 0] 24)).alloc (Obj.cells #[Value.int .i64 0] 3)) w.heap.size [.bool b, .int .u64 n, .int .i64 s] := (((Box.new3 w _ _ _ _ _ (by simp)).alloc _).alloc _)
  have ox0 : Box (((w.alloc (Obj.cells #[Value.bool b, Value.int .u64 n, Value.int .i64 s] 24)).alloc (Obj.cells #[Value.bool false, Value.int .u64 0, Value.int .i64 0] 24)).alloc (Obj.cells #[Value.int .i64 0] 3)) (w.heap.size + 1) [.bool false, .int .u64 0, .int .i64 0] := ((Box.new3 (w.alloc (Obj.cells #[Value.bool b, Value.int .u64 n, Value.int .i64 s] 24)) _ _ _ _ _ (by simp)).alloc _)
  have ex0 : Box (((w.alloc (Obj.cells #[Value.bool b, Value.int .u64 n, Value.int .i64 s] 24)).alloc (Obj.cells #[Value.bool false, Value.int .u64 0, Value.int .i64 0] 24)).alloc (Obj.cells #[Value.int .i64 0] 3)) (w.heap.size + 1 + 1) [.int .i64 0] := (Box.new1 ((w.alloc (Obj.cells #[Value.bool b, Value.int .u64 n, Value.int .i64 s] 24)).alloc (Obj.cells #[Value.bool false, Value.int .u64 0, Value.int .i64 0] 24)) _ _ _ (by simp))
  have hB0 : Below w.heap.size w (((w.alloc (Obj.cells #[Value.bool b, Value.int .u64 n, Value.int .i64 s] 24)).alloc (Obj.cells #[Value.bool false, Value.int .u64 0, Value.int .i64 0] 24)).alloc (Obj.cells #[Value.int .i64 0] 3)) := ((((Below.refl _ _).alloc (Nat.le_refl _) _).alloc (by simp) _).alloc (by simp; omega) _)
  have kbx00 := bx0.c0; have kbx01 := bx0.c1; have kbx02 := bx0.c2; have qbx00 := bx0.f0; have qbx01 := bx0.f1; have qbx02 := bx0.f2; have kox00 := ox0.c0; have kox01 := ox0.c1; have kox02 := ox0.c2; have qox00 := ox0.f0; have qox01 := ox0.f1; have qox02 := ox0.f2; have kex00 := ex0.c0; have qex00 := ex0.f0
  replace hp := hp.below hB0
  go_wp2_with (first | (go_at_call 26; (with_reducible refine (HF.out _).mono ?_); rintro e w1 ⟨rfl, hb1⟩; have sz1 := hb1.size; (try simp at sz1); (with_reducible have bx1 := bx0.below hb1); have kbx10 := bx1.c0; have kbx11 := bx1.c1; have kbx12 := bx1.c2; have qbx10 := bx1.f0; have qbx11 := bx1.f1; have qbx12 := bx1.f2; (with_reducible have ox1 := ox0.below hb1); have kox10 := ox1.c0; have kox11 := ox1.c1; have kox12 := ox1.c2; have qox10 := ox1.f0; have qox11 := ox1.f1; have qox12 := ox1.f2; (with_reducible have ex1 := ex0.below hb1); have kex10 := ex1.c0; have qex10 := ex1.f0; (with_reducible replace hp := hp.below hb1)))
  have xy1 : Box (w1.alloc (Obj.cells #[.bool s1, .int .i8 s, .int .u64 n] 52)) w1.heap.size [.bool s1, .int .i8 s, .int .u64 n] := Box.new3 _ _ _ _ _ _ rfl
  have oy1 := ox1.alloc (Obj.cells #[.bool s1, .int .i8 s, .int .u64 n] 52)
  have ey1 := ex1.alloc (Obj.cells #[.bool s1, .int .i8 s, .int .u64 n] 52)
  have hA1 : Below w1.heap.size w1 (w1.alloc (Obj.cells #[.bool s1, .int .i8 s, .int .u64 n] 52)) := (Below.refl _ _).alloc (Nat.le_refl _) _
  replace hp := hp.below hA1
  have kxy10 := xy1.c0; have kxy11 := xy1.c1; have kxy12 := xy1.c2; have qxy10 := xy1.f0; have qxy11 := xy1.f1; have qxy12 := xy1.f2; have koy10 := oy1.c0; have koy11 := oy1.c1; have koy12 := oy1.c2; have qoy10 := oy1.f0; have qoy11 := oy1.f1; have qoy12 := oy1.f2; have key10 := ey1.c0; have qey10 := ey1.f0
  go_wp2_with (first | (go_at_call 28; (with_reducible refine (HT.out _ hp).mono ?_); rintro e w2 ⟨v, rfl, hD, hb2⟩; have sz2 := hb2.size; (try simp at sz2); (with_reducible have xy2 := xy1.below hb2); have kxy20 := xy2.c0; have kxy21 := xy2.c1; have kxy22 := xy2.c2; have qxy20 := xy2.f0; have qxy21 := xy2.f1; have qxy22 := xy2.f2; (with_reducible have oy2 := oy1.below hb2); have koy20 := oy2.c0; have koy21 := oy2.c1; have koy22 := oy2.c2; have qoy20 := oy2.f0; have qoy21 := oy2.f1; have qoy22 := oy2.f2; (with_reducible have ey2 := ey1.below hb2); have key20 := ey2.c0; have qey20 := ey2.f0; obtain ⟨c, m, k, rfl, hk, hR⟩ := hD.out) | (go_at_call 27; (with_reducible refine (fix_n _ _ _ _ hk).mono ?_); rintro e w3 ⟨rfl, hb3⟩; have sz3 := hb3.size; (try simp at sz3); (with_reducible have xy3 := xy2.below hb3); have kxy30 := xy3.c0; have kxy31 := xy3.c1; have kxy32 := xy3.c2; have qxy30 := xy3.f0; have qxy31 := xy3.f1; have qxy32 := xy3.f2; (with_reducible have oy3 := oy2.below hb3); have koy30 := oy3.c0; have koy31 := oy3.c1; have koy32 := oy3.c2; have qoy30 := oy3.f0; have qoy31 := oy3.f1; have qoy32 := oy3.f2; (with_reducible have ey3 := ey2.below hb3); have key30 := ey3.c0; have qey30 := ey3.f0))
  refine leaves_cons (f := 25) (args := #[.pointer (some ⟨w.heap.size + 1, 0, none⟩), .pointer (some ⟨w.heap.size + 1 + 1, 0, none⟩)]) (by simp) (by simp [go_sem]) ?_
  refine (catch_trunc _ _ _).mono ?_
  rintro e u' w'' ⟨rfl, rfl, rfl⟩
  simp [Leaves, settle, results, Tryd.results7, go_sem, koy30, koy31, koy32, key30]
  exact ⟨⟨c, m, k, rfl, hk, hR⟩, (below3 (below_step (below_step (below_step (below_step hB0 hb1) hA1) hb2) hb3) (by omega) _ _ _).setCell (by show _ ≤ _ + 1 + 1; omega) _⟩

/-- What is none is told so. -/
theorem door_trunc_bad (b : Bool) (n s t : Int) (w : World) (he : Errs w) (hn : 0 ≤ n ∧ n ≤ 18446744073709551615) (hr : ¬ (0 ≤ s ∧ s ≤ 19 ∧ n ≤ 9999999999999999999)) :
    Calls Tryd.prog 7 #[.agg #[.bool b, .int .u64 n, .int .i64 s], .int .i64 t] w fun e w' => e = .returned (.tuple #[.agg #[.bool false, .int .u64 0, .int .i64 0], .int .i64 3]) ∧ Below w.heap.size w w' := by
  have hmf : ∀ (fn : Fn) (first cap : Array Value) (w : World), (Instr.makeFunc fn first cap).run Tryd.prog w = .ok (.func fn first cap) w := fun _ _ _ _ => rfl
  have HF := Aside0.mk (fun w he => fixed_bad b n s w he hn hr)
  clear hn hr
  go_enter_defers Tryd.func7, Tryd.ntmps7
  go_wp2_with fail
  have bx0 : Box (((w.alloc (Obj.cells #[Value.bool b, Value.int .u64 n, Value.int .i64 s] 24)).alloc (Obj.cells #[Value.bool false, Value.int .u64 0, Value.int .i64 0] 24)).alloc (Obj.cells #[Value.int .i64 0] 3)) w.heap.size [.bool b, .int .u64 n, .int .i64 s] := (((Box.new3 w _ _ _ _ _ (by simp)).alloc _).alloc _)
  have ox0 : Box (((w.alloc (Obj.cells #[Value.bool b, Value.int .u64 n, Value.int .i64 s] 24)).alloc (Obj.cells #[Value.bool false, Value.int .u64 0, Value.int .i64 0] 24)).alloc (Obj.cells #[Value.int .i64 0] 3)) (w.heap.size + 1) [.bool false, .int .u64 0, .int .i64 0] := ((Box.new3 (w.alloc (Obj.cells #[Value.bool b, Value.int .u64 n, Value.int .i64 s] 24)) _ _ _ _ _ (by simp)).alloc _)
  have ex0 : Box (((w.alloc (Obj.cells #[Value.bool b, Value.int .u64 n, Value.int .i64 s] 24)).alloc (Obj.cells #[Value.bool false, Value.int .u64 0, Value.int .i64 0] 24)).alloc (Obj.cells #[Value.int .i64 0] 3)) (w.heap.size + 1 + 1) [.int .i64 0] := (Box.new1 ((w.alloc (Obj.cells #[Value.bool b, Value.int .u64 n, Value.int .i64 s] 24)).alloc (Obj.cells #[Value.bool false, Value.int .u64 0, Value.int .i64 0] 24)) _ _ _ (by simp))
  have hB0 : Below w.heap.size w (((w.alloc (Obj.cells #[Value.bool b, Value.int .u64 n, Value.int .i64 s] 24)).alloc (Obj.cells #[Value.bool false, Value.int .u64 0, Value.int .i64 0] 24)).alloc (Obj.cells #[Value.int .i64 0] 3)) := ((((Below.refl _ _).alloc (Nat.le_refl _) _).alloc (by simp) _).alloc (by simp; omega) _)
  have kbx00 := bx0.c0; have kbx01 := bx0.c1; have kbx02 := bx0.c2; have qbx00 := bx0.f0; have qbx01 := bx0.f1; have qbx02 := bx0.f2; have kox00 := ox0.c0; have kox01 := ox0.c1; have kox02 := ox0.c2; have qox00 := ox0.f0; have qox01 := ox0.f1; have qox02 := ox0.f2; have kex00 := ex0.c0; have qex00 := ex0.f0
  replace he := he.below hB0
  go_wp2_with (first | (go_at_call 26; (with_reducible refine (HF.out _ he).mono ?_); rintro e w1 ⟨rfl, hb1⟩; have sz1 := hb1.size; (try simp at sz1); (with_reducible have bx1 := bx0.below hb1); have kbx10 := bx1.c0; have kbx11 := bx1.c1; have kbx12 := bx1.c2; have qbx10 := bx1.f0; have qbx11 := bx1.f1; have qbx12 := bx1.f2; (with_reducible have ox1 := ox0.below hb1); have kox10 := ox1.c0; have kox11 := ox1.c1; have kox12 := ox1.c2; have qox10 := ox1.f0; have qox11 := ox1.f1; have qox12 := ox1.f2; (with_reducible have ex1 := ex0.below hb1); have kex10 := ex1.c0; have qex10 := ex1.f0; have oy1 := ox1.alloc (Obj.cells #[.bool false, .int .i8 0, .int .u64 0] 52); have ey1 := ex1.alloc (Obj.cells #[.bool false, .int .i8 0, .int .u64 0] 52); have koy10 := oy1.c0; have koy11 := oy1.c1; have koy12 := oy1.c2; have qoy10 := oy1.f0; have qoy11 := oy1.f1; have qoy12 := oy1.f2; have key10 := ey1.c0; have qey10 := ey1.f0))
  have hA1 : Below w1.heap.size w1 (w1.alloc (Obj.cells #[.bool false, .int .i8 0, .int .u64 0] 52)) := (Below.refl _ _).alloc (Nat.le_refl _) _
  refine leaves_cons (f := 25) (args := #[.pointer (some ⟨w.heap.size + 1, 0, none⟩), .pointer (some ⟨w.heap.size + 1 + 1, 0, none⟩)]) (by simp) (by simp [go_sem]) ?_
  refine (catch_trunc _ _ _).mono ?_
  rintro e u' w'' ⟨rfl, rfl, rfl⟩
  simp [Leaves, settle, results, Tryd.results7, go_sem, koy10, koy11, koy12, key10]
  exact (below3 (below_step (below_step hB0 hb1) hA1) (by omega) _ _ _).setCell (by show _ ≤ _ + 1 + 1; omega) _
end Go.Proofs.YtnjbfebeigginaaDoor.GvWalk
