/-
  What the condition on the package's variables gives the walks: the table of powers of ten, and two errors that are not nil; and a world that meets it.
-/
import Derived.Test.YtnjbfebeigginaaDoorRows
import Derived.Test.YtnjbfebeigginaaDoorGvWalk2
import Derived.WalkKit
import Derived.ProofKit
import Derived.LaidMore
import Derived.OpenShut
import Derived.Carry
import Derived.Deep.Strs
import Derived.Stop.Joined
import Derived.Stop.LaidErr
namespace Go.Proofs.YtnjbfebeigginaaDoor.Laid
open Go.ChangeShapes Go.WideShapes Go.ChangeAt Go.RowKit Go.Proofs.YtnjbfebeigginaaDoor.GvWalk
set_option linter.unusedVariables false

theorem own : ownKnob Tryd.prog.godebug = none := by kernel_rfl
theorem laidOut : laidOutB Tryd.prog = true := by kernel_rfl
theorem gPow : Tryd.prog.globalNamed "given.example/pub-alexandrine/pub/govalues.pow10" = some 0 := by kernel_rfl
theorem gScale : Tryd.prog.globalNamed "given.example/pub-alexandrine/pub/govalues.errScaleRange" = some 1 := by kernel_rfl
theorem gOver : Tryd.prog.globalNamed "given.example/pub-alexandrine/pub/govalues.errDecimalOverflow" = some 2 := by kernel_rfl
theorem tPow : (Tryd.prog.globals[0]?).map (·.type) = some 86 := by kernel_rfl
theorem tScale : (Tryd.prog.globals[1]?).map (·.type) = some 72 := by kernel_rfl
theorem tOver : (Tryd.prog.globals[2]?).map (·.type) = some 72 := by kernel_rfl
theorem cells92 : Tryd.prog.cellsOf 107 = 1 := by kernel_rfl
theorem cells9 : Tryd.prog.cellsOf 9 = 1 := by kernel_rfl
theorem cells50 : Tryd.prog.cellsOf 50 = 1 := by kernel_rfl
theorem star : "*" ++ "errors.errorString" = "*errors.errorString" := by decide
theorem rowPtr (u : TypeId) (h : Tryd.prog.typeName? 3 u = some "*errors.errorString") : u = 92 :=
  typeName_ptr_named (nm := "errors.errorString") (by rw [star]; kernel_rfl) (by kernel_rfl) (by decide) u (by rw [star]; exact h)

abbrev laid3 : List (String × DataW Unit) := [("given.example/pub-alexandrine/pub/govalues.errDecimalOverflow", Rows.laid_given_example_pub_alexandrine_pub_govalues_errDecimalOverflow), ("given.example/pub-alexandrine/pub/govalues.errScaleRange", Rows.laid_given_example_pub_alexandrine_pub_govalues_errScaleRange), ("given.example/pub-alexandrine/pub/govalues.pow10", Rows.laid_given_example_pub_alexandrine_pub_govalues_pow10)]
theorem pows_of {W : World} (h : laidMet Tryd.prog [("given.example/pub-alexandrine/pub/govalues.pow10", Rows.laid_given_example_pub_alexandrine_pub_govalues_pow10)] W) : Pows W := by
  obtain ⟨ps, ⟨g, t, cs, fuel, p, q, hg, ht, hv, hd, _, _⟩, _, _⟩ := h
  obtain rfl := Option.some.inj (gPow.symm.trans hg)
  obtain rfl := Option.some.inj (tPow.symm.trans ht)
  obtain ⟨xs, m, _, ex, _, hl, hel⟩ := DataW.trod_array Tryd.underlying86 hd
  refine ⟨fun r hr => ?_⟩
  have hE := hel r hr
  rw [cells50, Nat.mul_one, List.getElem?_eq_getElem (by omega)] at hE
  obtain ⟨z, e1, e2, _⟩ := DataW.trod_int Tryd.underlying50 hE
  have e3 : (xs.map (·.1)) = (List.range 20).map fun n => .lit (.int .u64 ((10 ^ n : Nat) : Int)) := (DataW.agg.inj (Prod.mk.inj ex).1).symm
  have e4 : (xs.map (·.1))[r]? = ((List.range 20).map fun n => (DataW.lit (.int .u64 ((10 ^ n : Nat) : Int)) : DataW Unit))[r]? := by rw [e3]
  rw [List.getElem?_map, List.getElem?_map, List.getElem?_eq_getElem (by omega : r < xs.length), List.getElem?_range hr, e2] at e4
  have hz : z = ((10 ^ r : Nat) : Int) := by
    simp only [Option.map_some, Option.some.injEq, DataW.lit.injEq, Lit.int.injEq, true_and] at e4
    exact e4
  rw [World.var?_cell hg hv r, ← hz]
  have : cs.toList[r]? = some (.int .u64 z) := by
    have h0 : ((cs.toList.drop r).take 1)[0]? = some (.int .u64 z) := by rw [e1]; rfl
    simpa using h0
  simpa using this
theorem of_laid {W : World} (h : laidMetH Tryd.prog laid3 W) : Pows W ∧ Errs W := by
  rw [MakeChecks.laidMetH_plain _ _ _ (by kernel_rfl)] at h
  obtain ⟨a1, s1, hv1, _, _, _⟩ := laid_sentinel h gOver tOver Tryd.underlying72 rowPtr Tryd.underlying92 Tryd.underlying107 rfl rfl Tryd.underlying9 cells92 cells9
  obtain ⟨a2, s2, hv2, _, _, _⟩ := laid_sentinel (laidMet.tail h) gScale tScale Tryd.underlying72 rowPtr Tryd.underlying92 Tryd.underlying107 rfl rfl Tryd.underlying9 cells92 cells9
  refine ⟨pows_of (laidMet.tail (laidMet.tail h)), ⟨_, _, by simpa using World.var?_cell gScale hv2 0⟩, _, _, by simpa using World.var?_cell gOver hv1 0⟩

/-- The door's own heap meets the condition. -/
theorem door_met (os : Os) (args : Array Value) : laidMetH Tryd.prog laid3 ((World.doorLaid Tryd.prog 52 os).forCall (fun _ _ => 0) ⟨#[], args, []⟩).memory :=
  laidMetH_of_parts3 (fuel := 8) (laidMet_of_run' 8 (by kernel_rfl) (by kernel_rfl)) (by kernel_rfl) (by kernel_rfl)
end Go.Proofs.YtnjbfebeigginaaDoor.Laid
