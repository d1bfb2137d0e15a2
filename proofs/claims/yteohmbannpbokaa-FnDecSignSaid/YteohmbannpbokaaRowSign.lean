/-
  FnDecSign, proved: for every decimal's parts the law returns true, and the parts read afterwards as before. No condition.
-/
import Derived.Test.YteohmbannpbokaaRows
import Derived.Test.YteohmbannpbokaaLawSign
import Derived.WalkKit
import Derived.ProofKit
import Derived.OpenShut
import Derived.ChangeOld
import Derived.Below
namespace Go.Proofs.Yteohmbannpbokaa.fnDecSign
open Go.ChangeShapes Go.WideShapes Go.ChangeAt Go.RowKit
set_option linter.unusedVariables false

theorem own : ownKnob Try.prog.godebug = none := by kernel_rfl
theorem laidOut : laidOutB Try.prog = true := by kernel_rfl
theorem cellsDec : Try.prog.cellsOf 23 = 2 := by kernel_rfl
theorem cellsStr : Try.prog.cellsOf 9 = 1 := by kernel_rfl
theorem cellsInt : Try.prog.cellsOf 3 = 1 := by kernel_rfl
theorem open_dec {H : Type} {enc : TypeId × Value → H} {W : World} {base : Nat} {v : Value} {d : DataW H} {p : List MemPlace} (hok : Value.okWide Try.prog W .any base 23 v) (h : DataW.Trod enc Try.prog W 0 (fun _ => true) true 23 v d p) :
    ∃ (s : ByteArray) (x : Int), v = .agg #[.string s, .int .i64 x] ∧ (-9223372036854775808 ≤ x ∧ x ≤ 9223372036854775807) := by
  obtain ⟨cs, rfl, hsz⟩ := okWide_struct Try.underlying23 hok
  rw [cellsDec] at hsz
  obtain ⟨l⟩ := cs
  obtain ⟨fuel, hf⟩ := h
  obtain ⟨y0, y1, m, hx, _, hy0, hy1⟩ := trod_struct2 Try.underlying23 hf
  match l, hsz with
  | [c0, c1], _ =>
    obtain ⟨s, e0, _, _⟩ := DataW.trod_string Try.underlying9 hy0
    obtain ⟨x, e1, _, wx⟩ := DataW.trod_int Try.underlying3 hy1
    simp [Value.cells, cellsStr, cellsInt] at e0 e1
    subst e0 e1
    refine ⟨s, x, rfl, ?_⟩
    simp only [Lit.wf, IntKind.min, IntKind.max, IntKind.signed, IntKind.bits, Bool.and_eq_true, decide_eq_true_eq] at wx
    simpa using wx

set_option maxRecDepth 100000 in
theorem lifted (os : Os) (started : os.Started) (H : Type) (enc : TypeId × Value → H) :
    ReturnsInHanded {} Try.checked os 3 .any (Rows.fnDecSignSpec.pre6 enc Try.prog Try.f3 Rows.fnDecSignRow.domain false) (Rows.fnDecSignSpec.post enc Try.prog Try.f3 false true false false) := by
  refine returnsInHanded_of_change (C := Try.checked) own started (by kernel_rfl) Try.func3
    (ChangeSpec.witness6 (enc := enc) (C := Try.checked) false ⟨#[], #[.agg #[.string ⟨#[]⟩, .int .i64 0]], []⟩ 8 (by kernel_rfl) (by kernel_rfl) (by kernel_rfl) (by kernel_rfl)) ?_
  intro W base args ds gs before hval0 hW hcnd _
  have hval : ∀ (j : Nat) t v, Try.f3.params[j]? = some t → args[j]? = some v → Value.okWide Try.prog W .any base t v := hval0
  have hW' := hW
  obtain ⟨p, q, hA0, hV, rfl, hfz, hnd⟩ := hW
  have hA : DataW.TrodAll enc Try.prog W 0 (fun _ => true) true Try.f3.params.toList args.toList ds p := hA0
  rw [Try.params3] at hA hval
  obtain ⟨v0, vs0, d0, ds0, p0, q0, hargs, rfl, rfl, h0, r0⟩ := trodAll_cons hA
  obtain ⟨rfl, rfl, rfl⟩ := trodAll_nil r0
  obtain rfl : args = #[v0] := by have := congrArg List.toArray hargs; simpa only [Array.toArray_toList] using this
  obtain ⟨rfl, rfl⟩ := trodVars_none hV
  have h0k := h0
  obtain ⟨s, x, rfl, wx⟩ := open_dec (hval 0 23 v0 rfl rfl) h0
  clear hA0 hval0
  have hlt : ∀ y ∈ p0 ++ [] ++ [], y.block < W.heap.size := fun y hy => hW'.lt y hy
  refine (LawSign.law_calls s x W wx).mono fun e W' ⟨he, bel⟩ => ?_
  subst he
  exact ⟨_, rfl, _, _, _, [], _, [], hW', trodAll_mk1 (shut_bool Try.underlying4 _), (trodAll_cons_mk (Below.trod laidOut (by kernel_rfl) (of_decide_eq_true (by kernel_rfl)) h0k bel (fun y hy => hlt y (by simp [hy]))) trodAll_mk0), rfl, bel.frame _, fun h => by cases h⟩
theorem over : Rows.fnDecSignRow.holds Try.pinned (OpenSpec.ofChange Rows.fnDecSignSpec) :=
  OpenClaim.holds_of_wide 3 Try.f3 rfl rfl rfl rfl rfl rfl rfl ⟨rfl, rfl, rfl, rfl, rfl⟩ rfl rfl rfl rfl rfl (by kernel_rfl) Try.func3 (by kernel_rfl)
    (of_decide_eq_true (by kernel_rfl)) (by unfold Func.isWrapper; first | (rw [if_pos (by decide +kernel)]; kernel_rfl) | (rw [if_neg (by decide +kernel)]; exact ⟨rfl, rfl⟩))
    (fun os started H enc _ => lifted os started H enc)
end Go.Proofs.Yteohmbannpbokaa.fnDecSign
namespace Go.Proofs.Yteohmbannpbokaa
theorem fnDecSign_holds : Rows.FnDecSignSaid := fnDecSign.over
#print axioms fnDecSign_holds
end Go.Proofs.Yteohmbannpbokaa
