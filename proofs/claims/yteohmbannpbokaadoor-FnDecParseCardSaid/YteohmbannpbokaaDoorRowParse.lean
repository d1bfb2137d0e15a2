/-
  FnDecParse, proved: for every text the law returns true, and all reads afterwards as before; over the program's own text of the variables (the tied card).
-/
import Derived.Test.YteohmbannpbokaaDoorRows
import Derived.Test.YteohmbannpbokaaDoorParseEnd
import Derived.Test.YteohmbannpbokaaDoorCards
import Derived.Test.YteohmbannpbokaaDoorTie
import Derived.WalkKit
import Derived.ProofKit
import Derived.LaidMore
import Derived.OpenShut
import Derived.ChangeMaps5
import Derived.Carry
import Derived.Deep.Strs
import Derived.Stop.Joined
import Derived.Stop.LaidErr
import Derived.ChangeOld
import Derived.ChangeBook
import Derived.ChangeStays
import Derived.Below
import Derived.SevenTiedAt
namespace Go.Proofs.YteohmbannpbokaaDoor.fnDecParse
open Go.ChangeShapes Go.WideShapes Go.ChangeAt Go.ChangeMaps Go.RowKit Go.Proofs.YteohmbannpbokaaDoor.ParseWalk
set_option linter.unusedVariables false
set_option linter.unusedSimpArgs false

theorem own : ownKnob Tryd.prog.godebug = none := by kernel_rfl
theorem laidOut : laidOutB Tryd.prog = true := by kernel_rfl
theorem gMax : Tryd.prog.globalNamed "given.example/pub-alexandrine/pub/shopspring.MaxDecodeExponent" = some 0 := by kernel_rfl
theorem gEof : Tryd.prog.globalNamed "io.EOF" = some 1 := by kernel_rfl
theorem gSep : Tryd.prog.globalNamed "given.example/pub-alexandrine/pub/bigall.errInvalSep" = some 4 := by kernel_rfl
theorem gNo : Tryd.prog.globalNamed "given.example/pub-alexandrine/pub/bigall.errNoDigits" = some 5 := by kernel_rfl
theorem tMax : (Tryd.prog.globals[0]?).map (·.type) = some 3 := by kernel_rfl
theorem tEof : (Tryd.prog.globals[1]?).map (·.type) = some 46 := by kernel_rfl
theorem tSep : (Tryd.prog.globals[4]?).map (·.type) = some 46 := by kernel_rfl
theorem tNo : (Tryd.prog.globals[5]?).map (·.type) = some 46 := by kernel_rfl
theorem cells73 : Tryd.prog.cellsOf 73 = 1 := by kernel_rfl
theorem cells9 : Tryd.prog.cellsOf 9 = 1 := by kernel_rfl
theorem cells3 : Tryd.prog.cellsOf 3 = 1 := by kernel_rfl
theorem star : "*" ++ "errors.errorString" = "*errors.errorString" := by decide
theorem rowPtr (u : TypeId) (h : Tryd.prog.typeName? 3 u = some "*errors.errorString") : u = 71 :=
  typeName_ptr_named (nm := "errors.errorString") (by rw [star]; kernel_rfl) (by kernel_rfl) (by decide) u (by rw [star]; exact h)

abbrev laid9 : List (String × DataW Unit) := [("math/bits.deBruijn32tab", Rows.laid_math_bits_deBruijn32tab), ("math/bits.deBruijn64tab", Rows.laid_math_bits_deBruijn64tab), ("internal/strconv.uint64pow10", Rows.laid_internal_strconv_uint64pow10), ("strconv.ErrRange", Rows.laid_strconv_ErrRange), ("strconv.ErrSyntax", Rows.laid_strconv_ErrSyntax), ("io.EOF", Rows.laid_io_EOF), ("given.example/pub-alexandrine/pub/bigall.errNoDigits", Rows.laid_given_example_pub_alexandrine_pub_bigall_errNoDigits), ("given.example/pub-alexandrine/pub/bigall.errInvalSep", Rows.laid_given_example_pub_alexandrine_pub_bigall_errInvalSep), ("given.example/pub-alexandrine/pub/shopspring.MaxDecodeExponent", Rows.laid_given_example_pub_alexandrine_pub_shopspring_MaxDecodeExponent)]
theorem max_of {W : World} (h : laidMet Tryd.prog [("given.example/pub-alexandrine/pub/shopspring.MaxDecodeExponent", Rows.laid_given_example_pub_alexandrine_pub_shopspring_MaxDecodeExponent)] W) : W.cell? ⟨0, 0, none⟩ = some (.int .i64 10000) := by
  obtain ⟨ps, ⟨g, t, cs, fuel, p, q, hg, ht, hv, hd, _, _⟩, _, _⟩ := h
  obtain rfl := Option.some.inj (gMax.symm.trans hg)
  obtain rfl := Option.some.inj (tMax.symm.trans ht)
  obtain ⟨z, e1, e2, _⟩ := DataW.trod_int Tryd.underlying3 hd
  have e3 : (DataW.lit (.int .i64 10000) : DataW Unit) = .lit (.int .i64 z) := (Prod.mk.inj e2).1
  have hz : z = 10000 := by
    simp only [DataW.lit.injEq, Lit.int.injEq, true_and] at e3
    exact e3.symm
  have h0 := World.var?_cell hg hv 0
  rw [h0]
  have h1 : cs.toList[0]? = some (.int .i64 z) := by rw [e1]; rfl
  rw [← hz]
  simpa using h1
theorem of_laid {W : World} (h : laidMetH Tryd.prog laid9 W) : Vars W := by
  rw [MakeChecks.laidMetH_plain _ _ _ (by kernel_rfl)] at h
  have h5 := laidMet.tail (laidMet.tail (laidMet.tail (laidMet.tail (laidMet.tail h))))
  obtain ⟨a1, s1, hv1, _, _, _⟩ := laid_sentinel h5 gEof tEof Tryd.underlying46 rowPtr Tryd.underlying71 Tryd.underlying73 rfl rfl Tryd.underlying9 cells73 cells9
  exact ⟨⟨_, ⟨by simpa using World.var?_cell gEof hv1 0⟩⟩, max_of (laidMet.tail (laidMet.tail (laidMet.tail h5)))⟩
/-- The door's own heap meets the condition. -/
theorem door_met (os : Os) (args : Array Value) : laidMetH Tryd.prog laid9 ((World.doorLaid Tryd.prog 123 os).forCall (fun _ _ => 0) ⟨#[], args, []⟩).memory :=
  laidMetH_of_parts3 (fuel := 8) (laidMet_of_run' 8 (by kernel_rfl) (by kernel_rfl)) (by kernel_rfl) (by kernel_rfl)
/-- The variables read behind the call as they did. -/
theorem vars_stay {H : Type} {enc : TypeId × Value → H} {W W' : World} (hb : Below W.heap.size W W') : ∀ (ns : List String) (gs : List (DataW H)) (ps : List MemPlace),
    (∀ n ∈ ns, ∃ g t, Tryd.prog.globalNamed n = some g ∧ (Tryd.prog.globals[g]?).map (·.type) = some t ∧ Tryd.prog.readableRec t = true ∧ t < Tryd.prog.types.size) → (∀ x ∈ ps, x.block < W.heap.size) →
    DataW.TrodVars enc Tryd.prog W (fun _ => true) ns gs ps → DataW.TrodVars enc Tryd.prog W' (fun b => decide (b < W.heap.size)) ns gs ps := by
  intro ns
  induction ns with
  | nil => intro gs ps _ _ h; cases gs with
    | nil => exact h
    | cons => exact h.elim
  | cons n ns ih =>
    intro gs ps hrow hlt h
    cases gs with
    | nil => exact h.elim
    | cons d ds =>
      obtain ⟨g, t, cs, fuel, p, q, h1, h2, h3, h4, hs, rfl⟩ := h
      obtain ⟨g', t', e1, e2, hr, ht⟩ := hrow n List.mem_cons_self
      obtain rfl := Option.some.inj (h1.symm.trans e1)
      obtain rfl := Option.some.inj (h2.symm.trans e2)
      have hp : ∀ x ∈ p, x.block < W.heap.size := fun x hx => hlt x (by simp [hx])
      have hq : ∀ x ∈ q, x.block < W.heap.size := fun x hx => hlt x (by simp [hx])
      have h3' : W'.var? Tryd.prog n = some cs := by
        unfold World.var? at h3 ⊢
        rw [h1] at h3 ⊢
        simp only [Option.bind_some] at h3 ⊢
        have hg : g < W.heap.size := by
          apply Classical.byContradiction
          intro hge
          rw [Array.getElem?_eq_none (by omega)] at h3
          cases h3
        rw [hb.block g hg]
        exact h3
      exact ⟨g, t, cs, fuel, p, q, h1, h2, h3', DataW.trod_stays (kids_book laidOut hr) (book_sized hr) (fun h => by cases h) ⟨ht, book_self t⟩ h4 (fun x hx => hb.same (hp x hx)) (fun x hx => by simpa using hp x hx),
        ih ds q (fun m hm => hrow m (List.mem_cons_of_mem _ hm)) hq hs, rfl⟩
theorem vars_rows : ∀ n ∈ Rows.fnDecParseSpec.vars, ∃ g t, Tryd.prog.globalNamed n = some g ∧ (Tryd.prog.globals[g]?).map (·.type) = some t ∧ Tryd.prog.readableRec t = true ∧ t < Tryd.prog.types.size := by
  intro n hn
  rcases List.mem_cons.1 hn with rfl | hn
  · exact ⟨0, 3, gMax, tMax, by kernel_rfl, of_decide_eq_true (by kernel_rfl)⟩
  rcases List.mem_cons.1 hn with rfl | hn
  · exact ⟨4, 46, gSep, tSep, by kernel_rfl, of_decide_eq_true (by kernel_rfl)⟩
  rcases List.mem_cons.1 hn with rfl | hn
  · exact ⟨5, 46, gNo, tNo, by kernel_rfl, of_decide_eq_true (by kernel_rfl)⟩
  · cases hn
theorem vars_len {H : Type} {enc : TypeId × Value → H} {W : World} : ∀ (ns : List String) (gs : List (DataW H)) (ps : List MemPlace), DataW.TrodVars enc Tryd.prog W (fun _ => true) ns gs ps → gs.length = ns.length := by
  intro ns
  induction ns with
  | nil => intro gs ps h; cases gs with
    | nil => rfl
    | cons => exact h.elim
  | cons n ns ih =>
    intro gs ps h
    cases gs with
    | nil => exact h.elim
    | cons d ds =>
      obtain ⟨g, t, cs, fuel, p, q, _, _, _, _, hs, _⟩ := h
      simp [ih ds q hs]
theorem three_of {α : Type} {l : List α} (h : l.length = 3) : ∃ a b c, l = [a, b, c] := by
  match l, h with
  | [a, b, c], _ => exact ⟨a, b, c, rfl⟩

set_option maxRecDepth 100000 in
theorem lifted (os : Os) (started : os.Started) (H : Type) (enc : TypeId × Value → H) :
    ReturnsInHanded {} Tryd.checked os 3 .any (fun w args => (Rows.fnDecParseSpec.pre enc Tryd.prog Tryd.f3 [] false w args ∧ laidMetH Tryd.prog laid9 w) ∧ sizedMet enc Tryd.prog Tryd.f3 (OpenSpec.ofChange Rows.fnDecParseSpec) false w args)
      (Rows.fnDecParseSpec.post enc Tryd.prog Tryd.f3 false true false false) := by
  refine returnsInHanded_of_change_and (C := Tryd.checked) (X := fun w _ => laidMetH Tryd.prog laid9 w) (fun _ _ _ hh h => h.of_heap hh) own started (by kernel_rfl) Tryd.func3
    (ChangeSpec.witness_shaped (enc := enc) (C := Tryd.checked) (os := os) (X := fun w _ => laidMetH Tryd.prog laid9 w) false (World.doorLaid Tryd.prog 123 os) #[.string ⟨#[]⟩] 8 rfl (World.shaped_of_RefB (by kernel_rfl) (by kernel_rfl)) (by kernel_rfl) (by kernel_rfl) (by kernel_rfl) (door_met os _)) ?_
  intro W base args ds gs before hval0 hW _ _ hL _
  have hval : ∀ (j : Nat) t v, Tryd.f3.params[j]? = some t → args[j]? = some v → Value.okWide Tryd.prog W .any base t v := hval0
  have hW' := hW
  obtain ⟨p, q, hA0, hV, rfl, hfz, hnd⟩ := hW
  have hA : DataW.TrodAll enc Tryd.prog W 0 (fun _ => true) true Tryd.f3.params.toList args.toList ds p := hA0
  rw [Tryd.params3] at hA hval
  obtain ⟨v0, vs0, d0, ds0, p0, q0, hargs, rfl, rfl, h0, r0⟩ := trodAll_cons hA
  obtain ⟨rfl, rfl, rfl⟩ := trodAll_nil r0
  obtain rfl : args = #[v0] := by have := congrArg List.toArray hargs; simpa only [Array.toArray_toList] using this
  obtain ⟨s, rfl, rfl, rfl, ws⟩ := open_string Tryd.underlying9 (hval 0 9 v0 rfl rfl) h0
  clear hA0 hval0
  have hV0 := of_laid hL
  have hV' : DataW.TrodVars enc Tryd.prog W (fun x => true) Rows.fnDecParseSpec.vars gs q := hV
  obtain ⟨g1, g2, g3, rfl⟩ := three_of (vars_len _ _ _ hV')
  have hlt : ∀ x ∈ [] ++ [] ++ q, x.block < W.heap.size := fun x hx => hW'.lt x hx
  refine (law_calls s W hV0).mono fun e W' ⟨he, bel⟩ => ?_
  subst he
  exact ⟨_, rfl, _, _, _, [], _, _, hW', trodAll_mk1 (shut_bool Tryd.underlying4 _), (trodAll_cons_mk (shut_string Tryd.underlying9 ws) trodAll_mk0), vars_stay bel _ _ _ vars_rows (fun x hx => hlt x (by simp [hx])) hV', bel.frame _, fun h => by cases h⟩
theorem over : Rows.fnDecParseRow.holds Tryd.pinned (OpenSpec.ofChange Rows.fnDecParseSpec) :=
  OpenClaim.holds_of_wide 3 Tryd.f3 rfl rfl rfl rfl rfl rfl rfl ⟨rfl, rfl, rfl, rfl, rfl⟩ rfl rfl rfl rfl rfl (by kernel_rfl) Tryd.func3 (by kernel_rfl)
    (of_decide_eq_true (by kernel_rfl)) (by unfold Func.isWrapper; first | (rw [if_pos (by decide +kernel)]; kernel_rfl) | (rw [if_neg (by decide +kernel)]; exact ⟨rfl, rfl⟩))
    (fun os started H enc _ => lifted os started H enc)
end Go.Proofs.YteohmbannpbokaaDoor.fnDecParse
namespace Go.Proofs.YteohmbannpbokaaDoor
theorem fnDecParse_said : Rows.FnDecParseSaid := fnDecParse.over
/-- The tied card. -/
theorem fnDecParse_holds : Rows.FnDecParseCardSaid :=
  Claim7.holds_tied_plain_at .later [] [.data, .data, .data, .sentinel, .sentinel, .sentinel, .sentinel, .sentinel, .data] true (true, "331aebca6ac2e2c4283f2d719354603ab7b42ab2ee915ddb7af9d4062973c9b9") true
    fnDecParse_said (fun _ h => by cases h) (by kernel_rfl) (fun _ h => by cases h) fnDecParse_row_tie rfl ⟨rfl, rfl⟩ (by kernel_rfl) rfl
    (fun f fn hf hfn => by
      obtain rfl : f = 3 := Option.some.inj ((show Tryd.prog.funcNamed "given.example/pub-alexandrine/laws.FnDecParse" = some 3 by kernel_rfl).symm.trans hf) |>.symm
      obtain rfl : fn = Tryd.f3 := (Option.some.inj (Tryd.func3.symm.trans hfn)).symm
      exact ⟨by kernel_rfl, fun j t ht => by
        rw [Tryd.params3] at ht
        have hm : t ∈ [9] := by simpa using Array.mem_of_getElem? ht
        have hall : ([9].all fun u => !Tryd.prog.wantsStandIn u) = true := by kernel_rfl
        exact (show Tryd.prog.wantsStandIn t = false by simpa using List.all_eq_true.1 hall t hm)⟩)
    (by kernel_rfl)
#print axioms fnDecParse_holds
end Go.Proofs.YteohmbannpbokaaDoor
