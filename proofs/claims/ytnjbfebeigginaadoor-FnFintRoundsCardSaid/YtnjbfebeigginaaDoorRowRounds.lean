/-
  FnFintRounds, proved: for every whole number and every exponent the law returns true, and all reads afterwards as before; over the program's own text of the variables (the tied card).
-/
import Derived.Test.YtnjbfebeigginaaDoorRowLaid
import Derived.Test.YtnjbfebeigginaaDoorLawRounds
import Derived.Test.YtnjbfebeigginaaDoorCards
import Derived.Test.YtnjbfebeigginaaDoorTie
import Derived.ChangeOld
import Derived.ChangeBook
import Derived.ChangeStays
import Derived.Below
import Derived.SevenTiedAt
namespace Go.Proofs.YtnjbfebeigginaaDoor.fnFintRounds
open Go.ChangeShapes Go.WideShapes Go.ChangeAt Go.RowKit Go.Proofs.YtnjbfebeigginaaDoor.Laid Go.Proofs.YtnjbfebeigginaaDoor.GvWalk Go.Proofs.YtnjbfebeigginaaDoor.LawRounds
set_option linter.unusedVariables false
set_option linter.unusedSimpArgs false

theorem cells24 : Tryd.prog.cellsOf 24 = 3 := by kernel_rfl
theorem cells4 : Tryd.prog.cellsOf 4 = 1 := by kernel_rfl
theorem cells3 : Tryd.prog.cellsOf 3 = 1 := by kernel_rfl
theorem cells22 : Tryd.prog.cellsOf 22 = 1 := by kernel_rfl
/-- The variables read behind the call as they did. -/
theorem vars_stay {H : Type} {enc : TypeId × Value → H} {W W' : World} (hb : Below W.heap.size W W') : ∀ (ns : List String) (gs : List (DataW H)) (ps : List MemPlace),
    (∀ n ∈ ns, ∃ g t, Tryd.prog.globalNamed n = some g ∧ (Tryd.prog.globals[g]?).map (·.type) = some t ∧ Tryd.prog.readableRec t = true ∧ t < Tryd.prog.types.size) → (∀ x ∈ ps, x.block < W.heap.size) →
    DataW.TrodVars enc Tryd.prog W (fun _ => true) ns gs ps → DataW.TrodVars enc Tryd.prog W' (fun b => decide (b < W.heap.size)) ns gs ps := by
  intro ns
  induction ns with
  | nil => intro gs ps _ _ h; cases gs with
    | nil => exact h
    | cons => exact h.elim
  | cons n ns ih =>
    intro gs ps hrow hlt h
    cases gs with
    | nil => exact h.elim
    | cons d ds =>
      obtain ⟨g, t, cs, fuel, p, q, h1, h2, h3, h4, hs, rfl⟩ := h
      obtain ⟨g', t', e1, e2, hr, ht⟩ := hrow n List.mem_cons_self
      obtain rfl := Option.some.inj (h1.symm.trans e1)
      obtain rfl := Option.some.inj (h2.symm.trans e2)
      have hp : ∀ x ∈ p, x.block < W.heap.size := fun x hx => hlt x (by simp [hx])
      have hq : ∀ x ∈ q, x.block < W.heap.size := fun x hx => hlt x (by simp [hx])
      have h3' : W'.var? Tryd.prog n = some cs := by
        unfold World.var? at h3 ⊢
        rw [h1] at h3 ⊢
        simp only [Option.bind_some] at h3 ⊢
        have hg : g < W.heap.size := by
          apply Classical.byContradiction
          intro hge
          rw [Array.getElem?_eq_none (by omega)] at h3
          cases h3
        rw [hb.block g hg]
        exact h3
      exact ⟨g, t, cs, fuel, p, q, h1, h2, h3', DataW.trod_stays (kids_book laidOut hr) (book_sized hr) (fun h => by cases h) ⟨ht, book_self t⟩ h4 (fun x hx => hb.same (hp x hx)) (fun x hx => by simpa using hp x hx),
        ih ds q (fun m hm => hrow m (List.mem_cons_of_mem _ hm)) hq hs, rfl⟩
theorem vars_rows : ∀ n ∈ Rows.fnFintRoundsSpec.vars, ∃ g t, Tryd.prog.globalNamed n = some g ∧ (Tryd.prog.globals[g]?).map (·.type) = some t ∧ Tryd.prog.readableRec t = true ∧ t < Tryd.prog.types.size := by
  intro n hn
  rcases List.mem_cons.1 hn with rfl | hn
  · exact ⟨0, 86, gPow, tPow, by kernel_rfl, of_decide_eq_true (by kernel_rfl)⟩
  · cases hn
abbrev laid1 : List (String × DataW Unit) := [("given.example/pub-alexandrine/pub/govalues.pow10", Rows.laid_given_example_pub_alexandrine_pub_govalues_pow10)]
theorem of_laid1 {W : World} (h : laidMetH Tryd.prog laid1 W) : Pows W := by
  rw [MakeChecks.laidMetH_plain _ _ _ (by kernel_rfl)] at h
  exact pows_of h
theorem door_met1 (os : Os) (args : Array Value) : laidMetH Tryd.prog laid1 ((World.doorLaid Tryd.prog 52 os).forCall (fun _ _ => 0) ⟨#[], args, []⟩).memory :=
  laidMetH_of_parts3 (fuel := 8) (laidMet_of_run' 8 (by kernel_rfl) (by kernel_rfl)) (by kernel_rfl) (by kernel_rfl)

/-- The walk, for all arguments. -/
theorem walk (x s : Int) (w : World) (hp : Pows w) (hx : 0 ≤ x) : Calls Tryd.prog 4 #[.int .u64 x, .int .i64 s] w fun e w' => e = .returned (.bool true) ∧ Below w.heap.size w w' := by
  obtain ⟨m, rfl⟩ := Int.eq_ofNat_of_zero_le hx
  exact law_calls m s w hp

theorem vars_len {H : Type} {enc : TypeId × Value → H} {W : World} : ∀ (ns : List String) (gs : List (DataW H)) (ps : List MemPlace), DataW.TrodVars enc Tryd.prog W (fun _ => true) ns gs ps → gs.length = ns.length := by
  intro ns
  induction ns with
  | nil => intro gs ps h; cases gs with
    | nil => rfl
    | cons => exact h.elim
  | cons n ns ih =>
    intro gs ps h
    cases gs with
    | nil => exact h.elim
    | cons d ds =>
      obtain ⟨g, t, cs, fuel, p, q, _, _, _, _, hs, _⟩ := h
      simp [ih ds q hs]
theorem one_of {α : Type} {l : List α} (h : l.length = 1) : ∃ a, l = [a] := by
  match l, h with
  | [a], _ => exact ⟨a, rfl⟩

set_option maxRecDepth 100000 in
theorem lifted (os : Os) (started : os.Started) (H : Type) (enc : TypeId × Value → H) :
    ReturnsInHanded {} Tryd.checked os 4 .any (fun w args => (Rows.fnFintRoundsSpec.pre enc Tryd.prog Tryd.f4 [] false w args ∧ laidMetH Tryd.prog laid1 w) ∧ sizedMet enc Tryd.prog Tryd.f4 (OpenSpec.ofChange Rows.fnFintRoundsSpec) false w args)
      (Rows.fnFintRoundsSpec.post enc Tryd.prog Tryd.f4 false true false false) := by
  refine returnsInHanded_of_change_and (C := Tryd.checked) (X := fun w _ => laidMetH Tryd.prog laid1 w) (fun _ _ _ hh h => h.of_heap hh) own started (by kernel_rfl) Tryd.func4
    (ChangeSpec.witness_shaped (enc := enc) (C := Tryd.checked) (os := os) (X := fun w _ => laidMetH Tryd.prog laid1 w) false (World.doorLaid Tryd.prog 52 os) #[.int .u64 0, .int .i64 0] 8 rfl (World.shaped_of_RefB (by kernel_rfl) (by kernel_rfl)) (by kernel_rfl) (by kernel_rfl) (by kernel_rfl) (door_met1 os _)) ?_
  intro W base args ds gs before hval0 hW _ _ hL _
  have hval : ∀ (j : Nat) t v, Tryd.f4.params[j]? = some t → args[j]? = some v → Value.okWide Tryd.prog W .any base t v := hval0
  have hW' := hW
  obtain ⟨p, q, hA0, hV, rfl, hfz, hnd⟩ := hW
  have hA : DataW.TrodAll enc Tryd.prog W 0 (fun _ => true) true Tryd.f4.params.toList args.toList ds p := hA0
  rw [Tryd.params4] at hA hval
  obtain ⟨v0, vs0, d0, ds0, p0, q0, hargs, rfl, rfl, h0, r0⟩ := trodAll_cons hA
  obtain ⟨v1, vs1, d1, ds1, p1, q1, rfl, rfl, rfl, h1, r1⟩ := trodAll_cons r0
  obtain ⟨rfl, rfl, rfl⟩ := trodAll_nil r1
  obtain rfl : args = #[v0, v1] := by have := congrArg List.toArray hargs; simpa only [Array.toArray_toList] using this
  obtain ⟨x, rfl, rfl, rfl, wx⟩ := open_int Tryd.underlying22 (hval 0 22 v0 rfl rfl) h0
  obtain ⟨t, rfl, rfl, rfl, wt⟩ := open_int Tryd.underlying3 (hval 1 3 v1 rfl rfl) h1
  clear hA0 hval0
  have hp := of_laid1 hL
  have wx0 := wx
  have wt0 := wt
  simp only [Lit.wf, IntKind.min, IntKind.max, IntKind.signed, IntKind.bits, Bool.and_eq_true, decide_eq_true_eq] at wx
  have hV' : DataW.TrodVars enc Tryd.prog W (fun x => true) Rows.fnFintRoundsSpec.vars gs q := hV
  obtain ⟨g1, rfl⟩ := one_of (vars_len _ _ _ hV')
  have hlt : ∀ x ∈ [] ++ ([] ++ []) ++ q, x.block < W.heap.size := fun x hx => hW'.lt x hx
  refine (walk x t W hp (by simpa using wx.1)).mono fun e W' ⟨he, bel⟩ => ?_
  subst he
  exact ⟨_, rfl, _, _, _, [], _, _, hW', trodAll_mk1 (shut_bool Tryd.underlying4 _), (trodAll_cons_mk (shut_int Tryd.underlying22 wx0) (trodAll_cons_mk (shut_int Tryd.underlying3 wt0) trodAll_mk0)), vars_stay bel _ _ _ vars_rows (fun x hx => hlt x (by simp [hx])) hV', bel.frame _, fun h => by cases h⟩
theorem over : Rows.fnFintRoundsRow.holds Tryd.pinned (OpenSpec.ofChange Rows.fnFintRoundsSpec) :=
  OpenClaim.holds_of_wide 4 Tryd.f4 rfl rfl rfl rfl rfl rfl rfl ⟨rfl, rfl, rfl, rfl, rfl⟩ rfl rfl rfl rfl rfl (by kernel_rfl) Tryd.func4 (by kernel_rfl)
    (of_decide_eq_true (by kernel_rfl)) (by unfold Func.isWrapper; first | (rw [if_pos (by decide +kernel)]; kernel_rfl) | (rw [if_neg (by decide +kernel)]; exact ⟨rfl, rfl⟩))
    (fun os started H enc _ => lifted os started H enc)
end Go.Proofs.YtnjbfebeigginaaDoor.fnFintRounds
namespace Go.Proofs.YtnjbfebeigginaaDoor
theorem fnFintRounds_said : Rows.FnFintRoundsSaid := fnFintRounds.over
/-- The tied card. -/
theorem fnFintRounds_holds : Rows.FnFintRoundsCardSaid :=
  Claim7.holds_tied_plain_at .later [] [.data] true (true, "9a6afdfb92571cf7e8ece3a74d228950b103fe3ddaac53d5758f68b9c45bf2f6") false
    fnFintRounds_said (fun _ h => by cases h) (by kernel_rfl) (fun _ h => by cases h) fnFintRounds_row_tie rfl ⟨rfl, rfl⟩ (by kernel_rfl) rfl
    (fun f fn hf hfn => by
      obtain rfl : f = 4 := Option.some.inj ((show Tryd.prog.funcNamed "given.example/pub-alexandrine/laws.FnFintRounds" = some 4 by kernel_rfl).symm.trans hf) |>.symm
      obtain rfl : fn = Tryd.f4 := (Option.some.inj (Tryd.func4.symm.trans hfn)).symm
      exact ⟨by kernel_rfl, fun j t ht => by
        rw [Tryd.params4] at ht
        have hm : t ∈ [22, 3] := by simpa using Array.mem_of_getElem? ht
        have hall : ([22, 3].all fun u => !Tryd.prog.wantsStandIn u) = true := by kernel_rfl
        exact (show Tryd.prog.wantsStandIn t = false by simpa using List.all_eq_true.1 hall t hm)⟩)
    (by kernel_rfl)
#print axioms fnFintRounds_holds
end Go.Proofs.YtnjbfebeigginaaDoor
