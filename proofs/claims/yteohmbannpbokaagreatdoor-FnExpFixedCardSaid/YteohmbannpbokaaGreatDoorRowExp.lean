/-
  FnExpFixed, proved: for every text, number and sign the law returns true, and all reads afterwards as before; over the program's own text of the variables (the tied card).
-/
import Derived.Test.YteohmbannpbokaaGreatDoorRows
import Derived.Test.YteohmbannpbokaaGreatDoorJ40
import Derived.Test.YteohmbannpbokaaGreatDoorCards
import Derived.Test.YteohmbannpbokaaGreatDoorTie
import Derived.WalkKit
import Derived.ProofKit
import Derived.LaidMore
import Derived.OpenShut
import Derived.ChangeMaps5
import Derived.Carry
import Derived.Deep.Strs
import Derived.Stop.Joined
import Derived.Stop.LaidErr
import Derived.ChangeOld
import Derived.ChangeBook
import Derived.ChangeStays
import Derived.Below
import Derived.SevenTiedAt
namespace Go.Proofs.YteohmbannpbokaaGreatDoor.fnExpFixed
open Go.ChangeShapes Go.WideShapes Go.ChangeAt Go.ChangeMaps Go.RowKit Go.Proofs.YteohmbannpbokaaGreatDoor.WordWalk Go.Proofs.YteohmbannpbokaaGreatDoor.LawExp
set_option linter.unusedVariables false
set_option linter.unusedSimpArgs false
theorem own : ownKnob Tryz.prog.godebug = none := by kernel_rfl
theorem laidOut : laidOutB Tryz.prog = true := by kernel_rfl
theorem gB : Tryz.prog.globalNamed "given.example/pub-alexandrine/pub/bigall.basicSqrThreshold" = some 0 := by kernel_rfl
theorem gS : Tryz.prog.globalNamed "given.example/pub-alexandrine/pub/bigall.karatsubaSqrThreshold" = some 1 := by kernel_rfl
theorem gK : Tryz.prog.globalNamed "given.example/pub-alexandrine/pub/bigall.karatsubaThreshold" = some 2 := by kernel_rfl
theorem gD : Tryz.prog.globalNamed "given.example/pub-alexandrine/pub/bigall.divRecursiveThreshold" = some 4 := by kernel_rfl
theorem tB : (Tryz.prog.globals[0]?).map (·.type) = some 3 := by kernel_rfl
theorem tS : (Tryz.prog.globals[1]?).map (·.type) = some 3 := by kernel_rfl
theorem tK : (Tryz.prog.globals[2]?).map (·.type) = some 3 := by kernel_rfl
theorem tD : (Tryz.prog.globals[4]?).map (·.type) = some 3 := by kernel_rfl
abbrev laidV : List (String × DataW Unit) := [("given.example/pub-alexandrine/pub/bigall.divRecursiveThreshold", Rows.laid_given_example_pub_alexandrine_pub_bigall_divRecursiveThreshold), ("given.example/pub-alexandrine/pub/bigall.karatsubaThreshold", Rows.laid_given_example_pub_alexandrine_pub_bigall_karatsubaThreshold), ("given.example/pub-alexandrine/pub/bigall.basicSqrThreshold", Rows.laid_given_example_pub_alexandrine_pub_bigall_basicSqrThreshold), ("given.example/pub-alexandrine/pub/bigall.karatsubaSqrThreshold", Rows.laid_given_example_pub_alexandrine_pub_bigall_karatsubaSqrThreshold)]
theorem int_of {W : World} {nm : String} {d : DataW Unit} {rest : List (String × DataW Unit)} {g : Nat} {y : Int} (hd0 : d = .lit (.int .i64 y)) (hgn : Tryz.prog.globalNamed nm = some g) (htn : (Tryz.prog.globals[g]?).map (·.type) = some 3) (h : laidMet Tryz.prog ((nm, d) :: rest) W) : W.cell? ⟨g, 0, none⟩ = some (.int .i64 y) := by
  subst hd0
  obtain ⟨ps, ⟨g', t, cs, fuel, p, q, hg, ht, hv, hd, _, _⟩, _, _⟩ := h
  obtain rfl := Option.some.inj (hgn.symm.trans hg)
  obtain rfl := Option.some.inj (htn.symm.trans ht)
  obtain ⟨z, e1, e2, _⟩ := DataW.trod_int Tryz.underlying3 hd
  have e3 : (DataW.lit (.int .i64 y) : DataW Unit) = .lit (.int .i64 z) := (Prod.mk.inj e2).1
  have hz : z = y := by
    simp only [DataW.lit.injEq, Lit.int.injEq, true_and] at e3
    exact e3.symm
  have h0 := World.var?_cell hg hv 0
  rw [h0]
  have h1 : cs.toList[0]? = some (.int .i64 z) := by rw [e1]; rfl
  rw [← hz]
  simpa using h1
theorem of_laid {W : World} (h : laidMetH Tryz.prog laidV W) : Thr W := by
  rw [MakeChecks.laidMetH_plain _ _ _ (by kernel_rfl)] at h
  have h2 := h
  exact ⟨int_of rfl gB tB (laidMet.tail (laidMet.tail h2)), int_of rfl gS tS (laidMet.tail (laidMet.tail (laidMet.tail h2))), int_of rfl gK tK (laidMet.tail h2)⟩
theorem door_met (os : Os) (args : Array Value) : laidMetH Tryz.prog laidV ((World.doorLaid Tryz.prog 65 os).forCall (fun _ _ => 0) ⟨#[], args, []⟩).memory :=
  laidMetH_of_parts3 (fuel := 8) (laidMet_of_run' 8 (by kernel_rfl) (by kernel_rfl)) (by kernel_rfl) (by kernel_rfl)
theorem vars_stay {H : Type} {enc : TypeId × Value → H} {W W' : World} (hb : Below W.heap.size W W') : ∀ (ns : List String) (gs : List (DataW H)) (ps : List MemPlace),
    (∀ n ∈ ns, ∃ g t, Tryz.prog.globalNamed n = some g ∧ (Tryz.prog.globals[g]?).map (·.type) = some t ∧ Tryz.prog.readableRec t = true ∧ t < Tryz.prog.types.size) → (∀ x ∈ ps, x.block < W.heap.size) →
    DataW.TrodVars enc Tryz.prog W (fun _ => true) ns gs ps → DataW.TrodVars enc Tryz.prog W' (fun b => decide (b < W.heap.size)) ns gs ps := by
  intro ns
  induction ns with
  | nil => intro gs ps _ _ h; cases gs with
    | nil => exact h
    | cons => exact h.elim
  | cons n ns ih =>
    intro gs ps hrow hlt h
    cases gs with
    | nil => exact h.elim
    | cons d ds =>
      obtain ⟨g, t, cs, fuel, p, q, h1, h2, h3, h4, hs, rfl⟩ := h
      obtain ⟨g', t', e1, e2, hr, ht⟩ := hrow n List.mem_cons_self
      obtain rfl := Option.some.inj (h1.symm.trans e1)
      obtain rfl := Option.some.inj (h2.symm.trans e2)
      have hp : ∀ x ∈ p, x.block < W.heap.size := fun x hx => hlt x (by simp [hx])
      have hq : ∀ x ∈ q, x.block < W.heap.size := fun x hx => hlt x (by simp [hx])
      have h3' : W'.var? Tryz.prog n = some cs := by
        unfold World.var? at h3 ⊢
        rw [h1] at h3 ⊢
        simp only [Option.bind_some] at h3 ⊢
        have hg : g < W.heap.size := by
          apply Classical.byContradiction
          intro hge
          rw [Array.getElem?_eq_none (by omega)] at h3
          cases h3
        rw [hb.block g hg]
        exact h3
      exact ⟨g, t, cs, fuel, p, q, h1, h2, h3', DataW.trod_stays (kids_book laidOut hr) (book_sized hr) (fun h => by cases h) ⟨ht, book_self t⟩ h4 (fun x hx => hb.same (hp x hx)) (fun x hx => by simpa using hp x hx),
        ih ds q (fun m hm => hrow m (List.mem_cons_of_mem _ hm)) hq hs, rfl⟩
theorem vars_rows : ∀ n ∈ Rows.fnExpFixedSpec.vars, ∃ g t, Tryz.prog.globalNamed n = some g ∧ (Tryz.prog.globals[g]?).map (·.type) = some t ∧ Tryz.prog.readableRec t = true ∧ t < Tryz.prog.types.size := by
  intro n hn
  rcases List.mem_cons.1 hn with rfl | hn
  · exact ⟨0, 3, gB, tB, by kernel_rfl, of_decide_eq_true (by kernel_rfl)⟩
  rcases List.mem_cons.1 hn with rfl | hn
  · exact ⟨1, 3, gS, tS, by kernel_rfl, of_decide_eq_true (by kernel_rfl)⟩
  rcases List.mem_cons.1 hn with rfl | hn
  · exact ⟨2, 3, gK, tK, by kernel_rfl, of_decide_eq_true (by kernel_rfl)⟩
  rcases List.mem_cons.1 hn with rfl | hn
  · exact ⟨4, 3, gD, tD, by kernel_rfl, of_decide_eq_true (by kernel_rfl)⟩
  · cases hn
theorem vars_len {H : Type} {enc : TypeId × Value → H} {W : World} : ∀ (ns : List String) (gs : List (DataW H)) (ps : List MemPlace), DataW.TrodVars enc Tryz.prog W (fun _ => true) ns gs ps → gs.length = ns.length := by
  intro ns
  induction ns with
  | nil => intro gs ps h; cases gs with
    | nil => rfl
    | cons => exact h.elim
  | cons n ns ih =>
    intro gs ps h
    cases gs with
    | nil => exact h.elim
    | cons d ds =>
      obtain ⟨g, t, cs, fuel, p, q, _, _, _, _, hs, _⟩ := h
      simp [ih ds q hs]
theorem four_of {α : Type} {l : List α} (h : l.length = 4) : ∃ a b c d, l = [a, b, c, d] := by
  match l, h with
  | [a, b, c, d], _ => exact ⟨a, b, c, d, rfl⟩
theorem size_of {W : World} (h : Thr W) : 3 ≤ W.heap.size := World.block_lt_of_cell? W _ h.m
set_option maxRecDepth 100000 in
theorem lifted (os : Os) (started : os.Started) (H : Type) (enc : TypeId × Value → H) :
    ReturnsInHanded {} Tryz.checked os 3 .any (fun w args => (Rows.fnExpFixedSpec.pre enc Tryz.prog Tryz.f3 [] false w args ∧ laidMetH Tryz.prog laidV w) ∧ sizedMet enc Tryz.prog Tryz.f3 (OpenSpec.ofChange Rows.fnExpFixedSpec) false w args)
      (Rows.fnExpFixedSpec.post enc Tryz.prog Tryz.f3 false true false false) := by
  refine returnsInHanded_of_change_and (C := Tryz.checked) (X := fun w _ => laidMetH Tryz.prog laidV w) (fun _ _ _ hh h => h.of_heap hh) own started (by kernel_rfl) Tryz.func3
    (ChangeSpec.witness_shaped (enc := enc) (C := Tryz.checked) (os := os) (X := fun w _ => laidMetH Tryz.prog laidV w) false (World.doorLaid Tryz.prog 65 os) #[.string ⟨#[]⟩, .int .i64 0, .bool false] 8 rfl (World.shaped_of_RefB (by kernel_rfl) (by kernel_rfl)) (by kernel_rfl) (by kernel_rfl) (by kernel_rfl) (door_met os _)) ?_
  intro W base args ds gs before hval0 hW _ _ hL _
  have hval : ∀ (j : Nat) t v, Tryz.f3.params[j]? = some t → args[j]? = some v → Value.okWide Tryz.prog W .any base t v := hval0
  have hW' := hW
  obtain ⟨p, q, hA0, hV, rfl, hfz, hnd⟩ := hW
  have hA : DataW.TrodAll enc Tryz.prog W 0 (fun _ => true) true Tryz.f3.params.toList args.toList ds p := hA0
  rw [Tryz.params3] at hA hval
  obtain ⟨v0, vs0, d0, ds0, p0, q0, hargs, rfl, rfl, h0, r0⟩ := trodAll_cons hA
  obtain ⟨v1, vs1, d1, ds1, p1, q1, rfl, rfl, rfl, h1, r1⟩ := trodAll_cons r0
  obtain ⟨v2, vs2, d2, ds2, p2, q2, rfl, rfl, rfl, h2, r2⟩ := trodAll_cons r1
  obtain ⟨rfl, rfl, rfl⟩ := trodAll_nil r2
  obtain rfl : args = #[v0, v1, v2] := by have := congrArg List.toArray hargs; simpa only [Array.toArray_toList] using this
  obtain ⟨s, rfl, rfl, rfl, ws⟩ := open_string Tryz.underlying9 (hval 0 9 v0 rfl rfl) h0
  obtain ⟨z, rfl, rfl, rfl, wz⟩ := open_int Tryz.underlying3 (hval 1 3 v1 rfl rfl) h1
  obtain ⟨b, rfl, rfl, rfl⟩ := open_bool Tryz.underlying4 (hval 2 4 v2 rfl rfl) h2
  clear hA0 hval0
  have hV0 := of_laid hL
  have hV' : DataW.TrodVars enc Tryz.prog W (fun x => true) Rows.fnExpFixedSpec.vars gs q := hV
  obtain ⟨g1, g2, g3, g4, rfl⟩ := four_of (vars_len _ _ _ hV')
  have hlt : ∀ x ∈ [] ++ ([] ++ ([] ++ [])) ++ q, x.block < W.heap.size := fun x hx => hW'.lt x hx
  refine (law_calls s z b W hV0 (size_of hV0)).mono fun e W' ⟨he, bel⟩ => ?_
  subst he
  exact ⟨_, rfl, _, _, _, [], _, _, hW', trodAll_mk1 (shut_bool Tryz.underlying4 _), (trodAll_cons_mk (shut_string Tryz.underlying9 ws) (trodAll_cons_mk (shut_int Tryz.underlying3 wz) (trodAll_cons_mk (shut_bool Tryz.underlying4 _) trodAll_mk0))), vars_stay bel _ _ _ vars_rows (fun x hx => hlt x (by simp [hx])) hV', bel.frame _, fun h => by cases h⟩
theorem over : Rows.fnExpFixedRow.holds Tryz.pinned (OpenSpec.ofChange Rows.fnExpFixedSpec) :=
  OpenClaim.holds_of_wide 3 Tryz.f3 rfl rfl rfl rfl rfl rfl rfl ⟨rfl, rfl, rfl, rfl, rfl⟩ rfl rfl rfl rfl rfl (by kernel_rfl) Tryz.func3 (by kernel_rfl)
    (of_decide_eq_true (by kernel_rfl)) (by unfold Func.isWrapper; first | (rw [if_pos (by decide +kernel)]; kernel_rfl) | (rw [if_neg (by decide +kernel)]; exact ⟨rfl, rfl⟩))
    (fun os started H enc _ => lifted os started H enc)
end Go.Proofs.YteohmbannpbokaaGreatDoor.fnExpFixed
namespace Go.Proofs.YteohmbannpbokaaGreatDoor
theorem fnExpFixed_said : Rows.FnExpFixedSaid := fnExpFixed.over
theorem fnExpFixed_holds : Rows.FnExpFixedCardSaid :=
  Claim7.holds_tied_plain_at .later [] [.data, .data, .data, .data] true (true, "b575b48e1e1ea33d8ba2d81804ec3be14fc2f15f4f5025d029a0ffd307a0ee20") false
    fnExpFixed_said (fun _ h => by cases h) (by kernel_rfl) (fun _ h => by cases h) fnExpFixed_row_tie rfl ⟨rfl, rfl⟩ (by kernel_rfl) rfl
    (fun f fn hf hfn => by
      obtain rfl : f = 3 := Option.some.inj ((show Tryz.prog.funcNamed "given.example/pub-alexandrine/laws.FnExpFixed" = some 3 by kernel_rfl).symm.trans hf) |>.symm
      obtain rfl : fn = Tryz.f3 := (Option.some.inj (Tryz.func3.symm.trans hfn)).symm
      exact ⟨by kernel_rfl, fun j t ht => by
        rw [Tryz.params3] at ht
        have hm : t ∈ [9, 3, 4] := by simpa using Array.mem_of_getElem? ht
        have hall : ([9, 3, 4].all fun u => !Tryz.prog.wantsStandIn u) = true := by kernel_rfl
        exact (show Tryz.prog.wantsStandIn t = false by simpa using List.all_eq_true.1 hall t hm)⟩)
    (by kernel_rfl)
#print axioms fnExpFixed_holds
end Go.Proofs.YteohmbannpbokaaGreatDoor
