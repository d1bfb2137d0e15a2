/-
  The specification's reading of a number, in all ways.
  The law over texts of decimal numbers: it holds for every input.
-/
import Derived.Test.YteohmbannpbokaaDoorParseSpecA
import Derived.Test.YteohmbannpbokaaDoorParseSpecB
import Derived.Test.YteohmbannpbokaaDoorParseSpecC
import Derived.Test.YteohmbannpbokaaDoorParseSpecD
import Derived.Test.YteohmbannpbokaaDoorParseSpecL
set_option linter.unusedVariables false
set_option linter.unusedSimpArgs false
namespace Go.Proofs.YteohmbannpbokaaDoor.ParseWalk
open Go.RowKit Go.Proofs.YteohmbannpbokaaDoorW.PrintWords Go.Proofs.YteohmbannpbokaaDoorW.PrintLast Go.Proofs.YteohmbannpbokaaDoorW.PrintMore Go.Proofs.YteohmbannpbokaaDoor.StrLaw Go.Proofs.YteohmbannpbokaaDoor.TextLaw Go.Proofs.YteohmbannpbokaaDoor.TextWalk Go.Proofs.YteohmbannpbokaaDoor.NatWalk Go.Proofs.YteohmbannpbokaaDoor.SpecWalk Go.Proofs.YteohmbannpbokaaDoor.ParseLaw
open Go.Proofs.YteohmbannpbokaaDoor.PteShort

theorem ParseDec_n (t : ByteArray) (ht : t.size ≤ 2147483647) (w : World) : Calls Tryd.prog 4 #[.string t] w fun e w' => ∃ (ok b : Bool) (v : Value) (E : Int), e = .returned (.tuple #[.agg #[.bool b, v, .int .i64 E], .bool ok]) ∧ (∃ A l c, v = .slice A l c) ∧ (ok = true → t.size ≤ 300 → ∃ N okp, Rdv w' okp v N ∧ Read t b N E) ∧ Below w.heap.size w w' := by
  by_cases h0 : t.size = 0
  · exact ParseDec_A t ht h0 w
  · by_cases h45 : bt t 0 = 45
    · exact ParseDec_B t ht (by omega) h45 w
    · by_cases h43 : bt t 0 = 43
      · exact ParseDec_C t ht (by omega) h43 w
      · exact ParseDec_D t ht (by omega) h45 h43 w
end Go.Proofs.YteohmbannpbokaaDoor.ParseWalk

set_option linter.unusedVariables false
set_option linter.unusedSimpArgs false
namespace Go.Proofs.YteohmbannpbokaaDoor.ParseWalk
open Go.RowKit Go.Proofs.YteohmbannpbokaaDoorW.PrintWords Go.Proofs.YteohmbannpbokaaDoorW.PrintLast Go.Proofs.YteohmbannpbokaaDoorW.PrintMore Go.Proofs.YteohmbannpbokaaDoor.Digs Go.Proofs.YteohmbannpbokaaDoor.StrLaw Go.Proofs.YteohmbannpbokaaDoor.NatLaw Go.Proofs.YteohmbannpbokaaDoor.NatWalk Go.Proofs.YteohmbannpbokaaDoor.SpecWalk Go.Proofs.YteohmbannpbokaaDoor.TextLaw Go.Proofs.YteohmbannpbokaaDoor.TextWalk Go.Proofs.YteohmbannpbokaaDoor.ParseLaw Go.Proofs.YteohmbannpbokaaDoor.ScanWalk

theorem Read.nd {t : ByteArray} {b : Bool} {N : Nat} {E : Int} (h : Read t b N E) : nd N ≤ 300 := by
  obtain ⟨sg, m, neg, pt, x, hp, rfl, _, _⟩ := h.out
  have h1 := hp.pos
  have h2 := hp.le2
  have h3 := hp.small
  have h4 := dskip_lt hp.dig (m - sg) (by omega)
  have h5 := dcnt_le pt sg (m - sg)
  have h6 := nd_le h4
  omega
set_option maxRecDepth 100000 in
set_option maxHeartbeats 8000000 in
theorem teShort_n (t : ByteArray) (ht : t.size ≤ 2147483647) (w : World) : Calls Tryd.prog 5 #[.string t] w fun e w' => ∃ r : Bool, e = .returned (.bool r) ∧ (r = true → t.size ≤ 300) ∧ Below w.heap.size w w' := by
  have HP := Aside0.mk (fun w => ParseDec_n t ht w)
  have hti : (t.size : Int) ≤ 2147483647 := by omega
  go_enter Tryd.func5, Tryd.ntmps5
  go_wp2_with (first | (go_at_call 4; refine (HP.out _).mono ?_; rintro e w1 ⟨ok, b, v, E, rfl, ⟨A, l, c, rfl⟩, hgood, hb⟩; have HGD := Aside0.mk hgood; have HB1 := Aside0.mk hb; clear hgood hb; have dx0 : Box (w1.alloc (Obj.cells #[.bool b, .slice A l c, .int .i64 E] 27)) w1.heap.size [.bool b, .slice A l c, .int .i64 E] := Box.new3 w1 _ _ _ _ _ rfl; have kd0 := dx0.c0; have kd1 := dx0.c1; have kd2 := dx0.c2; have HBW := Aside0.mk (below_step HB1.out ((Below.refl w1.heap.size w1).alloc (Nat.le_refl _) (Obj.cells #[.bool b, .slice A l c, .int .i64 E] 27))); have HA1 := Aside0.mk ((Below.refl w1.heap.size w1).alloc (Nat.le_refl _) (Obj.cells #[.bool b, .slice A l c, .int .i64 E] 27)); clear dx0) | (go_at_call 11; obtain ⟨N, okp, hv, hrd⟩ := HGD.out (by first | rfl | trivial) (by omega); refine (digits_n N okp _ _ (hv.below HA1.out) (by have := hrd.nd; have := len_le_nd N; omega)).mono ?_; rintro e w3 ⟨rfl, hb⟩; replace HBW := Aside0.mk (below_step HBW.out hb); clear hb hv hrd))
  all_goals first
    | (go_ret; exact ⟨_, rfl, fun _ => by omega, HBW.out⟩)
    | (go_ret; exact ⟨false, rfl, fun h => absurd h (by decide), HBW.out⟩)
    | (go_ret; exact .inl ⟨rfl, HBW.out⟩)
    | (go_ret; exact .inr ⟨rfl, by omega, HBW.out⟩)
/-- What the package's variables hold. -/
structure Vars (w : World) : Prop where
  mk :: (eof : ∃ p, Eof w p) (most : w.cell? ⟨0, 0, none⟩ = some (.int .i64 10000))
set_option maxRecDepth 100000 in
set_option maxHeartbeats 8000000 in
theorem law_in (t : ByteArray) (ht : t.size ≤ 2147483647) (w : World) (hV : Vars w) : Calls Tryd.prog 3 #[.string t] w fun e w' => e = .returned (.bool true) ∧ Below w.heap.size w w' := by
  obtain ⟨⟨p, hE⟩, hM⟩ := hV
  have HP := Aside0.mk (fun w => ParseDec_n t ht w)
  have HT := Aside0.mk (fun w => teShort_n t ht w)
  have HE := Aside0.mk hE
  have HM := Aside0.mk hM
  have hti : (t.size : Int) ≤ 2147483647 := by omega
  clear hE hM
  go_enter Tryd.func3, Tryd.ntmps3
  go_wp2_with (first | (go_at_call 4; refine (HP.out _).mono ?_; rintro e w1 ⟨ok, b, v, E, rfl, ⟨A, l, c, rfl⟩, hgood, hb⟩; have HGD := Aside0.mk hgood; have HB1 := Aside0.mk hb; clear hgood hb; have dx0 : Box (w1.alloc (Obj.cells #[.bool b, .slice A l c, .int .i64 E] 27)) w1.heap.size [.bool b, .slice A l c, .int .i64 E] := Box.new3 w1 _ _ _ _ _ rfl; have DX := Aside0.mk dx0; have kd0 := dx0.c0; have kd1 := dx0.c1; have kd2 := dx0.c2; have HBW := Aside0.mk (below_step HB1.out ((Below.refl w1.heap.size w1).alloc (Nat.le_refl _) (Obj.cells #[.bool b, .slice A l c, .int .i64 E] 27))); have HA1 := Aside0.mk ((Below.refl w1.heap.size w1).alloc (Nat.le_refl _) (Obj.cells #[.bool b, .slice A l c, .int .i64 E] 27)); clear dx0) | (go_at_call 5; refine (HT.out _).mono ?_; rintro e w2 ⟨r, rfl, hr, hb⟩; have HR := Aside0.mk hr; replace DX := Aside0.mk (DX.out.below hb); replace HBW := Aside0.mk (below_step HBW.out hb); replace HA1 := Aside0.mk (below_step HA1.out hb); clear hr hb; have ke0 := DX.out.c0; have ke1 := DX.out.c1; have ke2 := DX.out.c2) | (go_at_call 6; obtain ⟨N, okp, hv, hrd⟩ := HGD.out (by first | rfl | trivial) (HR.out (by first | rfl | trivial)); have HND := Aside0.mk hrd.nd; obtain ⟨sg, m, neg, pt, x, hp, hN, hbb, hEE⟩ := hrd.out; refine (DecParse_n t sg m N neg pt x p _ hp hN (HE.out.below HBW.out) (pw_cell_below HBW.out HM.out) E hEE (by omega)).mono ?_; rw [← hbb]; rintro e w3 ⟨rfl, hb⟩; replace HBW := Aside0.mk (below_step (below_step HBW.out hb) ((Below.refl w3.heap.size w3).alloc (Nat.le_refl _) (Obj.cells #[.string (stext b N), .int .i64 E] 32))); have HV := Aside0.mk (hv.below (below_step (below_step HA1.out hb) ((Below.refl w3.heap.size w3).alloc (Nat.le_refl _) (Obj.cells #[.string (stext b N), .int .i64 E] 32)))); replace DX := Aside0.mk ((DX.out.below hb).alloc (Obj.cells #[.string (stext b N), .int .i64 E] 32)); have gx0 : Box (w3.alloc (Obj.cells #[.string (stext b N), .int .i64 E] 32)) w3.heap.size [.string (stext b N), .int .i64 E] := Box.new2 w3 _ _ _ _ rfl; have kg0 := gx0.c0; have kg1 := gx0.c1; have kh0 := DX.out.c0; have kh1 := DX.out.c1; have kh2 := DX.out.c2; clear hb hv hrd hp hN hEE hbb gx0) | (go_at_call 7; refine (Like_n b N E okp _ _ HV.out (by have := HND.out; omega)).mono ?_; rintro e w4 ⟨rfl, hb⟩; replace HBW := Aside0.mk (below_step HBW.out hb); clear hb))
  all_goals first
    | (go_ret; exact ⟨rfl, HBW.out⟩)
    | (go_ret; exact ⟨by simp, HBW.out⟩)
theorem law_calls (t : ByteArray) (w : World) (hV : Vars w) : Calls Tryd.prog 3 #[.string t] w fun e w' => e = .returned (.bool true) ∧ Below w.heap.size w w' := by
  by_cases ht : t.size ≤ 2147483647
  · exact law_in t ht w hV
  · have hti : ¬ (t.size : Int) ≤ 2147483647 := by omega
    have htj : (2147483647 : Int) < (t.size : Int) := by omega
    go_enter Tryd.func3, Tryd.ntmps3
    go_wp2
    go_ret
    exact ⟨rfl, Below.refl _ _⟩
end Go.Proofs.YteohmbannpbokaaDoor.ParseWalk
