/-
  The specification's reading of a number, in one of four ways.
-/
import Derived.Test.YteohmbannpbokaaDoorParseSpecL
set_option linter.unusedVariables false
set_option linter.unusedSimpArgs false
namespace Go.Proofs.YteohmbannpbokaaDoor.ParseWalk
open Go.RowKit Go.Proofs.YteohmbannpbokaaDoorW.PrintWords Go.Proofs.YteohmbannpbokaaDoorW.PrintLast Go.Proofs.YteohmbannpbokaaDoorW.PrintMore Go.Proofs.YteohmbannpbokaaDoor.StrLaw Go.Proofs.YteohmbannpbokaaDoor.TextLaw Go.Proofs.YteohmbannpbokaaDoor.TextWalk Go.Proofs.YteohmbannpbokaaDoor.NatWalk Go.Proofs.YteohmbannpbokaaDoor.SpecWalk Go.Proofs.YteohmbannpbokaaDoor.ParseLaw
open Go.Proofs.YteohmbannpbokaaDoor.PteShort

set_option maxRecDepth 100000 in
set_option maxHeartbeats 8000000 in
theorem ParseDec_A (t : ByteArray) (ht : t.size ≤ 2147483647) (h0 : t.size = 0) (w : World) : Calls Tryd.prog 4 #[.string t] w fun e w' => ∃ (ok b : Bool) (v : Value) (E : Int), e = .returned (.tuple #[.agg #[.bool b, v, .int .i64 E], .bool ok]) ∧ (∃ A l c, v = .slice A l c) ∧ (ok = true → t.size ≤ 300 → ∃ N okp, Rdv w' okp v N ∧ Read t b N E) ∧ Below w.heap.size w w' := by
  have hti : (t.size : Int) ≤ 2147483647 := by omega
  have he := toList_nil h0
  have HC := Aside0.mk (Cutt.none (t := t) (by rw [show (0 : Int) = ((0 : Nat) : Int) from rfl, bt_ge (by omega)]; decide) (by rw [show (0 : Int) = ((0 : Nat) : Int) from rfl, bt_ge (by omega)]; decide))
  have H0 := Aside0.mk h0
  clear h0
  go_enter Tryd.func4, Tryd.ntmps4
  go_wp2
  skip
  have bx0 : Box (w.alloc (.cells #[.bool false, .slice none 0 0, .int .i64 0] 27)) w.heap.size [.bool false, .slice none 0 0, .int .i64 0] := Box.new3 w _ _ _ _ _ rfl
  have hb0 : Below w.heap.size w (w.alloc (.cells #[.bool false, .slice none 0 0, .int .i64 0] 27)) := (Below.refl _ _).alloc (Nat.le_refl _) _
  have HBX := Aside0.mk bx0
  have HB0 := Aside0.mk hb0
  have HSC := Aside0.mk (ScanD.start t)
  have hss : (t.size : Int) ≤ 2147483647 := by have := HC.out.size; omega
  clear bx0 hb0
  generalize w.alloc (.cells #[.bool false, .slice none 0 0, .int .i64 0] 27) = w0 at *
  go_loopg [5, 7, 8] (t.size + 1) (fun gg v5 v7 v8 w' => ∃ (u : ByteArray) (i : Nat) (pt : Int), v5 = .string u ∧ v7 = .int .i64 i ∧ v8 = .int .i64 pt ∧ Aside0 (ScanD t u i pt) ∧ Aside0 (i + gg = t.size + 1) ∧ w' = w0)
  case atStart => exact ⟨⟨#[]⟩, 0, -1, rfl, by simp, rfl, HSC, ⟨by simp⟩, rfl⟩
  case round =>
    clear HSC
    obtain ⟨u, i, pt, rfl, rfl, rfl, HI, HG, rfl⟩ := hrel
    have hii : (i : Int) ≤ (t.size : Int) := by have := HI.out.le; omega
    have huu : (u.size : Int) ≤ 2147483647 := by have := HI.out.small; omega
    have hpt : pt = -1 ∨ (0 ≤ pt ∧ pt < i) := by rcases HI.out.pnt with h | h; exact .inl h; exact .inr ⟨h.1, h.2.1⟩
    by_cases hi : (i : Int) < (t.size : Int)
    · exact absurd hi (by have := H0.out; omega)
    · obtain rfl : i = t.size := by have := HI.out.le; omega
      rcases hpt with rfl | ⟨hp0, hpi⟩
      · have HSI := Aside0.mk HI.out
        have kb0 := HBX.out.c0; have kb1 := HBX.out.c1; have kb2 := HBX.out.c2; have kf0 := HBX.out.f0; have kf1 := HBX.out.f1; have kf2 := HBX.out.f2
        have hnat := NatOf_d u HI.out.ud (by omega)
        by_cases hu : 0 < u.size
        · rw [decide_eq_true hu] at hnat
          have HNO := Aside0.mk hnat
          have HU := Aside0.mk hu
          clear hnat hu
          go_wp2_with (first | (go_at_call 8; refine (HX.out _).mono ?_; rintro e w2 ⟨rfl, hb⟩; replace HB0 := Aside0.mk (below_step HB0.out hb); replace HBX := Aside0.mk (HBX.out.below hb); clear hb; have kb0 := HBX.out.c0; have kb1 := HBX.out.c1; have kb2 := HBX.out.c2; have kf0 := HBX.out.f0; have kf1 := HBX.out.f1; have kf2 := HBX.out.f2) | (go_at_call 9; refine (HNO.out _).mono ?_; have HSZ := Aside0.mk (World.block_lt_of_cell? _ _ HBX.out.c0); rintro e w3 ⟨v, rfl, hv, hb⟩; replace HB0 := Aside0.mk (below_step HB0.out hb); replace HBX := Aside0.mk (HBX.out.below hb); clear hb; have kb0 := HBX.out.c0; have kb1 := HBX.out.c1; have kb2 := HBX.out.c2; have kf0 := HBX.out.f0; have kf1 := HBX.out.f1; have kf2 := HBX.out.f2; have HV := Aside0.mk hv; clear hv; obtain ⟨A1, c1, rfl, _, _⟩ := HV.out.form) | (go_at_call 10; refine (wholeOf_n false _ _ _ _ HV.out).mono ?_; rintro e w4 ⟨rfl, hb⟩; replace HV := Aside0.mk (HV.out.below hb); replace HB0 := Aside0.mk (below_step HB0.out hb); replace HBX := Aside0.mk (HBX.out.below hb); clear hb; have kb0 := HBX.out.c0; have kb1 := HBX.out.c1; have kb2 := HBX.out.c2; have kf0 := HBX.out.f0; have kf1 := HBX.out.f1; have kf2 := HBX.out.f2))
          have hbx := Box.put3q HBX.out (.bool (SpecWalk.sgn false (dnum u))) (.slice A1 (Digs.digs (dnum u)).length c1) (.int .i64 (0))
          refine bodyPost_ret (v := .tuple #[.agg #[.bool (SpecWalk.sgn false (dnum u)), .slice A1 (Digs.digs (dnum u)).length c1, .int .i64 (0)], .bool true]) (by simp [results, Tryd.results4, go_sem, hbx.c0, hbx.c1, hbx.c2]) rfl ⟨true, _, _, _, rfl, ⟨_, _, _, rfl⟩, fun hok ht3 => ?_, below3 HB0.out (Nat.le_refl _) _ _ _⟩
          exact ⟨_, _, HV.out.far3 (fun k (hk : _ ≤ k) => by have := HSZ.out; omega) _ _ _, read_of (x := 0) HC.out HSI.out ht3 HU.out (.inl ⟨rfl, rfl⟩) _ (by simp)⟩
        · rw [decide_eq_false hu] at hnat
          have HNO := Aside0.mk hnat
          have HU := Aside0.mk hu
          clear hnat hu
          go_wp2_with (first | (go_at_call 8; refine (HX.out _).mono ?_; rintro e w2 ⟨rfl, hb⟩; replace HB0 := Aside0.mk (below_step HB0.out hb); replace HBX := Aside0.mk (HBX.out.below hb); clear hb; have kb0 := HBX.out.c0; have kb1 := HBX.out.c1; have kb2 := HBX.out.c2; have kf0 := HBX.out.f0; have kf1 := HBX.out.f1; have kf2 := HBX.out.f2) | (go_at_call 9; refine (HNO.out _).mono ?_; have HSZ := Aside0.mk (World.block_lt_of_cell? _ _ HBX.out.c0); rintro e w3 ⟨v, rfl, hv, hb⟩; replace HB0 := Aside0.mk (below_step HB0.out hb); replace HBX := Aside0.mk (HBX.out.below hb); clear hb; have kb0 := HBX.out.c0; have kb1 := HBX.out.c1; have kb2 := HBX.out.c2; have kf0 := HBX.out.f0; have kf1 := HBX.out.f1; have kf2 := HBX.out.f2; have HV := Aside0.mk hv; clear hv; obtain ⟨A1, c1, rfl, _, _⟩ := HV.out.form) | (go_at_call 10; refine (wholeOf_n false _ _ _ _ HV.out).mono ?_; rintro e w4 ⟨rfl, hb⟩; replace HV := Aside0.mk (HV.out.below hb); replace HB0 := Aside0.mk (below_step HB0.out hb); replace HBX := Aside0.mk (HBX.out.below hb); clear hb; have kb0 := HBX.out.c0; have kb1 := HBX.out.c1; have kb2 := HBX.out.c2; have kf0 := HBX.out.f0; have kf1 := HBX.out.f1; have kf2 := HBX.out.f2))
          have hbx := Box.put3q HBX.out (.bool (SpecWalk.sgn false (dnum u))) (.slice A1 (Digs.digs (dnum u)).length c1) (.int .i64 (0))
          refine bodyPost_ret (v := .tuple #[.agg #[.bool (SpecWalk.sgn false (dnum u)), .slice A1 (Digs.digs (dnum u)).length c1, .int .i64 (0)], .bool false]) (by simp [results, Tryd.results4, go_sem, hbx.c0, hbx.c1, hbx.c2]) rfl ⟨false, _, _, _, rfl, ⟨_, _, _, rfl⟩, fun hok ht3 => ?_, below3 HB0.out (Nat.le_refl _) _ _ _⟩
          exact absurd hok (by decide)
      · have HSI := Aside0.mk HI.out
        have kb0 := HBX.out.c0; have kb1 := HBX.out.c1; have kb2 := HBX.out.c2; have kf0 := HBX.out.f0; have kf1 := HBX.out.f1; have kf2 := HBX.out.f2
        have hnat := NatOf_d u HI.out.ud (by omega)
        by_cases hu : 0 < u.size
        · rw [decide_eq_true hu] at hnat
          have HNO := Aside0.mk hnat
          have HU := Aside0.mk hu
          clear hnat hu
          go_wp2_with (first | (go_at_call 8; refine (HX.out _).mono ?_; rintro e w2 ⟨rfl, hb⟩; replace HB0 := Aside0.mk (below_step HB0.out hb); replace HBX := Aside0.mk (HBX.out.below hb); clear hb; have kb0 := HBX.out.c0; have kb1 := HBX.out.c1; have kb2 := HBX.out.c2; have kf0 := HBX.out.f0; have kf1 := HBX.out.f1; have kf2 := HBX.out.f2) | (go_at_call 9; refine (HNO.out _).mono ?_; have HSZ := Aside0.mk (World.block_lt_of_cell? _ _ HBX.out.c0); rintro e w3 ⟨v, rfl, hv, hb⟩; replace HB0 := Aside0.mk (below_step HB0.out hb); replace HBX := Aside0.mk (HBX.out.below hb); clear hb; have kb0 := HBX.out.c0; have kb1 := HBX.out.c1; have kb2 := HBX.out.c2; have kf0 := HBX.out.f0; have kf1 := HBX.out.f1; have kf2 := HBX.out.f2; have HV := Aside0.mk hv; clear hv; obtain ⟨A1, c1, rfl, _, _⟩ := HV.out.form) | (go_at_call 10; refine (wholeOf_n false _ _ _ _ HV.out).mono ?_; rintro e w4 ⟨rfl, hb⟩; replace HV := Aside0.mk (HV.out.below hb); replace HB0 := Aside0.mk (below_step HB0.out hb); replace HBX := Aside0.mk (HBX.out.below hb); clear hb; have kb0 := HBX.out.c0; have kb1 := HBX.out.c1; have kb2 := HBX.out.c2; have kf0 := HBX.out.f0; have kf1 := HBX.out.f1; have kf2 := HBX.out.f2))
          have hbx := Box.put3q HBX.out (.bool (SpecWalk.sgn false (dnum u))) (.slice A1 (Digs.digs (dnum u)).length c1) (.int .i64 (pt + 1 - (t.size : Int)))
          refine bodyPost_ret (v := .tuple #[.agg #[.bool (SpecWalk.sgn false (dnum u)), .slice A1 (Digs.digs (dnum u)).length c1, .int .i64 (pt + 1 - (t.size : Int))], .bool true]) (by simp [results, Tryd.results4, go_sem, hbx.c0, hbx.c1, hbx.c2]) rfl ⟨true, _, _, _, rfl, ⟨_, _, _, rfl⟩, fun hok ht3 => ?_, below3 HB0.out (Nat.le_refl _) _ _ _⟩
          exact ⟨_, _, HV.out.far3 (fun k (hk : _ ≤ k) => by have := HSZ.out; omega) _ _ _, read_of (x := 0) HC.out HSI.out ht3 HU.out (.inl ⟨rfl, rfl⟩) _ (by rw [if_neg (by omega)]; omega)⟩
        · rw [decide_eq_false hu] at hnat
          have HNO := Aside0.mk hnat
          have HU := Aside0.mk hu
          clear hnat hu
          go_wp2_with (first | (go_at_call 8; refine (HX.out _).mono ?_; rintro e w2 ⟨rfl, hb⟩; replace HB0 := Aside0.mk (below_step HB0.out hb); replace HBX := Aside0.mk (HBX.out.below hb); clear hb; have kb0 := HBX.out.c0; have kb1 := HBX.out.c1; have kb2 := HBX.out.c2; have kf0 := HBX.out.f0; have kf1 := HBX.out.f1; have kf2 := HBX.out.f2) | (go_at_call 9; refine (HNO.out _).mono ?_; have HSZ := Aside0.mk (World.block_lt_of_cell? _ _ HBX.out.c0); rintro e w3 ⟨v, rfl, hv, hb⟩; replace HB0 := Aside0.mk (below_step HB0.out hb); replace HBX := Aside0.mk (HBX.out.below hb); clear hb; have kb0 := HBX.out.c0; have kb1 := HBX.out.c1; have kb2 := HBX.out.c2; have kf0 := HBX.out.f0; have kf1 := HBX.out.f1; have kf2 := HBX.out.f2; have HV := Aside0.mk hv; clear hv; obtain ⟨A1, c1, rfl, _, _⟩ := HV.out.form) | (go_at_call 10; refine (wholeOf_n false _ _ _ _ HV.out).mono ?_; rintro e w4 ⟨rfl, hb⟩; replace HV := Aside0.mk (HV.out.below hb); replace HB0 := Aside0.mk (below_step HB0.out hb); replace HBX := Aside0.mk (HBX.out.below hb); clear hb; have kb0 := HBX.out.c0; have kb1 := HBX.out.c1; have kb2 := HBX.out.c2; have kf0 := HBX.out.f0; have kf1 := HBX.out.f1; have kf2 := HBX.out.f2))
          have hbx := Box.put3q HBX.out (.bool (SpecWalk.sgn false (dnum u))) (.slice A1 (Digs.digs (dnum u)).length c1) (.int .i64 (pt + 1 - (t.size : Int)))
          refine bodyPost_ret (v := .tuple #[.agg #[.bool (SpecWalk.sgn false (dnum u)), .slice A1 (Digs.digs (dnum u)).length c1, .int .i64 (pt + 1 - (t.size : Int))], .bool false]) (by simp [results, Tryd.results4, go_sem, hbx.c0, hbx.c1, hbx.c2]) rfl ⟨false, _, _, _, rfl, ⟨_, _, _, rfl⟩, fun hok ht3 => ?_, below3 HB0.out (Nat.le_refl _) _ _ _⟩
          exact absurd hok (by decide)
end Go.Proofs.YteohmbannpbokaaDoor.ParseWalk
