/-
  The specification's reading of a number, in one of four ways.
-/
import Derived.Test.YteohmbannpbokaaDoorParseSpecL
set_option linter.unusedVariables false
set_option linter.unusedSimpArgs false
namespace Go.Proofs.YteohmbannpbokaaDoor.ParseWalk
open Go.RowKit Go.Proofs.YteohmbannpbokaaDoorW.PrintWords Go.Proofs.YteohmbannpbokaaDoorW.PrintLast Go.Proofs.YteohmbannpbokaaDoorW.PrintMore Go.Proofs.YteohmbannpbokaaDoor.StrLaw Go.Proofs.YteohmbannpbokaaDoor.TextLaw Go.Proofs.YteohmbannpbokaaDoor.TextWalk Go.Proofs.YteohmbannpbokaaDoor.NatWalk Go.Proofs.YteohmbannpbokaaDoor.SpecWalk Go.Proofs.YteohmbannpbokaaDoor.ParseLaw
open Go.Proofs.YteohmbannpbokaaDoor.PteShort

set_option maxRecDepth 100000 in
set_option maxHeartbeats 8000000 in
theorem ParseDec_B (t : ByteArray) (ht : t.size ≤ 2147483647) (ht00 : 0 < t.size) (h45 : bt t 0 = 45) (w : World) : Calls Tryd.prog 4 #[.string t] w fun e w' => ∃ (ok b : Bool) (v : Value) (E : Int), e = .returned (.tuple #[.agg #[.bool b, v, .int .i64 E], .bool ok]) ∧ (∃ A l c, v = .slice A l c) ∧ (ok = true → t.size ≤ 300 → ∃ N okp, Rdv w' okp v N ∧ Read t b N E) ∧ Below w.heap.size w w' := by
  have hti : (t.size : Int) ≤ 2147483647 := by omega
  have he := toList_ne (s := t) (by omega)
  have hx0 : ∀ h : 0 < t.size, ((t[0]'h).toNat : Int) = bt t 0 := fun h => by have := bt_nat h; simpa using this
  have ht0 : (0 : Int) < (t.size : Int) := by omega
  have ht1 : (1 : Int) ≤ (t.size : Int) := by omega
  have HC := Aside0.mk (Cutt.one (t := t) (neg := true) ht00 (.inl ⟨h45, rfl⟩))
  rw [h45] at hx0
  clear h45
  go_enter Tryd.func4, Tryd.ntmps4
  go_wp2
  generalize t.extract 1 t.size = s at *
  have bx0 : Box (w.alloc (.cells #[.bool false, .slice none 0 0, .int .i64 0] 27)) w.heap.size [.bool false, .slice none 0 0, .int .i64 0] := Box.new3 w _ _ _ _ _ rfl
  have hb0 : Below w.heap.size w (w.alloc (.cells #[.bool false, .slice none 0 0, .int .i64 0] 27)) := (Below.refl _ _).alloc (Nat.le_refl _) _
  have HBX := Aside0.mk bx0
  have HB0 := Aside0.mk hb0
  have HSC := Aside0.mk (ScanD.start s)
  have hss : (s.size : Int) ≤ 2147483647 := by have := HC.out.size; omega
  clear bx0 hb0
  generalize w.alloc (.cells #[.bool false, .slice none 0 0, .int .i64 0] 27) = w0 at *
  go_loopg [5, 7, 8] (s.size + 1) (fun gg v5 v7 v8 w' => ∃ (u : ByteArray) (i : Nat) (pt : Int), v5 = .string u ∧ v7 = .int .i64 i ∧ v8 = .int .i64 pt ∧ Aside0 (ScanD s u i pt) ∧ Aside0 (i + gg = s.size + 1) ∧ w' = w0)
  case atStart => exact ⟨⟨#[]⟩, 0, -1, rfl, by simp, rfl, HSC, ⟨by simp⟩, rfl⟩
  case round =>
    clear HSC
    obtain ⟨u, i, pt, rfl, rfl, rfl, HI, HG, rfl⟩ := hrel
    have hii : (i : Int) ≤ (s.size : Int) := by have := HI.out.le; omega
    have huu : (u.size : Int) ≤ 2147483647 := by have := HI.out.small; omega
    have hpt : pt = -1 ∨ (0 ≤ pt ∧ pt < i) := by rcases HI.out.pnt with h | h; exact .inl h; exact .inr ⟨h.1, h.2.1⟩
    by_cases hi : (i : Int) < (s.size : Int)
    · have hxn : ∀ h : i < s.size, ((s[i]'h).toNat : Int) = bt s i := fun h => bt_nat h
      have HIL := Aside0.mk (show i < s.size by omega)
      obtain ⟨y0, y1⟩ := bt_range s i
      by_cases hd : 48 ≤ bt s i ∧ bt s i ≤ 57
      · have HN := Aside0.mk (HI.out.digit HIL.out hd)
        obtain ⟨d0, d1⟩ := hd
        clear HI hpt
        generalize bt s i = y at *
        have y46 : (y == 46) = false := beq_eq_false_iff_ne.mpr (by omega)
        have y46' : ¬ y = 46 := by omega
        have hi1 : (i : Int) + 1 ≤ (s.size : Int) := by omega
        have hi0 : (0 : Int) ≤ (i : Int) := Int.natCast_nonneg _
        have hi2 : (i : Int) ≤ (i : Int) + 1 := by omega
        have hi3 : i + 1 ≤ s.size := by omega
        go_wp2
        go_roundg (gk - 1)
        case measure => have := HG.out; have := HIL.out; omega
        case rel => exact ⟨_, i + 1, _, rfl, by simp, rfl, HN, ⟨by have := HG.out; have := HIL.out; omega⟩, rfl⟩
      · by_cases hp : bt s i = 46 ∧ pt = -1
        · obtain ⟨hp1, rfl⟩ := hp
          have HN := Aside0.mk (HI.out.point HIL.out hp1)
          rw [hp1] at hxn
          clear HI hpt hd hp1 y0 y1
          go_wp2
          go_roundg (gk - 1)
          case measure => have := HG.out; have := HIL.out; omega
          case rel => exact ⟨_, i + 1, _, rfl, by simp, rfl, HN, ⟨by have := HG.out; have := HIL.out; omega⟩, rfl⟩
        · have hne : ((i : Int) == (s.size : Int)) = false := beq_eq_false_iff_ne.mpr (by omega)
          have HEE := Aside0.mk (id (show True from trivial))
          have hyd : ¬ (48 ≤ bt s i ∧ bt s i ≤ 57) := hd
          have HYP := Aside0.mk hp
          clear hd hp
          by_cases hE1 : bt s i = 101
          · have HEE := Aside0.mk (show bt s i = 69 ∨ bt s i = 101 from .inr hE1)
            rw [hE1] at hxn
            clear hE1 hyd y0 y1 hne
            rcases hpt with rfl | ⟨hp0, hpi⟩
            · have HSI := Aside0.mk HI.out
              have kb0 := HBX.out.c0; have kb1 := HBX.out.c1; have kb2 := HBX.out.c2; have kf0 := HBX.out.f0; have kf1 := HBX.out.f1; have kf2 := HBX.out.f2
              obtain ⟨x, okx, hcall, htext, hrange⟩ := exponent_n (s.extract (i + 1) s.size) (by rw [size_extract (Nat.le_refl _)]; omega)
              have HX := Aside0.mk hcall
              have HXT := Aside0.mk htext
              have HXR := Aside0.mk hrange
              have hi1 : (i : Int) + 1 ≤ (s.size : Int) := by omega
              have hx0 : -1000000000 ≤ x := hrange.1
              have hx1 : x ≤ 1000000000 := hrange.2
              clear hcall htext hrange
              cases okx
              · go_wp2_with (first | (go_at_call 8; refine (HX.out _).mono ?_; rintro e w2 ⟨rfl, hb⟩; replace HB0 := Aside0.mk (below_step HB0.out hb); replace HBX := Aside0.mk (HBX.out.below hb); clear hb; have kb0 := HBX.out.c0; have kb1 := HBX.out.c1; have kb2 := HBX.out.c2; have kf0 := HBX.out.f0; have kf1 := HBX.out.f1; have kf2 := HBX.out.f2) | (go_at_call 9; refine (HNO.out _).mono ?_; have HSZ := Aside0.mk (World.block_lt_of_cell? _ _ HBX.out.c0); rintro e w3 ⟨v, rfl, hv, hb⟩; replace HB0 := Aside0.mk (below_step HB0.out hb); replace HBX := Aside0.mk (HBX.out.below hb); clear hb; have kb0 := HBX.out.c0; have kb1 := HBX.out.c1; have kb2 := HBX.out.c2; have kf0 := HBX.out.f0; have kf1 := HBX.out.f1; have kf2 := HBX.out.f2; have HV := Aside0.mk hv; clear hv; obtain ⟨A1, c1, rfl, _, _⟩ := HV.out.form) | (go_at_call 10; refine (wholeOf_n true _ _ _ _ HV.out).mono ?_; rintro e w4 ⟨rfl, hb⟩; replace HV := Aside0.mk (HV.out.below hb); replace HB0 := Aside0.mk (below_step HB0.out hb); replace HBX := Aside0.mk (HBX.out.below hb); clear hb; have kb0 := HBX.out.c0; have kb1 := HBX.out.c1; have kb2 := HBX.out.c2; have kf0 := HBX.out.f0; have kf1 := HBX.out.f1; have kf2 := HBX.out.f2))
                have hbx := Box.put3q HBX.out (.bool false) (.slice none 0 0) (.int .i64 0)
                refine bodyPost_ret (v := .tuple #[.agg #[.bool false, .slice none 0 0, .int .i64 0], .bool false]) (by simp [results, Tryd.results4, go_sem, hbx.c0, hbx.c1, hbx.c2]) rfl ⟨false, _, _, _, rfl, ⟨_, _, _, rfl⟩, fun hok ht3 => absurd hok (by decide), below3 HB0.out (Nat.le_refl _) _ _ _⟩
              · skip
                have hnat := NatOf_d u HI.out.ud (by omega)
                by_cases hu : 0 < u.size
                · rw [decide_eq_true hu] at hnat
                  have HNO := Aside0.mk hnat
                  have HU := Aside0.mk hu
                  clear hnat hu
                  go_wp2_with (first | (go_at_call 8; refine (HX.out _).mono ?_; rintro e w2 ⟨rfl, hb⟩; replace HB0 := Aside0.mk (below_step HB0.out hb); replace HBX := Aside0.mk (HBX.out.below hb); clear hb; have kb0 := HBX.out.c0; have kb1 := HBX.out.c1; have kb2 := HBX.out.c2; have kf0 := HBX.out.f0; have kf1 := HBX.out.f1; have kf2 := HBX.out.f2) | (go_at_call 9; refine (HNO.out _).mono ?_; have HSZ := Aside0.mk (World.block_lt_of_cell? _ _ HBX.out.c0); rintro e w3 ⟨v, rfl, hv, hb⟩; replace HB0 := Aside0.mk (below_step HB0.out hb); replace HBX := Aside0.mk (HBX.out.below hb); clear hb; have kb0 := HBX.out.c0; have kb1 := HBX.out.c1; have kb2 := HBX.out.c2; have kf0 := HBX.out.f0; have kf1 := HBX.out.f1; have kf2 := HBX.out.f2; have HV := Aside0.mk hv; clear hv; obtain ⟨A1, c1, rfl, _, _⟩ := HV.out.form) | (go_at_call 10; refine (wholeOf_n true _ _ _ _ HV.out).mono ?_; rintro e w4 ⟨rfl, hb⟩; replace HV := Aside0.mk (HV.out.below hb); replace HB0 := Aside0.mk (below_step HB0.out hb); replace HBX := Aside0.mk (HBX.out.below hb); clear hb; have kb0 := HBX.out.c0; have kb1 := HBX.out.c1; have kb2 := HBX.out.c2; have kf0 := HBX.out.f0; have kf1 := HBX.out.f1; have kf2 := HBX.out.f2))
                  have hbx := Box.put3q HBX.out (.bool (SpecWalk.sgn true (dnum u))) (.slice A1 (Digs.digs (dnum u)).length c1) (.int .i64 (x))
                  refine bodyPost_ret (v := .tuple #[.agg #[.bool (SpecWalk.sgn true (dnum u)), .slice A1 (Digs.digs (dnum u)).length c1, .int .i64 (x)], .bool true]) (by simp [results, Tryd.results4, go_sem, hbx.c0, hbx.c1, hbx.c2]) rfl ⟨true, _, _, _, rfl, ⟨_, _, _, rfl⟩, fun hok ht3 => ?_, below3 HB0.out (Nat.le_refl _) _ _ _⟩
                  exact ⟨_, _, HV.out.far3 (fun k (hk : _ ≤ k) => by have := HSZ.out; omega) _ _ _, read_of (x := x) HC.out HSI.out ht3 HU.out (.inr ⟨HIL.out, HEE.out, (by first | exact HXT.out rfl | exact HXT.out trivial), HXR.out.1, HXR.out.2⟩) _ (by simp)⟩
                · rw [decide_eq_false hu] at hnat
                  have HNO := Aside0.mk hnat
                  have HU := Aside0.mk hu
                  clear hnat hu
                  go_wp2_with (first | (go_at_call 8; refine (HX.out _).mono ?_; rintro e w2 ⟨rfl, hb⟩; replace HB0 := Aside0.mk (below_step HB0.out hb); replace HBX := Aside0.mk (HBX.out.below hb); clear hb; have kb0 := HBX.out.c0; have kb1 := HBX.out.c1; have kb2 := HBX.out.c2; have kf0 := HBX.out.f0; have kf1 := HBX.out.f1; have kf2 := HBX.out.f2) | (go_at_call 9; refine (HNO.out _).mono ?_; have HSZ := Aside0.mk (World.block_lt_of_cell? _ _ HBX.out.c0); rintro e w3 ⟨v, rfl, hv, hb⟩; replace HB0 := Aside0.mk (below_step HB0.out hb); replace HBX := Aside0.mk (HBX.out.below hb); clear hb; have kb0 := HBX.out.c0; have kb1 := HBX.out.c1; have kb2 := HBX.out.c2; have kf0 := HBX.out.f0; have kf1 := HBX.out.f1; have kf2 := HBX.out.f2; have HV := Aside0.mk hv; clear hv; obtain ⟨A1, c1, rfl, _, _⟩ := HV.out.form) | (go_at_call 10; refine (wholeOf_n true _ _ _ _ HV.out).mono ?_; rintro e w4 ⟨rfl, hb⟩; replace HV := Aside0.mk (HV.out.below hb); replace HB0 := Aside0.mk (below_step HB0.out hb); replace HBX := Aside0.mk (HBX.out.below hb); clear hb; have kb0 := HBX.out.c0; have kb1 := HBX.out.c1; have kb2 := HBX.out.c2; have kf0 := HBX.out.f0; have kf1 := HBX.out.f1; have kf2 := HBX.out.f2))
                  have hbx := Box.put3q HBX.out (.bool (SpecWalk.sgn true (dnum u))) (.slice A1 (Digs.digs (dnum u)).length c1) (.int .i64 (x))
                  refine bodyPost_ret (v := .tuple #[.agg #[.bool (SpecWalk.sgn true (dnum u)), .slice A1 (Digs.digs (dnum u)).length c1, .int .i64 (x)], .bool false]) (by simp [results, Tryd.results4, go_sem, hbx.c0, hbx.c1, hbx.c2]) rfl ⟨false, _, _, _, rfl, ⟨_, _, _, rfl⟩, fun hok ht3 => ?_, below3 HB0.out (Nat.le_refl _) _ _ _⟩
                  exact absurd hok (by decide)
            · have HSI := Aside0.mk HI.out
              have kb0 := HBX.out.c0; have kb1 := HBX.out.c1; have kb2 := HBX.out.c2; have kf0 := HBX.out.f0; have kf1 := HBX.out.f1; have kf2 := HBX.out.f2
              obtain ⟨x, okx, hcall, htext, hrange⟩ := exponent_n (s.extract (i + 1) s.size) (by rw [size_extract (Nat.le_refl _)]; omega)
              have HX := Aside0.mk hcall
              have HXT := Aside0.mk htext
              have HXR := Aside0.mk hrange
              have hi1 : (i : Int) + 1 ≤ (s.size : Int) := by omega
              have hx0 : -1000000000 ≤ x := hrange.1
              have hx1 : x ≤ 1000000000 := hrange.2
              clear hcall htext hrange
              cases okx
              · go_wp2_with (first | (go_at_call 8; refine (HX.out _).mono ?_; rintro e w2 ⟨rfl, hb⟩; replace HB0 := Aside0.mk (below_step HB0.out hb); replace HBX := Aside0.mk (HBX.out.below hb); clear hb; have kb0 := HBX.out.c0; have kb1 := HBX.out.c1; have kb2 := HBX.out.c2; have kf0 := HBX.out.f0; have kf1 := HBX.out.f1; have kf2 := HBX.out.f2) | (go_at_call 9; refine (HNO.out _).mono ?_; have HSZ := Aside0.mk (World.block_lt_of_cell? _ _ HBX.out.c0); rintro e w3 ⟨v, rfl, hv, hb⟩; replace HB0 := Aside0.mk (below_step HB0.out hb); replace HBX := Aside0.mk (HBX.out.below hb); clear hb; have kb0 := HBX.out.c0; have kb1 := HBX.out.c1; have kb2 := HBX.out.c2; have kf0 := HBX.out.f0; have kf1 := HBX.out.f1; have kf2 := HBX.out.f2; have HV := Aside0.mk hv; clear hv; obtain ⟨A1, c1, rfl, _, _⟩ := HV.out.form) | (go_at_call 10; refine (wholeOf_n true _ _ _ _ HV.out).mono ?_; rintro e w4 ⟨rfl, hb⟩; replace HV := Aside0.mk (HV.out.below hb); replace HB0 := Aside0.mk (below_step HB0.out hb); replace HBX := Aside0.mk (HBX.out.below hb); clear hb; have kb0 := HBX.out.c0; have kb1 := HBX.out.c1; have kb2 := HBX.out.c2; have kf0 := HBX.out.f0; have kf1 := HBX.out.f1; have kf2 := HBX.out.f2))
                have hbx := Box.put3q HBX.out (.bool false) (.slice none 0 0) (.int .i64 0)
                refine bodyPost_ret (v := .tuple #[.agg #[.bool false, .slice none 0 0, .int .i64 0], .bool false]) (by simp [results, Tryd.results4, go_sem, hbx.c0, hbx.c1, hbx.c2]) rfl ⟨false, _, _, _, rfl, ⟨_, _, _, rfl⟩, fun hok ht3 => absurd hok (by decide), below3 HB0.out (Nat.le_refl _) _ _ _⟩
              · skip
                have hnat := NatOf_d u HI.out.ud (by omega)
                by_cases hu : 0 < u.size
                · rw [decide_eq_true hu] at hnat
                  have HNO := Aside0.mk hnat
                  have HU := Aside0.mk hu
                  clear hnat hu
                  go_wp2_with (first | (go_at_call 8; refine (HX.out _).mono ?_; rintro e w2 ⟨rfl, hb⟩; replace HB0 := Aside0.mk (below_step HB0.out hb); replace HBX := Aside0.mk (HBX.out.below hb); clear hb; have kb0 := HBX.out.c0; have kb1 := HBX.out.c1; have kb2 := HBX.out.c2; have kf0 := HBX.out.f0; have kf1 := HBX.out.f1; have kf2 := HBX.out.f2) | (go_at_call 9; refine (HNO.out _).mono ?_; have HSZ := Aside0.mk (World.block_lt_of_cell? _ _ HBX.out.c0); rintro e w3 ⟨v, rfl, hv, hb⟩; replace HB0 := Aside0.mk (below_step HB0.out hb); replace HBX := Aside0.mk (HBX.out.below hb); clear hb; have kb0 := HBX.out.c0; have kb1 := HBX.out.c1; have kb2 := HBX.out.c2; have kf0 := HBX.out.f0; have kf1 := HBX.out.f1; have kf2 := HBX.out.f2; have HV := Aside0.mk hv; clear hv; obtain ⟨A1, c1, rfl, _, _⟩ := HV.out.form) | (go_at_call 10; refine (wholeOf_n true _ _ _ _ HV.out).mono ?_; rintro e w4 ⟨rfl, hb⟩; replace HV := Aside0.mk (HV.out.below hb); replace HB0 := Aside0.mk (below_step HB0.out hb); replace HBX := Aside0.mk (HBX.out.below hb); clear hb; have kb0 := HBX.out.c0; have kb1 := HBX.out.c1; have kb2 := HBX.out.c2; have kf0 := HBX.out.f0; have kf1 := HBX.out.f1; have kf2 := HBX.out.f2))
                  have hbx := Box.put3q HBX.out (.bool (SpecWalk.sgn true (dnum u))) (.slice A1 (Digs.digs (dnum u)).length c1) (.int .i64 (pt + 1 - (i : Int) + x))
                  refine bodyPost_ret (v := .tuple #[.agg #[.bool (SpecWalk.sgn true (dnum u)), .slice A1 (Digs.digs (dnum u)).length c1, .int .i64 (pt + 1 - (i : Int) + x)], .bool true]) (by simp [results, Tryd.results4, go_sem, hbx.c0, hbx.c1, hbx.c2]) rfl ⟨true, _, _, _, rfl, ⟨_, _, _, rfl⟩, fun hok ht3 => ?_, below3 HB0.out (Nat.le_refl _) _ _ _⟩
                  exact ⟨_, _, HV.out.far3 (fun k (hk : _ ≤ k) => by have := HSZ.out; omega) _ _ _, read_of (x := x) HC.out HSI.out ht3 HU.out (.inr ⟨HIL.out, HEE.out, (by first | exact HXT.out rfl | exact HXT.out trivial), HXR.out.1, HXR.out.2⟩) _ (by rw [if_neg (by omega)]; omega)⟩
                · rw [decide_eq_false hu] at hnat
                  have HNO := Aside0.mk hnat
                  have HU := Aside0.mk hu
                  clear hnat hu
                  go_wp2_with (first | (go_at_call 8; refine (HX.out _).mono ?_; rintro e w2 ⟨rfl, hb⟩; replace HB0 := Aside0.mk (below_step HB0.out hb); replace HBX := Aside0.mk (HBX.out.below hb); clear hb; have kb0 := HBX.out.c0; have kb1 := HBX.out.c1; have kb2 := HBX.out.c2; have kf0 := HBX.out.f0; have kf1 := HBX.out.f1; have kf2 := HBX.out.f2) | (go_at_call 9; refine (HNO.out _).mono ?_; have HSZ := Aside0.mk (World.block_lt_of_cell? _ _ HBX.out.c0); rintro e w3 ⟨v, rfl, hv, hb⟩; replace HB0 := Aside0.mk (below_step HB0.out hb); replace HBX := Aside0.mk (HBX.out.below hb); clear hb; have kb0 := HBX.out.c0; have kb1 := HBX.out.c1; have kb2 := HBX.out.c2; have kf0 := HBX.out.f0; have kf1 := HBX.out.f1; have kf2 := HBX.out.f2; have HV := Aside0.mk hv; clear hv; obtain ⟨A1, c1, rfl, _, _⟩ := HV.out.form) | (go_at_call 10; refine (wholeOf_n true _ _ _ _ HV.out).mono ?_; rintro e w4 ⟨rfl, hb⟩; replace HV := Aside0.mk (HV.out.below hb); replace HB0 := Aside0.mk (below_step HB0.out hb); replace HBX := Aside0.mk (HBX.out.below hb); clear hb; have kb0 := HBX.out.c0; have kb1 := HBX.out.c1; have kb2 := HBX.out.c2; have kf0 := HBX.out.f0; have kf1 := HBX.out.f1; have kf2 := HBX.out.f2))
                  have hbx := Box.put3q HBX.out (.bool (SpecWalk.sgn true (dnum u))) (.slice A1 (Digs.digs (dnum u)).length c1) (.int .i64 (pt + 1 - (i : Int) + x))
                  refine bodyPost_ret (v := .tuple #[.agg #[.bool (SpecWalk.sgn true (dnum u)), .slice A1 (Digs.digs (dnum u)).length c1, .int .i64 (pt + 1 - (i : Int) + x)], .bool false]) (by simp [results, Tryd.results4, go_sem, hbx.c0, hbx.c1, hbx.c2]) rfl ⟨false, _, _, _, rfl, ⟨_, _, _, rfl⟩, fun hok ht3 => ?_, below3 HB0.out (Nat.le_refl _) _ _ _⟩
                  exact absurd hok (by decide)
          · by_cases hE2 : bt s i = 69
            · have HEE := Aside0.mk (show bt s i = 69 ∨ bt s i = 101 from .inl hE2)
              rw [hE2] at hxn
              clear hE1 hE2 hyd y0 y1 hne
              rcases hpt with rfl | ⟨hp0, hpi⟩
              · have HSI := Aside0.mk HI.out
                have kb0 := HBX.out.c0; have kb1 := HBX.out.c1; have kb2 := HBX.out.c2; have kf0 := HBX.out.f0; have kf1 := HBX.out.f1; have kf2 := HBX.out.f2
                obtain ⟨x, okx, hcall, htext, hrange⟩ := exponent_n (s.extract (i + 1) s.size) (by rw [size_extract (Nat.le_refl _)]; omega)
                have HX := Aside0.mk hcall
                have HXT := Aside0.mk htext
                have HXR := Aside0.mk hrange
                have hi1 : (i : Int) + 1 ≤ (s.size : Int) := by omega
                have hx0 : -1000000000 ≤ x := hrange.1
                have hx1 : x ≤ 1000000000 := hrange.2
                clear hcall htext hrange
                cases okx
                · go_wp2_with (first | (go_at_call 8; refine (HX.out _).mono ?_; rintro e w2 ⟨rfl, hb⟩; replace HB0 := Aside0.mk (below_step HB0.out hb); replace HBX := Aside0.mk (HBX.out.below hb); clear hb; have kb0 := HBX.out.c0; have kb1 := HBX.out.c1; have kb2 := HBX.out.c2; have kf0 := HBX.out.f0; have kf1 := HBX.out.f1; have kf2 := HBX.out.f2) | (go_at_call 9; refine (HNO.out _).mono ?_; have HSZ := Aside0.mk (World.block_lt_of_cell? _ _ HBX.out.c0); rintro e w3 ⟨v, rfl, hv, hb⟩; replace HB0 := Aside0.mk (below_step HB0.out hb); replace HBX := Aside0.mk (HBX.out.below hb); clear hb; have kb0 := HBX.out.c0; have kb1 := HBX.out.c1; have kb2 := HBX.out.c2; have kf0 := HBX.out.f0; have kf1 := HBX.out.f1; have kf2 := HBX.out.f2; have HV := Aside0.mk hv; clear hv; obtain ⟨A1, c1, rfl, _, _⟩ := HV.out.form) | (go_at_call 10; refine (wholeOf_n true _ _ _ _ HV.out).mono ?_; rintro e w4 ⟨rfl, hb⟩; replace HV := Aside0.mk (HV.out.below hb); replace HB0 := Aside0.mk (below_step HB0.out hb); replace HBX := Aside0.mk (HBX.out.below hb); clear hb; have kb0 := HBX.out.c0; have kb1 := HBX.out.c1; have kb2 := HBX.out.c2; have kf0 := HBX.out.f0; have kf1 := HBX.out.f1; have kf2 := HBX.out.f2))
                  have hbx := Box.put3q HBX.out (.bool false) (.slice none 0 0) (.int .i64 0)
                  refine bodyPost_ret (v := .tuple #[.agg #[.bool false, .slice none 0 0, .int .i64 0], .bool false]) (by simp [results, Tryd.results4, go_sem, hbx.c0, hbx.c1, hbx.c2]) rfl ⟨false, _, _, _, rfl, ⟨_, _, _, rfl⟩, fun hok ht3 => absurd hok (by decide), below3 HB0.out (Nat.le_refl _) _ _ _⟩
                · skip
                  have hnat := NatOf_d u HI.out.ud (by omega)
                  by_cases hu : 0 < u.size
                  · rw [decide_eq_true hu] at hnat
                    have HNO := Aside0.mk hnat
                    have HU := Aside0.mk hu
                    clear hnat hu
                    go_wp2_with (first | (go_at_call 8; refine (HX.out _).mono ?_; rintro e w2 ⟨rfl, hb⟩; replace HB0 := Aside0.mk (below_step HB0.out hb); replace HBX := Aside0.mk (HBX.out.below hb); clear hb; have kb0 := HBX.out.c0; have kb1 := HBX.out.c1; have kb2 := HBX.out.c2; have kf0 := HBX.out.f0; have kf1 := HBX.out.f1; have kf2 := HBX.out.f2) | (go_at_call 9; refine (HNO.out _).mono ?_; have HSZ := Aside0.mk (World.block_lt_of_cell? _ _ HBX.out.c0); rintro e w3 ⟨v, rfl, hv, hb⟩; replace HB0 := Aside0.mk (below_step HB0.out hb); replace HBX := Aside0.mk (HBX.out.below hb); clear hb; have kb0 := HBX.out.c0; have kb1 := HBX.out.c1; have kb2 := HBX.out.c2; have kf0 := HBX.out.f0; have kf1 := HBX.out.f1; have kf2 := HBX.out.f2; have HV := Aside0.mk hv; clear hv; obtain ⟨A1, c1, rfl, _, _⟩ := HV.out.form) | (go_at_call 10; refine (wholeOf_n true _ _ _ _ HV.out).mono ?_; rintro e w4 ⟨rfl, hb⟩; replace HV := Aside0.mk (HV.out.below hb); replace HB0 := Aside0.mk (below_step HB0.out hb); replace HBX := Aside0.mk (HBX.out.below hb); clear hb; have kb0 := HBX.out.c0; have kb1 := HBX.out.c1; have kb2 := HBX.out.c2; have kf0 := HBX.out.f0; have kf1 := HBX.out.f1; have kf2 := HBX.out.f2))
                    have hbx := Box.put3q HBX.out (.bool (SpecWalk.sgn true (dnum u))) (.slice A1 (Digs.digs (dnum u)).length c1) (.int .i64 (x))
                    refine bodyPost_ret (v := .tuple #[.agg #[.bool (SpecWalk.sgn true (dnum u)), .slice A1 (Digs.digs (dnum u)).length c1, .int .i64 (x)], .bool true]) (by simp [results, Tryd.results4, go_sem, hbx.c0, hbx.c1, hbx.c2]) rfl ⟨true, _, _, _, rfl, ⟨_, _, _, rfl⟩, fun hok ht3 => ?_, below3 HB0.out (Nat.le_refl _) _ _ _⟩
                    exact ⟨_, _, HV.out.far3 (fun k (hk : _ ≤ k) => by have := HSZ.out; omega) _ _ _, read_of (x := x) HC.out HSI.out ht3 HU.out (.inr ⟨HIL.out, HEE.out, (by first | exact HXT.out rfl | exact HXT.out trivial), HXR.out.1, HXR.out.2⟩) _ (by simp)⟩
                  · rw [decide_eq_false hu] at hnat
                    have HNO := Aside0.mk hnat
                    have HU := Aside0.mk hu
                    clear hnat hu
                    go_wp2_with (first | (go_at_call 8; refine (HX.out _).mono ?_; rintro e w2 ⟨rfl, hb⟩; replace HB0 := Aside0.mk (below_step HB0.out hb); replace HBX := Aside0.mk (HBX.out.below hb); clear hb; have kb0 := HBX.out.c0; have kb1 := HBX.out.c1; have kb2 := HBX.out.c2; have kf0 := HBX.out.f0; have kf1 := HBX.out.f1; have kf2 := HBX.out.f2) | (go_at_call 9; refine (HNO.out _).mono ?_; have HSZ := Aside0.mk (World.block_lt_of_cell? _ _ HBX.out.c0); rintro e w3 ⟨v, rfl, hv, hb⟩; replace HB0 := Aside0.mk (below_step HB0.out hb); replace HBX := Aside0.mk (HBX.out.below hb); clear hb; have kb0 := HBX.out.c0; have kb1 := HBX.out.c1; have kb2 := HBX.out.c2; have kf0 := HBX.out.f0; have kf1 := HBX.out.f1; have kf2 := HBX.out.f2; have HV := Aside0.mk hv; clear hv; obtain ⟨A1, c1, rfl, _, _⟩ := HV.out.form) | (go_at_call 10; refine (wholeOf_n true _ _ _ _ HV.out).mono ?_; rintro e w4 ⟨rfl, hb⟩; replace HV := Aside0.mk (HV.out.below hb); replace HB0 := Aside0.mk (below_step HB0.out hb); replace HBX := Aside0.mk (HBX.out.below hb); clear hb; have kb0 := HBX.out.c0; have kb1 := HBX.out.c1; have kb2 := HBX.out.c2; have kf0 := HBX.out.f0; have kf1 := HBX.out.f1; have kf2 := HBX.out.f2))
                    have hbx := Box.put3q HBX.out (.bool (SpecWalk.sgn true (dnum u))) (.slice A1 (Digs.digs (dnum u)).length c1) (.int .i64 (x))
                    refine bodyPost_ret (v := .tuple #[.agg #[.bool (SpecWalk.sgn true (dnum u)), .slice A1 (Digs.digs (dnum u)).length c1, .int .i64 (x)], .bool false]) (by simp [results, Tryd.results4, go_sem, hbx.c0, hbx.c1, hbx.c2]) rfl ⟨false, _, _, _, rfl, ⟨_, _, _, rfl⟩, fun hok ht3 => ?_, below3 HB0.out (Nat.le_refl _) _ _ _⟩
                    exact absurd hok (by decide)
              · have HSI := Aside0.mk HI.out
                have kb0 := HBX.out.c0; have kb1 := HBX.out.c1; have kb2 := HBX.out.c2; have kf0 := HBX.out.f0; have kf1 := HBX.out.f1; have kf2 := HBX.out.f2
                obtain ⟨x, okx, hcall, htext, hrange⟩ := exponent_n (s.extract (i + 1) s.size) (by rw [size_extract (Nat.le_refl _)]; omega)
                have HX := Aside0.mk hcall
                have HXT := Aside0.mk htext
                have HXR := Aside0.mk hrange
                have hi1 : (i : Int) + 1 ≤ (s.size : Int) := by omega
                have hx0 : -1000000000 ≤ x := hrange.1
                have hx1 : x ≤ 1000000000 := hrange.2
                clear hcall htext hrange
                cases okx
                · go_wp2_with (first | (go_at_call 8; refine (HX.out _).mono ?_; rintro e w2 ⟨rfl, hb⟩; replace HB0 := Aside0.mk (below_step HB0.out hb); replace HBX := Aside0.mk (HBX.out.below hb); clear hb; have kb0 := HBX.out.c0; have kb1 := HBX.out.c1; have kb2 := HBX.out.c2; have kf0 := HBX.out.f0; have kf1 := HBX.out.f1; have kf2 := HBX.out.f2) | (go_at_call 9; refine (HNO.out _).mono ?_; have HSZ := Aside0.mk (World.block_lt_of_cell? _ _ HBX.out.c0); rintro e w3 ⟨v, rfl, hv, hb⟩; replace HB0 := Aside0.mk (below_step HB0.out hb); replace HBX := Aside0.mk (HBX.out.below hb); clear hb; have kb0 := HBX.out.c0; have kb1 := HBX.out.c1; have kb2 := HBX.out.c2; have kf0 := HBX.out.f0; have kf1 := HBX.out.f1; have kf2 := HBX.out.f2; have HV := Aside0.mk hv; clear hv; obtain ⟨A1, c1, rfl, _, _⟩ := HV.out.form) | (go_at_call 10; refine (wholeOf_n true _ _ _ _ HV.out).mono ?_; rintro e w4 ⟨rfl, hb⟩; replace HV := Aside0.mk (HV.out.below hb); replace HB0 := Aside0.mk (below_step HB0.out hb); replace HBX := Aside0.mk (HBX.out.below hb); clear hb; have kb0 := HBX.out.c0; have kb1 := HBX.out.c1; have kb2 := HBX.out.c2; have kf0 := HBX.out.f0; have kf1 := HBX.out.f1; have kf2 := HBX.out.f2))
                  have hbx := Box.put3q HBX.out (.bool false) (.slice none 0 0) (.int .i64 0)
                  refine bodyPost_ret (v := .tuple #[.agg #[.bool false, .slice none 0 0, .int .i64 0], .bool false]) (by simp [results, Tryd.results4, go_sem, hbx.c0, hbx.c1, hbx.c2]) rfl ⟨false, _, _, _, rfl, ⟨_, _, _, rfl⟩, fun hok ht3 => absurd hok (by decide), below3 HB0.out (Nat.le_refl _) _ _ _⟩
                · skip
                  have hnat := NatOf_d u HI.out.ud (by omega)
                  by_cases hu : 0 < u.size
                  · rw [decide_eq_true hu] at hnat
                    have HNO := Aside0.mk hnat
                    have HU := Aside0.mk hu
                    clear hnat hu
                    go_wp2_with (first | (go_at_call 8; refine (HX.out _).mono ?_; rintro e w2 ⟨rfl, hb⟩; replace HB0 := Aside0.mk (below_step HB0.out hb); replace HBX := Aside0.mk (HBX.out.below hb); clear hb; have kb0 := HBX.out.c0; have kb1 := HBX.out.c1; have kb2 := HBX.out.c2; have kf0 := HBX.out.f0; have kf1 := HBX.out.f1; have kf2 := HBX.out.f2) | (go_at_call 9; refine (HNO.out _).mono ?_; have HSZ := Aside0.mk (World.block_lt_of_cell? _ _ HBX.out.c0); rintro e w3 ⟨v, rfl, hv, hb⟩; replace HB0 := Aside0.mk (below_step HB0.out hb); replace HBX := Aside0.mk (HBX.out.below hb); clear hb; have kb0 := HBX.out.c0; have kb1 := HBX.out.c1; have kb2 := HBX.out.c2; have kf0 := HBX.out.f0; have kf1 := HBX.out.f1; have kf2 := HBX.out.f2; have HV := Aside0.mk hv; clear hv; obtain ⟨A1, c1, rfl, _, _⟩ := HV.out.form) | (go_at_call 10; refine (wholeOf_n true _ _ _ _ HV.out).mono ?_; rintro e w4 ⟨rfl, hb⟩; replace HV := Aside0.mk (HV.out.below hb); replace HB0 := Aside0.mk (below_step HB0.out hb); replace HBX := Aside0.mk (HBX.out.below hb); clear hb; have kb0 := HBX.out.c0; have kb1 := HBX.out.c1; have kb2 := HBX.out.c2; have kf0 := HBX.out.f0; have kf1 := HBX.out.f1; have kf2 := HBX.out.f2))
                    have hbx := Box.put3q HBX.out (.bool (SpecWalk.sgn true (dnum u))) (.slice A1 (Digs.digs (dnum u)).length c1) (.int .i64 (pt + 1 - (i : Int) + x))
                    refine bodyPost_ret (v := .tuple #[.agg #[.bool (SpecWalk.sgn true (dnum u)), .slice A1 (Digs.digs (dnum u)).length c1, .int .i64 (pt + 1 - (i : Int) + x)], .bool true]) (by simp [results, Tryd.results4, go_sem, hbx.c0, hbx.c1, hbx.c2]) rfl ⟨true, _, _, _, rfl, ⟨_, _, _, rfl⟩, fun hok ht3 => ?_, below3 HB0.out (Nat.le_refl _) _ _ _⟩
                    exact ⟨_, _, HV.out.far3 (fun k (hk : _ ≤ k) => by have := HSZ.out; omega) _ _ _, read_of (x := x) HC.out HSI.out ht3 HU.out (.inr ⟨HIL.out, HEE.out, (by first | exact HXT.out rfl | exact HXT.out trivial), HXR.out.1, HXR.out.2⟩) _ (by rw [if_neg (by omega)]; omega)⟩
                  · rw [decide_eq_false hu] at hnat
                    have HNO := Aside0.mk hnat
                    have HU := Aside0.mk hu
                    clear hnat hu
                    go_wp2_with (first | (go_at_call 8; refine (HX.out _).mono ?_; rintro e w2 ⟨rfl, hb⟩; replace HB0 := Aside0.mk (below_step HB0.out hb); replace HBX := Aside0.mk (HBX.out.below hb); clear hb; have kb0 := HBX.out.c0; have kb1 := HBX.out.c1; have kb2 := HBX.out.c2; have kf0 := HBX.out.f0; have kf1 := HBX.out.f1; have kf2 := HBX.out.f2) | (go_at_call 9; refine (HNO.out _).mono ?_; have HSZ := Aside0.mk (World.block_lt_of_cell? _ _ HBX.out.c0); rintro e w3 ⟨v, rfl, hv, hb⟩; replace HB0 := Aside0.mk (below_step HB0.out hb); replace HBX := Aside0.mk (HBX.out.below hb); clear hb; have kb0 := HBX.out.c0; have kb1 := HBX.out.c1; have kb2 := HBX.out.c2; have kf0 := HBX.out.f0; have kf1 := HBX.out.f1; have kf2 := HBX.out.f2; have HV := Aside0.mk hv; clear hv; obtain ⟨A1, c1, rfl, _, _⟩ := HV.out.form) | (go_at_call 10; refine (wholeOf_n true _ _ _ _ HV.out).mono ?_; rintro e w4 ⟨rfl, hb⟩; replace HV := Aside0.mk (HV.out.below hb); replace HB0 := Aside0.mk (below_step HB0.out hb); replace HBX := Aside0.mk (HBX.out.below hb); clear hb; have kb0 := HBX.out.c0; have kb1 := HBX.out.c1; have kb2 := HBX.out.c2; have kf0 := HBX.out.f0; have kf1 := HBX.out.f1; have kf2 := HBX.out.f2))
                    have hbx := Box.put3q HBX.out (.bool (SpecWalk.sgn true (dnum u))) (.slice A1 (Digs.digs (dnum u)).length c1) (.int .i64 (pt + 1 - (i : Int) + x))
                    refine bodyPost_ret (v := .tuple #[.agg #[.bool (SpecWalk.sgn true (dnum u)), .slice A1 (Digs.digs (dnum u)).length c1, .int .i64 (pt + 1 - (i : Int) + x)], .bool false]) (by simp [results, Tryd.results4, go_sem, hbx.c0, hbx.c1, hbx.c2]) rfl ⟨false, _, _, _, rfl, ⟨_, _, _, rfl⟩, fun hok ht3 => ?_, below3 HB0.out (Nat.le_refl _) _ _ _⟩
                    exact absurd hok (by decide)
            · by_cases hE3 : bt s i = 46
              · have hpp : 0 ≤ pt := by
                  rcases hpt with h | h
                  · exact absurd ⟨hE3, h⟩ HYP.out
                  · exact h.1
                have hpi : pt < i := by rcases hpt with h | h <;> omega
                rw [hE3] at hxn
                clear hE1 hE2 hE3 hyd y0 y1 hpt
                have HSI := Aside0.mk HI.out
                have kb0 := HBX.out.c0; have kb1 := HBX.out.c1; have kb2 := HBX.out.c2; have kf0 := HBX.out.f0; have kf1 := HBX.out.f1; have kf2 := HBX.out.f2
                have hnat := NatOf_d u HI.out.ud (by omega)
                by_cases hu : 0 < u.size
                · rw [decide_eq_true hu] at hnat
                  have HNO := Aside0.mk hnat
                  have HU := Aside0.mk hu
                  clear hnat hu
                  go_wp2_with (first | (go_at_call 8; refine (HX.out _).mono ?_; rintro e w2 ⟨rfl, hb⟩; replace HB0 := Aside0.mk (below_step HB0.out hb); replace HBX := Aside0.mk (HBX.out.below hb); clear hb; have kb0 := HBX.out.c0; have kb1 := HBX.out.c1; have kb2 := HBX.out.c2; have kf0 := HBX.out.f0; have kf1 := HBX.out.f1; have kf2 := HBX.out.f2) | (go_at_call 9; refine (HNO.out _).mono ?_; have HSZ := Aside0.mk (World.block_lt_of_cell? _ _ HBX.out.c0); rintro e w3 ⟨v, rfl, hv, hb⟩; replace HB0 := Aside0.mk (below_step HB0.out hb); replace HBX := Aside0.mk (HBX.out.below hb); clear hb; have kb0 := HBX.out.c0; have kb1 := HBX.out.c1; have kb2 := HBX.out.c2; have kf0 := HBX.out.f0; have kf1 := HBX.out.f1; have kf2 := HBX.out.f2; have HV := Aside0.mk hv; clear hv; obtain ⟨A1, c1, rfl, _, _⟩ := HV.out.form) | (go_at_call 10; refine (wholeOf_n true _ _ _ _ HV.out).mono ?_; rintro e w4 ⟨rfl, hb⟩; replace HV := Aside0.mk (HV.out.below hb); replace HB0 := Aside0.mk (below_step HB0.out hb); replace HBX := Aside0.mk (HBX.out.below hb); clear hb; have kb0 := HBX.out.c0; have kb1 := HBX.out.c1; have kb2 := HBX.out.c2; have kf0 := HBX.out.f0; have kf1 := HBX.out.f1; have kf2 := HBX.out.f2))
                  have hbx := Box.put3q HBX.out (.bool (SpecWalk.sgn true (dnum u))) (.slice A1 (Digs.digs (dnum u)).length c1) (.int .i64 (pt + 1 - (i : Int)))
                  refine bodyPost_ret (v := .tuple #[.agg #[.bool (SpecWalk.sgn true (dnum u)), .slice A1 (Digs.digs (dnum u)).length c1, .int .i64 (pt + 1 - (i : Int))], .bool false]) (by simp [results, Tryd.results4, go_sem, hbx.c0, hbx.c1, hbx.c2]) rfl ⟨false, _, _, _, rfl, ⟨_, _, _, rfl⟩, fun hok ht3 => ?_, below3 HB0.out (Nat.le_refl _) _ _ _⟩
                  exact absurd hok (by decide)
                · rw [decide_eq_false hu] at hnat
                  have HNO := Aside0.mk hnat
                  have HU := Aside0.mk hu
                  clear hnat hu
                  go_wp2_with (first | (go_at_call 8; refine (HX.out _).mono ?_; rintro e w2 ⟨rfl, hb⟩; replace HB0 := Aside0.mk (below_step HB0.out hb); replace HBX := Aside0.mk (HBX.out.below hb); clear hb; have kb0 := HBX.out.c0; have kb1 := HBX.out.c1; have kb2 := HBX.out.c2; have kf0 := HBX.out.f0; have kf1 := HBX.out.f1; have kf2 := HBX.out.f2) | (go_at_call 9; refine (HNO.out _).mono ?_; have HSZ := Aside0.mk (World.block_lt_of_cell? _ _ HBX.out.c0); rintro e w3 ⟨v, rfl, hv, hb⟩; replace HB0 := Aside0.mk (below_step HB0.out hb); replace HBX := Aside0.mk (HBX.out.below hb); clear hb; have kb0 := HBX.out.c0; have kb1 := HBX.out.c1; have kb2 := HBX.out.c2; have kf0 := HBX.out.f0; have kf1 := HBX.out.f1; have kf2 := HBX.out.f2; have HV := Aside0.mk hv; clear hv; obtain ⟨A1, c1, rfl, _, _⟩ := HV.out.form) | (go_at_call 10; refine (wholeOf_n true _ _ _ _ HV.out).mono ?_; rintro e w4 ⟨rfl, hb⟩; replace HV := Aside0.mk (HV.out.below hb); replace HB0 := Aside0.mk (below_step HB0.out hb); replace HBX := Aside0.mk (HBX.out.below hb); clear hb; have kb0 := HBX.out.c0; have kb1 := HBX.out.c1; have kb2 := HBX.out.c2; have kf0 := HBX.out.f0; have kf1 := HBX.out.f1; have kf2 := HBX.out.f2))
                  have hbx := Box.put3q HBX.out (.bool (SpecWalk.sgn true (dnum u))) (.slice A1 (Digs.digs (dnum u)).length c1) (.int .i64 (pt + 1 - (i : Int)))
                  refine bodyPost_ret (v := .tuple #[.agg #[.bool (SpecWalk.sgn true (dnum u)), .slice A1 (Digs.digs (dnum u)).length c1, .int .i64 (pt + 1 - (i : Int))], .bool false]) (by simp [results, Tryd.results4, go_sem, hbx.c0, hbx.c1, hbx.c2]) rfl ⟨false, _, _, _, rfl, ⟨_, _, _, rfl⟩, fun hok ht3 => ?_, below3 HB0.out (Nat.le_refl _) _ _ _⟩
                  exact absurd hok (by decide)
              · generalize bt s i = y at *
                have z1 : (y == 101) = false := beq_eq_false_iff_ne.mpr hE1
                have z2 : (y == 69) = false := beq_eq_false_iff_ne.mpr hE2
                have z3 : (y == 46) = false := beq_eq_false_iff_ne.mpr hE3
                have hcase : y < 48 ∨ 57 < y := by omega
                clear hyd
                rcases hpt with rfl | ⟨hp0, hpi⟩
                · rcases hcase with hc | hc
                  · have HSI := Aside0.mk HI.out
                    have kb0 := HBX.out.c0; have kb1 := HBX.out.c1; have kb2 := HBX.out.c2; have kf0 := HBX.out.f0; have kf1 := HBX.out.f1; have kf2 := HBX.out.f2
                    have hnat := NatOf_d u HI.out.ud (by omega)
                    by_cases hu : 0 < u.size
                    · rw [decide_eq_true hu] at hnat
                      have HNO := Aside0.mk hnat
                      have HU := Aside0.mk hu
                      clear hnat hu
                      go_wp2_with (first | (go_at_call 8; refine (HX.out _).mono ?_; rintro e w2 ⟨rfl, hb⟩; replace HB0 := Aside0.mk (below_step HB0.out hb); replace HBX := Aside0.mk (HBX.out.below hb); clear hb; have kb0 := HBX.out.c0; have kb1 := HBX.out.c1; have kb2 := HBX.out.c2; have kf0 := HBX.out.f0; have kf1 := HBX.out.f1; have kf2 := HBX.out.f2) | (go_at_call 9; refine (HNO.out _).mono ?_; have HSZ := Aside0.mk (World.block_lt_of_cell? _ _ HBX.out.c0); rintro e w3 ⟨v, rfl, hv, hb⟩; replace HB0 := Aside0.mk (below_step HB0.out hb); replace HBX := Aside0.mk (HBX.out.below hb); clear hb; have kb0 := HBX.out.c0; have kb1 := HBX.out.c1; have kb2 := HBX.out.c2; have kf0 := HBX.out.f0; have kf1 := HBX.out.f1; have kf2 := HBX.out.f2; have HV := Aside0.mk hv; clear hv; obtain ⟨A1, c1, rfl, _, _⟩ := HV.out.form) | (go_at_call 10; refine (wholeOf_n true _ _ _ _ HV.out).mono ?_; rintro e w4 ⟨rfl, hb⟩; replace HV := Aside0.mk (HV.out.below hb); replace HB0 := Aside0.mk (below_step HB0.out hb); replace HBX := Aside0.mk (HBX.out.below hb); clear hb; have kb0 := HBX.out.c0; have kb1 := HBX.out.c1; have kb2 := HBX.out.c2; have kf0 := HBX.out.f0; have kf1 := HBX.out.f1; have kf2 := HBX.out.f2))
                      have hbx := Box.put3q HBX.out (.bool (SpecWalk.sgn true (dnum u))) (.slice A1 (Digs.digs (dnum u)).length c1) (.int .i64 (0))
                      refine bodyPost_ret (v := .tuple #[.agg #[.bool (SpecWalk.sgn true (dnum u)), .slice A1 (Digs.digs (dnum u)).length c1, .int .i64 (0)], .bool false]) (by simp [results, Tryd.results4, go_sem, hbx.c0, hbx.c1, hbx.c2]) rfl ⟨false, _, _, _, rfl, ⟨_, _, _, rfl⟩, fun hok ht3 => ?_, below3 HB0.out (Nat.le_refl _) _ _ _⟩
                      exact absurd hok (by decide)
                    · rw [decide_eq_false hu] at hnat
                      have HNO := Aside0.mk hnat
                      have HU := Aside0.mk hu
                      clear hnat hu
                      go_wp2_with (first | (go_at_call 8; refine (HX.out _).mono ?_; rintro e w2 ⟨rfl, hb⟩; replace HB0 := Aside0.mk (below_step HB0.out hb); replace HBX := Aside0.mk (HBX.out.below hb); clear hb; have kb0 := HBX.out.c0; have kb1 := HBX.out.c1; have kb2 := HBX.out.c2; have kf0 := HBX.out.f0; have kf1 := HBX.out.f1; have kf2 := HBX.out.f2) | (go_at_call 9; refine (HNO.out _).mono ?_; have HSZ := Aside0.mk (World.block_lt_of_cell? _ _ HBX.out.c0); rintro e w3 ⟨v, rfl, hv, hb⟩; replace HB0 := Aside0.mk (below_step HB0.out hb); replace HBX := Aside0.mk (HBX.out.below hb); clear hb; have kb0 := HBX.out.c0; have kb1 := HBX.out.c1; have kb2 := HBX.out.c2; have kf0 := HBX.out.f0; have kf1 := HBX.out.f1; have kf2 := HBX.out.f2; have HV := Aside0.mk hv; clear hv; obtain ⟨A1, c1, rfl, _, _⟩ := HV.out.form) | (go_at_call 10; refine (wholeOf_n true _ _ _ _ HV.out).mono ?_; rintro e w4 ⟨rfl, hb⟩; replace HV := Aside0.mk (HV.out.below hb); replace HB0 := Aside0.mk (below_step HB0.out hb); replace HBX := Aside0.mk (HBX.out.below hb); clear hb; have kb0 := HBX.out.c0; have kb1 := HBX.out.c1; have kb2 := HBX.out.c2; have kf0 := HBX.out.f0; have kf1 := HBX.out.f1; have kf2 := HBX.out.f2))
                      have hbx := Box.put3q HBX.out (.bool (SpecWalk.sgn true (dnum u))) (.slice A1 (Digs.digs (dnum u)).length c1) (.int .i64 (0))
                      refine bodyPost_ret (v := .tuple #[.agg #[.bool (SpecWalk.sgn true (dnum u)), .slice A1 (Digs.digs (dnum u)).length c1, .int .i64 (0)], .bool false]) (by simp [results, Tryd.results4, go_sem, hbx.c0, hbx.c1, hbx.c2]) rfl ⟨false, _, _, _, rfl, ⟨_, _, _, rfl⟩, fun hok ht3 => ?_, below3 HB0.out (Nat.le_refl _) _ _ _⟩
                      exact absurd hok (by decide)
                  · have HSI := Aside0.mk HI.out
                    have kb0 := HBX.out.c0; have kb1 := HBX.out.c1; have kb2 := HBX.out.c2; have kf0 := HBX.out.f0; have kf1 := HBX.out.f1; have kf2 := HBX.out.f2
                    have hnat := NatOf_d u HI.out.ud (by omega)
                    by_cases hu : 0 < u.size
                    · rw [decide_eq_true hu] at hnat
                      have HNO := Aside0.mk hnat
                      have HU := Aside0.mk hu
                      clear hnat hu
                      go_wp2_with (first | (go_at_call 8; refine (HX.out _).mono ?_; rintro e w2 ⟨rfl, hb⟩; replace HB0 := Aside0.mk (below_step HB0.out hb); replace HBX := Aside0.mk (HBX.out.below hb); clear hb; have kb0 := HBX.out.c0; have kb1 := HBX.out.c1; have kb2 := HBX.out.c2; have kf0 := HBX.out.f0; have kf1 := HBX.out.f1; have kf2 := HBX.out.f2) | (go_at_call 9; refine (HNO.out _).mono ?_; have HSZ := Aside0.mk (World.block_lt_of_cell? _ _ HBX.out.c0); rintro e w3 ⟨v, rfl, hv, hb⟩; replace HB0 := Aside0.mk (below_step HB0.out hb); replace HBX := Aside0.mk (HBX.out.below hb); clear hb; have kb0 := HBX.out.c0; have kb1 := HBX.out.c1; have kb2 := HBX.out.c2; have kf0 := HBX.out.f0; have kf1 := HBX.out.f1; have kf2 := HBX.out.f2; have HV := Aside0.mk hv; clear hv; obtain ⟨A1, c1, rfl, _, _⟩ := HV.out.form) | (go_at_call 10; refine (wholeOf_n true _ _ _ _ HV.out).mono ?_; rintro e w4 ⟨rfl, hb⟩; replace HV := Aside0.mk (HV.out.below hb); replace HB0 := Aside0.mk (below_step HB0.out hb); replace HBX := Aside0.mk (HBX.out.below hb); clear hb; have kb0 := HBX.out.c0; have kb1 := HBX.out.c1; have kb2 := HBX.out.c2; have kf0 := HBX.out.f0; have kf1 := HBX.out.f1; have kf2 := HBX.out.f2))
                      have hbx := Box.put3q HBX.out (.bool (SpecWalk.sgn true (dnum u))) (.slice A1 (Digs.digs (dnum u)).length c1) (.int .i64 (0))
                      refine bodyPost_ret (v := .tuple #[.agg #[.bool (SpecWalk.sgn true (dnum u)), .slice A1 (Digs.digs (dnum u)).length c1, .int .i64 (0)], .bool false]) (by simp [results, Tryd.results4, go_sem, hbx.c0, hbx.c1, hbx.c2]) rfl ⟨false, _, _, _, rfl, ⟨_, _, _, rfl⟩, fun hok ht3 => ?_, below3 HB0.out (Nat.le_refl _) _ _ _⟩
                      exact absurd hok (by decide)
                    · rw [decide_eq_false hu] at hnat
                      have HNO := Aside0.mk hnat
                      have HU := Aside0.mk hu
                      clear hnat hu
                      go_wp2_with (first | (go_at_call 8; refine (HX.out _).mono ?_; rintro e w2 ⟨rfl, hb⟩; replace HB0 := Aside0.mk (below_step HB0.out hb); replace HBX := Aside0.mk (HBX.out.below hb); clear hb; have kb0 := HBX.out.c0; have kb1 := HBX.out.c1; have kb2 := HBX.out.c2; have kf0 := HBX.out.f0; have kf1 := HBX.out.f1; have kf2 := HBX.out.f2) | (go_at_call 9; refine (HNO.out _).mono ?_; have HSZ := Aside0.mk (World.block_lt_of_cell? _ _ HBX.out.c0); rintro e w3 ⟨v, rfl, hv, hb⟩; replace HB0 := Aside0.mk (below_step HB0.out hb); replace HBX := Aside0.mk (HBX.out.below hb); clear hb; have kb0 := HBX.out.c0; have kb1 := HBX.out.c1; have kb2 := HBX.out.c2; have kf0 := HBX.out.f0; have kf1 := HBX.out.f1; have kf2 := HBX.out.f2; have HV := Aside0.mk hv; clear hv; obtain ⟨A1, c1, rfl, _, _⟩ := HV.out.form) | (go_at_call 10; refine (wholeOf_n true _ _ _ _ HV.out).mono ?_; rintro e w4 ⟨rfl, hb⟩; replace HV := Aside0.mk (HV.out.below hb); replace HB0 := Aside0.mk (below_step HB0.out hb); replace HBX := Aside0.mk (HBX.out.below hb); clear hb; have kb0 := HBX.out.c0; have kb1 := HBX.out.c1; have kb2 := HBX.out.c2; have kf0 := HBX.out.f0; have kf1 := HBX.out.f1; have kf2 := HBX.out.f2))
                      have hbx := Box.put3q HBX.out (.bool (SpecWalk.sgn true (dnum u))) (.slice A1 (Digs.digs (dnum u)).length c1) (.int .i64 (0))
                      refine bodyPost_ret (v := .tuple #[.agg #[.bool (SpecWalk.sgn true (dnum u)), .slice A1 (Digs.digs (dnum u)).length c1, .int .i64 (0)], .bool false]) (by simp [results, Tryd.results4, go_sem, hbx.c0, hbx.c1, hbx.c2]) rfl ⟨false, _, _, _, rfl, ⟨_, _, _, rfl⟩, fun hok ht3 => ?_, below3 HB0.out (Nat.le_refl _) _ _ _⟩
                      exact absurd hok (by decide)
                · rcases hcase with hc | hc
                  · have HSI := Aside0.mk HI.out
                    have kb0 := HBX.out.c0; have kb1 := HBX.out.c1; have kb2 := HBX.out.c2; have kf0 := HBX.out.f0; have kf1 := HBX.out.f1; have kf2 := HBX.out.f2
                    have hnat := NatOf_d u HI.out.ud (by omega)
                    by_cases hu : 0 < u.size
                    · rw [decide_eq_true hu] at hnat
                      have HNO := Aside0.mk hnat
                      have HU := Aside0.mk hu
                      clear hnat hu
                      go_wp2_with (first | (go_at_call 8; refine (HX.out _).mono ?_; rintro e w2 ⟨rfl, hb⟩; replace HB0 := Aside0.mk (below_step HB0.out hb); replace HBX := Aside0.mk (HBX.out.below hb); clear hb; have kb0 := HBX.out.c0; have kb1 := HBX.out.c1; have kb2 := HBX.out.c2; have kf0 := HBX.out.f0; have kf1 := HBX.out.f1; have kf2 := HBX.out.f2) | (go_at_call 9; refine (HNO.out _).mono ?_; have HSZ := Aside0.mk (World.block_lt_of_cell? _ _ HBX.out.c0); rintro e w3 ⟨v, rfl, hv, hb⟩; replace HB0 := Aside0.mk (below_step HB0.out hb); replace HBX := Aside0.mk (HBX.out.below hb); clear hb; have kb0 := HBX.out.c0; have kb1 := HBX.out.c1; have kb2 := HBX.out.c2; have kf0 := HBX.out.f0; have kf1 := HBX.out.f1; have kf2 := HBX.out.f2; have HV := Aside0.mk hv; clear hv; obtain ⟨A1, c1, rfl, _, _⟩ := HV.out.form) | (go_at_call 10; refine (wholeOf_n true _ _ _ _ HV.out).mono ?_; rintro e w4 ⟨rfl, hb⟩; replace HV := Aside0.mk (HV.out.below hb); replace HB0 := Aside0.mk (below_step HB0.out hb); replace HBX := Aside0.mk (HBX.out.below hb); clear hb; have kb0 := HBX.out.c0; have kb1 := HBX.out.c1; have kb2 := HBX.out.c2; have kf0 := HBX.out.f0; have kf1 := HBX.out.f1; have kf2 := HBX.out.f2))
                      have hbx := Box.put3q HBX.out (.bool (SpecWalk.sgn true (dnum u))) (.slice A1 (Digs.digs (dnum u)).length c1) (.int .i64 (pt + 1 - (i : Int)))
                      refine bodyPost_ret (v := .tuple #[.agg #[.bool (SpecWalk.sgn true (dnum u)), .slice A1 (Digs.digs (dnum u)).length c1, .int .i64 (pt + 1 - (i : Int))], .bool false]) (by simp [results, Tryd.results4, go_sem, hbx.c0, hbx.c1, hbx.c2]) rfl ⟨false, _, _, _, rfl, ⟨_, _, _, rfl⟩, fun hok ht3 => ?_, below3 HB0.out (Nat.le_refl _) _ _ _⟩
                      exact absurd hok (by decide)
                    · rw [decide_eq_false hu] at hnat
                      have HNO := Aside0.mk hnat
                      have HU := Aside0.mk hu
                      clear hnat hu
                      go_wp2_with (first | (go_at_call 8; refine (HX.out _).mono ?_; rintro e w2 ⟨rfl, hb⟩; replace HB0 := Aside0.mk (below_step HB0.out hb); replace HBX := Aside0.mk (HBX.out.below hb); clear hb; have kb0 := HBX.out.c0; have kb1 := HBX.out.c1; have kb2 := HBX.out.c2; have kf0 := HBX.out.f0; have kf1 := HBX.out.f1; have kf2 := HBX.out.f2) | (go_at_call 9; refine (HNO.out _).mono ?_; have HSZ := Aside0.mk (World.block_lt_of_cell? _ _ HBX.out.c0); rintro e w3 ⟨v, rfl, hv, hb⟩; replace HB0 := Aside0.mk (below_step HB0.out hb); replace HBX := Aside0.mk (HBX.out.below hb); clear hb; have kb0 := HBX.out.c0; have kb1 := HBX.out.c1; have kb2 := HBX.out.c2; have kf0 := HBX.out.f0; have kf1 := HBX.out.f1; have kf2 := HBX.out.f2; have HV := Aside0.mk hv; clear hv; obtain ⟨A1, c1, rfl, _, _⟩ := HV.out.form) | (go_at_call 10; refine (wholeOf_n true _ _ _ _ HV.out).mono ?_; rintro e w4 ⟨rfl, hb⟩; replace HV := Aside0.mk (HV.out.below hb); replace HB0 := Aside0.mk (below_step HB0.out hb); replace HBX := Aside0.mk (HBX.out.below hb); clear hb; have kb0 := HBX.out.c0; have kb1 := HBX.out.c1; have kb2 := HBX.out.c2; have kf0 := HBX.out.f0; have kf1 := HBX.out.f1; have kf2 := HBX.out.f2))
                      have hbx := Box.put3q HBX.out (.bool (SpecWalk.sgn true (dnum u))) (.slice A1 (Digs.digs (dnum u)).length c1) (.int .i64 (pt + 1 - (i : Int)))
                      refine bodyPost_ret (v := .tuple #[.agg #[.bool (SpecWalk.sgn true (dnum u)), .slice A1 (Digs.digs (dnum u)).length c1, .int .i64 (pt + 1 - (i : Int))], .bool false]) (by simp [results, Tryd.results4, go_sem, hbx.c0, hbx.c1, hbx.c2]) rfl ⟨false, _, _, _, rfl, ⟨_, _, _, rfl⟩, fun hok ht3 => ?_, below3 HB0.out (Nat.le_refl _) _ _ _⟩
                      exact absurd hok (by decide)
                  · have HSI := Aside0.mk HI.out
                    have kb0 := HBX.out.c0; have kb1 := HBX.out.c1; have kb2 := HBX.out.c2; have kf0 := HBX.out.f0; have kf1 := HBX.out.f1; have kf2 := HBX.out.f2
                    have hnat := NatOf_d u HI.out.ud (by omega)
                    by_cases hu : 0 < u.size
                    · rw [decide_eq_true hu] at hnat
                      have HNO := Aside0.mk hnat
                      have HU := Aside0.mk hu
                      clear hnat hu
                      go_wp2_with (first | (go_at_call 8; refine (HX.out _).mono ?_; rintro e w2 ⟨rfl, hb⟩; replace HB0 := Aside0.mk (below_step HB0.out hb); replace HBX := Aside0.mk (HBX.out.below hb); clear hb; have kb0 := HBX.out.c0; have kb1 := HBX.out.c1; have kb2 := HBX.out.c2; have kf0 := HBX.out.f0; have kf1 := HBX.out.f1; have kf2 := HBX.out.f2) | (go_at_call 9; refine (HNO.out _).mono ?_; have HSZ := Aside0.mk (World.block_lt_of_cell? _ _ HBX.out.c0); rintro e w3 ⟨v, rfl, hv, hb⟩; replace HB0 := Aside0.mk (below_step HB0.out hb); replace HBX := Aside0.mk (HBX.out.below hb); clear hb; have kb0 := HBX.out.c0; have kb1 := HBX.out.c1; have kb2 := HBX.out.c2; have kf0 := HBX.out.f0; have kf1 := HBX.out.f1; have kf2 := HBX.out.f2; have HV := Aside0.mk hv; clear hv; obtain ⟨A1, c1, rfl, _, _⟩ := HV.out.form) | (go_at_call 10; refine (wholeOf_n true _ _ _ _ HV.out).mono ?_; rintro e w4 ⟨rfl, hb⟩; replace HV := Aside0.mk (HV.out.below hb); replace HB0 := Aside0.mk (below_step HB0.out hb); replace HBX := Aside0.mk (HBX.out.below hb); clear hb; have kb0 := HBX.out.c0; have kb1 := HBX.out.c1; have kb2 := HBX.out.c2; have kf0 := HBX.out.f0; have kf1 := HBX.out.f1; have kf2 := HBX.out.f2))
                      have hbx := Box.put3q HBX.out (.bool (SpecWalk.sgn true (dnum u))) (.slice A1 (Digs.digs (dnum u)).length c1) (.int .i64 (pt + 1 - (i : Int)))
                      refine bodyPost_ret (v := .tuple #[.agg #[.bool (SpecWalk.sgn true (dnum u)), .slice A1 (Digs.digs (dnum u)).length c1, .int .i64 (pt + 1 - (i : Int))], .bool false]) (by simp [results, Tryd.results4, go_sem, hbx.c0, hbx.c1, hbx.c2]) rfl ⟨false, _, _, _, rfl, ⟨_, _, _, rfl⟩, fun hok ht3 => ?_, below3 HB0.out (Nat.le_refl _) _ _ _⟩
                      exact absurd hok (by decide)
                    · rw [decide_eq_false hu] at hnat
                      have HNO := Aside0.mk hnat
                      have HU := Aside0.mk hu
                      clear hnat hu
                      go_wp2_with (first | (go_at_call 8; refine (HX.out _).mono ?_; rintro e w2 ⟨rfl, hb⟩; replace HB0 := Aside0.mk (below_step HB0.out hb); replace HBX := Aside0.mk (HBX.out.below hb); clear hb; have kb0 := HBX.out.c0; have kb1 := HBX.out.c1; have kb2 := HBX.out.c2; have kf0 := HBX.out.f0; have kf1 := HBX.out.f1; have kf2 := HBX.out.f2) | (go_at_call 9; refine (HNO.out _).mono ?_; have HSZ := Aside0.mk (World.block_lt_of_cell? _ _ HBX.out.c0); rintro e w3 ⟨v, rfl, hv, hb⟩; replace HB0 := Aside0.mk (below_step HB0.out hb); replace HBX := Aside0.mk (HBX.out.below hb); clear hb; have kb0 := HBX.out.c0; have kb1 := HBX.out.c1; have kb2 := HBX.out.c2; have kf0 := HBX.out.f0; have kf1 := HBX.out.f1; have kf2 := HBX.out.f2; have HV := Aside0.mk hv; clear hv; obtain ⟨A1, c1, rfl, _, _⟩ := HV.out.form) | (go_at_call 10; refine (wholeOf_n true _ _ _ _ HV.out).mono ?_; rintro e w4 ⟨rfl, hb⟩; replace HV := Aside0.mk (HV.out.below hb); replace HB0 := Aside0.mk (below_step HB0.out hb); replace HBX := Aside0.mk (HBX.out.below hb); clear hb; have kb0 := HBX.out.c0; have kb1 := HBX.out.c1; have kb2 := HBX.out.c2; have kf0 := HBX.out.f0; have kf1 := HBX.out.f1; have kf2 := HBX.out.f2))
                      have hbx := Box.put3q HBX.out (.bool (SpecWalk.sgn true (dnum u))) (.slice A1 (Digs.digs (dnum u)).length c1) (.int .i64 (pt + 1 - (i : Int)))
                      refine bodyPost_ret (v := .tuple #[.agg #[.bool (SpecWalk.sgn true (dnum u)), .slice A1 (Digs.digs (dnum u)).length c1, .int .i64 (pt + 1 - (i : Int))], .bool false]) (by simp [results, Tryd.results4, go_sem, hbx.c0, hbx.c1, hbx.c2]) rfl ⟨false, _, _, _, rfl, ⟨_, _, _, rfl⟩, fun hok ht3 => ?_, below3 HB0.out (Nat.le_refl _) _ _ _⟩
                      exact absurd hok (by decide)
    · obtain rfl : i = s.size := by have := HI.out.le; omega
      rcases hpt with rfl | ⟨hp0, hpi⟩
      · have HSI := Aside0.mk HI.out
        have kb0 := HBX.out.c0; have kb1 := HBX.out.c1; have kb2 := HBX.out.c2; have kf0 := HBX.out.f0; have kf1 := HBX.out.f1; have kf2 := HBX.out.f2
        have hnat := NatOf_d u HI.out.ud (by omega)
        by_cases hu : 0 < u.size
        · rw [decide_eq_true hu] at hnat
          have HNO := Aside0.mk hnat
          have HU := Aside0.mk hu
          clear hnat hu
          go_wp2_with (first | (go_at_call 8; refine (HX.out _).mono ?_; rintro e w2 ⟨rfl, hb⟩; replace HB0 := Aside0.mk (below_step HB0.out hb); replace HBX := Aside0.mk (HBX.out.below hb); clear hb; have kb0 := HBX.out.c0; have kb1 := HBX.out.c1; have kb2 := HBX.out.c2; have kf0 := HBX.out.f0; have kf1 := HBX.out.f1; have kf2 := HBX.out.f2) | (go_at_call 9; refine (HNO.out _).mono ?_; have HSZ := Aside0.mk (World.block_lt_of_cell? _ _ HBX.out.c0); rintro e w3 ⟨v, rfl, hv, hb⟩; replace HB0 := Aside0.mk (below_step HB0.out hb); replace HBX := Aside0.mk (HBX.out.below hb); clear hb; have kb0 := HBX.out.c0; have kb1 := HBX.out.c1; have kb2 := HBX.out.c2; have kf0 := HBX.out.f0; have kf1 := HBX.out.f1; have kf2 := HBX.out.f2; have HV := Aside0.mk hv; clear hv; obtain ⟨A1, c1, rfl, _, _⟩ := HV.out.form) | (go_at_call 10; refine (wholeOf_n true _ _ _ _ HV.out).mono ?_; rintro e w4 ⟨rfl, hb⟩; replace HV := Aside0.mk (HV.out.below hb); replace HB0 := Aside0.mk (below_step HB0.out hb); replace HBX := Aside0.mk (HBX.out.below hb); clear hb; have kb0 := HBX.out.c0; have kb1 := HBX.out.c1; have kb2 := HBX.out.c2; have kf0 := HBX.out.f0; have kf1 := HBX.out.f1; have kf2 := HBX.out.f2))
          have hbx := Box.put3q HBX.out (.bool (SpecWalk.sgn true (dnum u))) (.slice A1 (Digs.digs (dnum u)).length c1) (.int .i64 (0))
          refine bodyPost_ret (v := .tuple #[.agg #[.bool (SpecWalk.sgn true (dnum u)), .slice A1 (Digs.digs (dnum u)).length c1, .int .i64 (0)], .bool true]) (by simp [results, Tryd.results4, go_sem, hbx.c0, hbx.c1, hbx.c2]) rfl ⟨true, _, _, _, rfl, ⟨_, _, _, rfl⟩, fun hok ht3 => ?_, below3 HB0.out (Nat.le_refl _) _ _ _⟩
          exact ⟨_, _, HV.out.far3 (fun k (hk : _ ≤ k) => by have := HSZ.out; omega) _ _ _, read_of (x := 0) HC.out HSI.out ht3 HU.out (.inl ⟨rfl, rfl⟩) _ (by simp)⟩
        · rw [decide_eq_false hu] at hnat
          have HNO := Aside0.mk hnat
          have HU := Aside0.mk hu
          clear hnat hu
          go_wp2_with (first | (go_at_call 8; refine (HX.out _).mono ?_; rintro e w2 ⟨rfl, hb⟩; replace HB0 := Aside0.mk (below_step HB0.out hb); replace HBX := Aside0.mk (HBX.out.below hb); clear hb; have kb0 := HBX.out.c0; have kb1 := HBX.out.c1; have kb2 := HBX.out.c2; have kf0 := HBX.out.f0; have kf1 := HBX.out.f1; have kf2 := HBX.out.f2) | (go_at_call 9; refine (HNO.out _).mono ?_; have HSZ := Aside0.mk (World.block_lt_of_cell? _ _ HBX.out.c0); rintro e w3 ⟨v, rfl, hv, hb⟩; replace HB0 := Aside0.mk (below_step HB0.out hb); replace HBX := Aside0.mk (HBX.out.below hb); clear hb; have kb0 := HBX.out.c0; have kb1 := HBX.out.c1; have kb2 := HBX.out.c2; have kf0 := HBX.out.f0; have kf1 := HBX.out.f1; have kf2 := HBX.out.f2; have HV := Aside0.mk hv; clear hv; obtain ⟨A1, c1, rfl, _, _⟩ := HV.out.form) | (go_at_call 10; refine (wholeOf_n true _ _ _ _ HV.out).mono ?_; rintro e w4 ⟨rfl, hb⟩; replace HV := Aside0.mk (HV.out.below hb); replace HB0 := Aside0.mk (below_step HB0.out hb); replace HBX := Aside0.mk (HBX.out.below hb); clear hb; have kb0 := HBX.out.c0; have kb1 := HBX.out.c1; have kb2 := HBX.out.c2; have kf0 := HBX.out.f0; have kf1 := HBX.out.f1; have kf2 := HBX.out.f2))
          have hbx := Box.put3q HBX.out (.bool (SpecWalk.sgn true (dnum u))) (.slice A1 (Digs.digs (dnum u)).length c1) (.int .i64 (0))
          refine bodyPost_ret (v := .tuple #[.agg #[.bool (SpecWalk.sgn true (dnum u)), .slice A1 (Digs.digs (dnum u)).length c1, .int .i64 (0)], .bool false]) (by simp [results, Tryd.results4, go_sem, hbx.c0, hbx.c1, hbx.c2]) rfl ⟨false, _, _, _, rfl, ⟨_, _, _, rfl⟩, fun hok ht3 => ?_, below3 HB0.out (Nat.le_refl _) _ _ _⟩
          exact absurd hok (by decide)
      · have HSI := Aside0.mk HI.out
        have kb0 := HBX.out.c0; have kb1 := HBX.out.c1; have kb2 := HBX.out.c2; have kf0 := HBX.out.f0; have kf1 := HBX.out.f1; have kf2 := HBX.out.f2
        have hnat := NatOf_d u HI.out.ud (by omega)
        by_cases hu : 0 < u.size
        · rw [decide_eq_true hu] at hnat
          have HNO := Aside0.mk hnat
          have HU := Aside0.mk hu
          clear hnat hu
          go_wp2_with (first | (go_at_call 8; refine (HX.out _).mono ?_; rintro e w2 ⟨rfl, hb⟩; replace HB0 := Aside0.mk (below_step HB0.out hb); replace HBX := Aside0.mk (HBX.out.below hb); clear hb; have kb0 := HBX.out.c0; have kb1 := HBX.out.c1; have kb2 := HBX.out.c2; have kf0 := HBX.out.f0; have kf1 := HBX.out.f1; have kf2 := HBX.out.f2) | (go_at_call 9; refine (HNO.out _).mono ?_; have HSZ := Aside0.mk (World.block_lt_of_cell? _ _ HBX.out.c0); rintro e w3 ⟨v, rfl, hv, hb⟩; replace HB0 := Aside0.mk (below_step HB0.out hb); replace HBX := Aside0.mk (HBX.out.below hb); clear hb; have kb0 := HBX.out.c0; have kb1 := HBX.out.c1; have kb2 := HBX.out.c2; have kf0 := HBX.out.f0; have kf1 := HBX.out.f1; have kf2 := HBX.out.f2; have HV := Aside0.mk hv; clear hv; obtain ⟨A1, c1, rfl, _, _⟩ := HV.out.form) | (go_at_call 10; refine (wholeOf_n true _ _ _ _ HV.out).mono ?_; rintro e w4 ⟨rfl, hb⟩; replace HV := Aside0.mk (HV.out.below hb); replace HB0 := Aside0.mk (below_step HB0.out hb); replace HBX := Aside0.mk (HBX.out.below hb); clear hb; have kb0 := HBX.out.c0; have kb1 := HBX.out.c1; have kb2 := HBX.out.c2; have kf0 := HBX.out.f0; have kf1 := HBX.out.f1; have kf2 := HBX.out.f2))
          have hbx := Box.put3q HBX.out (.bool (SpecWalk.sgn true (dnum u))) (.slice A1 (Digs.digs (dnum u)).length c1) (.int .i64 (pt + 1 - (s.size : Int)))
          refine bodyPost_ret (v := .tuple #[.agg #[.bool (SpecWalk.sgn true (dnum u)), .slice A1 (Digs.digs (dnum u)).length c1, .int .i64 (pt + 1 - (s.size : Int))], .bool true]) (by simp [results, Tryd.results4, go_sem, hbx.c0, hbx.c1, hbx.c2]) rfl ⟨true, _, _, _, rfl, ⟨_, _, _, rfl⟩, fun hok ht3 => ?_, below3 HB0.out (Nat.le_refl _) _ _ _⟩
          exact ⟨_, _, HV.out.far3 (fun k (hk : _ ≤ k) => by have := HSZ.out; omega) _ _ _, read_of (x := 0) HC.out HSI.out ht3 HU.out (.inl ⟨rfl, rfl⟩) _ (by rw [if_neg (by omega)]; omega)⟩
        · rw [decide_eq_false hu] at hnat
          have HNO := Aside0.mk hnat
          have HU := Aside0.mk hu
          clear hnat hu
          go_wp2_with (first | (go_at_call 8; refine (HX.out _).mono ?_; rintro e w2 ⟨rfl, hb⟩; replace HB0 := Aside0.mk (below_step HB0.out hb); replace HBX := Aside0.mk (HBX.out.below hb); clear hb; have kb0 := HBX.out.c0; have kb1 := HBX.out.c1; have kb2 := HBX.out.c2; have kf0 := HBX.out.f0; have kf1 := HBX.out.f1; have kf2 := HBX.out.f2) | (go_at_call 9; refine (HNO.out _).mono ?_; have HSZ := Aside0.mk (World.block_lt_of_cell? _ _ HBX.out.c0); rintro e w3 ⟨v, rfl, hv, hb⟩; replace HB0 := Aside0.mk (below_step HB0.out hb); replace HBX := Aside0.mk (HBX.out.below hb); clear hb; have kb0 := HBX.out.c0; have kb1 := HBX.out.c1; have kb2 := HBX.out.c2; have kf0 := HBX.out.f0; have kf1 := HBX.out.f1; have kf2 := HBX.out.f2; have HV := Aside0.mk hv; clear hv; obtain ⟨A1, c1, rfl, _, _⟩ := HV.out.form) | (go_at_call 10; refine (wholeOf_n true _ _ _ _ HV.out).mono ?_; rintro e w4 ⟨rfl, hb⟩; replace HV := Aside0.mk (HV.out.below hb); replace HB0 := Aside0.mk (below_step HB0.out hb); replace HBX := Aside0.mk (HBX.out.below hb); clear hb; have kb0 := HBX.out.c0; have kb1 := HBX.out.c1; have kb2 := HBX.out.c2; have kf0 := HBX.out.f0; have kf1 := HBX.out.f1; have kf2 := HBX.out.f2))
          have hbx := Box.put3q HBX.out (.bool (SpecWalk.sgn true (dnum u))) (.slice A1 (Digs.digs (dnum u)).length c1) (.int .i64 (pt + 1 - (s.size : Int)))
          refine bodyPost_ret (v := .tuple #[.agg #[.bool (SpecWalk.sgn true (dnum u)), .slice A1 (Digs.digs (dnum u)).length c1, .int .i64 (pt + 1 - (s.size : Int))], .bool false]) (by simp [results, Tryd.results4, go_sem, hbx.c0, hbx.c1, hbx.c2]) rfl ⟨false, _, _, _, rfl, ⟨_, _, _, rfl⟩, fun hok ht3 => ?_, below3 HB0.out (Nat.le_refl _) _ _ _⟩
          exact absurd hok (by decide)
end Go.Proofs.YteohmbannpbokaaDoor.ParseWalk
