/-
  The plain law of the sign: the number of a text and of its opposite.
  The law over the opposite, the amount, the sign and a copy of a decimal: it holds for every input.
-/
import Derived.Test.YteohmbannpbokaaSpecWalk4
import Derived.Test.YteohmbannpbokaaDec
import Derived.Test.YteohmbannpbokaaTextFit
import Derived.Test.YteohmbannpbokaaPzzFits1x1
import Derived.Test.YteohmbannpbokaaWEqStruct
set_option linter.unusedVariables false
set_option linter.unusedSimpArgs false
namespace Go.Proofs.Yteohmbannpbokaa.LawSign
open Go.RowKit Go.Proofs.Yteohmbannpbokaa.NatLaw Go.Proofs.Yteohmbannpbokaa.NatWalk Go.Proofs.Yteohmbannpbokaa.SpecWalk Go.Proofs.Yteohmbannpbokaa.TextLaw Go.Proofs.Yteohmbannpbokaa.TextWalk Go.Proofs.Yteohmbannpbokaa.DecWalk
theorem fnum_pos (n : Nat) (x : Int) : 0 < fnum n x ↔ 0 < n := by
  unfold fnum
  have h : 0 < 10 ^ x.toNat := Nat.pow_pos (by decide)
  constructor
  · intro h1
    exact Nat.pos_of_mul_pos_right h1 |> fun h2 => by first | exact h2 | omega
  · intro h1
    exact Nat.mul_pos h1 h
theorem sgn_fnum (b : Bool) (n : Nat) (x : Int) : sgn b (fnum n x) = sgn b n := by
  unfold sgn
  rw [decide_eq_decide.mpr (fnum_pos n x)]
theorem sig_fnum (b : Bool) (n : Nat) (x : Int) : sig b (fnum n x) = sgv b n := by
  have h := fnum_pos n x
  unfold sig sgv
  by_cases h0 : n = 0
  · have h1 : fnum n x = 0 := by omega
    simp [h0, h1]
    try (rw [h0] at h1; simp [h1])
  · have h1 : fnum n x ≠ 0 := by omega
    simp [h0, h1]
theorem cmp_same (s : Bool) (a : Nat) : cmpW s a s a = 0 := by
  unfold cmpW cmpN
  simp
end Go.Proofs.Yteohmbannpbokaa.LawSign

set_option linter.unusedVariables false
set_option linter.unusedSimpArgs false
namespace Go.Proofs.Yteohmbannpbokaa.LawSign
open Go.RowKit Go.Proofs.YteohmbannpbokaaW.PrintWords Go.Proofs.YteohmbannpbokaaW.PrintLast Go.Proofs.YteohmbannpbokaaW.PrintMore Go.Proofs.Yteohmbannpbokaa.Digs Go.Proofs.Yteohmbannpbokaa.StrLaw Go.Proofs.Yteohmbannpbokaa.NatLaw Go.Proofs.Yteohmbannpbokaa.NatWalk Go.Proofs.Yteohmbannpbokaa.SpecWalk Go.Proofs.Yteohmbannpbokaa.TextLaw Go.Proofs.Yteohmbannpbokaa.TextWalk Go.Proofs.Yteohmbannpbokaa.TextFit Go.Proofs.Yteohmbannpbokaa.DecWalk
open Go.Proofs.Yteohmbannpbokaa.PzzFits1

theorem fits_n (s : ByteArray) (x : Int) (w : World) (h : s.size ≤ 2147483647) :
    Calls Try.prog 4 #[.agg #[.string s, .int .i64 x]] w fun e w' => e = .returned (.bool true) ∧ Below w.heap.size w w' := by
  refine laws_zzFits1.calls s x true w ?_
  unfold laws_zzFits1.f
  rw [if_neg (by omega)]
theorem fits_not (s : ByteArray) (x : Int) (w : World) (h : ¬ s.size ≤ 2147483647) :
    Calls Try.prog 4 #[.agg #[.string s, .int .i64 x]] w fun e w' => e = .returned (.bool false) ∧ Below w.heap.size w w' := by
  refine laws_zzFits1.calls s x false w ?_
  unfold laws_zzFits1.f
  rw [if_pos (by omega)]
set_option maxHeartbeats 1000000 in
theorem law_out (s : ByteArray) (x : Int) (w : World) (h : ¬ s.size ≤ 2147483647) : Calls Try.prog 3 #[.agg #[.string s, .int .i64 x]] w fun e w' => e = .returned (.bool true) ∧ Below w.heap.size w w' := by
  have HM := Aside0.mk (fun w => fits_not s x w h)
  clear h
  go_enter Try.func3, Try.ntmps3
  go_wp2_with fail
  have dx0 : Box (w.alloc (Obj.cells #[Value.string s, Value.int .i64 x] 23)) w.heap.size [.string s, .int .i64 x] := (Box.new2 w _ _ _ _ (by simp))
  have hB0 : Below w.heap.size w (w.alloc (Obj.cells #[Value.string s, Value.int .i64 x] 23)) := ((Below.refl _ _).alloc (Nat.le_refl _) _)
  have kdx00 := dx0.c0; have kdx01 := dx0.c1; have qdx00 := dx0.f0; have qdx01 := dx0.f1
  go_wp2_with (first | (go_at_call 4; (with_reducible refine (HM.out _).mono ?_); rintro e w1 ⟨rfl, hb1⟩; have sz1 := hb1.size; (try simp at sz1); (with_reducible have dx1 := dx0.below hb1); have kdx10 := dx1.c0; have kdx11 := dx1.c1; have qdx10 := dx1.f0; have qdx11 := dx1.f1))
  go_ret
  exact ⟨rfl, below_step hB0 hb1⟩
theorem len_fnum {n : Nat} {E : Int} (h : nd n ≤ 60) (hE : E ≤ 60) : (digs (fnum n E)).length ≤ 120 := by
  have h1 : fnum n E < 10 ^ (nd n + E.toNat) := by
    unfold fnum
    rw [Nat.pow_add]
    exact Nat.mul_lt_mul_of_pos_right (lt_of_nd n) (Nat.pow_pos (by decide))
  have h2 := nd_le h1
  have h3 := len_le_nd (fnum n E)
  omega
theorem len_fden {E : Int} (hE : -60 ≤ E) : (digs (fden E)).length ≤ 61 := by
  have := len_pow10 (-E).toNat
  unfold fden
  omega
theorem sgn_own (b : Bool) (n : Nat) : sgn (sgn b n) n = sgn b n := by cases b <;> simp [sgn]
theorem says_own (b : Bool) (n : Nat) (E : Int) (om oq : Nat → Prop) (v u : Value) (w : World) (hb : sgn b n = b) (hn : nd n ≤ 60) (hE : -60 ≤ E ∧ E ≤ 60) (hv : Rdv w om v (fnum n E)) (hu : Rdv w oq u (fden E)) :
    Calls Try.prog 10 #[.agg #[.string (stext b n), .int .i64 E], .agg #[.bool b, v, u]] w fun en w' => en = .returned (.bool true) ∧ Below w.heap.size w w' :=
  Says_n b b n (fnum n E) (fden E) E om oq v u w hb (by omega) (by omega) hv hu (by have := len_fnum hn hE.2; omega) (by have := len_fden hE.1; omega) (cmp_same _ _)
theorem w64_0 : IntKind.i64.wrap 0 = 0 := by rw [i64_w]; exact w64 0 (by decide) (by decide)
theorem same_eq (T : ByteArray) (E : Int) (w : World) : (Op.equalIn 10000 23 (.agg #[.string T, .int .i64 E]) (.agg #[.string T, .int .i64 E])).run Try.prog w = .ok true w := by
  have h : (Op.equalIn 10000 23 (.agg #[.string T, .int .i64 E]) (.agg #[.string T, .int .i64 E])).run Try.prog w = .ok ((T.toList == T.toList) && (E == E)) w := by
    refine eqA_of Try.underlying23 (by kernel_rfl) ?_
    refine eqf_cons (by rfl) (a := .string T) (b := .string T) (by kernel_rfl) (by kernel_rfl) ?_ (eqf_last (by rfl) (a := .int .i64 E) (b := .int .i64 E) (by kernel_rfl) (by kernel_rfl) ?_)
    · exact run_equalIn_string _ _ _ _ _ (by kernel_rfl)
    · exact run_equalIn_int _ _ _ _ .i64 _ _ (by kernel_rfl)
  rw [h]
  simp
theorem same_n (T : ByteArray) (E : Int) (w : World) : (binOp .eql 23 (.agg #[.string T, .int .i64 E]) (.agg #[.string T, .int .i64 E])).run Try.prog w = .ok (.bool true) w := by
  rw [run_eql_struct, same_eq]
  rfl
set_option maxHeartbeats 4000000 in
theorem law_in (s : ByteArray) (x : Int) (w : World) (hs : s.size ≤ 2147483647) (hx : -9223372036854775808 ≤ x ∧ x ≤ 9223372036854775807) : Calls Try.prog 3 #[.agg #[.string s, .int .i64 x]] w fun e w' => e = .returned (.bool true) ∧ Below w.heap.size w w' := by
  have HM := Aside0.mk (fun w => fits_n s x w hs)
  have HO := Aside0.mk (fun w => arOne_n s x w hs hx)
  have hE : -60 ≤ x.tmod 61 ∧ x.tmod 61 ≤ 60 := by
    have h1 := Int.tmod_lt_of_pos x (show (0 : Int) < 61 by decide)
    have h2 := Int.lt_tmod_of_pos x (show (0 : Int) < 61 by decide)
    omega
  have HE := Aside0.mk hE
  clear hs hx hE
  generalize x.tmod 61 = E at *
  go_enter Try.func3, Try.ntmps3
  go_wp2_with fail
  have dx0 : Box (w.alloc (Obj.cells #[Value.string s, Value.int .i64 x] 23)) w.heap.size [.string s, .int .i64 x] := (Box.new2 w _ _ _ _ (by simp))
  have hB0 : Below w.heap.size w (w.alloc (Obj.cells #[Value.string s, Value.int .i64 x] 23)) := ((Below.refl _ _).alloc (Nat.le_refl _) _)
  have kdx00 := dx0.c0; have kdx01 := dx0.c1; have qdx00 := dx0.f0; have qdx01 := dx0.f1
  go_wp2_with (first | (go_at_call 4; (with_reducible refine (HM.out _).mono ?_); rintro e w1 ⟨rfl, hb1⟩; have sz1 := hb1.size; (try simp at sz1); (with_reducible have dx1 := dx0.below hb1); have kdx10 := dx1.c0; have kdx11 := dx1.c1; have qdx10 := dx1.f0; have qdx11 := dx1.f1) | (go_at_call 5; (with_reducible refine (HO.out _).mono ?_); rintro e w2 ⟨v, rfl, hv, hb2⟩; have sz2 := hb2.size; (try simp at sz2); (with_reducible have dx2 := dx1.below hb2); have kdx20 := dx2.c0; have kdx21 := dx2.c1; have qdx20 := dx2.f0; have qdx21 := dx2.f1; obtain ⟨b, n, u, d, rfl, hsb, hnd, hu, hd⟩ := hv.out; have HSB := Aside0.mk hsb; have HND := Aside0.mk hnd; have HU := Aside0.mk hu; have HD := Aside0.mk hd; clear hsb hnd hu hd hv; obtain ⟨A1, c1, rfl, _, _⟩ := HU.out.form; obtain ⟨A2, c2, rfl, _, _⟩ := HD.out.form; have ne1 : w.heap.size ≠ w2.heap.size := (by omega); have ne2 : w2.heap.size ≠ w.heap.size := (by omega); have ux2 := dx2.alloc (Obj.cells #[Value.bool false, Value.slice none 0 0, Value.slice none 0 0] 30); have fx2 : Box (w2.alloc (Obj.cells #[Value.bool false, Value.slice none 0 0, Value.slice none 0 0] 30)) w2.heap.size [.bool false, .slice none 0 0, .slice none 0 0] := Box.new3 _ _ _ _ _ _ rfl; have kux20 := ux2.c0; have kux21 := ux2.c1; have qux20 := ux2.f0; have qux21 := ux2.f1; have kfx20 := fx2.c0; have kfx21 := fx2.c1; have kfx22 := fx2.c2; have qfx20 := fx2.f0; have qfx21 := fx2.f1; have qfx22 := fx2.f2; have vx2 := ux2.put2 (.string (stext b n)) (.int .i64 E); have gx2 := fx2.far2 ne2 (.string (stext b n)) (.int .i64 E); have kvx20 := vx2.c0; have kvx21 := vx2.c1; have qvx20 := vx2.f0; have qvx21 := vx2.f1; have kgx20 := gx2.c0; have kgx21 := gx2.c1; have kgx22 := gx2.c2; have qgx20 := gx2.f0; have qgx21 := gx2.f1; have qgx22 := gx2.f2; have dx3 := vx2.far3 ne1 (.bool b) (.slice A1 (digs (fnum n E)).length c1) (.slice A2 (digs (fden E)).length c2); have fx3 := gx2.put3' (.bool b) (.slice A1 (digs (fnum n E)).length c1) (.slice A2 (digs (fden E)).length c2); have kdx30 := dx3.c0; have kdx31 := dx3.c1; have qdx30 := dx3.f0; have qdx31 := dx3.f1; have kfx30 := fx3.c0; have kfx31 := fx3.c1; have kfx32 := fx3.c2; have qfx30 := fx3.f0; have qfx31 := fx3.f1; have qfx32 := fx3.f2))
  have HU1 := Aside0.mk ((((HU.out.bound.below (Below.refl w2.heap.size w2 |>.alloc (Nat.le_refl _) (Obj.cells #[Value.bool false, Value.slice none 0 0, Value.slice none 0 0] 30))).far2 (g := w.heap.size) (fun k hk => by have h1 : w1.heap.size ≤ k := hk.1; omega) (.string (stext b n)) (.int .i64 E)).far3 (g := w2.heap.size) (fun k hk => by have h1 : k < w2.heap.size := hk.2; omega) (.bool b) (.slice A1 (digs (fnum n E)).length c1) (.slice A2 (digs (fden E)).length c2)))
  have HD1 := Aside0.mk ((((HD.out.bound.below (Below.refl w2.heap.size w2 |>.alloc (Nat.le_refl _) (Obj.cells #[Value.bool false, Value.slice none 0 0, Value.slice none 0 0] 30))).far2 (g := w.heap.size) (fun k hk => by have h1 : w1.heap.size ≤ k := hk.1; omega) (.string (stext b n)) (.int .i64 E)).far3 (g := w2.heap.size) (fun k hk => by have h1 : k < w2.heap.size := hk.2; omega) (.bool b) (.slice A1 (digs (fnum n E)).length c1) (.slice A2 (digs (fden E)).length c2)))
  have HB1 := Aside0.mk (below3 (g := w2.heap.size) (below2 (g := w.heap.size) (below_step (below_step (below_step hB0 hb1) hb2) (Below.refl w2.heap.size w2 |>.alloc (Nat.le_refl _) (Obj.cells #[Value.bool false, Value.slice none 0 0, Value.slice none 0 0] 30))) (Nat.le_refl _) (.string (stext b n)) (.int .i64 E)) (by omega) (.bool b) (.slice A1 (digs (fnum n E)).length c1) (.slice A2 (digs (fden E)).length c2))
  have HSZ := Aside0.mk (show w2.heap.size < ((((((w2.alloc (Obj.cells #[Value.bool false, Value.slice none 0 0, Value.slice none 0 0] 30)).setCell ⟨w.heap.size, 0, none⟩ (.string (stext b n))).setCell ⟨w.heap.size, 1, none⟩ (.int .i64 E)).setCell ⟨w2.heap.size, 0, none⟩ (.bool b)).setCell ⟨w2.heap.size, 1, none⟩ (.slice A1 (digs (fnum n E)).length c1)).setCell ⟨w2.heap.size, 2, none⟩ (.slice A2 (digs (fden E)).length c2)).heap.size by simp)
  clear HU HD hb1 hb2 sz1 sz2 dx0 dx1 dx2 ux2 fx2 vx2 gx2 kdx00 kdx01 kdx10 kdx11 kdx20 kdx21 kux20 kux21 kfx20 kfx21 kfx22 kvx20 kvx21 kgx20 kgx21 kgx22 qdx00 qdx01 qdx10 qdx11 qdx20 qdx21 qux20 qux21 qfx20 qfx21 qfx22 qvx20 qvx21 qgx20 qgx21 qgx22 hB0 HM HO
  generalize ((((((w2.alloc (Obj.cells #[Value.bool false, Value.slice none 0 0, Value.slice none 0 0] 30)).setCell ⟨w.heap.size, 0, none⟩ (.string (stext b n))).setCell ⟨w.heap.size, 1, none⟩ (.int .i64 E)).setCell ⟨w2.heap.size, 0, none⟩ (.bool b)).setCell ⟨w2.heap.size, 1, none⟩ (.slice A1 (digs (fnum n E)).length c1)).setCell ⟨w2.heap.size, 2, none⟩ (.slice A2 (digs (fden E)).length c2)) = W at *
  generalize w2.heap.size = F at *
  have HE1 := Aside0.mk HE.out.1
  have HE2 := Aside0.mk HE.out.2
  have HN := Aside0.mk (fun w => neg_n b n E w HSB.out (by have := HND.out; omega) (by have := HE.out; omega) (by have := HE.out; omega))
  have HA := Aside0.mk (fun w => abs_n b n E w HSB.out (by have := HND.out; omega) (by have := HE.out; omega) (by have := HE.out; omega))
  have HG := Aside0.mk (fun w => door_sign b n E w HSB.out (by have := HND.out; omega) (by have := HE.out; omega) (by have := HE.out; omega))
  have HC := Aside0.mk (fun w => copy_n b n E w HSB.out (by have := HND.out; omega) (by have := HE.out; omega) (by have := HE.out; omega))
  have hm := fun ok od v u w hv hu => FracMinus_n b (fnum n E) (fden E) ok od v u w hv hu
  rw [sgn_fnum] at hm
  have HM := Aside0.mk hm
  have HP := Aside0.mk (fun ok od v u w hv hu => FracAbs_n b (fnum n E) (fden E) ok od v u w hv hu)
  have HY1 := Aside0.mk (fun om oq v u w hv hu => says_own (sgn (!b) n) n E om oq v u w (sgn_own _ _) HND.out HE.out hv hu)
  have HY2 := Aside0.mk (fun om oq v u w hv hu => says_own false n E om oq v u w (by simp [sgn]) HND.out HE.out hv hu)
  have hw := fun ok v w hv => WholeSign_n b (fnum n E) ok v w hv (by rw [sgn_fnum]; exact HSB.out) (by have := len_fnum HND.out HE.out.2; omega)
  rw [sig_fnum] at hw
  have HW := Aside0.mk hw
  have HQ := Aside0.mk (same_n (stext b n) E)
  clear hm hw HSB HND HE HE1 HE2
  generalize stext (sgn (!b) n) n = T1 at *
  generalize stext false n = T2 at *
  generalize stext b n = T at *
  generalize sgn (!b) n = b1 at *
  generalize sgv b n = sg at *
  generalize fnum n E = fn at *
  generalize fden E = fd at *
  generalize hl1 : (digs fn).length = l1 at *
  generalize hl2 : (digs fd).length = l2 at *
  have dx2 := dx3
  have fx2 := fx3
  clear dx3 fx3
  go_wp2_with (first | (go_at_call 6; (with_reducible refine (HN.out _).mono ?_); rintro e w3 ⟨rfl, hb3⟩; have sz3 := hb3.size; (try simp at sz3); (with_reducible have dx3 := dx2.below hb3); have kdx30 := dx3.c0; have kdx31 := dx3.c1; have qdx30 := dx3.f0; have qdx31 := dx3.f1; (with_reducible have fx3 := fx2.below hb3); have kfx30 := fx3.c0; have kfx31 := fx3.c1; have kfx32 := fx3.c2; have qfx30 := fx3.f0; have qfx31 := fx3.f1; have qfx32 := fx3.f2; have HW3 := Aside0.mk ((Below.refl w3.heap.size w3).alloc (Nat.le_refl _) (Obj.cells #[.string T1, .int .i64 E] 23)); have dx3 := dx3.alloc (Obj.cells #[.string T1, .int .i64 E] 23); have kdx30 := dx3.c0; have kdx31 := dx3.c1; have qdx30 := dx3.f0; have qdx31 := dx3.f1; have fx3 := fx3.alloc (Obj.cells #[.string T1, .int .i64 E] 23); have kfx30 := fx3.c0; have kfx31 := fx3.c1; have kfx32 := fx3.c2; have qfx30 := fx3.f0; have qfx31 := fx3.f1; have qfx32 := fx3.f2; have nx3 : Box (w3.alloc (Obj.cells #[.string T1, .int .i64 E] 23)) w3.heap.size [.string T1, .int .i64 E] := Box.new2 _ _ _ _ _ rfl; have knx30 := nx3.c0; have knx31 := nx3.c1; have qnx30 := nx3.f0; have qnx31 := nx3.f1) | (go_at_call 7; (with_reducible refine (HA.out _).mono ?_); rintro e w4 ⟨rfl, hb4⟩; have sz4 := hb4.size; (try simp at sz4); (with_reducible have dx4 := dx3.below hb4); have kdx40 := dx4.c0; have kdx41 := dx4.c1; have qdx40 := dx4.f0; have qdx41 := dx4.f1; (with_reducible have fx4 := fx3.below hb4); have kfx40 := fx4.c0; have kfx41 := fx4.c1; have kfx42 := fx4.c2; have qfx40 := fx4.f0; have qfx41 := fx4.f1; have qfx42 := fx4.f2; have HW4 := Aside0.mk ((Below.refl w4.heap.size w4).alloc (Nat.le_refl _) (Obj.cells #[.string T2, .int .i64 E] 23)); have nx4 := nx3.below hb4; have dx4 := dx4.alloc (Obj.cells #[.string T2, .int .i64 E] 23); have kdx40 := dx4.c0; have kdx41 := dx4.c1; have qdx40 := dx4.f0; have qdx41 := dx4.f1; have fx4 := fx4.alloc (Obj.cells #[.string T2, .int .i64 E] 23); have kfx40 := fx4.c0; have kfx41 := fx4.c1; have kfx42 := fx4.c2; have qfx40 := fx4.f0; have qfx41 := fx4.f1; have qfx42 := fx4.f2; have nx4 := nx4.alloc (Obj.cells #[.string T2, .int .i64 E] 23); have knx40 := nx4.c0; have knx41 := nx4.c1; have qnx40 := nx4.f0; have qnx41 := nx4.f1; have ax4 : Box (w4.alloc (Obj.cells #[.string T2, .int .i64 E] 23)) w4.heap.size [.string T2, .int .i64 E] := Box.new2 _ _ _ _ _ rfl; have kax40 := ax4.c0; have kax41 := ax4.c1; have qax40 := ax4.f0; have qax41 := ax4.f1) | (go_at_call 8; (with_reducible refine (HG.out _).mono ?_); rintro e w5 ⟨rfl, hb5⟩; have sz5 := hb5.size; (try simp at sz5); (with_reducible have dx5 := dx4.below hb5); have kdx50 := dx5.c0; have kdx51 := dx5.c1; have qdx50 := dx5.f0; have qdx51 := dx5.f1; (with_reducible have fx5 := fx4.below hb5); have kfx50 := fx5.c0; have kfx51 := fx5.c1; have kfx52 := fx5.c2; have qfx50 := fx5.f0; have qfx51 := fx5.f1; have qfx52 := fx5.f2; have nx5 := nx4.below hb5; have knx50 := nx5.c0; have knx51 := nx5.c1; have qnx50 := nx5.f0; have qnx51 := nx5.f1; have ax5 := ax4.below hb5; have kax50 := ax5.c0; have kax51 := ax5.c1; have qax50 := ax5.f0; have qax51 := ax5.f1) | (go_at_call 9; (with_reducible refine (HC.out _).mono ?_); rintro e w6 ⟨rfl, hb6⟩; have sz6 := hb6.size; (try simp at sz6); (with_reducible have dx6 := dx5.below hb6); have kdx60 := dx6.c0; have kdx61 := dx6.c1; have qdx60 := dx6.f0; have qdx61 := dx6.f1; (with_reducible have fx6 := fx5.below hb6); have kfx60 := fx6.c0; have kfx61 := fx6.c1; have kfx62 := fx6.c2; have qfx60 := fx6.f0; have qfx61 := fx6.f1; have qfx62 := fx6.f2; have HW6 := Aside0.mk ((Below.refl w6.heap.size w6).alloc (Nat.le_refl _) (Obj.cells #[.string T, .int .i64 E] 23)); have nx6 := nx5.below hb6; have ax6 := ax5.below hb6; have dx6 := dx6.alloc (Obj.cells #[.string T, .int .i64 E] 23); have kdx60 := dx6.c0; have kdx61 := dx6.c1; have qdx60 := dx6.f0; have qdx61 := dx6.f1; have fx6 := fx6.alloc (Obj.cells #[.string T, .int .i64 E] 23); have kfx60 := fx6.c0; have kfx61 := fx6.c1; have kfx62 := fx6.c2; have qfx60 := fx6.f0; have qfx61 := fx6.f1; have qfx62 := fx6.f2; have nx6 := nx6.alloc (Obj.cells #[.string T, .int .i64 E] 23); have knx60 := nx6.c0; have knx61 := nx6.c1; have qnx60 := nx6.f0; have qnx61 := nx6.f1; have ax6 := ax6.alloc (Obj.cells #[.string T, .int .i64 E] 23); have kax60 := ax6.c0; have kax61 := ax6.c1; have qax60 := ax6.f0; have qax61 := ax6.f1; have cx6 : Box (w6.alloc (Obj.cells #[.string T, .int .i64 E] 23)) w6.heap.size [.string T, .int .i64 E] := Box.new2 _ _ _ _ _ rfl; have kcx60 := cx6.c0; have kcx61 := cx6.c1; have qcx60 := cx6.f0; have qcx61 := cx6.f1))
  have HBW := Aside0.mk (below_step (below_step (below_step (below_step (below_step (below_step hb3 HW3.out) hb4) HW4.out) hb5) hb6) HW6.out)
  have HU0 := (HU1.out.below HBW.out).drew
  have HD0 := (HD1.out.below HBW.out).drew
  have HB0 := Aside0.mk (below_step HB1.out HBW.out).drew
  have dx0 := dx6.drew
  have fx0 := fx6.drew
  have nx0 := nx6.drew
  have ax0 := ax6.drew
  have cx0 := cx6.drew
  have hsz : w.heap.size < (w6.alloc (Obj.cells #[.string T, .int .i64 E] 23)).drew.heap.size := by have := HB0.out.size; have := dx0.c0; have := World.block_lt_of_cell? _ _ this; simpa using this
  clear HBW HB1 HU1 HD1 HW3 HW4 HW6 hb3 hb4 hb5 hb6 sz3 sz4 sz5 sz6 dx2 fx2 dx3 kdx30 kdx31 qdx30 qdx31 nx3 knx30 knx31 qnx30 qnx31 dx4 kdx40 kdx41 qdx40 qdx41 nx4 knx40 knx41 qnx40 qnx41 dx5 kdx50 kdx51 qdx50 qdx51 nx5 knx50 knx51 qnx50 qnx51 dx6 kdx60 kdx61 qdx60 qdx61 nx6 knx60 knx61 qnx60 qnx61 ax4 kax40 kax41 qax40 qax41 ax5 kax50 kax51 qax50 qax51 ax6 kax60 kax61 qax60 qax61 cx6 kcx60 kcx61 qcx60 qcx61 fx3 kfx30 kfx31 kfx32 qfx30 qfx31 qfx32 fx4 kfx40 kfx41 kfx42 qfx40 qfx41 qfx42 fx5 kfx50 kfx51 kfx52 qfx50 qfx51 qfx52 fx6 kfx60 kfx61 kfx62 qfx60 qfx61 qfx62 HN HA HG HC
  generalize w6.alloc (Obj.cells #[.string T, .int .i64 E] 23) = W9 at *
  generalize w3.heap.size = gN at *
  generalize w4.heap.size = gA at *
  generalize w6.heap.size = gC at *
  generalize hW9 : W9.drew.heap.size = S9 at *
  have heq := HQ.out
  refine start_ (n := 33) (S := fun w' => w'.cell? ⟨w.heap.size, 0, none⟩ = some (.string T) ∧ w'.cell? ⟨w.heap.size, 1, none⟩ = some (.int .i64 E) ∧ w'.cell? ⟨F, 0, none⟩ = some (.bool b) ∧ w'.cell? ⟨F, 1, none⟩ = some (.slice A1 l1 c1) ∧ w'.cell? ⟨F, 2, none⟩ = some (.slice A2 l2 c2) ∧ w'.cell? ⟨gN, 0, none⟩ = some (.string T1) ∧ w'.cell? ⟨gN, 1, none⟩ = some (.int .i64 E) ∧ w'.cell? ⟨gA, 0, none⟩ = some (.string T2) ∧ w'.cell? ⟨gA, 1, none⟩ = some (.int .i64 E) ∧ w'.cell? ⟨gC, 0, none⟩ = some (.string T) ∧ w'.cell? ⟨gC, 1, none⟩ = some (.int .i64 E)) (ds := []) #[false, false, false, false, false, false, false, false, false, false, false, false, false, false, false, false, false, false, false, false, false, false, false, false, false, false, false, false, false, false, false, false, false] (by kernel_rfl) rfl rfl ⟨dx0.c0, dx0.c1, fx0.c0, fx0.c1, fx0.c2, nx0.c0, nx0.c1, ax0.c0, ax0.c1, cx0.c0, cx0.c1⟩ (fun hHeld => ?_)
  refine pure_ (i := 0) (N := some 40) (v := ?_) (a' := ?_) #[true, false, false, false, false, false, false, false, false, false, false, false, false, false, false, false, false, false, false, false, false, false, false, false, false, false, false, false, false, false, false, false, false] rfl rfl (by kernel_rfl) (fun _ _ _ h => h) (Or.inl ⟨by rfl, ?_⟩) ?_ ?_
  rotate_left
  · intro w'
    go_simp
    with_reducible rfl
  rotate_left
  · simp only [Act.put, List.setIfInBounds_toArray, List.set_cons_zero, List.set_cons_succ, i64_w, i32_w]
    rfl
  refine pure_ (i := 1) (N := some 41) (v := ?_) (a' := ?_) #[true, true, false, false, false, false, false, false, false, false, false, false, false, false, false, false, false, false, false, false, false, false, false, false, false, false, false, false, false, false, false, false, false] rfl rfl (by kernel_rfl) (fun _ _ _ h => h) (Or.inl ⟨by rfl, ?_⟩) ?_ ?_
  rotate_left
  · intro w'
    go_simp
    with_reducible rfl
  rotate_left
  · simp only [Act.put, List.setIfInBounds_toArray, List.set_cons_zero, List.set_cons_succ, i64_w, i32_w]
    rfl
  refine pure_ (i := 2) (N := some 42) (v := ?_) (a' := ?_) #[true, true, true, false, false, false, false, false, false, false, false, false, false, false, false, false, false, false, false, false, false, false, false, false, false, false, false, false, false, false, false, false, false] rfl rfl (by kernel_rfl) (fun _ _ _ h => h) (Or.inl ⟨by rfl, ?_⟩) ?_ ?_
  rotate_left
  · intro w'
    go_simp
    simp only [w64_0]
    with_reducible rfl
  rotate_left
  · simp only [Act.put, List.setIfInBounds_toArray, List.set_cons_zero, List.set_cons_succ, i64_w, i32_w]
    rfl
  refine pure_ (i := 3) (N := some 43) (v := ?_) (a' := ?_) #[true, true, true, true, false, false, false, false, false, false, false, false, false, false, false, false, false, false, false, false, false, false, false, false, false, false, false, false, false, false, false, false, false] rfl rfl (by kernel_rfl) (fun _ _ _ h => h) (Or.inl ⟨by rfl, ?_⟩) ?_ ?_
  rotate_left
  · intro w'
    go_simp
    with_reducible rfl
  rotate_left
  · simp only [Act.put, List.setIfInBounds_toArray, List.set_cons_zero, List.set_cons_succ, i64_w, i32_w]
    rfl
  refine pure_ (i := 4) (N := some 44) (v := ?_) (a' := ?_) #[true, true, true, true, true, false, false, false, false, false, false, false, false, false, false, false, false, false, false, false, false, false, false, false, false, false, false, false, false, false, false, false, false] rfl rfl (by kernel_rfl) (fun _ _ _ h => h) (Or.inl ⟨by rfl, ?_⟩) ?_ ?_
  rotate_left
  · intro w'
    go_simp
    simp only [w64_0]
    with_reducible rfl
  rotate_left
  · simp only [Act.put, List.setIfInBounds_toArray, List.set_cons_zero, List.set_cons_succ, i64_w, i32_w]
    rfl
  refine pure_ (i := 5) (N := some 45) (v := ?_) (a' := ?_) #[true, true, true, true, true, true, false, false, false, false, false, false, false, false, false, false, false, false, false, false, false, false, false, false, false, false, false, false, false, false, false, false, false] rfl rfl (by kernel_rfl) (fun _ _ _ h => h) (Or.inl ⟨by rfl, ?_⟩) ?_ ?_
  rotate_left
  · intro w'
    go_simp
    with_reducible rfl
  rotate_left
  · simp only [Act.put, List.setIfInBounds_toArray, List.set_cons_zero, List.set_cons_succ, i64_w, i32_w]
    rfl
  refine pure_ (i := 6) (N := some 46) (v := ?_) (a' := ?_) #[true, true, true, true, true, true, true, false, false, false, false, false, false, false, false, false, false, false, false, false, false, false, false, false, false, false, false, false, false, false, false, false, false] rfl rfl (by kernel_rfl) (fun _ _ _ h => h) (Or.inl ⟨by rfl, ?_⟩) ?_ ?_
  rotate_left
  · intro w'
    go_simp
    simp only [w64_0]
    with_reducible rfl
  rotate_left
  · simp only [Act.put, List.setIfInBounds_toArray, List.set_cons_zero, List.set_cons_succ, i64_w, i32_w]
    rfl
  refine pure_ (i := 7) (N := some 47) (v := ?_) (a' := ?_) #[true, true, true, true, true, true, true, true, false, false, false, false, false, false, false, false, false, false, false, false, false, false, false, false, false, false, false, false, false, false, false, false, false] rfl rfl (by kernel_rfl) (fun _ _ _ h => h) (Or.inl ⟨by rfl, ?_⟩) ?_ ?_
  rotate_left
  · intro w'
    go_simp
    with_reducible rfl
  rotate_left
  · simp only [Act.put, List.setIfInBounds_toArray, List.set_cons_zero, List.set_cons_succ, i64_w, i32_w]
    rfl
  refine pure_ (i := 8) (N := some 48) (v := ?_) (a' := ?_) #[true, true, true, true, true, true, true, true, true, false, false, false, false, false, false, false, false, false, false, false, false, false, false, false, false, false, false, false, false, false, false, false, false] rfl rfl (by kernel_rfl) (fun _ _ _ h => h) (Or.inl ⟨by rfl, ?_⟩) ?_ ?_
  rotate_left
  · intro w'
    go_simp
    with_reducible rfl
  rotate_left
  · simp only [Act.put, List.setIfInBounds_toArray, List.set_cons_zero, List.set_cons_succ, i64_w, i32_w]
    rfl
  refine take_ (i := 9) (N := some 49) (v := ?_) (a' := ?_) #[true, true, true, true, true, true, true, true, true, true, false, false, false, false, false, false, false, false, false, false, false, false, false, false, false, false, false, false, false, false, false, false, false] rfl rfl (by kernel_rfl) (fun _ _ _ h => h) (Or.inl ⟨by rfl, ?_⟩) hHeld ?_ ?_
  rotate_left
  · rintro w' ⟨s0, s1, s2, s3, s4, s5, s6, s7, s8, s9, s10⟩
    go_simp
    with_reducible rfl
  rotate_left
  · simp only [Act.put, List.setIfInBounds_toArray, List.set_cons_zero, List.set_cons_succ, i64_w, i32_w]
    rfl
  refine take_ (i := 10) (N := some 50) (v := ?_) (a' := ?_) #[true, true, true, true, true, true, true, true, true, true, true, false, false, false, false, false, false, false, false, false, false, false, false, false, false, false, false, false, false, false, false, false, false] rfl rfl (by kernel_rfl) (fun _ _ _ h => h) (Or.inl ⟨by rfl, ?_⟩) hHeld ?_ ?_
  rotate_left
  · rintro w' ⟨s0, s1, s2, s3, s4, s5, s6, s7, s8, s9, s10⟩
    go_simp
    with_reducible rfl
  rotate_left
  · simp only [Act.put, List.setIfInBounds_toArray, List.set_cons_zero, List.set_cons_succ, i64_w, i32_w]
    rfl
  refine one_ (i := 11) (N := some 51) #[true, true, true, true, true, true, true, true, true, true, true, true, false, false, false, false, false, false, false, false, false, false, false, false, false, false, false, false, false, false, false, false, false] rfl rfl (by kernel_rfl) (by decide) (fun K hK => ?_)
  refine goes_ Try.func11 (by kernel_rfl) rfl #[.agg #[.bool b, .slice A1 l1 c1, .slice A2 l2 c2]] (by rfl) rfl rfl (by (try simp only [List.map_toArray, List.map_cons, List.map_nil]); first | done | rfl) ?_
  refine (HM.out _ _ _ _ _ HU0 HD0).mono ?_
  rintro e w1 ⟨rfl, hb1⟩
  refine ⟨_, rfl, ?_⟩
  have sz1 := hb1.size; simp at sz1
  have dx1 := dx0.below hb1
  have fx1 := fx0.below hb1
  have nx1 := nx0.below hb1
  have ax1 := ax0.below hb1
  have cx1 := cx0.below hb1
  refine hK.out _ _ ⟨dx1.c0, dx1.c1, fx1.c0, fx1.c1, fx1.c2, nx1.c0, nx1.c1, ax1.c0, ax1.c1, cx1.c0, cx1.c1⟩ (fun hHeld => ?_)
  clear hK K
  refine norm_ (a' := ?_) ?_ ?_
  rotate_left
  · show Act.put _ (some 51) _ = _
    simp only [Act.put, List.setIfInBounds_toArray, List.set_cons_zero, List.set_cons_succ, i64_w, i32_w]
    rfl
  refine one_ (i := 12) (N := some 52) #[true, true, true, true, true, true, true, true, true, true, true, true, true, false, false, false, false, false, false, false, false, false, false, false, false, false, false, false, false, false, false, false, false] rfl rfl (by kernel_rfl) (by decide) (fun K hK => ?_)
  refine goes_ Try.func10 (by kernel_rfl) rfl #[.agg #[.string T1, .int .i64 E], .agg #[.bool b1, .slice A1 l1 c1, .slice A2 l2 c2]] (by rfl) rfl rfl (by (try simp only [List.map_toArray, List.map_cons, List.map_nil]); first | done | rfl) ?_
  refine (HY1.out _ _ _ _ _ (HU0.below hb1) (HD0.below hb1)).mono ?_
  rintro e w2 ⟨rfl, hb2⟩
  refine ⟨_, rfl, ?_⟩
  have sz2 := hb2.size
  have dx2 := dx1.below hb2
  have fx2 := fx1.below hb2
  have nx2 := nx1.below hb2
  have ax2 := ax1.below hb2
  have cx2 := cx1.below hb2
  refine hK.out _ _ ⟨dx2.c0, dx2.c1, fx2.c0, fx2.c1, fx2.c2, nx2.c0, nx2.c1, ax2.c0, ax2.c1, cx2.c0, cx2.c1⟩ (fun hHeld => ?_)
  clear hK K
  refine norm_ (a' := ?_) ?_ ?_
  rotate_left
  · show Act.put _ (some 52) _ = _
    simp only [Act.put, List.setIfInBounds_toArray, List.set_cons_zero, List.set_cons_succ, i64_w, i32_w]
    rfl
  refine pure_ (i := 13) (N := some 53) (v := ?_) (a' := ?_) #[true, true, true, true, true, true, true, true, true, true, true, true, true, true, false, false, false, false, false, false, false, false, false, false, false, false, false, false, false, false, false, false, false] rfl rfl (by kernel_rfl) (fun _ _ _ h => h) (Or.inl ⟨by rfl, ?_⟩) ?_ ?_
  rotate_left
  · intro w'
    go_simp
    with_reducible rfl
  rotate_left
  · simp only [Act.put, List.setIfInBounds_toArray, List.set_cons_zero, List.set_cons_succ, i64_w, i32_w]
    rfl
  refine pure_ (i := 14) (N := some 54) (v := ?_) (a' := ?_) #[true, true, true, true, true, true, true, true, true, true, true, true, true, true, true, false, false, false, false, false, false, false, false, false, false, false, false, false, false, false, false, false, false] rfl rfl (by kernel_rfl) (fun _ _ _ h => h) (Or.inl ⟨by rfl, ?_⟩) ?_ ?_
  rotate_left
  · intro w'
    go_simp
    with_reducible rfl
  rotate_left
  · simp only [Act.put, List.setIfInBounds_toArray, List.set_cons_zero, List.set_cons_succ, i64_w, i32_w]
    rfl
  refine take_ (i := 15) (N := some 55) (v := ?_) (a' := ?_) #[true, true, true, true, true, true, true, true, true, true, true, true, true, true, true, true, false, false, false, false, false, false, false, false, false, false, false, false, false, false, false, false, false] rfl rfl (by kernel_rfl) (fun _ _ _ h => h) (Or.inl ⟨by rfl, ?_⟩) hHeld ?_ ?_
  rotate_left
  · rintro w' ⟨s0, s1, s2, s3, s4, s5, s6, s7, s8, s9, s10⟩
    go_simp
    with_reducible rfl
  rotate_left
  · simp only [Act.put, List.setIfInBounds_toArray, List.set_cons_zero, List.set_cons_succ, i64_w, i32_w]
    rfl
  refine take_ (i := 16) (N := some 56) (v := ?_) (a' := ?_) #[true, true, true, true, true, true, true, true, true, true, true, true, true, true, true, true, true, false, false, false, false, false, false, false, false, false, false, false, false, false, false, false, false] rfl rfl (by kernel_rfl) (fun _ _ _ h => h) (Or.inl ⟨by rfl, ?_⟩) hHeld ?_ ?_
  rotate_left
  · rintro w' ⟨s0, s1, s2, s3, s4, s5, s6, s7, s8, s9, s10⟩
    go_simp
    with_reducible rfl
  rotate_left
  · simp only [Act.put, List.setIfInBounds_toArray, List.set_cons_zero, List.set_cons_succ, i64_w, i32_w]
    rfl
  refine one_ (i := 17) (N := some 57) #[true, true, true, true, true, true, true, true, true, true, true, true, true, true, true, true, true, true, false, false, false, false, false, false, false, false, false, false, false, false, false, false, false] rfl rfl (by kernel_rfl) (by decide) (fun K hK => ?_)
  refine goes_ Try.func12 (by kernel_rfl) rfl #[.agg #[.bool b, .slice A1 l1 c1, .slice A2 l2 c2]] (by rfl) rfl rfl (by (try simp only [List.map_toArray, List.map_cons, List.map_nil]); first | done | rfl) ?_
  refine (HP.out _ _ _ _ _ ((HU0.below hb1).below hb2) ((HD0.below hb1).below hb2)).mono ?_
  rintro e w3 ⟨rfl, hb3⟩
  refine ⟨_, rfl, ?_⟩
  have sz3 := hb3.size
  have dx3 := dx2.below hb3
  have fx3 := fx2.below hb3
  have nx3 := nx2.below hb3
  have ax3 := ax2.below hb3
  have cx3 := cx2.below hb3
  refine hK.out _ _ ⟨dx3.c0, dx3.c1, fx3.c0, fx3.c1, fx3.c2, nx3.c0, nx3.c1, ax3.c0, ax3.c1, cx3.c0, cx3.c1⟩ (fun hHeld => ?_)
  clear hK K
  refine norm_ (a' := ?_) ?_ ?_
  rotate_left
  · show Act.put _ (some 57) _ = _
    simp only [Act.put, List.setIfInBounds_toArray, List.set_cons_zero, List.set_cons_succ, i64_w, i32_w]
    rfl
  refine one_ (i := 18) (N := some 58) #[true, true, true, true, true, true, true, true, true, true, true, true, true, true, true, true, true, true, true, false, false, false, false, false, false, false, false, false, false, false, false, false, false] rfl rfl (by kernel_rfl) (by decide) (fun K hK => ?_)
  refine goes_ Try.func10 (by kernel_rfl) rfl #[.agg #[.string T2, .int .i64 E], .agg #[.bool false, .slice A1 l1 c1, .slice A2 l2 c2]] (by rfl) rfl rfl (by (try simp only [List.map_toArray, List.map_cons, List.map_nil]); first | done | rfl) ?_
  refine (HY2.out _ _ _ _ _ (((HU0.below hb1).below hb2).below hb3) (((HD0.below hb1).below hb2).below hb3)).mono ?_
  rintro e w4 ⟨rfl, hb4⟩
  refine ⟨_, rfl, ?_⟩
  have sz4 := hb4.size
  have dx4 := dx3.below hb4
  have fx4 := fx3.below hb4
  have nx4 := nx3.below hb4
  have ax4 := ax3.below hb4
  have cx4 := cx3.below hb4
  refine hK.out _ _ ⟨dx4.c0, dx4.c1, fx4.c0, fx4.c1, fx4.c2, nx4.c0, nx4.c1, ax4.c0, ax4.c1, cx4.c0, cx4.c1⟩ (fun hHeld => ?_)
  clear hK K
  refine norm_ (a' := ?_) ?_ ?_
  rotate_left
  · show Act.put _ (some 58) _ = _
    simp only [Act.put, List.setIfInBounds_toArray, List.set_cons_zero, List.set_cons_succ, i64_w, i32_w]
    rfl
  refine pure_ (i := 19) (N := some 59) (v := ?_) (a' := ?_) #[true, true, true, true, true, true, true, true, true, true, true, true, true, true, true, true, true, true, true, true, false, false, false, false, false, false, false, false, false, false, false, false, false] rfl rfl (by kernel_rfl) (fun _ _ _ h => h) (Or.inl ⟨by rfl, ?_⟩) ?_ ?_
  rotate_left
  · intro w'
    go_simp
    with_reducible rfl
  rotate_left
  · simp only [Act.put, List.setIfInBounds_toArray, List.set_cons_zero, List.set_cons_succ, i64_w, i32_w]
    rfl
  refine pure_ (i := 20) (N := some 60) (v := ?_) (a' := ?_) #[true, true, true, true, true, true, true, true, true, true, true, true, true, true, true, true, true, true, true, true, true, false, false, false, false, false, false, false, false, false, false, false, false] rfl rfl (by kernel_rfl) (fun _ _ _ h => h) (Or.inl ⟨by rfl, ?_⟩) ?_ ?_
  rotate_left
  · intro w'
    go_simp
    with_reducible rfl
  rotate_left
  · simp only [Act.put, List.setIfInBounds_toArray, List.set_cons_zero, List.set_cons_succ, i64_w, i32_w]
    rfl
  refine pure_ (i := 21) (N := some 61) (v := ?_) (a' := ?_) #[true, true, true, true, true, true, true, true, true, true, true, true, true, true, true, true, true, true, true, true, true, true, false, false, false, false, false, false, false, false, false, false, false] rfl rfl (by kernel_rfl) (fun _ _ _ h => h) (Or.inl ⟨by rfl, ?_⟩) ?_ ?_
  rotate_left
  · intro w'
    go_simp
    with_reducible rfl
  rotate_left
  · simp only [Act.put, List.setIfInBounds_toArray, List.set_cons_zero, List.set_cons_succ, i64_w, i32_w]
    rfl
  refine pure_ (i := 22) (N := some 62) (v := ?_) (a' := ?_) #[true, true, true, true, true, true, true, true, true, true, true, true, true, true, true, true, true, true, true, true, true, true, true, false, false, false, false, false, false, false, false, false, false] rfl rfl (by kernel_rfl) (fun _ _ _ h => h) (Or.inl ⟨by rfl, ?_⟩) ?_ ?_
  rotate_left
  · intro w'
    go_simp
    with_reducible rfl
  rotate_left
  · simp only [Act.put, List.setIfInBounds_toArray, List.set_cons_zero, List.set_cons_succ, i64_w, i32_w]
    rfl
  refine take_ (i := 23) (N := some 63) (v := ?_) (a' := ?_) #[true, true, true, true, true, true, true, true, true, true, true, true, true, true, true, true, true, true, true, true, true, true, true, true, false, false, false, false, false, false, false, false, false] rfl rfl (by kernel_rfl) (fun _ _ _ h => h) (Or.inl ⟨by rfl, ?_⟩) hHeld ?_ ?_
  rotate_left
  · rintro w' ⟨s0, s1, s2, s3, s4, s5, s6, s7, s8, s9, s10⟩
    go_simp
    with_reducible rfl
  rotate_left
  · simp only [Act.put, List.setIfInBounds_toArray, List.set_cons_zero, List.set_cons_succ, i64_w, i32_w]
    rfl
  refine one_ (i := 24) (N := some 64) #[true, true, true, true, true, true, true, true, true, true, true, true, true, true, true, true, true, true, true, true, true, true, true, true, true, false, false, false, false, false, false, false, false] rfl rfl (by kernel_rfl) (by decide) (fun K hK => ?_)
  refine goes_ Try.func13 (by kernel_rfl) rfl #[.agg #[.bool b, .slice A1 l1 c1]] (by rfl) rfl rfl (by (try simp only [List.map_toArray, List.map_cons, List.map_nil]); first | done | rfl) ?_
  refine (HW.out _ _ _ ((((HU0.below hb1).below hb2).below hb3).below hb4)).mono ?_
  rintro e w5 ⟨rfl, hb5⟩
  refine ⟨_, rfl, ?_⟩
  have sz5 := hb5.size
  have dx5 := dx4.below hb5
  have fx5 := fx4.below hb5
  have nx5 := nx4.below hb5
  have ax5 := ax4.below hb5
  have cx5 := cx4.below hb5
  refine hK.out _ _ ⟨dx5.c0, dx5.c1, fx5.c0, fx5.c1, fx5.c2, nx5.c0, nx5.c1, ax5.c0, ax5.c1, cx5.c0, cx5.c1⟩ (fun hHeld => ?_)
  clear hK K
  refine norm_ (a' := ?_) ?_ ?_
  rotate_left
  · show Act.put _ (some 64) _ = _
    simp only [Act.put, List.setIfInBounds_toArray, List.set_cons_zero, List.set_cons_succ, i64_w, i32_w]
    rfl
  refine pure_ (i := 25) (N := some 65) (v := ?_) (a' := ?_) #[true, true, true, true, true, true, true, true, true, true, true, true, true, true, true, true, true, true, true, true, true, true, true, true, true, true, false, false, false, false, false, false, false] rfl rfl (by kernel_rfl) (fun _ _ _ h => h) (Or.inl ⟨by rfl, ?_⟩) ?_ ?_
  rotate_left
  · intro w'
    go_simp
    with_reducible rfl
  rotate_left
  · simp only [Act.put, List.setIfInBounds_toArray, List.set_cons_zero, List.set_cons_succ, i64_w, i32_w]
    rfl
  refine pure_ (i := 26) (N := some 66) (v := ?_) (a' := ?_) #[true, true, true, true, true, true, true, true, true, true, true, true, true, true, true, true, true, true, true, true, true, true, true, true, true, true, true, false, false, false, false, false, false] rfl rfl (by kernel_rfl) (fun _ _ _ h => h) (Or.inl ⟨by rfl, ?_⟩) ?_ ?_
  rotate_left
  · intro w'
    go_simp
    with_reducible rfl
  rotate_left
  · simp only [Act.put, List.setIfInBounds_toArray, List.set_cons_zero, List.set_cons_succ, i64_w, i32_w]
    rfl
  refine pure_ (i := 27) (N := some 67) (v := ?_) (a' := ?_) #[true, true, true, true, true, true, true, true, true, true, true, true, true, true, true, true, true, true, true, true, true, true, true, true, true, true, true, true, false, false, false, false, false] rfl rfl (by kernel_rfl) (fun _ _ _ h => h) (Or.inl ⟨by rfl, ?_⟩) ?_ ?_
  rotate_left
  · intro w'
    go_simp
    with_reducible rfl
  rotate_left
  · simp only [Act.put, List.setIfInBounds_toArray, List.set_cons_zero, List.set_cons_succ, i64_w, i32_w]
    rfl
  refine take_ (i := 28) (N := some 68) (v := ?_) (a' := ?_) #[true, true, true, true, true, true, true, true, true, true, true, true, true, true, true, true, true, true, true, true, true, true, true, true, true, true, true, true, true, false, false, false, false] rfl rfl (by kernel_rfl) (fun _ _ _ h => h) (Or.inl ⟨by rfl, ?_⟩) hHeld ?_ ?_
  rotate_left
  · rintro w' ⟨s0, s1, s2, s3, s4, s5, s6, s7, s8, s9, s10⟩
    go_simp
    with_reducible rfl
  rotate_left
  · simp only [Act.put, List.setIfInBounds_toArray, List.set_cons_zero, List.set_cons_succ, i64_w, i32_w]
    rfl
  refine take_ (i := 29) (N := some 69) (v := ?_) (a' := ?_) #[true, true, true, true, true, true, true, true, true, true, true, true, true, true, true, true, true, true, true, true, true, true, true, true, true, true, true, true, true, true, false, false, false] rfl rfl (by kernel_rfl) (fun _ _ _ h => h) (Or.inl ⟨by rfl, ?_⟩) hHeld ?_ ?_
  rotate_left
  · rintro w' ⟨s0, s1, s2, s3, s4, s5, s6, s7, s8, s9, s10⟩
    go_simp
    with_reducible rfl
  rotate_left
  · simp only [Act.put, List.setIfInBounds_toArray, List.set_cons_zero, List.set_cons_succ, i64_w, i32_w]
    rfl
  refine pure_ (i := 30) (N := some 70) (v := ?_) (a' := ?_) #[true, true, true, true, true, true, true, true, true, true, true, true, true, true, true, true, true, true, true, true, true, true, true, true, true, true, true, true, true, true, true, false, false] rfl rfl (by kernel_rfl) (fun _ _ _ h => h) (Or.inl ⟨by rfl, ?_⟩) ?_ ?_
  rotate_left
  · intro w'
    go_simp
    with_reducible rfl
  rotate_left
  · simp only [Act.put, List.setIfInBounds_toArray, List.set_cons_zero, List.set_cons_succ, i64_w, i32_w]
    rfl
  refine pure_ (i := 31) (N := some 71) (v := ?_) (a' := ?_) #[true, true, true, true, true, true, true, true, true, true, true, true, true, true, true, true, true, true, true, true, true, true, true, true, true, true, true, true, true, true, true, true, false] rfl rfl (by kernel_rfl) (fun _ _ _ h => h) (Or.inl ⟨by rfl, ?_⟩) ?_ ?_
  rotate_left
  · intro w'
    go_simp
    with_reducible rfl
  rotate_left
  · simp only [Act.put, List.setIfInBounds_toArray, List.set_cons_zero, List.set_cons_succ, i64_w, i32_w]
    rfl
  refine pure_ (i := 32) (N := some 2) (v := ?_) (a' := ?_) #[true, true, true, true, true, true, true, true, true, true, true, true, true, true, true, true, true, true, true, true, true, true, true, true, true, true, true, true, true, true, true, true, true] rfl rfl (by kernel_rfl) (fun _ _ _ h => h) (Or.inl ⟨by rfl, ?_⟩) ?_ ?_
  rotate_left
  · intro w'
    go_simp
    with_reducible rfl
  rotate_left
  · simp only [Act.put, List.setIfInBounds_toArray, List.set_cons_zero, List.set_cons_succ, i64_w, i32_w]
    rfl
  refine done_ (by kernel_rfl) ?_
  go_wp2
  go_ret
  exact ⟨by first | rfl | simp, below_step (below_step (below_step (below_step (below_step HB0.out hb1) hb2) hb3) hb4) hb5⟩
theorem law_calls (s : ByteArray) (x : Int) (w : World) (hx : -9223372036854775808 ≤ x ∧ x ≤ 9223372036854775807) : Calls Try.prog 3 #[.agg #[.string s, .int .i64 x]] w fun e w' => e = .returned (.bool true) ∧ Below w.heap.size w w' := by
  by_cases hs : s.size ≤ 2147483647
  · exact law_in s x w hs hx
  · exact law_out s x w hs
end Go.Proofs.Yteohmbannpbokaa.LawSign
