/-
  The reference's products and comparisons of whole numbers and fractions, told by the numbers alone; nothing that was there is changed.
-/
import Derived.Test.YtnjbfebeigginaaDoorSpecWalk1
import Derived.Test.YtnjbfebeigginaaDoorPFnFixTruncx2
set_option linter.unusedVariables false
set_option linter.unusedSimpArgs false
namespace Go.Proofs.YtnjbfebeigginaaDoor.SpecWalk
open Go.RowKit Go.Proofs.YtnjbfebeigginaaDoorW.PrintWords Go.Proofs.YtnjbfebeigginaaDoorW.PrintLast Go.Proofs.YtnjbfebeigginaaDoorW.PrintMore Go.Proofs.YtnjbfebeigginaaDoor.Digs Go.Proofs.YtnjbfebeigginaaDoor.StrLaw Go.Proofs.YtnjbfebeigginaaDoor.NatLaw Go.Proofs.YtnjbfebeigginaaDoor.NatWalk

set_option maxHeartbeats 4000000 in
theorem WholeMul_n (a b : Bool) (m n : Nat) (oa ob : Nat → Prop) (v u : Value) (w : World) (hv : Rdv w oa v m) (hu : Rdv w ob u n) (hl : (digs m).length + (digs n).length ≤ 1000000000) :
    Calls Tryd.prog 67 #[.agg #[.bool a, v], .agg #[.bool b, u]] w fun en w' => ∃ z, en = .returned (.agg #[.bool (sgn (a != b) (m * n)), z]) ∧ Rdv w' (fun k => w.heap.size ≤ k) z (m * n) ∧ Below w.heap.size w w' := by
  obtain ⟨A, c, rfl, _, _⟩ := hv.form
  obtain ⟨A', c', rfl, _, _⟩ := hu.form
  have HM := Aside0.mk (fun oa ob v u w hv hu => mul_n m n oa ob v u w hv hu (by omega))
  have HW := Aside0.mk (fun ok v w => wholeOf_n (a != b) (m * n) ok v w)
  clear hl
  generalize m * n = p at *
  generalize hs : sgn (a != b) p = s1 at *
  clear hs
  generalize hm : (digs m).length = m0 at *
  generalize hn : (digs n).length = n0 at *
  clear hm hn
  go_enter Tryd.func67, Tryd.ntmps67
  go_wp2_with fail
  have ax0 : Box (((w.alloc (Obj.cells #[Value.bool a, Value.slice A m0 c] 35)).alloc (Obj.cells #[Value.bool b, Value.slice A' n0 c'] 35)).alloc (Obj.cells #[Value.bool false, Value.slice none 0 0] 35)).drew w.heap.size [.bool a, .slice A m0 c] := (((Box.new2 w _ _ _ _ (by simp)).alloc _).alloc _).drew
  have bx0 : Box (((w.alloc (Obj.cells #[Value.bool a, Value.slice A m0 c] 35)).alloc (Obj.cells #[Value.bool b, Value.slice A' n0 c'] 35)).alloc (Obj.cells #[Value.bool false, Value.slice none 0 0] 35)).drew (w.heap.size + 1) [.bool b, .slice A' n0 c'] := ((Box.new2 (w.alloc (Obj.cells #[Value.bool a, Value.slice A m0 c] 35)) _ _ _ _ (by simp)).alloc _).drew
  have rx0 : Box (((w.alloc (Obj.cells #[Value.bool a, Value.slice A m0 c] 35)).alloc (Obj.cells #[Value.bool b, Value.slice A' n0 c'] 35)).alloc (Obj.cells #[Value.bool false, Value.slice none 0 0] 35)).drew (w.heap.size + 1 + 1) [.bool false, .slice none 0 0] := (Box.new2 ((w.alloc (Obj.cells #[Value.bool a, Value.slice A m0 c] 35)).alloc (Obj.cells #[Value.bool b, Value.slice A' n0 c'] 35)) _ _ _ _ (by simp)).drew
  have hB0 : Below w.heap.size w (((w.alloc (Obj.cells #[Value.bool a, Value.slice A m0 c] 35)).alloc (Obj.cells #[Value.bool b, Value.slice A' n0 c'] 35)).alloc (Obj.cells #[Value.bool false, Value.slice none 0 0] 35)).drew := ((((Below.refl _ _).alloc (Nat.le_refl _) _).alloc (by simp) _).alloc (by simp; omega) _).drew
  replace hv := hv.below hB0
  replace hu := hu.below hB0
  have neax : w.heap.size ≠ (w.heap.size + 1 + 1) := by omega
  have nebx : (w.heap.size + 1) ≠ (w.heap.size + 1 + 1) := by omega
  go_region_held3 (fun w' => w'.cell? ⟨w.heap.size, 0, none⟩ = some (.bool a) ∧ w'.cell? ⟨w.heap.size, 1, none⟩ = some (.slice A m0 c) ∧ w'.cell? ⟨(w.heap.size + 1), 0, none⟩ = some (.bool b) ∧ w'.cell? ⟨(w.heap.size + 1), 1, none⟩ = some (.slice A' n0 c'))
      (first
        | (go_keep; done)
        | exact ⟨ax2.c0, ax2.c1, bx2.c0, bx2.c1⟩
        | exact ⟨ax1.c0, ax1.c1, bx1.c0, bx1.c1⟩
        | exact ⟨(ax2.far2 neax _ _).c0, (ax2.far2 neax _ _).c1, (bx2.far2 nebx _ _).c0, (bx2.far2 nebx _ _).c1⟩)
      (first
        | (go_at_call 30; refine (HM.out _ _ _ _ _ hv hu).mono ?_; rintro e w1 ⟨v1, rfl, hv1, hb1⟩; replace hv1 := hv1.mono (ok' := fun k => w.heap.size + 3 ≤ k) (fun k hk => by simp at hk; omega); obtain ⟨A1, c1, rfl, _, _⟩ := hv1.form; have sz1 := hb1.size; simp at sz1; have ax1 := ax0.below hb1; have xax10 := ax1.c0; have xax11 := ax1.c1; have bx1 := bx0.below hb1; have xbx10 := bx1.c0; have xbx11 := bx1.c1; have rx1 := rx0.below hb1; have xrx10 := rx1.c0; have xrx11 := rx1.c1; have yrx10 := rx1.f0; have yrx11 := rx1.f1)
        | (go_at_call 35; refine (HW.out _ _ _ hv1).mono ?_; rintro e w2 ⟨rfl, hb2⟩; have sz2 := hb2.size; have ax2 := ax1.below hb2; have xax20 := ax2.c0; have xax21 := ax2.c1; have bx2 := bx1.below hb2; have xbx20 := bx2.c0; have xbx21 := bx2.c1; have rx2 := rx1.below hb2; have xrx20 := rx2.c0; have xrx21 := rx2.c1; have yrx20 := rx2.f0; have yrx21 := rx2.f1))
  go_wp2
  refine bodyPost_ret (v := .agg #[.bool s1, .slice A1 (digs p).length c1]) (by simp [results, Tryd.results67, go_sem, rx2.c0, rx2.c1]) rfl ?_
  exact ⟨_, rfl, ((hv1.below hb2).far2 (fun k hk => by omega) _ _).mono (fun k hk => by omega), below2 (below_step (below_step hB0 hb1) hb2) (by omega) _ _⟩

/-- The order of two whole numbers. -/
def cmpW (a : Bool) (m : Nat) (b : Bool) (n : Nat) : Int := if a = b then (if a then cmpN n m else cmpN m n) else if a then -1 else 1
set_option maxHeartbeats 4000000 in
theorem WholeCmp_n (a b : Bool) (m n : Nat) (oa ob : Nat → Prop) (v u : Value) (w : World) (hv : Rdv w oa v m) (hu : Rdv w ob u n) (hlm : (digs m).length ≤ 4000000000) (hln : (digs n).length ≤ 4000000000) :
    Calls Tryd.prog 68 #[.agg #[.bool a, v], .agg #[.bool b, u]] w fun en w' => en = .returned (.int .i64 (cmpW a m b n)) ∧ Below w.heap.size w w' := by
  have hw := (((Below.refl w.heap.size w).alloc (Nat.le_refl _) (.cells #[.bool a, v] 35)).alloc (by simp) (.cells #[.bool b, u] 35))
  have h1 := fun w1 (h : Below w.heap.size w w1) => cmp_n m n oa ob v u w1 (hv.below h) (hu.below h) hlm
  have h2 := fun w1 (h : Below w.heap.size w w1) => cmp_n n m ob oa u v w1 (hu.below h) (hv.below h) hln
  have H1 := Aside0.mk h1
  have H2 := Aside0.mk h2
  have HW := Aside0.mk hw
  obtain ⟨A, c, rfl, _, _⟩ := hv.form
  obtain ⟨A', c', rfl, _, _⟩ := hu.form
  clear h1 h2 hw hv hu hlm hln
  generalize hm : (digs m).length = m0 at *
  generalize hn : (digs n).length = n0 at *
  clear hm hn
  have HT : Aside0 (cmpW true m true n = cmpN n m) := ⟨rfl⟩
  have HF : Aside0 (cmpW false m false n = cmpN m n) := ⟨rfl⟩
  have HTF : Aside0 (cmpW true m false n = -1) := ⟨rfl⟩
  have HFT : Aside0 (cmpW false m true n = 1) := ⟨rfl⟩
  cases a <;> cases b
  · go_enter Tryd.func68, Tryd.ntmps68
    go_wp2_with (go_at_call 14; refine (H1.out _ HW.out).mono ?_; rintro e w1 ⟨rfl, hd⟩; have HD := Aside0.mk hd; clear hd)
    go_ret
    exact ⟨by rw [HF.out]; rfl, below_step HW.out HD.out.below⟩
  · go_enter Tryd.func68, Tryd.ntmps68
    go_wp2
    go_ret
    exact ⟨by rw [HFT.out]; rfl, HW.out⟩
  · go_enter Tryd.func68, Tryd.ntmps68
    go_wp2
    go_ret
    exact ⟨by rw [HTF.out]; rfl, HW.out⟩
  · go_enter Tryd.func68, Tryd.ntmps68
    go_wp2_with (go_at_call 14; refine (H2.out _ HW.out).mono ?_; rintro e w1 ⟨rfl, hd⟩; have HD := Aside0.mk hd; clear hd)
    go_ret
    exact ⟨by rw [HT.out]; rfl, below_step HW.out HD.out.below⟩

set_option maxHeartbeats 4000000 in
/-- The order of two fractions. -/
theorem FracCmp_n (a b : Bool) (m d n f : Nat) (oa od ob of : Nat → Prop) (v x u y : Value) (w : World) (hv : Rdv w oa v m) (hx : Rdv w od x d) (hu : Rdv w ob u n) (hy : Rdv w of y f) (h1 : (digs m).length ≤ 100000000) (h2 : (digs d).length ≤ 100000000) (h3 : (digs n).length ≤ 100000000) (h4 : (digs f).length ≤ 100000000)
    (hmf : (digs (m * f)).length ≤ 4000000000) (hnd : (digs (n * d)).length ≤ 4000000000) :
    Calls Tryd.prog 60 #[.agg #[.bool a, v, x], .agg #[.bool b, u, y]] w fun en w' => en = .returned (.int .i64 (cmpW (sgn (a != false) (m * f)) (m * f) (sgn (b != false) (n * d)) (n * d))) ∧ Below w.heap.size w w' := by
  obtain ⟨A0, c0, rfl, _, _⟩ := hv.form
  obtain ⟨A1, c1, rfl, _, _⟩ := hx.form
  obtain ⟨A2, c2, rfl, _, _⟩ := hu.form
  obtain ⟨A3, c3, rfl, _, _⟩ := hy.form
  have HM1 := Aside0.mk (fun oa ob v u w hv hu => WholeMul_n a false m f oa ob v u w hv hu (by omega))
  have HM2 := Aside0.mk (fun oa ob v u w hv hu => WholeMul_n b false n d oa ob v u w hv hu (by omega))
  have HC := Aside0.mk (fun oa ob v u w hv hu => WholeCmp_n (sgn (a != false) (m * f)) (sgn (b != false) (n * d)) (m * f) (n * d) oa ob v u w hv hu hmf hnd)
  clear h1 h2 h3 h4 hmf hnd
  generalize m * f = p at *
  generalize n * d = q at *
  generalize hs1 : sgn (a != false) p = s1 at *
  generalize hs2 : sgn (b != false) q = s2 at *
  clear hs1 hs2
  generalize hm : (digs m).length = m0 at *
  generalize hn : (digs n).length = n0 at *
  generalize hd : (digs d).length = d0 at *
  generalize hf : (digs f).length = f0 at *
  clear hm hn hd hf
  go_enter Tryd.func60, Tryd.ntmps60
  go_wp2_with fail
  have ax0 : Box ((w.alloc (Obj.cells #[Value.bool a, Value.slice A0 m0 c0, Value.slice A1 d0 c1] 38)).alloc (Obj.cells #[Value.bool b, Value.slice A2 n0 c2, Value.slice A3 f0 c3] 38)).drew w.heap.size [.bool a, .slice A0 m0 c0, .slice A1 d0 c1] := ((Box.new3 w _ _ _ _ _ (by simp)).alloc _).drew
  have bx0 : Box ((w.alloc (Obj.cells #[Value.bool a, Value.slice A0 m0 c0, Value.slice A1 d0 c1] 38)).alloc (Obj.cells #[Value.bool b, Value.slice A2 n0 c2, Value.slice A3 f0 c3] 38)).drew (w.heap.size + 1) [.bool b, .slice A2 n0 c2, .slice A3 f0 c3] := (Box.new3 (w.alloc (Obj.cells #[Value.bool a, Value.slice A0 m0 c0, Value.slice A1 d0 c1] 38)) _ _ _ _ _ (by simp)).drew
  have hB0 : Below w.heap.size w ((w.alloc (Obj.cells #[Value.bool a, Value.slice A0 m0 c0, Value.slice A1 d0 c1] 38)).alloc (Obj.cells #[Value.bool b, Value.slice A2 n0 c2, Value.slice A3 f0 c3] 38)).drew := (((Below.refl _ _).alloc (Nat.le_refl _) _).alloc (by simp) _).drew
  replace hv := hv.below hB0
  replace hx := hx.below hB0
  replace hu := hu.below hB0
  replace hy := hy.below hB0
  go_region_held3 (fun w' => w'.cell? ⟨w.heap.size, 0, none⟩ = some (.bool a) ∧ w'.cell? ⟨w.heap.size, 1, none⟩ = some (.slice A0 m0 c0) ∧ w'.cell? ⟨w.heap.size, 2, none⟩ = some (.slice A1 d0 c1) ∧ w'.cell? ⟨(w.heap.size + 1), 0, none⟩ = some (.bool b) ∧ w'.cell? ⟨(w.heap.size + 1), 1, none⟩ = some (.slice A2 n0 c2) ∧ w'.cell? ⟨(w.heap.size + 1), 2, none⟩ = some (.slice A3 f0 c3))
      (first
        | (go_keep; done)
        | exact ⟨ax3.c0, ax3.c1, ax3.c2, bx3.c0, bx3.c1, bx3.c2⟩
        | exact ⟨ax2.c0, ax2.c1, ax2.c2, bx2.c0, bx2.c1, bx2.c2⟩
        | exact ⟨ax1.c0, ax1.c1, ax1.c2, bx1.c0, bx1.c1, bx1.c2⟩)
      (first
        | (go_at_call_of 67 (Value.agg #[Value.bool a, Value.slice A0 m0 c0]); refine (HM1.out _ _ _ _ _ hv hy).mono ?_; rintro e w1 ⟨z1, rfl, hz1, hb1⟩; obtain ⟨B1, e1, rfl, _, _⟩ := hz1.form; have sz1 := hb1.size; simp at sz1; have ax1 := ax0.below hb1; have xax10 := ax1.c0; have xax11 := ax1.c1; have xax12 := ax1.c2; have bx1 := bx0.below hb1; have xbx10 := bx1.c0; have xbx11 := bx1.c1; have xbx12 := bx1.c2)
        | (go_at_call_of 67 (Value.agg #[Value.bool b, Value.slice A2 n0 c2]); refine (HM2.out _ _ _ _ _ (hu.below hb1) (hx.below hb1)).mono ?_; rintro e w2 ⟨z2, rfl, hz2, hb2⟩; obtain ⟨B2, e2, rfl, _, _⟩ := hz2.form; have sz2 := hb2.size; have ax2 := ax1.below hb2; have xax20 := ax2.c0; have xax21 := ax2.c1; have xax22 := ax2.c2; have bx2 := bx1.below hb2; have xbx20 := bx2.c0; have xbx21 := bx2.c1; have xbx22 := bx2.c2)
        | (go_at_call 68; refine (HC.out _ _ _ _ _ (hz1.below hb2) hz2).mono ?_; rintro e w3 ⟨rfl, hb3⟩; have sz3 := hb3.size; have ax3 := ax2.below hb3; have xax30 := ax3.c0; have xax31 := ax3.c1; have xax32 := ax3.c2; have bx3 := bx2.below hb3; have xbx30 := bx3.c0; have xbx31 := bx3.c1; have xbx32 := bx3.c2))
  go_wp2
  go_ret
  exact ⟨rfl, (below_step (below_step (below_step hB0 hb1) hb2) hb3)⟩

/-! ### a result beside a number -/
theorem FixIs_n (b : Bool) (n s : Nat) (w : World) (hn : n ≤ 9999999999999999999) (hs : s ≤ 19) : Calls Tryd.prog 8 #[.agg #[.bool b, .int .u64 n, .int .i64 s]] w fun en w' => en = .returned (.bool true) ∧ Below w.heap.size w w' := by
  refine Go.Proofs.YtnjbfebeigginaaDoor.PFnFixTrunc.spec_FixIs.calls b n s true w ?_
  simp only [Go.Proofs.YtnjbfebeigginaaDoor.PFnFixTrunc.spec_FixIs.f]
  rw [if_pos (by omega), if_pos (by omega), decide_eq_true (by omega)]
theorem digs_len (n k : Nat) (h : n < 1000000000 ^ k) : (digs n).length ≤ k := len_digs_le h
set_option maxHeartbeats 4000000 in
/-- A decimal is one, and is the number of a fraction. -/
theorem FixHas_n (b b' : Bool) (n s m q : Nat) (oa od : Nat → Prop) (v x : Value) (w : World) (hn : n ≤ 9999999999999999999) (hs : s ≤ 19) (hb : sgn b n = b) (hv : Rdv w oa v m) (hx : Rdv w od x q) (hlm : (digs m).length ≤ 10000000) (hlq : (digs q).length ≤ 10000000)
    (hc : cmpW (sgn (b != false) (n * q)) (n * q) (sgn (b' != false) (m * 10 ^ s)) (m * 10 ^ s) = 0) (h1 : (digs (n * q)).length ≤ 4000000000) (h2 : (digs (m * 10 ^ s)).length ≤ 4000000000) :
    Calls Tryd.prog 41 #[.agg #[.bool b, .int .u64 n, .int .i64 s], .agg #[.bool b', v, x]] w fun en w' => en = .returned (.bool true) ∧ Below w.heap.size w w' := by
  obtain ⟨A0, c0, rfl, _, _⟩ := hv.form
  obtain ⟨A1, c1, rfl, _, _⟩ := hx.form
  have HI := Aside0.mk (fun w => FixIs_n b n s w hn hs)
  have hnum := fun w => FixNum_n b n s w (by omega) (by omega)
  rw [hb] at hnum
  have HN := Aside0.mk hnum
  have hcmp := fun ou od' oa od u y v x w hu hy hv hx => FracCmp_n b b' n (10 ^ s) m q ou od' oa od u y v x w hu hy hv hx (by have := digs_len n 3 (by omega); omega) (by have := len_pow10 s; omega) (by omega) (by omega) h1 h2
  rw [hc] at hcmp
  have HC := Aside0.mk hcmp
  have hz : b = true → ((n : Int) == 0) = false := fun h => beq_eq_false_iff_ne.mpr (by
    rintro h0
    have : n = 0 := by omega
    subst this
    subst h
    simp [sgn] at hb)
  clear hcmp hnum hc h1 h2 hlm hlq hb hn hs
  generalize 10 ^ s = f at *
  generalize hX : (n : Int) = x at *
  clear hX
  generalize (s : Int) = S at *
  generalize hm : (digs m).length = m0 at *
  generalize hq : (digs q).length = q0 at *
  clear hm hq
  cases b
  · clear hz
    go_enter Tryd.func41, Tryd.ntmps41
    go_wp2_with fail
    have dx0 : Box ((w.alloc (Obj.cells #[Value.bool false, Value.int IntKind.u64 x, Value.int IntKind.i64 S] 24)).alloc (Obj.cells #[Value.bool b', Value.slice A0 m0 c0, Value.slice A1 q0 c1] 38)).drew w.heap.size [.bool false, .int IntKind.u64 x, .int IntKind.i64 S] := ((Box.new3 w _ _ _ _ _ (by simp)).alloc _).drew
    have wx0 : Box ((w.alloc (Obj.cells #[Value.bool false, Value.int IntKind.u64 x, Value.int IntKind.i64 S] 24)).alloc (Obj.cells #[Value.bool b', Value.slice A0 m0 c0, Value.slice A1 q0 c1] 38)).drew (w.heap.size + 1) [.bool b', .slice A0 m0 c0, .slice A1 q0 c1] := (Box.new3 (w.alloc (Obj.cells #[Value.bool false, Value.int IntKind.u64 x, Value.int IntKind.i64 S] 24)) _ _ _ _ _ (by simp)).drew
    have hB0 : Below w.heap.size w ((w.alloc (Obj.cells #[Value.bool false, Value.int IntKind.u64 x, Value.int IntKind.i64 S] 24)).alloc (Obj.cells #[Value.bool b', Value.slice A0 m0 c0, Value.slice A1 q0 c1] 38)).drew := (((Below.refl _ _).alloc (Nat.le_refl _) _).alloc (by simp) _).drew
    replace hv := hv.below hB0
    replace hx := hx.below hB0
    refine start_ (n := 20) (S := fun w' => w'.cell? ⟨w.heap.size, 0, none⟩ = some (.bool false) ∧ w'.cell? ⟨w.heap.size, 1, none⟩ = some (.int IntKind.u64 x) ∧ w'.cell? ⟨w.heap.size, 2, none⟩ = some (.int IntKind.i64 S) ∧ w'.cell? ⟨(w.heap.size + 1), 0, none⟩ = some (.bool b') ∧ w'.cell? ⟨(w.heap.size + 1), 1, none⟩ = some (.slice A0 m0 c0) ∧ w'.cell? ⟨(w.heap.size + 1), 2, none⟩ = some (.slice A1 q0 c1)) (ds := []) #[false, false, false, false, false, false, false, false, false, false, false, false, false, false, false, false, false, false, false, false] (by kernel_rfl) rfl rfl ⟨dx0.c0, dx0.c1, dx0.c2, wx0.c0, wx0.c1, wx0.c2⟩ (fun hHeld => ?_)
    refine take_ (i := 0) (N := some 5) (v := ?_) (a' := ?_) #[true, false, false, false, false, false, false, false, false, false, false, false, false, false, false, false, false, false, false, false] rfl rfl (by kernel_rfl) (fun _ _ _ h => h) (Or.inl ⟨by rfl, ?_⟩) hHeld ?_ ?_
    rotate_left
    · rintro w' ⟨s0, s1, s2, s3, s4, s5⟩
      go_simp
      with_reducible rfl
    rotate_left
    · simp only [Act.put, List.setIfInBounds_toArray, List.set_cons_zero, List.set_cons_succ, i64_w, i32_w]
      rfl
    refine one_ (i := 1) (N := some 6) #[true, true, false, false, false, false, false, false, false, false, false, false, false, false, false, false, false, false, false, false] rfl rfl (by kernel_rfl) (by decide) (fun K hK => ?_)
    refine goes_ Tryd.func8 (by kernel_rfl) rfl #[.agg #[.bool false, .int .u64 x, .int .i64 S]] (by rfl) rfl rfl (by (try simp only [List.map_toArray, List.map_cons, List.map_nil]); first | done | rfl) ?_
    refine (HI.out _).mono ?_
    rintro e w1 ⟨rfl, hb1⟩
    refine ⟨_, rfl, ?_⟩
    have sz1 := hb1.size; simp at sz1
    have dx1 := dx0.below hb1
    have wx1 := wx0.below hb1
    refine hK.out _ _ ⟨dx1.c0, dx1.c1, dx1.c2, wx1.c0, wx1.c1, wx1.c2⟩ (fun hHeld => ?_)
    clear hK K
    refine norm_ (a' := ?_) ?_ ?_
    rotate_left
    · show Act.put _ (some 6) _ = _
      simp only [Act.put, List.setIfInBounds_toArray, List.set_cons_zero, List.set_cons_succ, i64_w, i32_w]
      rfl
    refine pure_ (i := 2) (N := some 7) (v := ?_) (a' := ?_) #[true, true, true, false, false, false, false, false, false, false, false, false, false, false, false, false, false, false, false, false] rfl rfl (by kernel_rfl) (fun _ _ _ h => h) (Or.inl ⟨by rfl, ?_⟩) ?_ ?_
    rotate_left
    · intro w'
      go_simp
      with_reducible rfl
    rotate_left
    · simp only [Act.put, List.setIfInBounds_toArray, List.set_cons_zero, List.set_cons_succ, i64_w, i32_w]
      rfl
    refine pure_ (i := 3) (N := some 8) (v := ?_) (a' := ?_) #[true, true, true, true, false, false, false, false, false, false, false, false, false, false, false, false, false, false, false, false] rfl rfl (by kernel_rfl) (fun _ _ _ h => h) (Or.inl ⟨by rfl, ?_⟩) ?_ ?_
    rotate_left
    · intro w'
      go_simp
      with_reducible rfl
    rotate_left
    · simp only [Act.put, List.setIfInBounds_toArray, List.set_cons_zero, List.set_cons_succ, i64_w, i32_w]
      rfl
    refine take_ (i := 4) (N := some 9) (v := ?_) (a' := ?_) #[true, true, true, true, true, false, false, false, false, false, false, false, false, false, false, false, false, false, false, false] rfl rfl (by kernel_rfl) (fun _ _ _ h => h) (Or.inl ⟨by rfl, ?_⟩) hHeld ?_ ?_
    rotate_left
    · rintro w' ⟨s0, s1, s2, s3, s4, s5⟩
      go_simp
      with_reducible rfl
    rotate_left
    · simp only [Act.put, List.setIfInBounds_toArray, List.set_cons_zero, List.set_cons_succ, i64_w, i32_w]
      rfl
    refine pure_ (i := 5) (N := some 10) (v := ?_) (a' := ?_) #[true, true, true, true, true, true, false, false, false, false, false, false, false, false, false, false, false, false, false, false] rfl rfl (by kernel_rfl) (fun _ _ _ h => h) (Or.inl ⟨by rfl, ?_⟩) ?_ ?_
    rotate_left
    · intro w'
      go_simp
      with_reducible rfl
    rotate_left
    · simp only [Act.put, List.setIfInBounds_toArray, List.set_cons_zero, List.set_cons_succ, i64_w, i32_w]
      rfl
    refine pure_ (i := 6) (N := some 11) (v := undef) (a' := ?_) #[true, true, true, true, true, true, true, false, false, false, false, false, false, false, false, false, false, false, false, false] rfl rfl (by kernel_rfl) (fun _ _ _ h => h) (Or.inr ⟨by rfl, rfl⟩) ?_ ?_
    rotate_left
    · simp only [Act.put, List.setIfInBounds_toArray, List.set_cons_zero, List.set_cons_succ, i64_w, i32_w]
      rfl
    refine pure_ (i := 7) (N := some 12) (v := undef) (a' := ?_) #[true, true, true, true, true, true, true, true, false, false, false, false, false, false, false, false, false, false, false, false] rfl rfl (by kernel_rfl) (fun _ _ _ h => h) (Or.inr ⟨by rfl, rfl⟩) ?_ ?_
    rotate_left
    · simp only [Act.put, List.setIfInBounds_toArray, List.set_cons_zero, List.set_cons_succ, i64_w, i32_w]
      rfl
    refine pure_ (i := 8) (N := some 13) (v := undef) (a' := ?_) #[true, true, true, true, true, true, true, true, true, false, false, false, false, false, false, false, false, false, false, false] rfl rfl (by kernel_rfl) (fun _ _ _ h => h) (Or.inr ⟨by rfl, rfl⟩) ?_ ?_
    rotate_left
    · simp only [Act.put, List.setIfInBounds_toArray, List.set_cons_zero, List.set_cons_succ, i64_w, i32_w]
      rfl
    refine pure_ (i := 9) (N := some 14) (v := ?_) (a' := ?_) #[true, true, true, true, true, true, true, true, true, true, false, false, false, false, false, false, false, false, false, false] rfl rfl (by kernel_rfl) (fun _ _ _ h => h) (Or.inl ⟨by rfl, ?_⟩) ?_ ?_
    rotate_left
    · intro w'
      go_simp
      with_reducible rfl
    rotate_left
    · simp only [Act.put, List.setIfInBounds_toArray, List.set_cons_zero, List.set_cons_succ, i64_w, i32_w]
      rfl
    refine pure_ (i := 10) (N := some 15) (v := ?_) (a' := ?_) #[true, true, true, true, true, true, true, true, true, true, true, false, false, false, false, false, false, false, false, false] rfl rfl (by kernel_rfl) (fun _ _ _ h => h) (Or.inl ⟨by rfl, ?_⟩) ?_ ?_
    rotate_left
    · intro w'
      go_simp
      with_reducible rfl
    rotate_left
    · simp only [Act.put, List.setIfInBounds_toArray, List.set_cons_zero, List.set_cons_succ, i64_w, i32_w]
      rfl
    refine pure_ (i := 11) (N := some 16) (v := ?_) (a' := ?_) #[true, true, true, true, true, true, true, true, true, true, true, true, false, false, false, false, false, false, false, false] rfl rfl (by kernel_rfl) (fun _ _ _ h => h) (Or.inl ⟨by rfl, ?_⟩) ?_ ?_
    rotate_left
    · intro w'
      go_simp
      with_reducible rfl
    rotate_left
    · simp only [Act.put, List.setIfInBounds_toArray, List.set_cons_zero, List.set_cons_succ, i64_w, i32_w]
      rfl
    refine pure_ (i := 12) (N := some 17) (v := ?_) (a' := ?_) #[true, true, true, true, true, true, true, true, true, true, true, true, true, false, false, false, false, false, false, false] rfl rfl (by kernel_rfl) (fun _ _ _ h => h) (Or.inl ⟨by rfl, ?_⟩) ?_ ?_
    rotate_left
    · intro w'
      go_simp
      with_reducible rfl
    rotate_left
    · simp only [Act.put, List.setIfInBounds_toArray, List.set_cons_zero, List.set_cons_succ, i64_w, i32_w]
      rfl
    refine take_ (i := 13) (N := some 18) (v := ?_) (a' := ?_) #[true, true, true, true, true, true, true, true, true, true, true, true, true, true, false, false, false, false, false, false] rfl rfl (by kernel_rfl) (fun _ _ _ h => h) (Or.inl ⟨by rfl, ?_⟩) hHeld ?_ ?_
    rotate_left
    · rintro w' ⟨s0, s1, s2, s3, s4, s5⟩
      go_simp
      with_reducible rfl
    rotate_left
    · simp only [Act.put, List.setIfInBounds_toArray, List.set_cons_zero, List.set_cons_succ, i64_w, i32_w]
      rfl
    refine take_ (i := 15) (N := some 20) (v := ?_) (a' := ?_) #[true, true, true, true, true, true, true, true, true, true, true, true, true, true, false, true, false, false, false, false] rfl rfl (by kernel_rfl) (fun _ _ _ h => h) (Or.inl ⟨by rfl, ?_⟩) hHeld ?_ ?_
    rotate_left
    · rintro w' ⟨s0, s1, s2, s3, s4, s5⟩
      go_simp
      with_reducible rfl
    rotate_left
    · simp only [Act.put, List.setIfInBounds_toArray, List.set_cons_zero, List.set_cons_succ, i64_w, i32_w]
      rfl
    refine one_ (i := 14) (N := some 19) #[true, true, true, true, true, true, true, true, true, true, true, true, true, true, true, true, false, false, false, false] rfl rfl (by kernel_rfl) (by decide) (fun K hK => ?_)
    refine goes_ Tryd.func29 (by kernel_rfl) rfl #[.agg #[.bool false, .int .u64 x, .int .i64 S]] (by rfl) rfl rfl (by (try simp only [List.map_toArray, List.map_cons, List.map_nil]); first | done | rfl) ?_
    refine (HN.out _).mono ?_
    rintro e w2 ⟨u, y, rfl, hu, hy, hb2⟩
    refine ⟨_, rfl, ?_⟩
    obtain ⟨A2, c2, rfl, _, _⟩ := hu.form
    obtain ⟨A3, c3, rfl, _, _⟩ := hy.form
    have sz2 := hb2.size
    have dx2 := dx1.below hb2
    have wx2 := wx1.below hb2
    refine hK.out _ _ ⟨dx2.c0, dx2.c1, dx2.c2, wx2.c0, wx2.c1, wx2.c2⟩ (fun hHeld => ?_)
    clear hK K
    refine norm_ (a' := ?_) ?_ ?_
    rotate_left
    · show Act.put _ (some 19) _ = _
      simp only [Act.put, List.setIfInBounds_toArray, List.set_cons_zero, List.set_cons_succ, i64_w, i32_w]
      rfl
    refine one_ (i := 16) (N := some 21) #[true, true, true, true, true, true, true, true, true, true, true, true, true, true, true, true, true, false, false, false] rfl rfl (by kernel_rfl) (by decide) (fun K hK => ?_)
    refine goes_ Tryd.func60 (by kernel_rfl) rfl #[.agg #[.bool false, .slice A2 (digs n).length c2, .slice A3 (digs f).length c3], .agg #[.bool b', .slice A0 m0 c0, .slice A1 q0 c1]] (by rfl) rfl rfl (by (try simp only [List.map_toArray, List.map_cons, List.map_nil]); first | done | rfl) ?_
    refine (HC.out _ _ _ _ _ _ _ _ _ hu hy ((hv.below hb1).below hb2) ((hx.below hb1).below hb2)).mono ?_
    rintro e w3 ⟨rfl, hb3⟩
    refine ⟨_, rfl, ?_⟩
    have sz3 := hb3.size
    have dx3 := dx2.below hb3
    have wx3 := wx2.below hb3
    refine hK.out _ _ ⟨dx3.c0, dx3.c1, dx3.c2, wx3.c0, wx3.c1, wx3.c2⟩ (fun hHeld => ?_)
    clear hK K
    refine norm_ (a' := ?_) ?_ ?_
    rotate_left
    · show Act.put _ (some 21) _ = _
      simp only [Act.put, List.setIfInBounds_toArray, List.set_cons_zero, List.set_cons_succ, i64_w, i32_w]
      rfl
    refine pure_ (i := 17) (N := some 22) (v := ?_) (a' := ?_) #[true, true, true, true, true, true, true, true, true, true, true, true, true, true, true, true, true, true, false, false] rfl rfl (by kernel_rfl) (fun _ _ _ h => h) (Or.inl ⟨by rfl, ?_⟩) ?_ ?_
    rotate_left
    · intro w'
      go_simp
      with_reducible rfl
    rotate_left
    · simp only [Act.put, List.setIfInBounds_toArray, List.set_cons_zero, List.set_cons_succ, i64_w, i32_w]
      rfl
    refine pure_ (i := 18) (N := some 23) (v := ?_) (a' := ?_) #[true, true, true, true, true, true, true, true, true, true, true, true, true, true, true, true, true, true, true, false] rfl rfl (by kernel_rfl) (fun _ _ _ h => h) (Or.inl ⟨by rfl, ?_⟩) ?_ ?_
    rotate_left
    · intro w'
      go_simp
      with_reducible rfl
    rotate_left
    · simp only [Act.put, List.setIfInBounds_toArray, List.set_cons_zero, List.set_cons_succ, i64_w, i32_w]
      rfl
    refine pure_ (i := 19) (N := some 4) (v := ?_) (a' := ?_) #[true, true, true, true, true, true, true, true, true, true, true, true, true, true, true, true, true, true, true, true] rfl rfl (by kernel_rfl) (fun _ _ _ h => h) (Or.inl ⟨by rfl, ?_⟩) ?_ ?_
    rotate_left
    · intro w'
      go_simp
      with_reducible rfl
    rotate_left
    · simp only [Act.put, List.setIfInBounds_toArray, List.set_cons_zero, List.set_cons_succ, i64_w, i32_w]
      rfl
    refine done_ (by kernel_rfl) ?_
    go_wp2
    go_ret
    exact ⟨rfl, (below_step (below_step (below_step hB0 hb1) hb2) hb3)⟩
  · replace hz := hz rfl
    go_enter Tryd.func41, Tryd.ntmps41
    go_wp2_with fail
    have dx0 : Box ((w.alloc (Obj.cells #[Value.bool true, Value.int IntKind.u64 x, Value.int IntKind.i64 S] 24)).alloc (Obj.cells #[Value.bool b', Value.slice A0 m0 c0, Value.slice A1 q0 c1] 38)).drew w.heap.size [.bool true, .int IntKind.u64 x, .int IntKind.i64 S] := ((Box.new3 w _ _ _ _ _ (by simp)).alloc _).drew
    have wx0 : Box ((w.alloc (Obj.cells #[Value.bool true, Value.int IntKind.u64 x, Value.int IntKind.i64 S] 24)).alloc (Obj.cells #[Value.bool b', Value.slice A0 m0 c0, Value.slice A1 q0 c1] 38)).drew (w.heap.size + 1) [.bool b', .slice A0 m0 c0, .slice A1 q0 c1] := (Box.new3 (w.alloc (Obj.cells #[Value.bool true, Value.int IntKind.u64 x, Value.int IntKind.i64 S] 24)) _ _ _ _ _ (by simp)).drew
    have hB0 : Below w.heap.size w ((w.alloc (Obj.cells #[Value.bool true, Value.int IntKind.u64 x, Value.int IntKind.i64 S] 24)).alloc (Obj.cells #[Value.bool b', Value.slice A0 m0 c0, Value.slice A1 q0 c1] 38)).drew := (((Below.refl _ _).alloc (Nat.le_refl _) _).alloc (by simp) _).drew
    replace hv := hv.below hB0
    replace hx := hx.below hB0
    go_region_held3 (fun w' => w'.cell? ⟨w.heap.size, 0, none⟩ = some (.bool true) ∧ w'.cell? ⟨w.heap.size, 1, none⟩ = some (.int IntKind.u64 x) ∧ w'.cell? ⟨w.heap.size, 2, none⟩ = some (.int IntKind.i64 S) ∧ w'.cell? ⟨(w.heap.size + 1), 0, none⟩ = some (.bool b') ∧ w'.cell? ⟨(w.heap.size + 1), 1, none⟩ = some (.slice A0 m0 c0) ∧ w'.cell? ⟨(w.heap.size + 1), 2, none⟩ = some (.slice A1 q0 c1))
        (first
          | (go_keep; done)
          | exact ⟨dx3.c0, dx3.c1, dx3.c2, wx3.c0, wx3.c1, wx3.c2⟩
          | exact ⟨dx2.c0, dx2.c1, dx2.c2, wx2.c0, wx2.c1, wx2.c2⟩
          | exact ⟨dx1.c0, dx1.c1, dx1.c2, wx1.c0, wx1.c1, wx1.c2⟩)
        (first
          | (go_at_call 8; refine (HI.out _).mono ?_; rintro e w1 ⟨rfl, hb1⟩; have sz1 := hb1.size; simp at sz1; have dx1 := dx0.below hb1; have xdx10 := dx1.c0; have xdx11 := dx1.c1; have xdx12 := dx1.c2; have wx1 := wx0.below hb1; have xwx10 := wx1.c0; have xwx11 := wx1.c1; have xwx12 := wx1.c2)
          | (go_at_call 29; refine (HN.out _).mono ?_; rintro e w2 ⟨u, y, rfl, hu, hy, hb2⟩; obtain ⟨A2, c2, rfl, _, _⟩ := hu.form; obtain ⟨A3, c3, rfl, _, _⟩ := hy.form; have sz2 := hb2.size; have dx2 := dx1.below hb2; have xdx20 := dx2.c0; have xdx21 := dx2.c1; have xdx22 := dx2.c2; have wx2 := wx1.below hb2; have xwx20 := wx2.c0; have xwx21 := wx2.c1; have xwx22 := wx2.c2)
          | (go_at_call 60; refine (HC.out _ _ _ _ _ _ _ _ _ hu hy ((hv.below hb1).below hb2) ((hx.below hb1).below hb2)).mono ?_; rintro e w3 ⟨rfl, hb3⟩; have sz3 := hb3.size; have dx3 := dx2.below hb3; have xdx30 := dx3.c0; have xdx31 := dx3.c1; have xdx32 := dx3.c2; have wx3 := wx2.below hb3; have xwx30 := wx3.c0; have xwx31 := wx3.c1; have xwx32 := wx3.c2))
    go_wp2
    go_ret
    exact ⟨rfl, (below_step (below_step (below_step hB0 hb1) hb2) hb3)⟩
end Go.Proofs.YtnjbfebeigginaaDoor.SpecWalk
