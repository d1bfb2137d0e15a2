/-
  The law over whole numbers of at most 19 digits, divided by a power of ten and rounded: it holds for every input.
-/
import Derived.Test.YtnjbfebeigginaaDoorGvWalk5
import Derived.Test.YtnjbfebeigginaaDoorPgvMostx1
set_option linter.unusedVariables false
set_option linter.unusedSimpArgs false
namespace Go.Proofs.YtnjbfebeigginaaDoor.LawRounds
open Go.RowKit Go.Proofs.YtnjbfebeigginaaDoorW.PrintWords Go.Proofs.YtnjbfebeigginaaDoorW.PrintLast Go.Proofs.YtnjbfebeigginaaDoorW.PrintMore Go.Proofs.YtnjbfebeigginaaDoor.Digs Go.Proofs.YtnjbfebeigginaaDoor.StrLaw Go.Proofs.YtnjbfebeigginaaDoor.NatLaw Go.Proofs.YtnjbfebeigginaaDoor.NatWalk Go.Proofs.YtnjbfebeigginaaDoor.SpecWalk Go.Proofs.YtnjbfebeigginaaDoor.GvWalk
open Go.Proofs.YtnjbfebeigginaaDoor.PgvMost Go.Proofs.YtnjbfebeigginaaDoor.Prounds

/-- What a number is rounded to, in a way. -/
structure IsTo (x d : Nat) (way : Int) (z : Nat) : Prop where
  mk :: (out : ∃ t, z = rnd t x d ∧ spec_rounds.f way false (cmpN (x % d + x % d) d) (decide (x / d % 2 = 1)) = some t)
theorem isTo_even (x d : Nat) : IsTo x d 5 (rnd (evens x d) x d) := by
  refine ⟨_, rfl, ?_⟩
  unfold evens
  generalize decide (x / d % 2 = 1) = o
  generalize x % d = r
  simp only [spec_rounds.f]
  rw [if_neg (by decide), if_neg (by decide), if_neg (by decide), if_neg (by decide), if_pos trivial]
  unfold cmpN
  by_cases h1 : r + r < d
  · rw [if_pos h1, if_neg (by decide), if_neg (by decide), decide_eq_false (by omega), decide_eq_false (by omega)]; rfl
  · rw [if_neg h1]
    by_cases h2 : r + r = d
    · rw [if_pos h2, if_neg (by decide), if_pos rfl, decide_eq_false (by omega), decide_eq_true (by omega)]; rfl
    · rw [if_neg h2, if_pos (by decide), decide_eq_true (by omega)]; rfl
theorem isTo_up (x d : Nat) : IsTo x d 3 (rnd true x d) := ⟨_, rfl, rfl⟩
theorem rnd_cut (n d : Nat) : rnd false n d = n / d := by unfold rnd; split <;> rfl
theorem isTo_down (x d : Nat) : IsTo x d 2 (x / d) := ⟨false, (rnd_cut x d).symm, rfl⟩

set_option maxHeartbeats 4000000 in
theorem is_n (x d z g : Nat) (way : Int) (oa od : Nat → Prop) (v u : Value) (w : World) (hz : IsTo x d way z) (hv : Rdv w oa v x) (hu : Rdv w od u d) (hx : x ≤ 9999999999999999999) (hd : 0 < d) (hld : (digs d).length ≤ 1000) (hg : Box w g [.bool false, v, u]) :
    Calls Tryd.prog 13 #[.int .u64 z, .int .i64 way, .pointer (some ⟨g, 0, none⟩)] w fun e w' => e = .returned (.bool true) ∧ Below w.heap.size w w' := by
  obtain ⟨t, hzt, ht⟩ := hz.out
  obtain ⟨A0, c0, rfl, _, _⟩ := hv.form
  obtain ⟨A1, c1, rfl, _, _⟩ := hu.form
  have hzx : z ≤ 10000000000000000000 := by
    rw [hzt]; have := Nat.div_le_self x d; unfold rnd; split <;> (try split) <;> omega
  have HF := Aside0.mk (fun w => from_n z w (by omega))
  have hr := fun oa od v u w hv hu => round_n false x d 0 way t oa od v u w hv hu hd (by omega) (by have := digs_len x 3 (by omega); omega) hld (by rw [Nat.pow_zero, Nat.mul_one]; exact ht)
  rw [Nat.pow_zero, Nat.mul_one, ← hzt, show ((0 : Nat) : Int) = 0 from rfl, show -(0 : Int) = 0 from rfl, show sgn false z = false from rfl] at hr
  have HR := Aside0.mk hr
  have hc := fun oa ob v u w hv hu => (cmp_n z z oa ob v u w hv hu (by have := digs_len z 3 (by omega); omega)).mono (fun e w' h => And.intro h.1 h.2.below)
  rw [show cmpN z z = 0 by simp [cmpN]] at hc
  have HC := Aside0.mk hc
  clear hr hc ht hzx hx hd hld hz hzt
  generalize (z : Int) = Z at *
  generalize hm0 : (digs x).length = m0 at *
  generalize hd0 : (digs d).length = d0 at *
  clear hm0 hd0
  have hf1 : ∀ (A : Option Addr) (l c : Nat) (w : World), (Instr.field 41 (.agg #[.bool false, .slice A l c, .int .i64 0]) 0).run Tryd.prog w = .ok (.agg #[.bool false, .slice A l c]) w := fun _ _ _ _ => by kernel_rfl
  have hf2 : ∀ (A : Option Addr) (l c : Nat) (w : World), (Instr.field 35 (.agg #[.bool false, .slice A l c]) 1).run Tryd.prog w = .ok (.slice A l c) w := fun _ _ _ _ => by kernel_rfl
  go_enter Tryd.func13, Tryd.ntmps13
  go_wp2_with fail
  have ax0 := hg.drew
  replace hv := hv.drew
  replace hu := hu.drew
  have hB0 := (Below.refl w.heap.size w).drew
  refine start_ (n := 10) (S := fun w' => w'.cell? ⟨g, 0, none⟩ = some (.bool false) ∧ w'.cell? ⟨g, 1, none⟩ = some (.slice A0 m0 c0) ∧ w'.cell? ⟨g, 2, none⟩ = some (.slice A1 d0 c1)) (ds := []) #[false, false, false, false, false, false, false, false, false, false] (by kernel_rfl) rfl rfl ⟨ax0.c0, ax0.c1, ax0.c2⟩ (fun hHeld => ?_)
  refine pure_ (i := 0) (N := some 6) (v := ?_) (a' := ?_) #[true, false, false, false, false, false, false, false, false, false] rfl rfl (by kernel_rfl) (fun _ _ _ h => h) (Or.inl ⟨by rfl, ?_⟩) ?_ ?_
  rotate_left
  · intro w'
    go_simp
    with_reducible rfl
  rotate_left
  · simp only [Act.put, List.setIfInBounds_toArray, List.set_cons_zero, List.set_cons_succ, i64_w, i32_w]
    rfl
  refine take_ (i := 2) (N := some 8) (v := ?_) (a' := ?_) #[true, false, true, false, false, false, false, false, false, false] rfl rfl (by kernel_rfl) (fun _ _ _ h => h) (Or.inl ⟨by rfl, ?_⟩) hHeld ?_ ?_
  rotate_left
  · rintro w' ⟨s0, s1, s2⟩
    go_simp
    with_reducible rfl
  rotate_left
  · simp only [Act.put, List.setIfInBounds_toArray, List.set_cons_zero, List.set_cons_succ, i64_w, i32_w]
    rfl
  refine pure_ (i := 3) (N := some 9) (v := ?_) (a' := ?_) #[true, false, true, true, false, false, false, false, false, false] rfl rfl (by kernel_rfl) (fun _ _ _ h => h) (Or.inl ⟨by rfl, ?_⟩) ?_ ?_
  rotate_left
  · intro w'
    go_simp
    with_reducible rfl
  rotate_left
  · simp only [Act.put, List.setIfInBounds_toArray, List.set_cons_zero, List.set_cons_succ, i64_w, i32_w]
    rfl
  refine one_ (i := 1) (N := some 7) #[true, true, true, true, false, false, false, false, false, false] rfl rfl (by kernel_rfl) (by decide) (fun K hK => ?_)
  refine goes_ Tryd.func11 (by kernel_rfl) rfl #[.int .u64 Z] (by rfl) rfl rfl (by (try simp only [List.map_toArray, List.map_cons, List.map_nil]); first | done | rfl) ?_
  refine (HF.out _).mono ?_
  rintro e w1 ⟨v1, rfl, hv1, hb1⟩
  refine ⟨_, rfl, ?_⟩
  obtain ⟨A2, c2, rfl, _, _⟩ := hv1.form
  have sz1 := hb1.size; simp at sz1
  have ax1 := ax0.below hb1
  refine hK.out _ _ ⟨ax1.c0, ax1.c1, ax1.c2⟩ (fun hHeld => ?_)
  clear hK K
  refine norm_ (a' := ?_) ?_ ?_
  rotate_left
  · show Act.put _ (some 7) _ = _
    simp only [Act.put, List.setIfInBounds_toArray, List.set_cons_zero, List.set_cons_succ, i64_w, i32_w]
    rfl
  refine one_ (i := 4) (N := some 10) #[true, true, true, true, true, false, false, false, false, false] rfl rfl (by kernel_rfl) (by decide) (fun K hK => ?_)
  refine goes_ Tryd.func15 (by kernel_rfl) rfl #[.agg #[.bool false, .slice A0 m0 c0, .slice A1 d0 c1], .int .i64 0, .int .i64 way] (by rfl) rfl rfl (by (try simp only [List.map_toArray, List.map_cons, List.map_nil]); first | done | rfl) ?_
  refine (HR.out _ _ _ _ _ (hv.below hb1) (hu.below hb1)).mono ?_
  rintro e w2 ⟨v2, rfl, hv2, hb2⟩
  refine ⟨_, rfl, ?_⟩
  obtain ⟨A3, c3, rfl, _, _⟩ := hv2.form
  have sz2 := hb2.size
  have ax2 := ax1.below hb2
  refine hK.out _ _ ⟨ax2.c0, ax2.c1, ax2.c2⟩ (fun hHeld => ?_)
  clear hK K
  refine norm_ (a' := ?_) ?_ ?_
  rotate_left
  · show Act.put _ (some 10) _ = _
    simp only [Act.put, List.setIfInBounds_toArray, List.set_cons_zero, List.set_cons_succ, i64_w, i32_w]
    rfl
  refine pure_ (i := 5) (N := some 11) (v := ?_) (a' := ?_) #[true, true, true, true, true, true, false, false, false, false] rfl rfl (by kernel_rfl) (fun _ _ _ h => h) (Or.inl ⟨by rfl, ?_⟩) ?_ ?_
  rotate_left
  · intro w'
    go_simp
    with_reducible rfl
  rotate_left
  · simp only [Act.put, List.setIfInBounds_toArray, List.set_cons_zero, List.set_cons_succ, i64_w, i32_w]
    rfl
  refine pure_ (i := 6) (N := some 12) (v := ?_) (a' := ?_) #[true, true, true, true, true, true, true, false, false, false] rfl rfl (by kernel_rfl) (fun _ _ _ h => h) (Or.inl ⟨by rfl, ?_⟩) ?_ ?_
  rotate_left
  · intro w'
    go_simp
    with_reducible rfl
  rotate_left
  · simp only [Act.put, List.setIfInBounds_toArray, List.set_cons_zero, List.set_cons_succ, i64_w, i32_w]
    rfl
  refine one_ (i := 7) (N := some 13) #[true, true, true, true, true, true, true, true, false, false] rfl rfl (by kernel_rfl) (by decide) (fun K hK => ?_)
  refine goes_ Tryd.func14 (by kernel_rfl) rfl #[.slice A2 (digs z).length c2, .slice A3 (digs z).length c3] (by rfl) rfl rfl (by (try simp only [List.map_toArray, List.map_cons, List.map_nil]); first | done | rfl) ?_
  refine (HC.out _ _ _ _ _ (hv1.below hb2) hv2).mono ?_
  rintro e w3 ⟨rfl, hb3⟩
  refine ⟨_, rfl, ?_⟩
  have sz3 := hb3.size
  have ax3 := ax2.below hb3
  refine hK.out _ _ ⟨ax3.c0, ax3.c1, ax3.c2⟩ (fun hHeld => ?_)
  clear hK K
  refine norm_ (a' := ?_) ?_ ?_
  rotate_left
  · show Act.put _ (some 13) _ = _
    simp only [Act.put, List.setIfInBounds_toArray, List.set_cons_zero, List.set_cons_succ, i64_w, i32_w]
    rfl
  refine pure_ (i := 8) (N := some 14) (v := ?_) (a' := ?_) #[true, true, true, true, true, true, true, true, true, false] rfl rfl (by kernel_rfl) (fun _ _ _ h => h) (Or.inl ⟨by rfl, ?_⟩) ?_ ?_
  rotate_left
  · intro w'
    go_simp
    with_reducible rfl
  rotate_left
  · simp only [Act.put, List.setIfInBounds_toArray, List.set_cons_zero, List.set_cons_succ, i64_w, i32_w]
    rfl
  refine pure_ (i := 9) (N := some 5) (v := ?_) (a' := ?_) #[true, true, true, true, true, true, true, true, true, true] rfl rfl (by kernel_rfl) (fun _ _ _ h => h) (Or.inl ⟨by rfl, ?_⟩) ?_ ?_
  rotate_left
  · intro w'
    go_simp
    with_reducible rfl
  rotate_left
  · simp only [Act.put, List.setIfInBounds_toArray, List.set_cons_zero, List.set_cons_succ, i64_w, i32_w]
    rfl
  refine done_ (by kernel_rfl) ?_
  go_wp2
  go_ret
  exact ⟨by first | rfl | simp, (below_step (below_step (below_step hB0 hb1) hb2) hb3)⟩

theorem w1 : wrap64 (0 + 1) = 1 := by rw [w64 _ (by decide) (by decide)]; rfl
theorem most_yes (x : Nat) (hx : x ≤ 9999999999999999999) : laws_gvMost.f 2 [(x : Int)] = some true := by
  simp only [laws_gvMost.f, laws_gvMost.l0, List.length_cons, List.length_nil, w1]
  have r0 : rd [(x : Int)] 0 = x := rfl
  rw [r0, if_pos (by decide), if_pos (by decide), if_pos (by decide), if_neg (by omega), if_neg (by decide)]
theorem most_no (x : Nat) (h : ¬ x ≤ 9999999999999999999) : laws_gvMost.f 2 [(x : Int)] = some false := by
  simp only [laws_gvMost.f, laws_gvMost.l0, List.length_cons, List.length_nil, w1]
  have r0 : rd [(x : Int)] 0 = x := rfl
  rw [r0, if_pos (by decide), if_pos (by decide), if_pos (by decide), if_pos (by omega)]
theorem most_calls (x : Nat) (b : Bool) (w : World) (h : laws_gvMost.f 2 [(x : Int)] = some b) :
    Calls Tryd.prog 10 #[.slice (some ⟨w.heap.size, 0, none⟩) 1 1] (w.alloc (.cells #[.int .u64 x] 22)) fun e w' => e = .returned (.bool b) ∧ Drawn0 (w.alloc (.cells #[.int .u64 x] 22)) w' := by
  refine laws_gvMost.calls 2 (some ⟨w.heap.size, 0, none⟩) 1 [(x : Int)] b _ ?_ (by simp) h
  refine Kd.C_of_reads (enc := Value.int .u64) (d := (0 : Int)) (h1 := fun _ => rfl) ⟨rfl, by simp, fun _ => ⟨_, rfl, fun j hj => ?_⟩⟩
  have hj2 : j < 1 := hj
  obtain rfl : j = 0 := by omega
  rw [add_plain, World.cell?_alloc_new]; rfl

set_option maxHeartbeats 1000000 in
theorem law_out (x : Nat) (s : Int) (w : World) (h : ¬ x ≤ 9999999999999999999) : Calls Tryd.prog 4 #[.int .u64 x, .int .i64 s] w fun e w' => e = .returned (.bool true) ∧ Below w.heap.size w w' := by
  have HM := Aside0.mk (fun w => most_calls x false w (most_no x h))
  clear h
  generalize (x : Int) = X at *
  go_enter Tryd.func4, Tryd.ntmps4
  go_wp2_with (go_at_call 10; refine (HM.out _).mono ?_; rintro e w1 ⟨rfl, hb⟩; have HB := Aside0.mk hb; clear hb)
  go_ret
  exact ⟨rfl, below_step ((Below.refl _ _).alloc (Nat.le_refl _) _) HB.out.below⟩
set_option maxHeartbeats 1000000 in
theorem law_far (x : Nat) (s : Int) (w : World) (hx : x ≤ 9999999999999999999) (h : s < 0 ∨ 40 < s) : Calls Tryd.prog 4 #[.int .u64 x, .int .i64 s] w fun e w' => e = .returned (.bool true) ∧ Below w.heap.size w w' := by
  have HM := Aside0.mk (fun w => most_calls x true w (most_yes x hx))
  clear hx
  generalize (x : Int) = X at *
  rcases h with h | h
  · go_enter Tryd.func4, Tryd.ntmps4
    go_wp2_with (go_at_call 10; refine (HM.out _).mono ?_; rintro e w1 ⟨rfl, hb⟩; have HB := Aside0.mk hb; clear hb)
    go_ret
    exact ⟨rfl, below_step ((Below.refl _ _).alloc (Nat.le_refl _) _) HB.out.below⟩
  · have h0 : ¬ s < 0 := by omega
    go_enter Tryd.func4, Tryd.ntmps4
    go_wp2_with (go_at_call 10; refine (HM.out _).mono ?_; rintro e w1 ⟨rfl, hb⟩; have HB := Aside0.mk hb; clear hb)
    go_ret
    exact ⟨rfl, below_step ((Below.refl _ _).alloc (Nat.le_refl _) _) HB.out.below⟩

/-- What holds while the three ways are asked for. -/
structure St (w0 w : World) (x d g : Nat) (oa od : Nat → Prop) (v u : Value) : Prop where
  mk :: (hb : Below w0.heap.size w0 w) (hp : Pows w) (hv : Rdv w oa v x) (hu : Rdv w od u d) (hg : Box w g [.bool false, v, u])
theorem St.below {w0 w w1 : World} {x d g : Nat} {oa od : Nat → Prop} {v u : Value} (h : St w0 w x d g oa od v u) (hb : Below w.heap.size w w1) : St w0 w1 x d g oa od v u :=
  ⟨below_step h.hb hb, h.hp.below hb, h.hv.below hb, h.hu.below hb, h.hg.below hb⟩
set_option maxHeartbeats 4000000 in
theorem law_in (x s : Nat) (w : World) (hp : Pows w) (hx : x ≤ 9999999999999999999) (hs : s ≤ 40) : Calls Tryd.prog 4 #[.int .u64 x, .int .i64 s] w fun e w' => e = .returned (.bool true) ∧ Below w.heap.size w w' := by
  have hmf : ∀ (fn : Fn) (first cap : Array Value) (w : World), (Instr.makeFunc fn first cap).run Tryd.prog w = .ok (.func fn first cap) w := fun _ _ _ _ => rfl
  have HM := Aside0.mk (fun w => most_calls x true w (most_yes x hx))
  have HF := Aside0.mk (fun w => from_n x w (by omega))
  have HP := Aside0.mk (fun w => pow10_n s w (by omega))
  have hlp := len_pow10 s
  have HI := Aside0.mk (fun way z v u oa od g w hz hv hu hg => is_n x (10 ^ s) z g way oa od v u w hz hv hu hx (Nat.pow_pos (by decide)) (by omega) hg)
  have HE := Aside0.mk (fun w hp => intEven_n x s w hp hx (by omega))
  have HU := Aside0.mk (fun w hp => intUp_n x s w hp hx (by omega))
  have HD := Aside0.mk (fun w hp => intDown_n x s w hp hx (by omega))
  have hu2 := fun w hp => intUp_n 11 1 w hp (by decide) (by decide)
  rw [show rnd true 11 (10 ^ 1) = 2 from rfl] at hu2
  have HU2 := Aside0.mk hu2
  have H5 := Aside0.mk (isTo_even x (10 ^ s))
  have H3 := Aside0.mk (isTo_up x (10 ^ s))
  have H2 := Aside0.mk (isTo_down x (10 ^ s))
  have hs0 : (0 : Int) ≤ (s : Int) := Int.natCast_nonneg _
  have hs1 : (s : Int) ≤ 40 := by omega
  clear hu2 hlp hx hs
  generalize rnd (evens x (10 ^ s)) x (10 ^ s) = ze at *
  generalize rnd true x (10 ^ s) = zu at *
  generalize x / 10 ^ s = zd at *
  generalize 10 ^ s = d at *
  generalize (s : Int) = S at *
  generalize (x : Int) = X at *
  go_enter Tryd.func4, Tryd.ntmps4
  go_wp2_with (first | (go_at_call 10; refine (HM.out _).mono ?_; rintro e w1 ⟨rfl, hb⟩; have HB1 := Aside0.mk (below_step ((Below.refl w.heap.size w).alloc (Nat.le_refl _) _) hb.below); clear hb) | (go_at_call 11; refine (HF.out _).mono ?_; rintro e w2 ⟨v, rfl, hv, hb⟩; have HV := Aside0.mk hv; have HB2 := Aside0.mk (below_step HB1.out hb); clear hv hb; obtain ⟨A0, c0, rfl, _, _⟩ := HV.out.form) | (go_at_call 12; refine (HP.out _).mono ?_; rintro e w3 ⟨u, rfl, hu, hb⟩; have HW := Aside0.mk hu; have HV3 := Aside0.mk (HV.out.below hb); have HB3 := Aside0.mk (below_step HB2.out hb); clear hu hb; obtain ⟨A1, c1, rfl, _, _⟩ := HW.out.form; have HS := Aside0.mk (St.mk (HB3.out.alloc HB3.out.size (Obj.cells #[.bool false, .slice A0 (digs x).length c0, .slice A1 (digs d).length c1] 38)) (hp.below (HB3.out.alloc HB3.out.size _)) (HV3.out.below ((Below.refl _ _).alloc (Nat.le_refl _) _)) (HW.out.below ((Below.refl _ _).alloc (Nat.le_refl _) _)) (Box.new3 _ _ _ _ _ _ rfl))) | (go_at_call 16; refine (HE.out _ HS.out.hp).mono ?_; rintro e w4 ⟨rfl, rfl⟩) | (go_at_call_of 17 (Value.int IntKind.u64 11); refine (HU2.out _ HS.out.hp).mono ?_; rintro e w4 ⟨rfl, rfl⟩) | (go_at_call 17; refine (HU.out _ HS.out.hp).mono ?_; rintro e w4 ⟨rfl, rfl⟩) | (go_at_call 18; refine (HD.out _ HS.out.hp).mono ?_; rintro e w4 ⟨rfl, rfl⟩) | (go_at_call 13; refine (HI.out _ _ _ _ _ _ _ _ (by first | exact H5.out | exact H3.out | exact H2.out) HS.out.hv HS.out.hu HS.out.hg).mono ?_; rintro e w5 ⟨rfl, hb⟩; replace HS := Aside0.mk (HS.out.below hb); clear hb))
  go_ret
  exact ⟨by first | rfl | simp, HS.out.hb⟩

theorem law_calls (x : Nat) (s : Int) (w : World) (hp : Pows w) : Calls Tryd.prog 4 #[.int .u64 x, .int .i64 s] w fun e w' => e = .returned (.bool true) ∧ Below w.heap.size w w' := by
  by_cases hx : x ≤ 9999999999999999999
  · by_cases hs : s < 0 ∨ 40 < s
    · exact law_far x s w hx hs
    · obtain ⟨k, rfl⟩ := Int.eq_ofNat_of_zero_le (show 0 ≤ s by omega)
      exact law_in x k w hp hx (by omega)
  · exact law_out x s w hx
end Go.Proofs.YtnjbfebeigginaaDoor.LawRounds
