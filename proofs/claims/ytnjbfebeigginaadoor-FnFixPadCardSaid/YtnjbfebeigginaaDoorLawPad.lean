/-
  The law over a decimal padded: it holds for every input.
-/
import Derived.Test.YtnjbfebeigginaaDoorSpecPad
import Derived.Test.YtnjbfebeigginaaDoorGvDoorPad
set_option linter.unusedVariables false
set_option linter.unusedSimpArgs false
namespace Go.Proofs.YtnjbfebeigginaaDoor.LawPad
open Go.RowKit Go.Proofs.YtnjbfebeigginaaDoorW.PrintWords Go.Proofs.YtnjbfebeigginaaDoorW.PrintLast Go.Proofs.YtnjbfebeigginaaDoorW.PrintMore Go.Proofs.YtnjbfebeigginaaDoor.Digs Go.Proofs.YtnjbfebeigginaaDoor.StrLaw Go.Proofs.YtnjbfebeigginaaDoor.NatLaw Go.Proofs.YtnjbfebeigginaaDoor.NatWalk Go.Proofs.YtnjbfebeigginaaDoor.SpecWalk Go.Proofs.YtnjbfebeigginaaDoor.GvWalk

structure Rel (b : Bool) (n s : Nat) (t : Int) (c : Bool) (m k : Nat) : Prop where
  mk :: (sg : c = b) (own : sgn c m = c) (num : m = n * 10 ^ (k - s)) (fit : PadTo n s t k)
theorem Rel.meets {w : World} {b c : Bool} {n s m k : Nat} {l : Int} {v : Value} (h : DPadded w b n s l v) (hR : Rel b n s l c m k) : ∃ A c2 ok, v = .agg #[.bool c, .slice A (digs m).length c2, .int .i64 (-(k : Int))] ∧ Rdv w ok (.slice A (digs m).length c2) m := by
  obtain ⟨k2, u, ok, rfl, hu, hK⟩ := h.out
  obtain rfl := hK.one hR.fit
  rw [← hR.num] at hu
  rw [← hR.sg]
  obtain ⟨A, c2, rfl, _, _⟩ := hu.form
  exact ⟨A, c2, ok, rfl, hu⟩
theorem Rel.most {b c : Bool} {n s m k : Nat} {l : Int} (h : Rel b n s l c m k) : m ≤ 9999999999999999999 := by
  rw [h.num]; exact h.fit.room
theorem own_of {b : Bool} {n : Nat} (j : Nat) (h : sgn b n = b) : sgn b (n * 10 ^ j) = b := by
  by_cases h0 : n = 0
  · subst h0; rw [Nat.zero_mul]; exact h
  · have h1 : n * 10 ^ j ≠ 0 := Nat.mul_ne_zero h0 (by have := Nat.pow_pos (n := j) (show 0 < 10 by decide); omega)
    rw [sgn_pos b h1]
theorem target_ok (b : Bool) (n s : Nat) (t : Int) (hs : s ≤ 19) (hn : n ≤ 9999999999999999999) (w : World) (hp : Pows w) :
    Calls Tryd.prog 40 #[.agg #[.bool (sgn b n), .int .i8 s, .int .u64 n], .int .i64 t] w fun e w' => ∃ v, e = .returned v ∧ Dv (Rel (sgn b n) n s t) v ∧ Below w.heap.size w w' := by
  refine (pad_n (sgn b n) n s t w hp (by cases b <;> simp [sgn]) hs hn).mono ?_
  rintro e w' ⟨v, rfl, hT, hb⟩
  obtain ⟨k, rfl, hK⟩ := hT.out
  exact ⟨_, rfl, ⟨_, _, _, rfl, by rcases hK.far with h | h <;> omega, rfl, own_of _ (by cases b <;> simp [sgn]), rfl, hK⟩, hb⟩

set_option maxHeartbeats 4000000 in
theorem law_ok (b : Bool) (n s : Nat) (t : Int) (w : World) (hp : Pows w) (hs : s ≤ 19) (hn : n ≤ 9999999999999999999) (ht : -9223372036854775808 ≤ t ∧ t ≤ 9223372036854775807) :
    Calls Tryd.prog 5 #[.agg #[.bool b, .int .u64 n, .int .i64 s], .int .i64 t] w fun e w' => e = .returned (.bool true) ∧ Below w.heap.size w w' := by
  have HG := Aside0.mk (fun w hp => door_pad_ok b n s t (Rel (sgn b n) n s t) w hp hs hn (target_ok b n s t hs hn))
  have HI := Aside0.mk (fun w => FixIs_n b n s w hn hs)
  have HD := Aside0.mk (fun w => FixDec_n b n s w (by omega) (by omega) (by omega))
  have HN := Aside0.mk (And.intro hs hn)
  have HT := Aside0.mk (fun u v w hv => padded_n (sgn b n) n s t u v w hv (by cases b <;> simp [sgn]) hs hn ht)
  clear ht
  generalize sgn b n = s1 at *
  clear hs hn
  go_enter Tryd.func5, Tryd.ntmps5
  go_wp2_with fail
  have dx0 : Box (w.alloc (Obj.cells #[Value.bool b, Value.int .u64 n, Value.int .i64 s] 24)) w.heap.size [.bool b, .int .u64 n, .int .i64 s] := (Box.new3 w _ _ _ _ _ (by simp))
  have hB0 : Below w.heap.size w (w.alloc (Obj.cells #[Value.bool b, Value.int .u64 n, Value.int .i64 s] 24)) := ((Below.refl _ _).alloc (Nat.le_refl _) _)
  have kdx00 := dx0.c0; have kdx01 := dx0.c1; have kdx02 := dx0.c2; have qdx00 := dx0.f0; have qdx01 := dx0.f1; have qdx02 := dx0.f2
  replace hp := hp.below hB0
  go_wp2_with (first | (go_at_call 19; (with_reducible refine (HG.out _ hp).mono ?_); rintro e wd1 ⟨v, rfl, hF, hbd1⟩; have szd1 := hbd1.size; (try simp at szd1); (with_reducible have dx1 := dx0.below hbd1); have kdx10 := dx1.c0; have kdx11 := dx1.c1; have kdx12 := dx1.c2; have qdx10 := dx1.f0; have qdx11 := dx1.f1; have qdx12 := dx1.f2; obtain ⟨c, m, k, rfl, hk, hR⟩ := hF.out))
  have HM := Aside0.mk hR.most
  have HK := Aside0.mk hk
  clear hk
  have dy1 := dx1.alloc (Obj.cells #[.bool c, .int .u64 m, .int .i64 k] 24)
  have fy1 : Box (wd1.alloc (Obj.cells #[.bool c, .int .u64 m, .int .i64 k] 24)) wd1.heap.size [.bool c, .int .u64 m, .int .i64 k] := Box.new3 _ _ _ _ _ _ rfl
  have hA1 : Below w.heap.size w (wd1.alloc (Obj.cells #[.bool c, .int .u64 m, .int .i64 k] 24)) := (below_step hB0 hbd1).alloc (by have := (below_step hB0 hbd1).size; omega) _
  have dx0 := dy1.drew
  have fx0 := fy1.drew
  replace hA1 := hA1.drew
  refine start_ (n := 16) (S := fun w' => w'.cell? ⟨w.heap.size, 0, none⟩ = some (.bool b) ∧ w'.cell? ⟨w.heap.size, 1, none⟩ = some (.int .u64 n) ∧ w'.cell? ⟨w.heap.size, 2, none⟩ = some (.int .i64 s) ∧ w'.cell? ⟨wd1.heap.size, 0, none⟩ = some (.bool c) ∧ w'.cell? ⟨wd1.heap.size, 1, none⟩ = some (.int .u64 m) ∧ w'.cell? ⟨wd1.heap.size, 2, none⟩ = some (.int .i64 k)) (ds := []) #[false, false, false, false, false, false, false, false, false, false, false, false, false, false, false, false] (by kernel_rfl) rfl rfl ⟨dx0.c0, dx0.c1, dx0.c2, fx0.c0, fx0.c1, fx0.c2⟩ (fun hHeld => ?_)
  refine take_ (i := 0) (N := some 13) (v := ?_) (a' := ?_) #[true, false, false, false, false, false, false, false, false, false, false, false, false, false, false, false] rfl rfl (by kernel_rfl) (fun _ _ _ h => h) (Or.inl ⟨by rfl, ?_⟩) hHeld ?_ ?_
  rotate_left
  · rintro w' ⟨s0, s1, s2, s3, s4, s5⟩
    go_simp
    with_reducible rfl
  rotate_left
  · simp only [Act.put, List.setIfInBounds_toArray, List.set_cons_zero, List.set_cons_succ, i64_w, i32_w]
    rfl
  refine one_ (i := 1) (N := some 14) #[true, true, false, false, false, false, false, false, false, false, false, false, false, false, false, false] rfl rfl (by kernel_rfl) (by decide) (fun K hK => ?_)
  refine goes_ Tryd.func8 (by kernel_rfl) rfl #[.agg #[.bool b, .int .u64 n, .int .i64 s]] (by rfl) rfl rfl (by (try simp only [List.map_toArray, List.map_cons, List.map_nil]); first | done | rfl) ?_
  refine (HI.out _).mono ?_
  rintro e w1 ⟨rfl, hb1⟩
  refine ⟨_, rfl, ?_⟩
  have sz1 := hb1.size; simp at sz1
  have dx1 := dx0.below hb1
  have fx1 := fx0.below hb1
  refine hK.out _ _ ⟨dx1.c0, dx1.c1, dx1.c2, fx1.c0, fx1.c1, fx1.c2⟩ (fun hHeld => ?_)
  clear hK K
  refine norm_ (a' := ?_) ?_ ?_
  rotate_left
  · show Act.put _ (some 14) _ = _
    simp only [Act.put, List.setIfInBounds_toArray, List.set_cons_zero, List.set_cons_succ, i64_w, i32_w]
    rfl
  refine pure_ (i := 2) (N := some 15) (v := ?_) (a' := ?_) #[true, true, true, false, false, false, false, false, false, false, false, false, false, false, false, false] rfl rfl (by kernel_rfl) (fun _ _ _ h => h) (Or.inl ⟨by rfl, ?_⟩) ?_ ?_
  rotate_left
  · intro w'
    go_simp
    with_reducible rfl
  rotate_left
  · simp only [Act.put, List.setIfInBounds_toArray, List.set_cons_zero, List.set_cons_succ, i64_w, i32_w]
    rfl
  refine pure_ (i := 3) (N := some 16) (v := ?_) (a' := ?_) #[true, true, true, true, false, false, false, false, false, false, false, false, false, false, false, false] rfl rfl (by kernel_rfl) (fun _ _ _ h => h) (Or.inl ⟨by rfl, ?_⟩) ?_ ?_
  rotate_left
  · intro w'
    go_simp
    with_reducible rfl
  rotate_left
  · simp only [Act.put, List.setIfInBounds_toArray, List.set_cons_zero, List.set_cons_succ, i64_w, i32_w]
    rfl
  refine pure_ (i := 4) (N := some 17) (v := ?_) (a' := ?_) #[true, true, true, true, true, false, false, false, false, false, false, false, false, false, false, false] rfl rfl (by kernel_rfl) (fun _ _ _ h => h) (Or.inl ⟨by rfl, ?_⟩) ?_ ?_
  rotate_left
  · intro w'
    go_simp
    with_reducible rfl
  rotate_left
  · simp only [Act.put, List.setIfInBounds_toArray, List.set_cons_zero, List.set_cons_succ, i64_w, i32_w]
    rfl
  refine pure_ (i := 5) (N := some 18) (v := ?_) (a' := ?_) #[true, true, true, true, true, true, false, false, false, false, false, false, false, false, false, false] rfl rfl (by kernel_rfl) (fun _ _ _ h => h) (Or.inl ⟨by rfl, ?_⟩) ?_ ?_
  rotate_left
  · intro w'
    go_simp
    with_reducible rfl
  rotate_left
  · simp only [Act.put, List.setIfInBounds_toArray, List.set_cons_zero, List.set_cons_succ, i64_w, i32_w]
    rfl
  refine pure_ (i := 6) (N := some 19) (v := ?_) (a' := ?_) #[true, true, true, true, true, true, true, false, false, false, false, false, false, false, false, false] rfl rfl (by kernel_rfl) (fun _ _ _ h => h) (Or.inl ⟨by rfl, ?_⟩) ?_ ?_
  rotate_left
  · intro w'
    go_simp
    with_reducible rfl
  rotate_left
  · simp only [Act.put, List.setIfInBounds_toArray, List.set_cons_zero, List.set_cons_succ, i64_w, i32_w]
    rfl
  refine take_ (i := 7) (N := some 20) (v := ?_) (a' := ?_) #[true, true, true, true, true, true, true, true, false, false, false, false, false, false, false, false] rfl rfl (by kernel_rfl) (fun _ _ _ h => h) (Or.inl ⟨by rfl, ?_⟩) hHeld ?_ ?_
  rotate_left
  · rintro w' ⟨s0, s1, s2, s3, s4, s5⟩
    go_simp
    with_reducible rfl
  rotate_left
  · simp only [Act.put, List.setIfInBounds_toArray, List.set_cons_zero, List.set_cons_succ, i64_w, i32_w]
    rfl
  refine take_ (i := 8) (N := some 21) (v := ?_) (a' := ?_) #[true, true, true, true, true, true, true, true, true, false, false, false, false, false, false, false] rfl rfl (by kernel_rfl) (fun _ _ _ h => h) (Or.inl ⟨by rfl, ?_⟩) hHeld ?_ ?_
  rotate_left
  · rintro w' ⟨s0, s1, s2, s3, s4, s5⟩
    go_simp
    with_reducible rfl
  rotate_left
  · simp only [Act.put, List.setIfInBounds_toArray, List.set_cons_zero, List.set_cons_succ, i64_w, i32_w]
    rfl
  refine pure_ (i := 10) (N := some 23) (v := ?_) (a' := ?_) #[true, true, true, true, true, true, true, true, true, false, true, false, false, false, false, false] rfl rfl (by kernel_rfl) (fun _ _ _ h => h) (Or.inl ⟨by rfl, ?_⟩) ?_ ?_
  rotate_left
  · intro w'
    go_simp
    with_reducible rfl
  rotate_left
  · simp only [Act.put, List.setIfInBounds_toArray, List.set_cons_zero, List.set_cons_succ, i64_w, i32_w]
    rfl
  refine one_ (i := 9) (N := some 22) #[true, true, true, true, true, true, true, true, true, true, true, false, false, false, false, false] rfl rfl (by kernel_rfl) (by decide) (fun K hK => ?_)
  refine goes_ Tryd.func22 (by kernel_rfl) rfl #[.agg #[.bool b, .int .u64 n, .int .i64 s]] (by rfl) rfl rfl (by (try simp only [List.map_toArray, List.map_cons, List.map_nil]); first | done | rfl) ?_
  refine (HD.out _).mono ?_
  rintro e w2 ⟨v, rfl, hv, hb2⟩
  refine ⟨_, rfl, ?_⟩
  obtain ⟨A0, c0, rfl, _, _⟩ := hv.form
  have sz2 := hb2.size
  have dx2 := dx1.below hb2
  have fx2 := fx1.below hb2
  refine hK.out _ _ ⟨dx2.c0, dx2.c1, dx2.c2, fx2.c0, fx2.c1, fx2.c2⟩ (fun hHeld => ?_)
  clear hK K
  refine norm_ (a' := ?_) ?_ ?_
  rotate_left
  · show Act.put _ (some 22) _ = _
    simp only [Act.put, List.setIfInBounds_toArray, List.set_cons_zero, List.set_cons_succ, i64_w, i32_w]
    rfl
  refine one_ (i := 11) (N := some 24) #[true, true, true, true, true, true, true, true, true, true, true, true, false, false, false, false] rfl rfl (by kernel_rfl) (by decide) (fun K hK => ?_)
  refine goes_ Tryd.func21 (by kernel_rfl) rfl #[.agg #[.bool s1, .slice A0 (digs n).length c0, .int .i64 (-(s : Int))], .int .i64 t] (by rfl) rfl rfl (by (try simp only [List.map_toArray, List.map_cons, List.map_nil]); first | done | rfl) ?_
  refine (HT.out _ _ _ hv).mono ?_
  rintro e w3 ⟨v, rfl, hD, hb3⟩
  refine ⟨_, rfl, ?_⟩
  obtain ⟨A1, c1, ok1, rfl, hu⟩ := hR.meets hD
  have sz3 := hb3.size
  have dx3 := dx2.below hb3
  have fx3 := fx2.below hb3
  refine hK.out _ _ ⟨dx3.c0, dx3.c1, dx3.c2, fx3.c0, fx3.c1, fx3.c2⟩ (fun hHeld => ?_)
  clear hK K
  refine norm_ (a' := ?_) ?_ ?_
  rotate_left
  · show Act.put _ (some 24) _ = _
    simp only [Act.put, List.setIfInBounds_toArray, List.set_cons_zero, List.set_cons_succ, i64_w, i32_w]
    rfl
  refine one_ (i := 12) (N := some 25) #[true, true, true, true, true, true, true, true, true, true, true, true, true, false, false, false] rfl rfl (by kernel_rfl) (by decide) (fun K hK => ?_)
  refine goes_ Tryd.func20 (by kernel_rfl) rfl #[.agg #[.bool c, .int .u64 m, .int .i64 k], .agg #[.bool c, .slice A1 (digs m).length c1, .int .i64 (-(k : Int))]] (by rfl) rfl rfl (by (try simp only [List.map_toArray, List.map_cons, List.map_nil]); first | done | rfl) ?_
  refine (FixSame_n c m k _ _ _ HM.out HK.out hR.own hu).mono ?_
  rintro e w4 ⟨rfl, hb4⟩
  refine ⟨_, rfl, ?_⟩
  have sz4 := hb4.size
  have dx4 := dx3.below hb4
  have fx4 := fx3.below hb4
  refine hK.out _ _ ⟨dx4.c0, dx4.c1, dx4.c2, fx4.c0, fx4.c1, fx4.c2⟩ (fun hHeld => ?_)
  clear hK K
  refine norm_ (a' := ?_) ?_ ?_
  rotate_left
  · show Act.put _ (some 25) _ = _
    simp only [Act.put, List.setIfInBounds_toArray, List.set_cons_zero, List.set_cons_succ, i64_w, i32_w]
    rfl
  refine pure_ (i := 13) (N := some 26) (v := ?_) (a' := ?_) #[true, true, true, true, true, true, true, true, true, true, true, true, true, true, false, false] rfl rfl (by kernel_rfl) (fun _ _ _ h => h) (Or.inl ⟨by rfl, ?_⟩) ?_ ?_
  rotate_left
  · intro w'
    go_simp
    with_reducible rfl
  rotate_left
  · simp only [Act.put, List.setIfInBounds_toArray, List.set_cons_zero, List.set_cons_succ, i64_w, i32_w]
    rfl
  refine pure_ (i := 14) (N := some 27) (v := ?_) (a' := ?_) #[true, true, true, true, true, true, true, true, true, true, true, true, true, true, true, false] rfl rfl (by kernel_rfl) (fun _ _ _ h => h) (Or.inl ⟨by rfl, ?_⟩) ?_ ?_
  rotate_left
  · intro w'
    go_simp
    with_reducible rfl
  rotate_left
  · simp only [Act.put, List.setIfInBounds_toArray, List.set_cons_zero, List.set_cons_succ, i64_w, i32_w]
    rfl
  refine pure_ (i := 15) (N := some 4) (v := ?_) (a' := ?_) #[true, true, true, true, true, true, true, true, true, true, true, true, true, true, true, true] rfl rfl (by kernel_rfl) (fun _ _ _ h => h) (Or.inl ⟨by rfl, ?_⟩) ?_ ?_
  rotate_left
  · intro w'
    go_simp
    with_reducible rfl
  rotate_left
  · simp only [Act.put, List.setIfInBounds_toArray, List.set_cons_zero, List.set_cons_succ, i64_w, i32_w]
    rfl
  refine done_ (by kernel_rfl) ?_
  go_wp2
  all_goals go_ret
  all_goals exact ⟨rfl, below_step (below_step (below_step (below_step hA1 hb1) hb2) hb3) hb4⟩

theorem FixIs_bad (b : Bool) (n s : Int) (w : World) (hr : ¬ (0 ≤ s ∧ s ≤ 19 ∧ n ≤ 9999999999999999999)) : Calls Tryd.prog 8 #[.agg #[.bool b, .int .u64 n, .int .i64 s]] w fun en w' => en = .returned (.bool false) ∧ Below w.heap.size w w' := by
  refine Go.Proofs.YtnjbfebeigginaaDoor.PFnFixTrunc.spec_FixIs.calls b n s false w ?_
  simp only [Go.Proofs.YtnjbfebeigginaaDoor.PFnFixTrunc.spec_FixIs.f]
  by_cases h1 : n ≤ 9999999999999999999
  · rw [if_pos h1]
    by_cases h2 : s ≥ 0
    · rw [if_pos h2, decide_eq_false (by omega)]
    · rw [if_neg h2]
  · rw [if_neg h1]
set_option maxHeartbeats 4000000 in
theorem law_bad (b : Bool) (n s t : Int) (w : World) (he : Errs w) (hn : 0 ≤ n ∧ n ≤ 18446744073709551615) (hr : ¬ (0 ≤ s ∧ s ≤ 19 ∧ n ≤ 9999999999999999999)) :
    Calls Tryd.prog 5 #[.agg #[.bool b, .int .u64 n, .int .i64 s], .int .i64 t] w fun e w' => e = .returned (.bool true) ∧ Below w.heap.size w w' := by
  have HG := Aside0.mk (fun w he => door_pad_bad b n s t w he hn hr)
  have HI := Aside0.mk (fun w => FixIs_bad b n s w hr)
  clear hn hr
  go_enter Tryd.func5, Tryd.ntmps5
  go_wp2_with fail
  have dx0 : Box (w.alloc (Obj.cells #[Value.bool b, Value.int .u64 n, Value.int .i64 s] 24)) w.heap.size [.bool b, .int .u64 n, .int .i64 s] := (Box.new3 w _ _ _ _ _ (by simp))
  have hB0 : Below w.heap.size w (w.alloc (Obj.cells #[Value.bool b, Value.int .u64 n, Value.int .i64 s] 24)) := ((Below.refl _ _).alloc (Nat.le_refl _) _)
  have kdx00 := dx0.c0; have kdx01 := dx0.c1; have kdx02 := dx0.c2; have qdx00 := dx0.f0; have qdx01 := dx0.f1; have qdx02 := dx0.f2
  replace he := he.below hB0
  go_wp2_with (first | (go_at_call 19; (with_reducible refine (HG.out _ he).mono ?_); rintro e wd1 ⟨rfl, hbd1⟩; have szd1 := hbd1.size; (try simp at szd1); (with_reducible have dx1 := dx0.below hbd1); have kdx10 := dx1.c0; have kdx11 := dx1.c1; have kdx12 := dx1.c2; have qdx10 := dx1.f0; have qdx11 := dx1.f1; have qdx12 := dx1.f2))
  have dy1 := dx1.alloc (Obj.cells #[.bool false, .int .u64 0, .int .i64 0] 24)
  have fy1 : Box (wd1.alloc (Obj.cells #[.bool false, .int .u64 0, .int .i64 0] 24)) wd1.heap.size [.bool false, .int .u64 0, .int .i64 0] := Box.new3 _ _ _ _ _ _ rfl
  have hA1 : Below w.heap.size w (wd1.alloc (Obj.cells #[.bool false, .int .u64 0, .int .i64 0] 24)) := (below_step hB0 hbd1).alloc (by have := (below_step hB0 hbd1).size; omega) _
  have dx0 := dy1.drew
  have fx0 := fy1.drew
  replace hA1 := hA1.drew
  refine start_ (n := 16) (S := fun w' => w'.cell? ⟨w.heap.size, 0, none⟩ = some (.bool b) ∧ w'.cell? ⟨w.heap.size, 1, none⟩ = some (.int .u64 n) ∧ w'.cell? ⟨w.heap.size, 2, none⟩ = some (.int .i64 s) ∧ w'.cell? ⟨wd1.heap.size, 0, none⟩ = some (.bool false) ∧ w'.cell? ⟨wd1.heap.size, 1, none⟩ = some (.int .u64 0) ∧ w'.cell? ⟨wd1.heap.size, 2, none⟩ = some (.int .i64 0)) (ds := []) #[false, false, false, false, false, false, false, false, false, false, false, false, false, false, false, false] (by kernel_rfl) rfl rfl ⟨dx0.c0, dx0.c1, dx0.c2, fx0.c0, fx0.c1, fx0.c2⟩ (fun hHeld => ?_)
  refine take_ (i := 0) (N := some 13) (v := ?_) (a' := ?_) #[true, false, false, false, false, false, false, false, false, false, false, false, false, false, false, false] rfl rfl (by kernel_rfl) (fun _ _ _ h => h) (Or.inl ⟨by rfl, ?_⟩) hHeld ?_ ?_
  rotate_left
  · rintro w' ⟨s0, s1, s2, s3, s4, s5⟩
    go_simp
    with_reducible rfl
  rotate_left
  · simp only [Act.put, List.setIfInBounds_toArray, List.set_cons_zero, List.set_cons_succ, i64_w, i32_w]
    rfl
  refine one_ (i := 1) (N := some 14) #[true, true, false, false, false, false, false, false, false, false, false, false, false, false, false, false] rfl rfl (by kernel_rfl) (by decide) (fun K hK => ?_)
  refine goes_ Tryd.func8 (by kernel_rfl) rfl #[.agg #[.bool b, .int .u64 n, .int .i64 s]] (by rfl) rfl rfl (by (try simp only [List.map_toArray, List.map_cons, List.map_nil]); first | done | rfl) ?_
  refine (HI.out _).mono ?_
  rintro e w1 ⟨rfl, hb1⟩
  refine ⟨_, rfl, ?_⟩
  have sz1 := hb1.size; simp at sz1
  have dx1 := dx0.below hb1
  have fx1 := fx0.below hb1
  refine hK.out _ _ ⟨dx1.c0, dx1.c1, dx1.c2, fx1.c0, fx1.c1, fx1.c2⟩ (fun hHeld => ?_)
  clear hK K
  refine norm_ (a' := ?_) ?_ ?_
  rotate_left
  · show Act.put _ (some 14) _ = _
    simp only [Act.put, List.setIfInBounds_toArray, List.set_cons_zero, List.set_cons_succ, i64_w, i32_w]
    rfl
  refine pure_ (i := 2) (N := some 15) (v := ?_) (a' := ?_) #[true, true, true, false, false, false, false, false, false, false, false, false, false, false, false, false] rfl rfl (by kernel_rfl) (fun _ _ _ h => h) (Or.inl ⟨by rfl, ?_⟩) ?_ ?_
  rotate_left
  · intro w'
    go_simp
    with_reducible rfl
  rotate_left
  · simp only [Act.put, List.setIfInBounds_toArray, List.set_cons_zero, List.set_cons_succ, i64_w, i32_w]
    rfl
  refine pure_ (i := 3) (N := some 16) (v := ?_) (a' := ?_) #[true, true, true, true, false, false, false, false, false, false, false, false, false, false, false, false] rfl rfl (by kernel_rfl) (fun _ _ _ h => h) (Or.inl ⟨by rfl, ?_⟩) ?_ ?_
  rotate_left
  · intro w'
    go_simp
    with_reducible rfl
  rotate_left
  · simp only [Act.put, List.setIfInBounds_toArray, List.set_cons_zero, List.set_cons_succ, i64_w, i32_w]
    rfl
  refine pure_ (i := 4) (N := some 17) (v := undef) (a' := ?_) #[true, true, true, true, true, false, false, false, false, false, false, false, false, false, false, false] rfl rfl (by kernel_rfl) (fun _ _ _ h => h) (Or.inr ⟨by rfl, rfl⟩) ?_ ?_
  rotate_left
  · simp only [Act.put, List.setIfInBounds_toArray, List.set_cons_zero, List.set_cons_succ, i64_w, i32_w]
    rfl
  refine pure_ (i := 5) (N := some 18) (v := undef) (a' := ?_) #[true, true, true, true, true, true, false, false, false, false, false, false, false, false, false, false] rfl rfl (by kernel_rfl) (fun _ _ _ h => h) (Or.inr ⟨by rfl, rfl⟩) ?_ ?_
  rotate_left
  · simp only [Act.put, List.setIfInBounds_toArray, List.set_cons_zero, List.set_cons_succ, i64_w, i32_w]
    rfl
  refine pure_ (i := 6) (N := some 19) (v := undef) (a' := ?_) #[true, true, true, true, true, true, true, false, false, false, false, false, false, false, false, false] rfl rfl (by kernel_rfl) (fun _ _ _ h => h) (Or.inr ⟨by rfl, rfl⟩) ?_ ?_
  rotate_left
  · simp only [Act.put, List.setIfInBounds_toArray, List.set_cons_zero, List.set_cons_succ, i64_w, i32_w]
    rfl
  refine pure_ (i := 7) (N := some 20) (v := undef) (a' := ?_) #[true, true, true, true, true, true, true, true, false, false, false, false, false, false, false, false] rfl rfl (by kernel_rfl) (fun _ _ _ h => h) (Or.inr ⟨by rfl, rfl⟩) ?_ ?_
  rotate_left
  · simp only [Act.put, List.setIfInBounds_toArray, List.set_cons_zero, List.set_cons_succ, i64_w, i32_w]
    rfl
  refine pure_ (i := 8) (N := some 21) (v := undef) (a' := ?_) #[true, true, true, true, true, true, true, true, true, false, false, false, false, false, false, false] rfl rfl (by kernel_rfl) (fun _ _ _ h => h) (Or.inr ⟨by rfl, rfl⟩) ?_ ?_
  rotate_left
  · simp only [Act.put, List.setIfInBounds_toArray, List.set_cons_zero, List.set_cons_succ, i64_w, i32_w]
    rfl
  refine pure_ (i := 9) (N := some 22) (v := undef) (a' := ?_) #[true, true, true, true, true, true, true, true, true, true, false, false, false, false, false, false] rfl rfl (by kernel_rfl) (fun _ _ _ h => h) (Or.inr ⟨by rfl, rfl⟩) ?_ ?_
  rotate_left
  · simp only [Act.put, List.setIfInBounds_toArray, List.set_cons_zero, List.set_cons_succ, i64_w, i32_w]
    rfl
  refine pure_ (i := 10) (N := some 23) (v := undef) (a' := ?_) #[true, true, true, true, true, true, true, true, true, true, true, false, false, false, false, false] rfl rfl (by kernel_rfl) (fun _ _ _ h => h) (Or.inr ⟨by rfl, rfl⟩) ?_ ?_
  rotate_left
  · simp only [Act.put, List.setIfInBounds_toArray, List.set_cons_zero, List.set_cons_succ, i64_w, i32_w]
    rfl
  refine pure_ (i := 11) (N := some 24) (v := undef) (a' := ?_) #[true, true, true, true, true, true, true, true, true, true, true, true, false, false, false, false] rfl rfl (by kernel_rfl) (fun _ _ _ h => h) (Or.inr ⟨by rfl, rfl⟩) ?_ ?_
  rotate_left
  · simp only [Act.put, List.setIfInBounds_toArray, List.set_cons_zero, List.set_cons_succ, i64_w, i32_w]
    rfl
  refine pure_ (i := 12) (N := some 25) (v := undef) (a' := ?_) #[true, true, true, true, true, true, true, true, true, true, true, true, true, false, false, false] rfl rfl (by kernel_rfl) (fun _ _ _ h => h) (Or.inr ⟨by rfl, rfl⟩) ?_ ?_
  rotate_left
  · simp only [Act.put, List.setIfInBounds_toArray, List.set_cons_zero, List.set_cons_succ, i64_w, i32_w]
    rfl
  refine pure_ (i := 13) (N := some 26) (v := undef) (a' := ?_) #[true, true, true, true, true, true, true, true, true, true, true, true, true, true, false, false] rfl rfl (by kernel_rfl) (fun _ _ _ h => h) (Or.inr ⟨by rfl, rfl⟩) ?_ ?_
  rotate_left
  · simp only [Act.put, List.setIfInBounds_toArray, List.set_cons_zero, List.set_cons_succ, i64_w, i32_w]
    rfl
  refine pure_ (i := 14) (N := some 27) (v := ?_) (a' := ?_) #[true, true, true, true, true, true, true, true, true, true, true, true, true, true, true, false] rfl rfl (by kernel_rfl) (fun _ _ _ h => h) (Or.inl ⟨by rfl, ?_⟩) ?_ ?_
  rotate_left
  · intro w'
    go_simp
    with_reducible rfl
  rotate_left
  · simp only [Act.put, List.setIfInBounds_toArray, List.set_cons_zero, List.set_cons_succ, i64_w, i32_w]
    rfl
  refine pure_ (i := 15) (N := some 4) (v := ?_) (a' := ?_) #[true, true, true, true, true, true, true, true, true, true, true, true, true, true, true, true] rfl rfl (by kernel_rfl) (fun _ _ _ h => h) (Or.inl ⟨by rfl, ?_⟩) ?_ ?_
  rotate_left
  · intro w'
    go_simp
    with_reducible rfl
  rotate_left
  · simp only [Act.put, List.setIfInBounds_toArray, List.set_cons_zero, List.set_cons_succ, i64_w, i32_w]
    rfl
  refine done_ (by kernel_rfl) ?_
  go_wp2
  go_ret
  exact ⟨rfl, below_step hA1 hb1⟩
end Go.Proofs.YtnjbfebeigginaaDoor.LawPad
