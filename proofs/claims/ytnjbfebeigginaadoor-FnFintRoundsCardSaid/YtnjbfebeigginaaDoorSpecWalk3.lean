/-
  The reference's look at a decimal beside a decimal number with just its places; nothing that was there is changed.
-/
import Derived.Test.YtnjbfebeigginaaDoorSpecWalk2
set_option linter.unusedVariables false
set_option linter.unusedSimpArgs false
namespace Go.Proofs.YtnjbfebeigginaaDoor.SpecWalk
open Go.RowKit Go.Proofs.YtnjbfebeigginaaDoorW.PrintWords Go.Proofs.YtnjbfebeigginaaDoorW.PrintLast Go.Proofs.YtnjbfebeigginaaDoorW.PrintMore Go.Proofs.YtnjbfebeigginaaDoor.Digs Go.Proofs.YtnjbfebeigginaaDoor.StrLaw Go.Proofs.YtnjbfebeigginaaDoor.NatLaw Go.Proofs.YtnjbfebeigginaaDoor.NatWalk

theorem cmpW_self (b : Bool) (n : Nat) : cmpW b n b n = 0 := by cases b <;> simp [cmpW, cmpN]
theorem len_mul_pow (n s : Nat) (hn : n < 1000000000000000000000000000) : (digs (n * 10 ^ s)).length ≤ s + 3 := by
  refine len_digs_le (Nat.lt_of_lt_of_le (Nat.mul_lt_mul_of_pos_right hn (Nat.pow_pos (by decide))) ?_)
  have h1 : 10 ^ s ≤ 1000000000 ^ s := Nat.pow_le_pow_left (by decide) s
  rw [Nat.pow_add, Nat.mul_comm]
  exact Nat.mul_le_mul h1 (by decide)
theorem bne_false (b : Bool) : (b != false) = b := by cases b <;> rfl
set_option maxHeartbeats 4000000 in
theorem FixSame_n (b : Bool) (n s : Nat) (oa : Nat → Prop) (v : Value) (w : World) (hn : n ≤ 9999999999999999999) (hs : s ≤ 19) (hb : sgn b n = b) (hv : Rdv w oa v n) :
    Calls Tryd.prog 20 #[.agg #[.bool b, .int .u64 n, .int .i64 s], .agg #[.bool b, v, .int .i64 (-(s : Int))]] w fun en w' => en = .returned (.bool true) ∧ Below w.heap.size w w' := by
  obtain ⟨A0, c0, rfl, _, _⟩ := hv.form
  have hl3 := digs_len n 3 (by omega)
  have hlm := len_mul_pow n s (by omega)
  have HF := Aside0.mk (fun ok v w hv => frac_dec b n s ok v w hv hb (by omega) (by omega))
  have HH := Aside0.mk (fun oa od v x w hv hx => FixHas_n b b n s n (10 ^ s) oa od v x w hn hs hb hv hx (by omega) (by have := len_pow10 s; omega) (by rw [bne_false]; exact cmpW_self _ _) (by omega) (by omega))
  obtain ⟨E, hE⟩ : ∃ E : Int, E = -(s : Int) := ⟨_, rfl⟩
  have hneg : IntKind.i64.wrap (-E) = (s : Int) := by rw [hE, Int.neg_neg]; exact IntWalk.i64_in _ (by omega)
  rw [← hE] at HF ⊢
  clear hE hl3 hlm hb hn hs
  generalize 10 ^ s = f at *
  generalize hX : (n : Int) = x at *
  clear hX
  generalize hS : (s : Int) = S at *
  clear hS
  generalize hm : (digs n).length = m0 at *
  go_enter Tryd.func20, Tryd.ntmps20
  go_wp2_with fail
  have dx0 : Box ((w.alloc (Obj.cells #[Value.bool b, Value.int IntKind.u64 x, Value.int IntKind.i64 S] 24)).alloc (Obj.cells #[Value.bool b, Value.slice A0 m0 c0, Value.int IntKind.i64 E] 41)).drew w.heap.size [.bool b, .int IntKind.u64 x, .int IntKind.i64 S] := ((Box.new3 w _ _ _ _ _ (by simp)).alloc _).drew
  have wx0 : Box ((w.alloc (Obj.cells #[Value.bool b, Value.int IntKind.u64 x, Value.int IntKind.i64 S] 24)).alloc (Obj.cells #[Value.bool b, Value.slice A0 m0 c0, Value.int IntKind.i64 E] 41)).drew (w.heap.size + 1) [.bool b, .slice A0 m0 c0, .int IntKind.i64 E] := (Box.new3 (w.alloc (Obj.cells #[Value.bool b, Value.int IntKind.u64 x, Value.int IntKind.i64 S] 24)) _ _ _ _ _ (by simp)).drew
  have hB0 : Below w.heap.size w ((w.alloc (Obj.cells #[Value.bool b, Value.int IntKind.u64 x, Value.int IntKind.i64 S] 24)).alloc (Obj.cells #[Value.bool b, Value.slice A0 m0 c0, Value.int IntKind.i64 E] 41)).drew := (((Below.refl _ _).alloc (Nat.le_refl _) _).alloc (by simp) _).drew
  replace hv := hv.below hB0
  refine start_ (n := 13) (S := fun w' => w'.cell? ⟨w.heap.size, 0, none⟩ = some (.bool b) ∧ w'.cell? ⟨w.heap.size, 1, none⟩ = some (.int IntKind.u64 x) ∧ w'.cell? ⟨w.heap.size, 2, none⟩ = some (.int IntKind.i64 S) ∧ w'.cell? ⟨(w.heap.size + 1), 0, none⟩ = some (.bool b) ∧ w'.cell? ⟨(w.heap.size + 1), 1, none⟩ = some (.slice A0 m0 c0) ∧ w'.cell? ⟨(w.heap.size + 1), 2, none⟩ = some (.int IntKind.i64 E)) (ds := []) #[false, false, false, false, false, false, false, false, false, false, false, false, false] (by kernel_rfl) rfl rfl ⟨dx0.c0, dx0.c1, dx0.c2, wx0.c0, wx0.c1, wx0.c2⟩ (fun hHeld => ?_)
  refine take_ (i := 0) (N := some 5) (v := ?_) (a' := ?_) #[true, false, false, false, false, false, false, false, false, false, false, false, false] rfl rfl (by kernel_rfl) (fun _ _ _ h => h) (Or.inl ⟨by rfl, ?_⟩) hHeld ?_ ?_
  rotate_left
  · rintro w' ⟨s0, s1, s2, s3, s4, s5⟩
    go_simp
    with_reducible rfl
  rotate_left
  · simp only [Act.put, List.setIfInBounds_toArray, List.set_cons_zero, List.set_cons_succ, i64_w, i32_w]
    rfl
  refine take_ (i := 1) (N := some 6) (v := ?_) (a' := ?_) #[true, true, false, false, false, false, false, false, false, false, false, false, false] rfl rfl (by kernel_rfl) (fun _ _ _ h => h) (Or.inl ⟨by rfl, ?_⟩) hHeld ?_ ?_
  rotate_left
  · rintro w' ⟨s0, s1, s2, s3, s4, s5⟩
    go_simp
    with_reducible rfl
  rotate_left
  · simp only [Act.put, List.setIfInBounds_toArray, List.set_cons_zero, List.set_cons_succ, i64_w, i32_w]
    rfl
  refine one_ (i := 2) (N := some 7) #[true, true, true, false, false, false, false, false, false, false, false, false, false] rfl rfl (by kernel_rfl) (by decide) (fun K hK => ?_)
  refine goes_ Tryd.func42 (by kernel_rfl) rfl #[.agg #[.bool b, .slice A0 m0 c0, .int .i64 E]] (by rfl) rfl rfl (by (try simp only [List.map_toArray, List.map_cons, List.map_nil]); first | done | rfl) ?_
  refine (HF.out _ _ _ hv).mono ?_
  rintro e w1 ⟨u, d, rfl, hu, hd, hb1⟩
  refine ⟨_, rfl, ?_⟩
  obtain ⟨A2, c2, rfl, _, _⟩ := hu.form
  obtain ⟨A3, c3, rfl, _, _⟩ := hd.form
  have sz1 := hb1.size; simp at sz1
  have dx1 := dx0.below hb1
  have wx1 := wx0.below hb1
  refine hK.out _ _ ⟨dx1.c0, dx1.c1, dx1.c2, wx1.c0, wx1.c1, wx1.c2⟩ (fun hHeld => ?_)
  clear hK K
  refine norm_ (a' := ?_) ?_ ?_
  rotate_left
  · show Act.put _ (some 7) _ = _
    simp only [Act.put, List.setIfInBounds_toArray, List.set_cons_zero, List.set_cons_succ, i64_w, i32_w]
    rfl
  refine one_ (i := 3) (N := some 8) #[true, true, true, true, false, false, false, false, false, false, false, false, false] rfl rfl (by kernel_rfl) (by decide) (fun K hK => ?_)
  refine goes_ Tryd.func41 (by kernel_rfl) rfl #[.agg #[.bool b, .int .u64 x, .int .i64 S], .agg #[.bool b, .slice A2 (digs n).length c2, .slice A3 (digs f).length c3]] (by rfl) rfl rfl (by (try simp only [List.map_toArray, List.map_cons, List.map_nil]); first | done | rfl) ?_
  refine (HH.out _ _ _ _ _ hu hd).mono ?_
  rintro e w2 ⟨rfl, hb2⟩
  refine ⟨_, rfl, ?_⟩
  have sz2 := hb2.size
  have dx2 := dx1.below hb2
  have wx2 := wx1.below hb2
  refine hK.out _ _ ⟨dx2.c0, dx2.c1, dx2.c2, wx2.c0, wx2.c1, wx2.c2⟩ (fun hHeld => ?_)
  clear hK K
  refine norm_ (a' := ?_) ?_ ?_
  rotate_left
  · show Act.put _ (some 8) _ = _
    simp only [Act.put, List.setIfInBounds_toArray, List.set_cons_zero, List.set_cons_succ, i64_w, i32_w]
    rfl
  refine pure_ (i := 4) (N := some 9) (v := ?_) (a' := ?_) #[true, true, true, true, true, false, false, false, false, false, false, false, false] rfl rfl (by kernel_rfl) (fun _ _ _ h => h) (Or.inl ⟨by rfl, ?_⟩) ?_ ?_
  rotate_left
  · intro w'
    go_simp
    with_reducible rfl
  rotate_left
  · simp only [Act.put, List.setIfInBounds_toArray, List.set_cons_zero, List.set_cons_succ, i64_w, i32_w]
    rfl
  refine pure_ (i := 5) (N := some 10) (v := ?_) (a' := ?_) #[true, true, true, true, true, true, false, false, false, false, false, false, false] rfl rfl (by kernel_rfl) (fun _ _ _ h => h) (Or.inl ⟨by rfl, ?_⟩) ?_ ?_
  rotate_left
  · intro w'
    go_simp
    with_reducible rfl
  rotate_left
  · simp only [Act.put, List.setIfInBounds_toArray, List.set_cons_zero, List.set_cons_succ, i64_w, i32_w]
    rfl
  refine take_ (i := 6) (N := some 11) (v := ?_) (a' := ?_) #[true, true, true, true, true, true, true, false, false, false, false, false, false] rfl rfl (by kernel_rfl) (fun _ _ _ h => h) (Or.inl ⟨by rfl, ?_⟩) hHeld ?_ ?_
  rotate_left
  · rintro w' ⟨s0, s1, s2, s3, s4, s5⟩
    go_simp
    with_reducible rfl
  rotate_left
  · simp only [Act.put, List.setIfInBounds_toArray, List.set_cons_zero, List.set_cons_succ, i64_w, i32_w]
    rfl
  refine pure_ (i := 7) (N := some 12) (v := ?_) (a' := ?_) #[true, true, true, true, true, true, true, true, false, false, false, false, false] rfl rfl (by kernel_rfl) (fun _ _ _ h => h) (Or.inl ⟨by rfl, ?_⟩) ?_ ?_
  rotate_left
  · intro w'
    go_simp
    with_reducible rfl
  rotate_left
  · simp only [Act.put, List.setIfInBounds_toArray, List.set_cons_zero, List.set_cons_succ, i64_w, i32_w]
    rfl
  refine take_ (i := 8) (N := some 13) (v := ?_) (a' := ?_) #[true, true, true, true, true, true, true, true, true, false, false, false, false] rfl rfl (by kernel_rfl) (fun _ _ _ h => h) (Or.inl ⟨by rfl, ?_⟩) hHeld ?_ ?_
  rotate_left
  · rintro w' ⟨s0, s1, s2, s3, s4, s5⟩
    go_simp
    with_reducible rfl
  rotate_left
  · simp only [Act.put, List.setIfInBounds_toArray, List.set_cons_zero, List.set_cons_succ, i64_w, i32_w]
    rfl
  refine pure_ (i := 9) (N := some 14) (v := ?_) (a' := ?_) #[true, true, true, true, true, true, true, true, true, true, false, false, false] rfl rfl (by kernel_rfl) (fun _ _ _ h => h) (Or.inl ⟨by rfl, ?_⟩) ?_ ?_
  rotate_left
  · intro w'
    go_simp
    with_reducible rfl
  rotate_left
  · simp only [Act.put, List.setIfInBounds_toArray, List.set_cons_zero, List.set_cons_succ, i64_w, i32_w]
    rfl
  refine pure_ (i := 10) (N := some 15) (v := ?_) (a' := ?_) #[true, true, true, true, true, true, true, true, true, true, true, false, false] rfl rfl (by kernel_rfl) (fun _ _ _ h => h) (Or.inl ⟨by rfl, ?_⟩) ?_ ?_
  rotate_left
  · intro w'
    go_simp
    with_reducible rfl
  rotate_left
  · simp only [Act.put, List.setIfInBounds_toArray, List.set_cons_zero, List.set_cons_succ, i64_w, i32_w]
    rfl
  refine pure_ (i := 11) (N := some 16) (v := ?_) (a' := ?_) #[true, true, true, true, true, true, true, true, true, true, true, true, false] rfl rfl (by kernel_rfl) (fun _ _ _ h => h) (Or.inl ⟨by rfl, ?_⟩) ?_ ?_
  rotate_left
  · intro w'
    go_simp
    with_reducible rfl
  rotate_left
  · simp only [Act.put, List.setIfInBounds_toArray, List.set_cons_zero, List.set_cons_succ, i64_w, i32_w]
    rfl
  refine pure_ (i := 12) (N := some 4) (v := ?_) (a' := ?_) #[true, true, true, true, true, true, true, true, true, true, true, true, true] rfl rfl (by kernel_rfl) (fun _ _ _ h => h) (Or.inl ⟨by rfl, ?_⟩) ?_ ?_
  rotate_left
  · intro w'
    go_simp
    with_reducible rfl
  rotate_left
  · simp only [Act.put, List.setIfInBounds_toArray, List.set_cons_zero, List.set_cons_succ, i64_w, i32_w]
    rfl
  refine done_ (by kernel_rfl) ?_
  go_wp2
  go_ret
  exact ⟨by simp, (below_step (below_step hB0 hb1) hb2)⟩
end Go.Proofs.YtnjbfebeigginaaDoor.SpecWalk
