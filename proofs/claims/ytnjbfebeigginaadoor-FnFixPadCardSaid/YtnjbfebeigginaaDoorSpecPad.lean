/-
  The reference's padding of a decimal number.
-/
import Derived.Test.YtnjbfebeigginaaDoorSpecTrim
import Derived.Test.YtnjbfebeigginaaDoorGvWalk4
set_option linter.unusedVariables false
set_option linter.unusedSimpArgs false
namespace Go.Proofs.YtnjbfebeigginaaDoor.SpecWalk
open Go.RowKit Go.Proofs.YtnjbfebeigginaaDoorW.PrintWords Go.Proofs.YtnjbfebeigginaaDoorW.PrintLast Go.Proofs.YtnjbfebeigginaaDoorW.PrintMore Go.Proofs.YtnjbfebeigginaaDoor.Digs Go.Proofs.YtnjbfebeigginaaDoor.StrLaw Go.Proofs.YtnjbfebeigginaaDoor.NatLaw Go.Proofs.YtnjbfebeigginaaDoor.NatWalk Go.Proofs.YtnjbfebeigginaaDoor.GvWalk

/-- How far a decimal number is padded so far. -/
structure Pad1 (n s : Nat) (t : Int) (k m : Nat) : Prop where
  mk :: (le : s ≤ k) (far : k = s ∨ ((k : Int) ≤ t ∧ k ≤ 19)) (eq : m = n * 10 ^ (k - s)) (room : m ≤ 9999999999999999999)
theorem Pad1.start {n s : Nat} {t : Int} (hn : n ≤ 9999999999999999999) : Pad1 n s t s n := ⟨Nat.le_refl _, .inl rfl, by rw [Nat.sub_self, Nat.pow_zero, Nat.mul_one], hn⟩
theorem Pad1.step {n s k m : Nat} {t : Int} (h : Pad1 n s t k m) (h1 : (k : Int) < t) (h2 : k < 19) (h3 : m * 10 ≤ 9999999999999999999) : Pad1 n s t (k + 1) (m * 10) :=
  ⟨by have := h.le; omega, .inr (by omega), by rw [h.eq, show k + 1 - s = (k - s) + 1 by have := h.le; omega, Nat.pow_succ, Nat.mul_assoc], h3⟩
theorem Pad1.stop {n s k m : Nat} {t : Int} (h : Pad1 n s t k m) (h1 : min t 19 ≤ (k : Int) ∨ ¬ m * 10 ≤ 9999999999999999999) : PadTo n s t k :=
  ⟨h.le, h.far, by rw [← h.eq]; exact h.room, h1.imp id (fun h2 => by rw [Nat.pow_succ, ← Nat.mul_assoc, ← h.eq]; omega)⟩
theorem sgn_times {b : Bool} {n : Nat} (h : sgn b n = b) : sgn b (n * 10) = b := by
  by_cases h0 : n = 0
  · subst h0; exact h
  · rw [← h, sgn_pos b h0, sgn_pos b (by omega)]
/-- The state of the loop. -/
structure PSt (w : World) (g : Nat) (b : Bool) (n s : Nat) (t : Int) (k : Nat) : Prop where
  mk :: (out : ∃ m, Pad1 n s t k m ∧ sgn b m = b ∧ ∃ v, Rdv w (fun j => j ≠ g ∧ j ≠ g + 1) v m ∧ Box w g [.bool b, v, .int .i64 (-(k : Int))])
structure DPadded (w : World) (b : Bool) (n s : Nat) (t : Int) (v : Value) : Prop where
  mk :: (out : ∃ (k : Nat) (u : Value) (ok : Nat → Prop), v = .agg #[.bool b, u, .int .i64 (-(k : Int))] ∧ Rdv w ok u (n * 10 ^ (k - s)) ∧ PadTo n s t k)
theorem DPadded.of {w : World} {b : Bool} {n s k m : Nat} {t E : Int} {v : Value} {ok : Nat → Prop} (hF : PadTo n s t k) (hm : m = n * 10 ^ (k - s)) (hv : Rdv w ok v m) (hE : E = -(k : Int)) : DPadded w b n s t (.agg #[.bool b, v, .int .i64 E]) := by
  subst hm hE
  exact ⟨k, v, ok, rfl, hv, hF⟩
theorem PSt.of {w : World} {g n s k m m2 : Nat} {b : Bool} {t E : Int} {v : Value} (h : Pad1 n s t k (m * 10)) (hm : m * 10 = m2) (hs : sgn b (m * 10) = b) (hv : Rdv w (fun j => j ≠ g ∧ j ≠ g + 1) v m2) (hb : Box w g [.bool b, v, .int .i64 E]) (hE : E = -(k : Int)) : PSt w g b n s t k := by
  subst hm
  exact ⟨_, h, hs, v, hv, by rw [← hE]; exact hb⟩
theorem low (w : World) (o : Obj) : Below w.heap.size w (w.alloc o) := (Below.refl _ _).alloc (Nat.le_refl _) _

set_option maxHeartbeats 8000000 in
theorem padded_n (b : Bool) (n s : Nat) (t : Int) (oa : Nat → Prop) (v : Value) (w : World) (hv : Rdv w oa v n) (hb : sgn b n = b) (hs : s ≤ 19) (hn : n ≤ 9999999999999999999) (ht : -9223372036854775808 ≤ t ∧ t ≤ 9223372036854775807) :
    Calls Tryd.prog 21 #[.agg #[.bool b, v, .int .i64 (-(s : Int))], .int .i64 t] w fun e w' => ∃ v, e = .returned v ∧ DPadded w' b n s t v ∧ Below w.heap.size w w' := by
  obtain ⟨A, c0, rfl, _, _⟩ := hv.form
  replace hv := hv.bound
  have HS := Pad1.start (s := s) (t := t) hn
  have HSB := Aside0.mk hb
  have HN := Aside0.mk (And.intro hs ht)
  clear hs hn hb ht
  generalize hm : (digs n).length = m0 at *
  obtain ⟨E, hE⟩ : ∃ E : Int, E = -(s : Int) := ⟨_, rfl⟩
  rw [← hE]
  have HE0 := Aside0.mk hE
  clear hE
  go_enter Tryd.func21, Tryd.ntmps21
  go_wp2
  have bx0 : Box ((w.alloc (Obj.cells #[Value.bool b, Value.slice A m0 c0, Value.int .i64 E] 41)).alloc (Obj.cells #[Value.bool false, Value.slice none 0 0, Value.int .i64 0] 41)) w.heap.size [.bool b, .slice A m0 c0, .int .i64 E] := ((Box.new3 w _ _ _ _ _ (by simp)).alloc _)
  have rx0 : Box ((w.alloc (Obj.cells #[Value.bool b, Value.slice A m0 c0, Value.int .i64 E] 41)).alloc (Obj.cells #[Value.bool false, Value.slice none 0 0, Value.int .i64 0] 41)) (w.heap.size + 1) [.bool false, .slice none 0 0, .int .i64 0] := (Box.new3 (w.alloc (Obj.cells #[Value.bool b, Value.slice A m0 c0, Value.int .i64 E] 41)) _ _ _ _ _ (by simp))
  have hB0 : Below w.heap.size w ((w.alloc (Obj.cells #[Value.bool b, Value.slice A m0 c0, Value.int .i64 E] 41)).alloc (Obj.cells #[Value.bool false, Value.slice none 0 0, Value.int .i64 0] 41)) := (((Below.refl _ _).alloc (Nat.le_refl _) _).alloc (by simp) _)
  replace hv := hv.below hB0
  have hst : PSt (((w.alloc (Obj.cells #[Value.bool b, Value.slice A m0 c0, Value.int .i64 E] 41)).alloc (Obj.cells #[Value.bool false, Value.slice none 0 0, Value.int .i64 0] 41))) w.heap.size b n s t s := ⟨n, HS, HSB.out, .slice A m0 c0, hv.mono (fun k hk => by have := hk.2; constructor <;> omega), by rw [← HE0.out]; exact bx0⟩
  generalize ((w.alloc (Obj.cells #[Value.bool b, Value.slice A m0 c0, Value.int .i64 E] 41)).alloc (Obj.cells #[Value.bool false, Value.slice none 0 0, Value.int .i64 0] 41)) = w0 at *
  clear bx0 hv hm HS HE0 HSB
  obtain ⟨hgb, hgr⟩ : w.heap.size < w0.heap.size ∧ w.heap.size + 1 < w0.heap.size := ⟨by have := World.block_lt_of_cell? w0 _ rx0.c0; simp at this; omega, by have := World.block_lt_of_cell? w0 _ rx0.c0; simpa using this⟩
  go_loopg [5] (20 - s) (fun g v5 w' => ∃ k : Nat, PSt w' w.heap.size b n s t k ∧ Box w' (w.heap.size + 1) [.bool false, .slice none 0 0, .int .i64 0] ∧ Aside0 (k + g = 20) ∧ Aside0 (Below w.heap.size w w'))
  case atStart => exact ⟨s, hst, rx0, ⟨by have := HN.out.1; omega⟩, ⟨hB0⟩⟩
  case round =>
    clear hst rx0 hB0
    obtain ⟨k, hst, rx0, HG, HB⟩ := hrel
    obtain ⟨m, hP, hsg, v, hv, bx0⟩ := hst.out
    obtain ⟨A1, c1, rfl, _, _⟩ := hv.form
    have hg1 := World.block_lt_of_cell? wr _ bx0.c0
    have hg2 := World.block_lt_of_cell? wr _ rx0.c0
    simp at hg1 hg2
    have hk20 : k ≤ 20 := by have := HG.out; omega
    have hml : (digs m).length ≤ 3 := digs_len m 3 (by have := hP.room; omega)
    obtain ⟨E, hE⟩ : ∃ E : Int, E = -(k : Int) := ⟨_, rfl⟩
    have hneg : wrap64 (-E) = (k : Int) := by rw [hE]; simp only [wrap64]; omega
    rw [← hE] at bx0
    have kbx00 := bx0.c0; have kbx01 := bx0.c1; have kbx02 := bx0.c2; have qbx00 := bx0.f0; have qbx01 := bx0.f1; have qbx02 := bx0.f2; have krx00 := rx0.c0; have krx01 := rx0.c1; have krx02 := rx0.c2; have qrx00 := rx0.f0; have qrx01 := rx0.f1; have qrx02 := rx0.f2
    by_cases hk : (k : Int) < (if 19 < t then 19 else t)
    · have hmul := fun oa ob v u w hv hu => mul_n m 10 oa ob v u w hv hu (by have := digs_len 10 1 (by decide); omega)
      have hfrom := fun w => from_n 10 w (by decide)
      rw [show ((10 : Nat) : Int) = 10 from rfl] at hfrom
      have HF := Aside0.mk hfrom
      have HM := Aside0.mk hmul
      have hw1 : IntKind.i64.wrap (E - 1) = E - 1 := IntWalk.i64_in _ (by omega)
      have hwh := fun ok v w hv => wholeOf_n b (m * 10) ok v w hv
      rw [sgn_times hsg] at hwh
      have HW := Aside0.mk hwh
      have HE := Aside0.mk hE
      have HD := Aside0.mk (fun oa v w hv => digits_n (m * 10) oa v w hv (by have := digs_len (m * 10) 4 (by have := hP.room; omega); omega))
      have HP := Aside0.mk hP
      clear hP hE hml hmul hfrom hwh
      obtain ⟨m2, hm2⟩ : ∃ m2, m2 = m * 10 := ⟨_, rfl⟩
      rw [← hm2] at HM HW HD
      have HM2 := Aside0.mk hm2.symm
      have HSG := Aside0.mk hsg
      clear hm2
      generalize hq0 : (digs m).length = q0 at *
      clear hq0
      by_cases h19 : 19 < t
      · go_wp2
        replace bx0 := bx0.drew
        replace rx0 := rx0.drew
        replace hv := hv.drew.bound
        refine start_ (n := 15) (S := fun w' => w'.cell? ⟨w.heap.size, 0, none⟩ = some (.bool b) ∧ w'.cell? ⟨w.heap.size, 1, none⟩ = some (.slice A1 q0 c1) ∧ w'.cell? ⟨w.heap.size, 2, none⟩ = some (.int .i64 E)) (ds := [14]) #[false, false, false, false, false, false, false, false, false, false, false, false, false, false, false] (by kernel_rfl) rfl rfl ⟨bx0.c0, bx0.c1, bx0.c2⟩ (fun hHeld => ?_)
        refine pure_ (i := 0) (N := some 12) (v := ?_) (a' := ?_) #[true, false, false, false, false, false, false, false, false, false, false, false, false, false, false] rfl rfl (by kernel_rfl) (fun _ _ _ h => h) (Or.inl ⟨by rfl, ?_⟩) ?_ ?_
        rotate_left
        · intro w'
          go_simp
          with_reducible rfl
        rotate_left
        · simp only [Act.put, List.setIfInBounds_toArray, List.set_cons_zero, List.set_cons_succ, i64_w, i32_w]
          rfl
        refine pure_ (i := 1) (N := some 13) (v := ?_) (a' := ?_) #[true, true, false, false, false, false, false, false, false, false, false, false, false, false, false] rfl rfl (by kernel_rfl) (fun _ _ _ h => h) (Or.inl ⟨by rfl, ?_⟩) ?_ ?_
        rotate_left
        · intro w'
          go_simp
          with_reducible rfl
        rotate_left
        · simp only [Act.put, List.setIfInBounds_toArray, List.set_cons_zero, List.set_cons_succ, i64_w, i32_w]
          rfl
        refine take_ (i := 2) (N := some 14) (v := ?_) (a' := ?_) #[true, true, true, false, false, false, false, false, false, false, false, false, false, false, false] rfl rfl (by kernel_rfl) (fun _ _ _ h => h) (Or.inl ⟨by rfl, ?_⟩) hHeld ?_ ?_
        rotate_left
        · rintro w' ⟨s0, s1, s2⟩
          go_simp
          with_reducible rfl
        rotate_left
        · simp only [Act.put, List.setIfInBounds_toArray, List.set_cons_zero, List.set_cons_succ, i64_w, i32_w]
          rfl
        refine pure_ (i := 3) (N := some 15) (v := ?_) (a' := ?_) #[true, true, true, true, false, false, false, false, false, false, false, false, false, false, false] rfl rfl (by kernel_rfl) (fun _ _ _ h => h) (Or.inl ⟨by rfl, ?_⟩) ?_ ?_
        rotate_left
        · intro w'
          go_simp
          with_reducible rfl
        rotate_left
        · simp only [Act.put, List.setIfInBounds_toArray, List.set_cons_zero, List.set_cons_succ, i64_w, i32_w]
          rfl
        refine pure_ (i := 4) (N := some 16) (v := ?_) (a' := ?_) #[true, true, true, true, true, false, false, false, false, false, false, false, false, false, false] rfl rfl (by kernel_rfl) (fun _ _ _ h => h) (Or.inl ⟨by rfl, ?_⟩) ?_ ?_
        rotate_left
        · intro w'
          go_simp
          with_reducible rfl
        rotate_left
        · simp only [Act.put, List.setIfInBounds_toArray, List.set_cons_zero, List.set_cons_succ, i64_w, i32_w]
          rfl
        refine take_ (i := 5) (N := some 17) (v := ?_) (a' := ?_) #[true, true, true, true, true, true, false, false, false, false, false, false, false, false, false] rfl rfl (by kernel_rfl) (fun _ _ _ h => h) (Or.inl ⟨by rfl, ?_⟩) hHeld ?_ ?_
        rotate_left
        · rintro w' ⟨s0, s1, s2⟩
          go_simp
          with_reducible rfl
        rotate_left
        · simp only [Act.put, List.setIfInBounds_toArray, List.set_cons_zero, List.set_cons_succ, i64_w, i32_w]
          rfl
        refine pure_ (i := 9) (N := some 21) (v := ?_) (a' := ?_) #[true, true, true, true, true, true, false, false, false, true, false, false, false, false, false] rfl rfl (by kernel_rfl) (fun _ _ _ h => h) (Or.inl ⟨by rfl, ?_⟩) ?_ ?_
        rotate_left
        · intro w'
          go_simp
          with_reducible rfl
        rotate_left
        · simp only [Act.put, List.setIfInBounds_toArray, List.set_cons_zero, List.set_cons_succ, i64_w, i32_w]
          rfl
        refine take_ (i := 10) (N := some 22) (v := ?_) (a' := ?_) #[true, true, true, true, true, true, false, false, false, true, true, false, false, false, false] rfl rfl (by kernel_rfl) (fun _ _ _ h => h) (Or.inl ⟨by rfl, ?_⟩) hHeld ?_ ?_
        rotate_left
        · rintro w' ⟨s0, s1, s2⟩
          go_simp
          with_reducible rfl
        rotate_left
        · simp only [Act.put, List.setIfInBounds_toArray, List.set_cons_zero, List.set_cons_succ, i64_w, i32_w]
          rfl
        refine pure_ (i := 11) (N := some 23) (v := ?_) (a' := ?_) #[true, true, true, true, true, true, false, false, false, true, true, true, false, false, false] rfl rfl (by kernel_rfl) (fun _ _ _ h => h) (Or.inl ⟨by rfl, ?_⟩) ?_ ?_
        rotate_left
        · intro w'
          go_simp
          with_reducible rfl
        rotate_left
        · simp only [Act.put, List.setIfInBounds_toArray, List.set_cons_zero, List.set_cons_succ, i64_w, i32_w]
          rfl
        refine two_ (i := 6) (j := 13) (Ni := some 18) (Nj := some 5) #[true, true, true, true, true, true, true, false, false, true, true, true, false, false, false] #[true, true, true, true, true, true, false, false, false, true, true, true, false, true, false] rfl rfl rfl rfl (by kernel_rfl) (by decide) (by decide) (fun K hK => ?_) (fun K hK => ?_)
        ·
          refine goes_ Tryd.func11 (by kernel_rfl) rfl #[.int .u64 10] (by rfl) rfl rfl (by (try simp only [List.map_toArray, List.map_cons, List.map_nil]); first | done | rfl) ?_
          refine (HF.out _).mono ?_
          rintro e w1 ⟨u, rfl, hu, hb1⟩
          refine ⟨_, rfl, ?_⟩
          obtain ⟨A2, c2, rfl, _, _⟩ := hu.form
          have sz1 : wr.heap.size ≤ w1.heap.size := hb1.size
          have bx1 := bx0.below hb1
          have rx1 := rx0.below hb1
          replace hv := hv.below hb1
          refine hK.out _ _ ⟨bx1.c0, bx1.c1, bx1.c2⟩ (fun hHeld => ?_)
          clear hK K
          refine norm_ (a' := ?_) ?_ ?_
          rotate_left
          · show Act.put _ (some 18) _ = _
            simp only [Act.put, List.setIfInBounds_toArray, List.set_cons_zero, List.set_cons_succ, i64_w, i32_w]
            rfl
          refine two_ (i := 7) (j := 13) (Ni := some 19) (Nj := some 5) #[true, true, true, true, true, true, true, true, false, true, true, true, false, false, false] #[true, true, true, true, true, true, true, false, false, true, true, true, false, true, false] rfl rfl rfl rfl (by kernel_rfl) (by decide) (by decide) (fun K hK => ?_) (fun K hK => ?_)
          ·
            refine goes_ Tryd.func30 (by kernel_rfl) rfl #[.slice A1 q0 c1, .slice A2 (digs 10).length c2] (by rfl) rfl rfl (by (try simp only [List.map_toArray, List.map_cons, List.map_nil]); first | done | rfl) ?_
            refine (HM.out _ _ _ _ _ hv hu).mono ?_
            rintro e w2 ⟨z, rfl, hz, hb2⟩
            refine ⟨_, rfl, ?_⟩
            replace hz := hz.bound
            obtain ⟨A3, c3, rfl, _, _⟩ := hz.form
            have sz2 : w1.heap.size ≤ w2.heap.size := hb2.size
            have bx2 := bx1.below hb2
            have rx2 := rx1.below hb2
            replace hv := hv.below hb2
            replace hu := hu.below hb2
            refine hK.out _ _ ⟨bx2.c0, bx2.c1, bx2.c2⟩ (fun hHeld => ?_)
            clear hK K
            refine norm_ (a' := ?_) ?_ ?_
            rotate_left
            · show Act.put _ (some 19) _ = _
              simp only [Act.put, List.setIfInBounds_toArray, List.set_cons_zero, List.set_cons_succ, i64_w, i32_w]
              rfl
            refine two_ (i := 8) (j := 13) (Ni := some 20) (Nj := some 5) #[true, true, true, true, true, true, true, true, true, true, true, true, false, false, false] #[true, true, true, true, true, true, true, true, false, true, true, true, false, true, false] rfl rfl rfl rfl (by kernel_rfl) (by decide) (by decide) (fun K hK => ?_) (fun K hK => ?_)
            ·
              refine goes_ Tryd.func35 (by kernel_rfl) rfl #[.bool b, .slice A3 (digs m2).length c3] (by rfl) rfl rfl (by (try simp only [List.map_toArray, List.map_cons, List.map_nil]); first | done | rfl) ?_
              refine (HW.out _ _ _ hz).mono ?_
              rintro e w3 ⟨rfl, hb3⟩
              refine ⟨_, rfl, ?_⟩
              have sz3 : w2.heap.size ≤ w3.heap.size := hb3.size
              have bx3 := bx2.below hb3
              have rx3 := rx2.below hb3
              replace hv := hv.below hb3
              replace hu := hu.below hb3
              replace hz := hz.below hb3
              refine hK.out _ _ ⟨bx3.c0, bx3.c1, bx3.c2⟩ (fun hHeld => ?_)
              clear hK K
              refine norm_ (a' := ?_) ?_ ?_
              rotate_left
              · show Act.put _ (some 20) _ = _
                simp only [Act.put, List.setIfInBounds_toArray, List.set_cons_zero, List.set_cons_succ, i64_w, i32_w]
                rfl
              refine pure_ (i := 12) (N := some 24) (v := ?_) (a' := ?_) #[true, true, true, true, true, true, true, true, true, true, true, true, true, false, false] rfl rfl (by kernel_rfl) (fun _ _ _ h => h) (Or.inl ⟨by rfl, ?_⟩) ?_ ?_
              rotate_left
              · intro w'
                go_simp
                with_reducible rfl
              rotate_left
              · simp only [Act.put, List.setIfInBounds_toArray, List.set_cons_zero, List.set_cons_succ, i64_w, i32_w]
                rfl
              refine one_ (i := 13) (N := some 5) #[true, true, true, true, true, true, true, true, true, true, true, true, true, true, false] rfl rfl (by kernel_rfl) (by decide) (fun K hK => ?_)
              obtain ⟨gm, hgm⟩ : ∃ g : Nat, g = w3.heap.size := ⟨_, rfl⟩
              refine value_ (v := .pointer (some ⟨gm, 0, none⟩)) (w1 := w3.alloc (Obj.cells #[Value.bool false, Value.slice none 0 0, Value.int .i64 0] 41)) (by rfl) rfl (by rw [hgm]; rfl) ?_
              have hb4 := low (w3) (Obj.cells #[Value.bool false, Value.slice none 0 0, Value.int .i64 0] 41)
              have mx4 : Box (w3.alloc (Obj.cells #[Value.bool false, Value.slice none 0 0, Value.int .i64 0] 41)) gm [.bool false, .slice none 0 0, .int .i64 0] := Box.new3 _ _ _ _ _ _ hgm.symm
              have hgs : w3.heap.size < (w3.alloc (Obj.cells #[Value.bool false, Value.slice none 0 0, Value.int .i64 0] 41)).heap.size := by simp
              have HGM := Aside0.mk hgm
              clear hgm
              generalize w3.alloc (Obj.cells #[Value.bool false, Value.slice none 0 0, Value.int .i64 0] 41) = w4 at *
              have sz4 : w3.heap.size ≤ w4.heap.size := hb4.size
              have bx4 := bx3.below hb4
              have rx4 := rx3.below hb4
              replace hv := hv.below hb4
              replace hu := hu.below hb4
              replace hz := hz.below hb4
              refine hK.out _ _ ⟨bx4.c0, bx4.c1, bx4.c2⟩ (fun hHeld => ?_)
              clear hK K
              refine norm_ (a' := ?_) ?_ ?_
              rotate_left
              · show Act.put _ (some 5) _ = _
                simp only [Act.put, List.setIfInBounds_toArray, List.set_cons_zero, List.set_cons_succ, i64_w, i32_w]
                rfl
              have kmx40 := mx4.c0
              have kmx41 := mx4.c1
              have kmx42 := mx4.c2
              have qmx40 := mx4.f0
              have qmx41 := mx4.f1
              have qmx42 := mx4.f2
              refine last_ (i := 14) (N := none) #[true, true, true, true, true, true, true, true, true, true, true, true, true, true, true] rfl rfl (by kernel_rfl) (by decide) (fun K hK => ?_)
              refine skip_ (w1 := ?_) (by rfl) rfl ?_ ?_
              rotate_left
              · go_simp
                rfl
              refine hK.out _ _ ?_
              clear hK K
              refine done_ (by kernel_rfl) ?_
              have hgo := HGM.out
              have my0 := mx4.put3 (.bool b) (.slice A3 (digs m2).length c3) (.int .i64 (E - 1))
              have bz0 := bx4.far3 (g' := gm) (show w.heap.size ≠ gm by omega) (.bool b) (.slice A3 (digs m2).length c3) (.int .i64 (E - 1))
              have ry0 := rx4.far3 (g' := gm) (show w.heap.size + 1 ≠ gm by omega) (.bool b) (.slice A3 (digs m2).length c3) (.int .i64 (E - 1))
              replace hz := hz.far3 (g := gm) (fun j hj => by have h1 := hj.1; have h2 := hj.2; omega) (.bool b) (.slice A3 (digs m2).length c3) (.int .i64 (E - 1))
              replace hv := hv.far3 (g := gm) (fun j hj => by have h2 := hj.2; have h3 : j < wr.heap.size := h2; omega) (.bool b) (.slice A3 (digs m2).length c3) (.int .i64 (E - 1))
              have hBz : Below w.heap.size w (((w4.setCell ⟨gm, 0, none⟩ (.bool b)).setCell ⟨gm, 1, none⟩ (.slice A3 (digs m2).length c3)).setCell ⟨gm, 2, none⟩ (.int .i64 (E - 1))) := below3 (below_step (below_step (below_step (below_step HB.out.drew hb1) hb2) hb3) hb4) (by omega) _ _ _
              have hlz : wr.heap.size ≤ (((w4.setCell ⟨gm, 0, none⟩ (.bool b)).setCell ⟨gm, 1, none⟩ (.slice A3 (digs m2).length c3)).setCell ⟨gm, 2, none⟩ (.int .i64 (E - 1))).heap.size := by simp; omega
              replace hz := hz.mono (ok' := fun j => j ≠ w.heap.size ∧ j ≠ w.heap.size + 1) (fun j hj => by have h1 := hj.1; constructor <;> omega)
              generalize (((w4.setCell ⟨gm, 0, none⟩ (.bool b)).setCell ⟨gm, 1, none⟩ (.slice A3 (digs m2).length c3)).setCell ⟨gm, 2, none⟩ (.int .i64 (E - 1))) = wz at *
              clear hgo hHeld
              by_cases hnd : nd m2 ≤ 19
              · have hnd1 : ¬ (19 : Int) < (nd m2 : Int) := by omega
                have hrm : m2 ≤ 9999999999999999999 := by have := nd_le_iff.mp hnd; omega
                have HR := Aside0.mk hrm
                clear hrm hnd
                have kmy00 := my0.c0; have kmy01 := my0.c1; have kmy02 := my0.c2; have qmy00 := my0.f0; have qmy01 := my0.f1; have qmy02 := my0.f2
                have kbz00 := bz0.c0; have kbz01 := bz0.c1; have kbz02 := bz0.c2; have qbz00 := bz0.f0; have qbz01 := bz0.f1; have qbz02 := bz0.f2
                have kry00 := ry0.c0; have kry01 := ry0.c1; have kry02 := ry0.c2; have qry00 := ry0.f0; have qry01 := ry0.f1; have qry02 := ry0.f2
                go_wp2_with (first | (go_at_call 43; (with_reducible refine (HD.out _ _ _ hz).mono ?_); rintro e wz1 ⟨rfl, hbz1⟩; have szz1 := hbz1.size; (try simp at szz1); (with_reducible have my1 := my0.below hbz1); have kmy10 := my1.c0; have kmy11 := my1.c1; have kmy12 := my1.c2; have qmy10 := my1.f0; have qmy11 := my1.f1; have qmy12 := my1.f2; (with_reducible have bz1 := bz0.below hbz1); have kbz10 := bz1.c0; have kbz11 := bz1.c1; have kbz12 := bz1.c2; have qbz10 := bz1.f0; have qbz11 := bz1.f1; have qbz12 := bz1.f2; (with_reducible have ry1 := ry0.below hbz1); have kry10 := ry1.c0; have kry11 := ry1.c1; have kry12 := ry1.c2; have qry10 := ry1.f0; have qry11 := ry1.f1; have qry12 := ry1.f2; replace hz := hz.below hbz1))
                go_roundg (gk - 1)
                case measure => have := HG.out; omega
                case rel => exact ⟨k + 1, PSt.of (HP.out.step (by omega) (by omega) (by rw [HM2.out]; exact HR.out)) HM2.out (sgn_times HSG.out) (hz.far3 (fun j hj => hj.1) _ _ _) (bz1.put3 _ _ _) (by have := HE.out; omega), ry1.far3 (by omega) _ _ _, ⟨by have := HG.out; omega⟩, ⟨below3 (below_step hBz hbz1) (Nat.le_refl _) _ _ _⟩⟩
              · have hnd1 : (19 : Int) < (nd m2 : Int) := by omega
                have hrm : ¬ m2 ≤ 9999999999999999999 := by rw [nd_le_iff] at hnd; omega
                have HR := Aside0.mk hrm
                clear hrm hnd
                have kmy00 := my0.c0; have kmy01 := my0.c1; have kmy02 := my0.c2; have qmy00 := my0.f0; have qmy01 := my0.f1; have qmy02 := my0.f2
                have kbz00 := bz0.c0; have kbz01 := bz0.c1; have kbz02 := bz0.c2; have qbz00 := bz0.f0; have qbz01 := bz0.f1; have qbz02 := bz0.f2
                have kry00 := ry0.c0; have kry01 := ry0.c1; have kry02 := ry0.c2; have qry00 := ry0.f0; have qry01 := ry0.f1; have qry02 := ry0.f2
                go_wp2_with (first | (go_at_call 43; (with_reducible refine (HD.out _ _ _ hz).mono ?_); rintro e wz1 ⟨rfl, hbz1⟩; have szz1 := hbz1.size; (try simp at szz1); (with_reducible have my1 := my0.below hbz1); have kmy10 := my1.c0; have kmy11 := my1.c1; have kmy12 := my1.c2; have qmy10 := my1.f0; have qmy11 := my1.f1; have qmy12 := my1.f2; (with_reducible have bz1 := bz0.below hbz1); have kbz10 := bz1.c0; have kbz11 := bz1.c1; have kbz12 := bz1.c2; have qbz10 := bz1.f0; have qbz11 := bz1.f1; have qbz12 := bz1.f2; (with_reducible have ry1 := ry0.below hbz1); have kry10 := ry1.c0; have kry11 := ry1.c1; have kry12 := ry1.c2; have qry10 := ry1.f0; have qry11 := ry1.f1; have qry12 := ry1.f2; replace hz := hz.below hbz1))
                refine bodyPost_ret (v := .agg #[.bool b, .slice A1 q0 c1, .int .i64 E]) (by simp [results, Tryd.results21, go_sem, kry10, kry11, kry12]) rfl ⟨_, rfl, DPadded.of (HP.out.stop (.inr (by rw [HM2.out]; exact HR.out))) HP.out.eq ((hv.below hbz1).far3 (fun j hj => hj.1.2) _ _ _) HE.out, below3 (below_step hBz hbz1) (by omega) _ _ _⟩
            ·
              obtain ⟨gm, hgm⟩ : ∃ g : Nat, g = w2.heap.size := ⟨_, rfl⟩
              refine value_ (v := .pointer (some ⟨gm, 0, none⟩)) (w1 := w2.alloc (Obj.cells #[Value.bool false, Value.slice none 0 0, Value.int .i64 0] 41)) (by rfl) rfl (by rw [hgm]; rfl) ?_
              have hb3 := low (w2) (Obj.cells #[Value.bool false, Value.slice none 0 0, Value.int .i64 0] 41)
              have mx3 : Box (w2.alloc (Obj.cells #[Value.bool false, Value.slice none 0 0, Value.int .i64 0] 41)) gm [.bool false, .slice none 0 0, .int .i64 0] := Box.new3 _ _ _ _ _ _ hgm.symm
              have hgs : w2.heap.size < (w2.alloc (Obj.cells #[Value.bool false, Value.slice none 0 0, Value.int .i64 0] 41)).heap.size := by simp
              have HGM := Aside0.mk hgm
              clear hgm
              generalize w2.alloc (Obj.cells #[Value.bool false, Value.slice none 0 0, Value.int .i64 0] 41) = w3 at *
              have sz3 : w2.heap.size ≤ w3.heap.size := hb3.size
              have bx3 := bx2.below hb3
              have rx3 := rx2.below hb3
              replace hv := hv.below hb3
              replace hu := hu.below hb3
              replace hz := hz.below hb3
              refine hK.out _ _ ⟨bx3.c0, bx3.c1, bx3.c2⟩ (fun hHeld => ?_)
              clear hK K
              refine norm_ (a' := ?_) ?_ ?_
              rotate_left
              · show Act.put _ (some 5) _ = _
                simp only [Act.put, List.setIfInBounds_toArray, List.set_cons_zero, List.set_cons_succ, i64_w, i32_w]
                rfl
              refine one_ (i := 8) (N := some 20) #[true, true, true, true, true, true, true, true, true, true, true, true, false, true, false] rfl rfl (by kernel_rfl) (by decide) (fun K hK => ?_)
              refine goes_ Tryd.func35 (by kernel_rfl) rfl #[.bool b, .slice A3 (digs m2).length c3] (by rfl) rfl rfl (by (try simp only [List.map_toArray, List.map_cons, List.map_nil]); first | done | rfl) ?_
              refine (HW.out _ _ _ hz).mono ?_
              rintro e w4 ⟨rfl, hb4⟩
              refine ⟨_, rfl, ?_⟩
              have sz4 : w3.heap.size ≤ w4.heap.size := hb4.size
              have mx4 := mx3.below hb4
              have bx4 := bx3.below hb4
              have rx4 := rx3.below hb4
              replace hv := hv.below hb4
              replace hu := hu.below hb4
              replace hz := hz.below hb4
              refine hK.out _ _ ⟨bx4.c0, bx4.c1, bx4.c2⟩ (fun hHeld => ?_)
              clear hK K
              refine norm_ (a' := ?_) ?_ ?_
              rotate_left
              · show Act.put _ (some 20) _ = _
                simp only [Act.put, List.setIfInBounds_toArray, List.set_cons_zero, List.set_cons_succ, i64_w, i32_w]
                rfl
              refine pure_ (i := 12) (N := some 24) (v := ?_) (a' := ?_) #[true, true, true, true, true, true, true, true, true, true, true, true, true, true, false] rfl rfl (by kernel_rfl) (fun _ _ _ h => h) (Or.inl ⟨by rfl, ?_⟩) ?_ ?_
              rotate_left
              · intro w'
                go_simp
                with_reducible rfl
              rotate_left
              · simp only [Act.put, List.setIfInBounds_toArray, List.set_cons_zero, List.set_cons_succ, i64_w, i32_w]
                rfl
              have kmx40 := mx4.c0
              have kmx41 := mx4.c1
              have kmx42 := mx4.c2
              have qmx40 := mx4.f0
              have qmx41 := mx4.f1
              have qmx42 := mx4.f2
              refine last_ (i := 14) (N := none) #[true, true, true, true, true, true, true, true, true, true, true, true, true, true, true] rfl rfl (by kernel_rfl) (by decide) (fun K hK => ?_)
              refine skip_ (w1 := ?_) (by rfl) rfl ?_ ?_
              rotate_left
              · go_simp
                rfl
              refine hK.out _ _ ?_
              clear hK K
              refine done_ (by kernel_rfl) ?_
              have hgo := HGM.out
              have my0 := mx4.put3 (.bool b) (.slice A3 (digs m2).length c3) (.int .i64 (E - 1))
              have bz0 := bx4.far3 (g' := gm) (show w.heap.size ≠ gm by omega) (.bool b) (.slice A3 (digs m2).length c3) (.int .i64 (E - 1))
              have ry0 := rx4.far3 (g' := gm) (show w.heap.size + 1 ≠ gm by omega) (.bool b) (.slice A3 (digs m2).length c3) (.int .i64 (E - 1))
              replace hz := hz.far3 (g := gm) (fun j hj => by have h1 := hj.1; have h2 := hj.2; omega) (.bool b) (.slice A3 (digs m2).length c3) (.int .i64 (E - 1))
              replace hv := hv.far3 (g := gm) (fun j hj => by have h2 := hj.2; have h3 : j < wr.heap.size := h2; omega) (.bool b) (.slice A3 (digs m2).length c3) (.int .i64 (E - 1))
              have hBz : Below w.heap.size w (((w4.setCell ⟨gm, 0, none⟩ (.bool b)).setCell ⟨gm, 1, none⟩ (.slice A3 (digs m2).length c3)).setCell ⟨gm, 2, none⟩ (.int .i64 (E - 1))) := below3 (below_step (below_step (below_step (below_step HB.out.drew hb1) hb2) hb3) hb4) (by omega) _ _ _
              have hlz : wr.heap.size ≤ (((w4.setCell ⟨gm, 0, none⟩ (.bool b)).setCell ⟨gm, 1, none⟩ (.slice A3 (digs m2).length c3)).setCell ⟨gm, 2, none⟩ (.int .i64 (E - 1))).heap.size := by simp; omega
              replace hz := hz.mono (ok' := fun j => j ≠ w.heap.size ∧ j ≠ w.heap.size + 1) (fun j hj => by have h1 := hj.1; constructor <;> omega)
              generalize (((w4.setCell ⟨gm, 0, none⟩ (.bool b)).setCell ⟨gm, 1, none⟩ (.slice A3 (digs m2).length c3)).setCell ⟨gm, 2, none⟩ (.int .i64 (E - 1))) = wz at *
              clear hgo hHeld
              by_cases hnd : nd m2 ≤ 19
              · have hnd1 : ¬ (19 : Int) < (nd m2 : Int) := by omega
                have hrm : m2 ≤ 9999999999999999999 := by have := nd_le_iff.mp hnd; omega
                have HR := Aside0.mk hrm
                clear hrm hnd
                have kmy00 := my0.c0; have kmy01 := my0.c1; have kmy02 := my0.c2; have qmy00 := my0.f0; have qmy01 := my0.f1; have qmy02 := my0.f2
                have kbz00 := bz0.c0; have kbz01 := bz0.c1; have kbz02 := bz0.c2; have qbz00 := bz0.f0; have qbz01 := bz0.f1; have qbz02 := bz0.f2
                have kry00 := ry0.c0; have kry01 := ry0.c1; have kry02 := ry0.c2; have qry00 := ry0.f0; have qry01 := ry0.f1; have qry02 := ry0.f2
                go_wp2_with (first | (go_at_call 43; (with_reducible refine (HD.out _ _ _ hz).mono ?_); rintro e wz1 ⟨rfl, hbz1⟩; have szz1 := hbz1.size; (try simp at szz1); (with_reducible have my1 := my0.below hbz1); have kmy10 := my1.c0; have kmy11 := my1.c1; have kmy12 := my1.c2; have qmy10 := my1.f0; have qmy11 := my1.f1; have qmy12 := my1.f2; (with_reducible have bz1 := bz0.below hbz1); have kbz10 := bz1.c0; have kbz11 := bz1.c1; have kbz12 := bz1.c2; have qbz10 := bz1.f0; have qbz11 := bz1.f1; have qbz12 := bz1.f2; (with_reducible have ry1 := ry0.below hbz1); have kry10 := ry1.c0; have kry11 := ry1.c1; have kry12 := ry1.c2; have qry10 := ry1.f0; have qry11 := ry1.f1; have qry12 := ry1.f2; replace hz := hz.below hbz1))
                go_roundg (gk - 1)
                case measure => have := HG.out; omega
                case rel => exact ⟨k + 1, PSt.of (HP.out.step (by omega) (by omega) (by rw [HM2.out]; exact HR.out)) HM2.out (sgn_times HSG.out) (hz.far3 (fun j hj => hj.1) _ _ _) (bz1.put3 _ _ _) (by have := HE.out; omega), ry1.far3 (by omega) _ _ _, ⟨by have := HG.out; omega⟩, ⟨below3 (below_step hBz hbz1) (Nat.le_refl _) _ _ _⟩⟩
              · have hnd1 : (19 : Int) < (nd m2 : Int) := by omega
                have hrm : ¬ m2 ≤ 9999999999999999999 := by rw [nd_le_iff] at hnd; omega
                have HR := Aside0.mk hrm
                clear hrm hnd
                have kmy00 := my0.c0; have kmy01 := my0.c1; have kmy02 := my0.c2; have qmy00 := my0.f0; have qmy01 := my0.f1; have qmy02 := my0.f2
                have kbz00 := bz0.c0; have kbz01 := bz0.c1; have kbz02 := bz0.c2; have qbz00 := bz0.f0; have qbz01 := bz0.f1; have qbz02 := bz0.f2
                have kry00 := ry0.c0; have kry01 := ry0.c1; have kry02 := ry0.c2; have qry00 := ry0.f0; have qry01 := ry0.f1; have qry02 := ry0.f2
                go_wp2_with (first | (go_at_call 43; (with_reducible refine (HD.out _ _ _ hz).mono ?_); rintro e wz1 ⟨rfl, hbz1⟩; have szz1 := hbz1.size; (try simp at szz1); (with_reducible have my1 := my0.below hbz1); have kmy10 := my1.c0; have kmy11 := my1.c1; have kmy12 := my1.c2; have qmy10 := my1.f0; have qmy11 := my1.f1; have qmy12 := my1.f2; (with_reducible have bz1 := bz0.below hbz1); have kbz10 := bz1.c0; have kbz11 := bz1.c1; have kbz12 := bz1.c2; have qbz10 := bz1.f0; have qbz11 := bz1.f1; have qbz12 := bz1.f2; (with_reducible have ry1 := ry0.below hbz1); have kry10 := ry1.c0; have kry11 := ry1.c1; have kry12 := ry1.c2; have qry10 := ry1.f0; have qry11 := ry1.f1; have qry12 := ry1.f2; replace hz := hz.below hbz1))
                refine bodyPost_ret (v := .agg #[.bool b, .slice A1 q0 c1, .int .i64 E]) (by simp [results, Tryd.results21, go_sem, kry10, kry11, kry12]) rfl ⟨_, rfl, DPadded.of (HP.out.stop (.inr (by rw [HM2.out]; exact HR.out))) HP.out.eq ((hv.below hbz1).far3 (fun j hj => hj.1.2) _ _ _) HE.out, below3 (below_step hBz hbz1) (by omega) _ _ _⟩
          ·
            obtain ⟨gm, hgm⟩ : ∃ g : Nat, g = w1.heap.size := ⟨_, rfl⟩
            refine value_ (v := .pointer (some ⟨gm, 0, none⟩)) (w1 := w1.alloc (Obj.cells #[Value.bool false, Value.slice none 0 0, Value.int .i64 0] 41)) (by rfl) rfl (by rw [hgm]; rfl) ?_
            have hb2 := low (w1) (Obj.cells #[Value.bool false, Value.slice none 0 0, Value.int .i64 0] 41)
            have mx2 : Box (w1.alloc (Obj.cells #[Value.bool false, Value.slice none 0 0, Value.int .i64 0] 41)) gm [.bool false, .slice none 0 0, .int .i64 0] := Box.new3 _ _ _ _ _ _ hgm.symm
            have hgs : w1.heap.size < (w1.alloc (Obj.cells #[Value.bool false, Value.slice none 0 0, Value.int .i64 0] 41)).heap.size := by simp
            have HGM := Aside0.mk hgm
            clear hgm
            generalize w1.alloc (Obj.cells #[Value.bool false, Value.slice none 0 0, Value.int .i64 0] 41) = w2 at *
            have sz2 : w1.heap.size ≤ w2.heap.size := hb2.size
            have bx2 := bx1.below hb2
            have rx2 := rx1.below hb2
            replace hv := hv.below hb2
            replace hu := hu.below hb2
            refine hK.out _ _ ⟨bx2.c0, bx2.c1, bx2.c2⟩ (fun hHeld => ?_)
            clear hK K
            refine norm_ (a' := ?_) ?_ ?_
            rotate_left
            · show Act.put _ (some 5) _ = _
              simp only [Act.put, List.setIfInBounds_toArray, List.set_cons_zero, List.set_cons_succ, i64_w, i32_w]
              rfl
            refine one_ (i := 7) (N := some 19) #[true, true, true, true, true, true, true, true, false, true, true, true, false, true, false] rfl rfl (by kernel_rfl) (by decide) (fun K hK => ?_)
            refine goes_ Tryd.func30 (by kernel_rfl) rfl #[.slice A1 q0 c1, .slice A2 (digs 10).length c2] (by rfl) rfl rfl (by (try simp only [List.map_toArray, List.map_cons, List.map_nil]); first | done | rfl) ?_
            refine (HM.out _ _ _ _ _ hv hu).mono ?_
            rintro e w3 ⟨z, rfl, hz, hb3⟩
            refine ⟨_, rfl, ?_⟩
            replace hz := hz.bound
            obtain ⟨A3, c3, rfl, _, _⟩ := hz.form
            have sz3 : w2.heap.size ≤ w3.heap.size := hb3.size
            have mx3 := mx2.below hb3
            have bx3 := bx2.below hb3
            have rx3 := rx2.below hb3
            replace hv := hv.below hb3
            replace hu := hu.below hb3
            refine hK.out _ _ ⟨bx3.c0, bx3.c1, bx3.c2⟩ (fun hHeld => ?_)
            clear hK K
            refine norm_ (a' := ?_) ?_ ?_
            rotate_left
            · show Act.put _ (some 19) _ = _
              simp only [Act.put, List.setIfInBounds_toArray, List.set_cons_zero, List.set_cons_succ, i64_w, i32_w]
              rfl
            refine one_ (i := 8) (N := some 20) #[true, true, true, true, true, true, true, true, true, true, true, true, false, true, false] rfl rfl (by kernel_rfl) (by decide) (fun K hK => ?_)
            refine goes_ Tryd.func35 (by kernel_rfl) rfl #[.bool b, .slice A3 (digs m2).length c3] (by rfl) rfl rfl (by (try simp only [List.map_toArray, List.map_cons, List.map_nil]); first | done | rfl) ?_
            refine (HW.out _ _ _ hz).mono ?_
            rintro e w4 ⟨rfl, hb4⟩
            refine ⟨_, rfl, ?_⟩
            have sz4 : w3.heap.size ≤ w4.heap.size := hb4.size
            have mx4 := mx3.below hb4
            have bx4 := bx3.below hb4
            have rx4 := rx3.below hb4
            replace hv := hv.below hb4
            replace hu := hu.below hb4
            replace hz := hz.below hb4
            refine hK.out _ _ ⟨bx4.c0, bx4.c1, bx4.c2⟩ (fun hHeld => ?_)
            clear hK K
            refine norm_ (a' := ?_) ?_ ?_
            rotate_left
            · show Act.put _ (some 20) _ = _
              simp only [Act.put, List.setIfInBounds_toArray, List.set_cons_zero, List.set_cons_succ, i64_w, i32_w]
              rfl
            refine pure_ (i := 12) (N := some 24) (v := ?_) (a' := ?_) #[true, true, true, true, true, true, true, true, true, true, true, true, true, true, false] rfl rfl (by kernel_rfl) (fun _ _ _ h => h) (Or.inl ⟨by rfl, ?_⟩) ?_ ?_
            rotate_left
            · intro w'
              go_simp
              with_reducible rfl
            rotate_left
            · simp only [Act.put, List.setIfInBounds_toArray, List.set_cons_zero, List.set_cons_succ, i64_w, i32_w]
              rfl
            have kmx40 := mx4.c0
            have kmx41 := mx4.c1
            have kmx42 := mx4.c2
            have qmx40 := mx4.f0
            have qmx41 := mx4.f1
            have qmx42 := mx4.f2
            refine last_ (i := 14) (N := none) #[true, true, true, true, true, true, true, true, true, true, true, true, true, true, true] rfl rfl (by kernel_rfl) (by decide) (fun K hK => ?_)
            refine skip_ (w1 := ?_) (by rfl) rfl ?_ ?_
            rotate_left
            · go_simp
              rfl
            refine hK.out _ _ ?_
            clear hK K
            refine done_ (by kernel_rfl) ?_
            have hgo := HGM.out
            have my0 := mx4.put3 (.bool b) (.slice A3 (digs m2).length c3) (.int .i64 (E - 1))
            have bz0 := bx4.far3 (g' := gm) (show w.heap.size ≠ gm by omega) (.bool b) (.slice A3 (digs m2).length c3) (.int .i64 (E - 1))
            have ry0 := rx4.far3 (g' := gm) (show w.heap.size + 1 ≠ gm by omega) (.bool b) (.slice A3 (digs m2).length c3) (.int .i64 (E - 1))
            replace hz := hz.far3 (g := gm) (fun j hj => by have h1 := hj.1; have h2 := hj.2; omega) (.bool b) (.slice A3 (digs m2).length c3) (.int .i64 (E - 1))
            replace hv := hv.far3 (g := gm) (fun j hj => by have h2 := hj.2; have h3 : j < wr.heap.size := h2; omega) (.bool b) (.slice A3 (digs m2).length c3) (.int .i64 (E - 1))
            have hBz : Below w.heap.size w (((w4.setCell ⟨gm, 0, none⟩ (.bool b)).setCell ⟨gm, 1, none⟩ (.slice A3 (digs m2).length c3)).setCell ⟨gm, 2, none⟩ (.int .i64 (E - 1))) := below3 (below_step (below_step (below_step (below_step HB.out.drew hb1) hb2) hb3) hb4) (by omega) _ _ _
            have hlz : wr.heap.size ≤ (((w4.setCell ⟨gm, 0, none⟩ (.bool b)).setCell ⟨gm, 1, none⟩ (.slice A3 (digs m2).length c3)).setCell ⟨gm, 2, none⟩ (.int .i64 (E - 1))).heap.size := by simp; omega
            replace hz := hz.mono (ok' := fun j => j ≠ w.heap.size ∧ j ≠ w.heap.size + 1) (fun j hj => by have h1 := hj.1; constructor <;> omega)
            generalize (((w4.setCell ⟨gm, 0, none⟩ (.bool b)).setCell ⟨gm, 1, none⟩ (.slice A3 (digs m2).length c3)).setCell ⟨gm, 2, none⟩ (.int .i64 (E - 1))) = wz at *
            clear hgo hHeld
            by_cases hnd : nd m2 ≤ 19
            · have hnd1 : ¬ (19 : Int) < (nd m2 : Int) := by omega
              have hrm : m2 ≤ 9999999999999999999 := by have := nd_le_iff.mp hnd; omega
              have HR := Aside0.mk hrm
              clear hrm hnd
              have kmy00 := my0.c0; have kmy01 := my0.c1; have kmy02 := my0.c2; have qmy00 := my0.f0; have qmy01 := my0.f1; have qmy02 := my0.f2
              have kbz00 := bz0.c0; have kbz01 := bz0.c1; have kbz02 := bz0.c2; have qbz00 := bz0.f0; have qbz01 := bz0.f1; have qbz02 := bz0.f2
              have kry00 := ry0.c0; have kry01 := ry0.c1; have kry02 := ry0.c2; have qry00 := ry0.f0; have qry01 := ry0.f1; have qry02 := ry0.f2
              go_wp2_with (first | (go_at_call 43; (with_reducible refine (HD.out _ _ _ hz).mono ?_); rintro e wz1 ⟨rfl, hbz1⟩; have szz1 := hbz1.size; (try simp at szz1); (with_reducible have my1 := my0.below hbz1); have kmy10 := my1.c0; have kmy11 := my1.c1; have kmy12 := my1.c2; have qmy10 := my1.f0; have qmy11 := my1.f1; have qmy12 := my1.f2; (with_reducible have bz1 := bz0.below hbz1); have kbz10 := bz1.c0; have kbz11 := bz1.c1; have kbz12 := bz1.c2; have qbz10 := bz1.f0; have qbz11 := bz1.f1; have qbz12 := bz1.f2; (with_reducible have ry1 := ry0.below hbz1); have kry10 := ry1.c0; have kry11 := ry1.c1; have kry12 := ry1.c2; have qry10 := ry1.f0; have qry11 := ry1.f1; have qry12 := ry1.f2; replace hz := hz.below hbz1))
              go_roundg (gk - 1)
              case measure => have := HG.out; omega
              case rel => exact ⟨k + 1, PSt.of (HP.out.step (by omega) (by omega) (by rw [HM2.out]; exact HR.out)) HM2.out (sgn_times HSG.out) (hz.far3 (fun j hj => hj.1) _ _ _) (bz1.put3 _ _ _) (by have := HE.out; omega), ry1.far3 (by omega) _ _ _, ⟨by have := HG.out; omega⟩, ⟨below3 (below_step hBz hbz1) (Nat.le_refl _) _ _ _⟩⟩
            · have hnd1 : (19 : Int) < (nd m2 : Int) := by omega
              have hrm : ¬ m2 ≤ 9999999999999999999 := by rw [nd_le_iff] at hnd; omega
              have HR := Aside0.mk hrm
              clear hrm hnd
              have kmy00 := my0.c0; have kmy01 := my0.c1; have kmy02 := my0.c2; have qmy00 := my0.f0; have qmy01 := my0.f1; have qmy02 := my0.f2
              have kbz00 := bz0.c0; have kbz01 := bz0.c1; have kbz02 := bz0.c2; have qbz00 := bz0.f0; have qbz01 := bz0.f1; have qbz02 := bz0.f2
              have kry00 := ry0.c0; have kry01 := ry0.c1; have kry02 := ry0.c2; have qry00 := ry0.f0; have qry01 := ry0.f1; have qry02 := ry0.f2
              go_wp2_with (first | (go_at_call 43; (with_reducible refine (HD.out _ _ _ hz).mono ?_); rintro e wz1 ⟨rfl, hbz1⟩; have szz1 := hbz1.size; (try simp at szz1); (with_reducible have my1 := my0.below hbz1); have kmy10 := my1.c0; have kmy11 := my1.c1; have kmy12 := my1.c2; have qmy10 := my1.f0; have qmy11 := my1.f1; have qmy12 := my1.f2; (with_reducible have bz1 := bz0.below hbz1); have kbz10 := bz1.c0; have kbz11 := bz1.c1; have kbz12 := bz1.c2; have qbz10 := bz1.f0; have qbz11 := bz1.f1; have qbz12 := bz1.f2; (with_reducible have ry1 := ry0.below hbz1); have kry10 := ry1.c0; have kry11 := ry1.c1; have kry12 := ry1.c2; have qry10 := ry1.f0; have qry11 := ry1.f1; have qry12 := ry1.f2; replace hz := hz.below hbz1))
              refine bodyPost_ret (v := .agg #[.bool b, .slice A1 q0 c1, .int .i64 E]) (by simp [results, Tryd.results21, go_sem, kry10, kry11, kry12]) rfl ⟨_, rfl, DPadded.of (HP.out.stop (.inr (by rw [HM2.out]; exact HR.out))) HP.out.eq ((hv.below hbz1).far3 (fun j hj => hj.1.2) _ _ _) HE.out, below3 (below_step hBz hbz1) (by omega) _ _ _⟩
        ·
          obtain ⟨gm, hgm⟩ : ∃ g : Nat, g = wr.heap.size := ⟨_, rfl⟩
          refine value_ (v := .pointer (some ⟨gm, 0, none⟩)) (w1 := wr.drew.alloc (Obj.cells #[Value.bool false, Value.slice none 0 0, Value.int .i64 0] 41)) (by rfl) rfl (by rw [hgm]; rfl) ?_
          have hb1 := low (wr.drew) (Obj.cells #[Value.bool false, Value.slice none 0 0, Value.int .i64 0] 41)
          have mx1 : Box (wr.drew.alloc (Obj.cells #[Value.bool false, Value.slice none 0 0, Value.int .i64 0] 41)) gm [.bool false, .slice none 0 0, .int .i64 0] := Box.new3 _ _ _ _ _ _ hgm.symm
          have hgs : wr.heap.size < (wr.drew.alloc (Obj.cells #[Value.bool false, Value.slice none 0 0, Value.int .i64 0] 41)).heap.size := by simp
          have HGM := Aside0.mk hgm
          clear hgm
          generalize wr.drew.alloc (Obj.cells #[Value.bool false, Value.slice none 0 0, Value.int .i64 0] 41) = w1 at *
          have sz1 : wr.heap.size ≤ w1.heap.size := hb1.size
          have bx1 := bx0.below hb1
          have rx1 := rx0.below hb1
          replace hv := hv.below hb1
          refine hK.out _ _ ⟨bx1.c0, bx1.c1, bx1.c2⟩ (fun hHeld => ?_)
          clear hK K
          refine norm_ (a' := ?_) ?_ ?_
          rotate_left
          · show Act.put _ (some 5) _ = _
            simp only [Act.put, List.setIfInBounds_toArray, List.set_cons_zero, List.set_cons_succ, i64_w, i32_w]
            rfl
          refine one_ (i := 6) (N := some 18) #[true, true, true, true, true, true, true, false, false, true, true, true, false, true, false] rfl rfl (by kernel_rfl) (by decide) (fun K hK => ?_)
          refine goes_ Tryd.func11 (by kernel_rfl) rfl #[.int .u64 10] (by rfl) rfl rfl (by (try simp only [List.map_toArray, List.map_cons, List.map_nil]); first | done | rfl) ?_
          refine (HF.out _).mono ?_
          rintro e w2 ⟨u, rfl, hu, hb2⟩
          refine ⟨_, rfl, ?_⟩
          obtain ⟨A2, c2, rfl, _, _⟩ := hu.form
          have sz2 : w1.heap.size ≤ w2.heap.size := hb2.size
          have mx2 := mx1.below hb2
          have bx2 := bx1.below hb2
          have rx2 := rx1.below hb2
          replace hv := hv.below hb2
          refine hK.out _ _ ⟨bx2.c0, bx2.c1, bx2.c2⟩ (fun hHeld => ?_)
          clear hK K
          refine norm_ (a' := ?_) ?_ ?_
          rotate_left
          · show Act.put _ (some 18) _ = _
            simp only [Act.put, List.setIfInBounds_toArray, List.set_cons_zero, List.set_cons_succ, i64_w, i32_w]
            rfl
          refine one_ (i := 7) (N := some 19) #[true, true, true, true, true, true, true, true, false, true, true, true, false, true, false] rfl rfl (by kernel_rfl) (by decide) (fun K hK => ?_)
          refine goes_ Tryd.func30 (by kernel_rfl) rfl #[.slice A1 q0 c1, .slice A2 (digs 10).length c2] (by rfl) rfl rfl (by (try simp only [List.map_toArray, List.map_cons, List.map_nil]); first | done | rfl) ?_
          refine (HM.out _ _ _ _ _ hv hu).mono ?_
          rintro e w3 ⟨z, rfl, hz, hb3⟩
          refine ⟨_, rfl, ?_⟩
          replace hz := hz.bound
          obtain ⟨A3, c3, rfl, _, _⟩ := hz.form
          have sz3 : w2.heap.size ≤ w3.heap.size := hb3.size
          have mx3 := mx2.below hb3
          have bx3 := bx2.below hb3
          have rx3 := rx2.below hb3
          replace hv := hv.below hb3
          replace hu := hu.below hb3
          refine hK.out _ _ ⟨bx3.c0, bx3.c1, bx3.c2⟩ (fun hHeld => ?_)
          clear hK K
          refine norm_ (a' := ?_) ?_ ?_
          rotate_left
          · show Act.put _ (some 19) _ = _
            simp only [Act.put, List.setIfInBounds_toArray, List.set_cons_zero, List.set_cons_succ, i64_w, i32_w]
            rfl
          refine one_ (i := 8) (N := some 20) #[true, true, true, true, true, true, true, true, true, true, true, true, false, true, false] rfl rfl (by kernel_rfl) (by decide) (fun K hK => ?_)
          refine goes_ Tryd.func35 (by kernel_rfl) rfl #[.bool b, .slice A3 (digs m2).length c3] (by rfl) rfl rfl (by (try simp only [List.map_toArray, List.map_cons, List.map_nil]); first | done | rfl) ?_
          refine (HW.out _ _ _ hz).mono ?_
          rintro e w4 ⟨rfl, hb4⟩
          refine ⟨_, rfl, ?_⟩
          have sz4 : w3.heap.size ≤ w4.heap.size := hb4.size
          have mx4 := mx3.below hb4
          have bx4 := bx3.below hb4
          have rx4 := rx3.below hb4
          replace hv := hv.below hb4
          replace hu := hu.below hb4
          replace hz := hz.below hb4
          refine hK.out _ _ ⟨bx4.c0, bx4.c1, bx4.c2⟩ (fun hHeld => ?_)
          clear hK K
          refine norm_ (a' := ?_) ?_ ?_
          rotate_left
          · show Act.put _ (some 20) _ = _
            simp only [Act.put, List.setIfInBounds_toArray, List.set_cons_zero, List.set_cons_succ, i64_w, i32_w]
            rfl
          refine pure_ (i := 12) (N := some 24) (v := ?_) (a' := ?_) #[true, true, true, true, true, true, true, true, true, true, true, true, true, true, false] rfl rfl (by kernel_rfl) (fun _ _ _ h => h) (Or.inl ⟨by rfl, ?_⟩) ?_ ?_
          rotate_left
          · intro w'
            go_simp
            with_reducible rfl
          rotate_left
          · simp only [Act.put, List.setIfInBounds_toArray, List.set_cons_zero, List.set_cons_succ, i64_w, i32_w]
            rfl
          have kmx40 := mx4.c0
          have kmx41 := mx4.c1
          have kmx42 := mx4.c2
          have qmx40 := mx4.f0
          have qmx41 := mx4.f1
          have qmx42 := mx4.f2
          refine last_ (i := 14) (N := none) #[true, true, true, true, true, true, true, true, true, true, true, true, true, true, true] rfl rfl (by kernel_rfl) (by decide) (fun K hK => ?_)
          refine skip_ (w1 := ?_) (by rfl) rfl ?_ ?_
          rotate_left
          · go_simp
            rfl
          refine hK.out _ _ ?_
          clear hK K
          refine done_ (by kernel_rfl) ?_
          have hgo := HGM.out
          have my0 := mx4.put3 (.bool b) (.slice A3 (digs m2).length c3) (.int .i64 (E - 1))
          have bz0 := bx4.far3 (g' := gm) (show w.heap.size ≠ gm by omega) (.bool b) (.slice A3 (digs m2).length c3) (.int .i64 (E - 1))
          have ry0 := rx4.far3 (g' := gm) (show w.heap.size + 1 ≠ gm by omega) (.bool b) (.slice A3 (digs m2).length c3) (.int .i64 (E - 1))
          replace hz := hz.far3 (g := gm) (fun j hj => by have h1 := hj.1; have h2 := hj.2; omega) (.bool b) (.slice A3 (digs m2).length c3) (.int .i64 (E - 1))
          replace hv := hv.far3 (g := gm) (fun j hj => by have h2 := hj.2; have h3 : j < wr.heap.size := h2; omega) (.bool b) (.slice A3 (digs m2).length c3) (.int .i64 (E - 1))
          have hBz : Below w.heap.size w (((w4.setCell ⟨gm, 0, none⟩ (.bool b)).setCell ⟨gm, 1, none⟩ (.slice A3 (digs m2).length c3)).setCell ⟨gm, 2, none⟩ (.int .i64 (E - 1))) := below3 (below_step (below_step (below_step (below_step HB.out.drew hb1) hb2) hb3) hb4) (by omega) _ _ _
          have hlz : wr.heap.size ≤ (((w4.setCell ⟨gm, 0, none⟩ (.bool b)).setCell ⟨gm, 1, none⟩ (.slice A3 (digs m2).length c3)).setCell ⟨gm, 2, none⟩ (.int .i64 (E - 1))).heap.size := by simp; omega
          replace hz := hz.mono (ok' := fun j => j ≠ w.heap.size ∧ j ≠ w.heap.size + 1) (fun j hj => by have h1 := hj.1; constructor <;> omega)
          generalize (((w4.setCell ⟨gm, 0, none⟩ (.bool b)).setCell ⟨gm, 1, none⟩ (.slice A3 (digs m2).length c3)).setCell ⟨gm, 2, none⟩ (.int .i64 (E - 1))) = wz at *
          clear hgo hHeld
          by_cases hnd : nd m2 ≤ 19
          · have hnd1 : ¬ (19 : Int) < (nd m2 : Int) := by omega
            have hrm : m2 ≤ 9999999999999999999 := by have := nd_le_iff.mp hnd; omega
            have HR := Aside0.mk hrm
            clear hrm hnd
            have kmy00 := my0.c0; have kmy01 := my0.c1; have kmy02 := my0.c2; have qmy00 := my0.f0; have qmy01 := my0.f1; have qmy02 := my0.f2
            have kbz00 := bz0.c0; have kbz01 := bz0.c1; have kbz02 := bz0.c2; have qbz00 := bz0.f0; have qbz01 := bz0.f1; have qbz02 := bz0.f2
            have kry00 := ry0.c0; have kry01 := ry0.c1; have kry02 := ry0.c2; have qry00 := ry0.f0; have qry01 := ry0.f1; have qry02 := ry0.f2
            go_wp2_with (first | (go_at_call 43; (with_reducible refine (HD.out _ _ _ hz).mono ?_); rintro e wz1 ⟨rfl, hbz1⟩; have szz1 := hbz1.size; (try simp at szz1); (with_reducible have my1 := my0.below hbz1); have kmy10 := my1.c0; have kmy11 := my1.c1; have kmy12 := my1.c2; have qmy10 := my1.f0; have qmy11 := my1.f1; have qmy12 := my1.f2; (with_reducible have bz1 := bz0.below hbz1); have kbz10 := bz1.c0; have kbz11 := bz1.c1; have kbz12 := bz1.c2; have qbz10 := bz1.f0; have qbz11 := bz1.f1; have qbz12 := bz1.f2; (with_reducible have ry1 := ry0.below hbz1); have kry10 := ry1.c0; have kry11 := ry1.c1; have kry12 := ry1.c2; have qry10 := ry1.f0; have qry11 := ry1.f1; have qry12 := ry1.f2; replace hz := hz.below hbz1))
            go_roundg (gk - 1)
            case measure => have := HG.out; omega
            case rel => exact ⟨k + 1, PSt.of (HP.out.step (by omega) (by omega) (by rw [HM2.out]; exact HR.out)) HM2.out (sgn_times HSG.out) (hz.far3 (fun j hj => hj.1) _ _ _) (bz1.put3 _ _ _) (by have := HE.out; omega), ry1.far3 (by omega) _ _ _, ⟨by have := HG.out; omega⟩, ⟨below3 (below_step hBz hbz1) (Nat.le_refl _) _ _ _⟩⟩
          · have hnd1 : (19 : Int) < (nd m2 : Int) := by omega
            have hrm : ¬ m2 ≤ 9999999999999999999 := by rw [nd_le_iff] at hnd; omega
            have HR := Aside0.mk hrm
            clear hrm hnd
            have kmy00 := my0.c0; have kmy01 := my0.c1; have kmy02 := my0.c2; have qmy00 := my0.f0; have qmy01 := my0.f1; have qmy02 := my0.f2
            have kbz00 := bz0.c0; have kbz01 := bz0.c1; have kbz02 := bz0.c2; have qbz00 := bz0.f0; have qbz01 := bz0.f1; have qbz02 := bz0.f2
            have kry00 := ry0.c0; have kry01 := ry0.c1; have kry02 := ry0.c2; have qry00 := ry0.f0; have qry01 := ry0.f1; have qry02 := ry0.f2
            go_wp2_with (first | (go_at_call 43; (with_reducible refine (HD.out _ _ _ hz).mono ?_); rintro e wz1 ⟨rfl, hbz1⟩; have szz1 := hbz1.size; (try simp at szz1); (with_reducible have my1 := my0.below hbz1); have kmy10 := my1.c0; have kmy11 := my1.c1; have kmy12 := my1.c2; have qmy10 := my1.f0; have qmy11 := my1.f1; have qmy12 := my1.f2; (with_reducible have bz1 := bz0.below hbz1); have kbz10 := bz1.c0; have kbz11 := bz1.c1; have kbz12 := bz1.c2; have qbz10 := bz1.f0; have qbz11 := bz1.f1; have qbz12 := bz1.f2; (with_reducible have ry1 := ry0.below hbz1); have kry10 := ry1.c0; have kry11 := ry1.c1; have kry12 := ry1.c2; have qry10 := ry1.f0; have qry11 := ry1.f1; have qry12 := ry1.f2; replace hz := hz.below hbz1))
            refine bodyPost_ret (v := .agg #[.bool b, .slice A1 q0 c1, .int .i64 E]) (by simp [results, Tryd.results21, go_sem, kry10, kry11, kry12]) rfl ⟨_, rfl, DPadded.of (HP.out.stop (.inr (by rw [HM2.out]; exact HR.out))) HP.out.eq ((hv.below hbz1).far3 (fun j hj => hj.1.2) _ _ _) HE.out, below3 (below_step hBz hbz1) (by omega) _ _ _⟩
      · go_wp2
        replace bx0 := bx0.drew
        replace rx0 := rx0.drew
        replace hv := hv.drew.bound
        refine start_ (n := 15) (S := fun w' => w'.cell? ⟨w.heap.size, 0, none⟩ = some (.bool b) ∧ w'.cell? ⟨w.heap.size, 1, none⟩ = some (.slice A1 q0 c1) ∧ w'.cell? ⟨w.heap.size, 2, none⟩ = some (.int .i64 E)) (ds := [14]) #[false, false, false, false, false, false, false, false, false, false, false, false, false, false, false] (by kernel_rfl) rfl rfl ⟨bx0.c0, bx0.c1, bx0.c2⟩ (fun hHeld => ?_)
        refine pure_ (i := 0) (N := some 12) (v := ?_) (a' := ?_) #[true, false, false, false, false, false, false, false, false, false, false, false, false, false, false] rfl rfl (by kernel_rfl) (fun _ _ _ h => h) (Or.inl ⟨by rfl, ?_⟩) ?_ ?_
        rotate_left
        · intro w'
          go_simp
          with_reducible rfl
        rotate_left
        · simp only [Act.put, List.setIfInBounds_toArray, List.set_cons_zero, List.set_cons_succ, i64_w, i32_w]
          rfl
        refine pure_ (i := 1) (N := some 13) (v := ?_) (a' := ?_) #[true, true, false, false, false, false, false, false, false, false, false, false, false, false, false] rfl rfl (by kernel_rfl) (fun _ _ _ h => h) (Or.inl ⟨by rfl, ?_⟩) ?_ ?_
        rotate_left
        · intro w'
          go_simp
          with_reducible rfl
        rotate_left
        · simp only [Act.put, List.setIfInBounds_toArray, List.set_cons_zero, List.set_cons_succ, i64_w, i32_w]
          rfl
        refine take_ (i := 2) (N := some 14) (v := ?_) (a' := ?_) #[true, true, true, false, false, false, false, false, false, false, false, false, false, false, false] rfl rfl (by kernel_rfl) (fun _ _ _ h => h) (Or.inl ⟨by rfl, ?_⟩) hHeld ?_ ?_
        rotate_left
        · rintro w' ⟨s0, s1, s2⟩
          go_simp
          with_reducible rfl
        rotate_left
        · simp only [Act.put, List.setIfInBounds_toArray, List.set_cons_zero, List.set_cons_succ, i64_w, i32_w]
          rfl
        refine pure_ (i := 3) (N := some 15) (v := ?_) (a' := ?_) #[true, true, true, true, false, false, false, false, false, false, false, false, false, false, false] rfl rfl (by kernel_rfl) (fun _ _ _ h => h) (Or.inl ⟨by rfl, ?_⟩) ?_ ?_
        rotate_left
        · intro w'
          go_simp
          with_reducible rfl
        rotate_left
        · simp only [Act.put, List.setIfInBounds_toArray, List.set_cons_zero, List.set_cons_succ, i64_w, i32_w]
          rfl
        refine pure_ (i := 4) (N := some 16) (v := ?_) (a' := ?_) #[true, true, true, true, true, false, false, false, false, false, false, false, false, false, false] rfl rfl (by kernel_rfl) (fun _ _ _ h => h) (Or.inl ⟨by rfl, ?_⟩) ?_ ?_
        rotate_left
        · intro w'
          go_simp
          with_reducible rfl
        rotate_left
        · simp only [Act.put, List.setIfInBounds_toArray, List.set_cons_zero, List.set_cons_succ, i64_w, i32_w]
          rfl
        refine take_ (i := 5) (N := some 17) (v := ?_) (a' := ?_) #[true, true, true, true, true, true, false, false, false, false, false, false, false, false, false] rfl rfl (by kernel_rfl) (fun _ _ _ h => h) (Or.inl ⟨by rfl, ?_⟩) hHeld ?_ ?_
        rotate_left
        · rintro w' ⟨s0, s1, s2⟩
          go_simp
          with_reducible rfl
        rotate_left
        · simp only [Act.put, List.setIfInBounds_toArray, List.set_cons_zero, List.set_cons_succ, i64_w, i32_w]
          rfl
        refine pure_ (i := 9) (N := some 21) (v := ?_) (a' := ?_) #[true, true, true, true, true, true, false, false, false, true, false, false, false, false, false] rfl rfl (by kernel_rfl) (fun _ _ _ h => h) (Or.inl ⟨by rfl, ?_⟩) ?_ ?_
        rotate_left
        · intro w'
          go_simp
          with_reducible rfl
        rotate_left
        · simp only [Act.put, List.setIfInBounds_toArray, List.set_cons_zero, List.set_cons_succ, i64_w, i32_w]
          rfl
        refine take_ (i := 10) (N := some 22) (v := ?_) (a' := ?_) #[true, true, true, true, true, true, false, false, false, true, true, false, false, false, false] rfl rfl (by kernel_rfl) (fun _ _ _ h => h) (Or.inl ⟨by rfl, ?_⟩) hHeld ?_ ?_
        rotate_left
        · rintro w' ⟨s0, s1, s2⟩
          go_simp
          with_reducible rfl
        rotate_left
        · simp only [Act.put, List.setIfInBounds_toArray, List.set_cons_zero, List.set_cons_succ, i64_w, i32_w]
          rfl
        refine pure_ (i := 11) (N := some 23) (v := ?_) (a' := ?_) #[true, true, true, true, true, true, false, false, false, true, true, true, false, false, false] rfl rfl (by kernel_rfl) (fun _ _ _ h => h) (Or.inl ⟨by rfl, ?_⟩) ?_ ?_
        rotate_left
        · intro w'
          go_simp
          with_reducible rfl
        rotate_left
        · simp only [Act.put, List.setIfInBounds_toArray, List.set_cons_zero, List.set_cons_succ, i64_w, i32_w]
          rfl
        refine two_ (i := 6) (j := 13) (Ni := some 18) (Nj := some 5) #[true, true, true, true, true, true, true, false, false, true, true, true, false, false, false] #[true, true, true, true, true, true, false, false, false, true, true, true, false, true, false] rfl rfl rfl rfl (by kernel_rfl) (by decide) (by decide) (fun K hK => ?_) (fun K hK => ?_)
        ·
          refine goes_ Tryd.func11 (by kernel_rfl) rfl #[.int .u64 10] (by rfl) rfl rfl (by (try simp only [List.map_toArray, List.map_cons, List.map_nil]); first | done | rfl) ?_
          refine (HF.out _).mono ?_
          rintro e w1 ⟨u, rfl, hu, hb1⟩
          refine ⟨_, rfl, ?_⟩
          obtain ⟨A2, c2, rfl, _, _⟩ := hu.form
          have sz1 : wr.heap.size ≤ w1.heap.size := hb1.size
          have bx1 := bx0.below hb1
          have rx1 := rx0.below hb1
          replace hv := hv.below hb1
          refine hK.out _ _ ⟨bx1.c0, bx1.c1, bx1.c2⟩ (fun hHeld => ?_)
          clear hK K
          refine norm_ (a' := ?_) ?_ ?_
          rotate_left
          · show Act.put _ (some 18) _ = _
            simp only [Act.put, List.setIfInBounds_toArray, List.set_cons_zero, List.set_cons_succ, i64_w, i32_w]
            rfl
          refine two_ (i := 7) (j := 13) (Ni := some 19) (Nj := some 5) #[true, true, true, true, true, true, true, true, false, true, true, true, false, false, false] #[true, true, true, true, true, true, true, false, false, true, true, true, false, true, false] rfl rfl rfl rfl (by kernel_rfl) (by decide) (by decide) (fun K hK => ?_) (fun K hK => ?_)
          ·
            refine goes_ Tryd.func30 (by kernel_rfl) rfl #[.slice A1 q0 c1, .slice A2 (digs 10).length c2] (by rfl) rfl rfl (by (try simp only [List.map_toArray, List.map_cons, List.map_nil]); first | done | rfl) ?_
            refine (HM.out _ _ _ _ _ hv hu).mono ?_
            rintro e w2 ⟨z, rfl, hz, hb2⟩
            refine ⟨_, rfl, ?_⟩
            replace hz := hz.bound
            obtain ⟨A3, c3, rfl, _, _⟩ := hz.form
            have sz2 : w1.heap.size ≤ w2.heap.size := hb2.size
            have bx2 := bx1.below hb2
            have rx2 := rx1.below hb2
            replace hv := hv.below hb2
            replace hu := hu.below hb2
            refine hK.out _ _ ⟨bx2.c0, bx2.c1, bx2.c2⟩ (fun hHeld => ?_)
            clear hK K
            refine norm_ (a' := ?_) ?_ ?_
            rotate_left
            · show Act.put _ (some 19) _ = _
              simp only [Act.put, List.setIfInBounds_toArray, List.set_cons_zero, List.set_cons_succ, i64_w, i32_w]
              rfl
            refine two_ (i := 8) (j := 13) (Ni := some 20) (Nj := some 5) #[true, true, true, true, true, true, true, true, true, true, true, true, false, false, false] #[true, true, true, true, true, true, true, true, false, true, true, true, false, true, false] rfl rfl rfl rfl (by kernel_rfl) (by decide) (by decide) (fun K hK => ?_) (fun K hK => ?_)
            ·
              refine goes_ Tryd.func35 (by kernel_rfl) rfl #[.bool b, .slice A3 (digs m2).length c3] (by rfl) rfl rfl (by (try simp only [List.map_toArray, List.map_cons, List.map_nil]); first | done | rfl) ?_
              refine (HW.out _ _ _ hz).mono ?_
              rintro e w3 ⟨rfl, hb3⟩
              refine ⟨_, rfl, ?_⟩
              have sz3 : w2.heap.size ≤ w3.heap.size := hb3.size
              have bx3 := bx2.below hb3
              have rx3 := rx2.below hb3
              replace hv := hv.below hb3
              replace hu := hu.below hb3
              replace hz := hz.below hb3
              refine hK.out _ _ ⟨bx3.c0, bx3.c1, bx3.c2⟩ (fun hHeld => ?_)
              clear hK K
              refine norm_ (a' := ?_) ?_ ?_
              rotate_left
              · show Act.put _ (some 20) _ = _
                simp only [Act.put, List.setIfInBounds_toArray, List.set_cons_zero, List.set_cons_succ, i64_w, i32_w]
                rfl
              refine pure_ (i := 12) (N := some 24) (v := ?_) (a' := ?_) #[true, true, true, true, true, true, true, true, true, true, true, true, true, false, false] rfl rfl (by kernel_rfl) (fun _ _ _ h => h) (Or.inl ⟨by rfl, ?_⟩) ?_ ?_
              rotate_left
              · intro w'
                go_simp
                with_reducible rfl
              rotate_left
              · simp only [Act.put, List.setIfInBounds_toArray, List.set_cons_zero, List.set_cons_succ, i64_w, i32_w]
                rfl
              refine one_ (i := 13) (N := some 5) #[true, true, true, true, true, true, true, true, true, true, true, true, true, true, false] rfl rfl (by kernel_rfl) (by decide) (fun K hK => ?_)
              obtain ⟨gm, hgm⟩ : ∃ g : Nat, g = w3.heap.size := ⟨_, rfl⟩
              refine value_ (v := .pointer (some ⟨gm, 0, none⟩)) (w1 := w3.alloc (Obj.cells #[Value.bool false, Value.slice none 0 0, Value.int .i64 0] 41)) (by rfl) rfl (by rw [hgm]; rfl) ?_
              have hb4 := low (w3) (Obj.cells #[Value.bool false, Value.slice none 0 0, Value.int .i64 0] 41)
              have mx4 : Box (w3.alloc (Obj.cells #[Value.bool false, Value.slice none 0 0, Value.int .i64 0] 41)) gm [.bool false, .slice none 0 0, .int .i64 0] := Box.new3 _ _ _ _ _ _ hgm.symm
              have hgs : w3.heap.size < (w3.alloc (Obj.cells #[Value.bool false, Value.slice none 0 0, Value.int .i64 0] 41)).heap.size := by simp
              have HGM := Aside0.mk hgm
              clear hgm
              generalize w3.alloc (Obj.cells #[Value.bool false, Value.slice none 0 0, Value.int .i64 0] 41) = w4 at *
              have sz4 : w3.heap.size ≤ w4.heap.size := hb4.size
              have bx4 := bx3.below hb4
              have rx4 := rx3.below hb4
              replace hv := hv.below hb4
              replace hu := hu.below hb4
              replace hz := hz.below hb4
              refine hK.out _ _ ⟨bx4.c0, bx4.c1, bx4.c2⟩ (fun hHeld => ?_)
              clear hK K
              refine norm_ (a' := ?_) ?_ ?_
              rotate_left
              · show Act.put _ (some 5) _ = _
                simp only [Act.put, List.setIfInBounds_toArray, List.set_cons_zero, List.set_cons_succ, i64_w, i32_w]
                rfl
              have kmx40 := mx4.c0
              have kmx41 := mx4.c1
              have kmx42 := mx4.c2
              have qmx40 := mx4.f0
              have qmx41 := mx4.f1
              have qmx42 := mx4.f2
              refine last_ (i := 14) (N := none) #[true, true, true, true, true, true, true, true, true, true, true, true, true, true, true] rfl rfl (by kernel_rfl) (by decide) (fun K hK => ?_)
              refine skip_ (w1 := ?_) (by rfl) rfl ?_ ?_
              rotate_left
              · go_simp
                rfl
              refine hK.out _ _ ?_
              clear hK K
              refine done_ (by kernel_rfl) ?_
              have hgo := HGM.out
              have my0 := mx4.put3 (.bool b) (.slice A3 (digs m2).length c3) (.int .i64 (E - 1))
              have bz0 := bx4.far3 (g' := gm) (show w.heap.size ≠ gm by omega) (.bool b) (.slice A3 (digs m2).length c3) (.int .i64 (E - 1))
              have ry0 := rx4.far3 (g' := gm) (show w.heap.size + 1 ≠ gm by omega) (.bool b) (.slice A3 (digs m2).length c3) (.int .i64 (E - 1))
              replace hz := hz.far3 (g := gm) (fun j hj => by have h1 := hj.1; have h2 := hj.2; omega) (.bool b) (.slice A3 (digs m2).length c3) (.int .i64 (E - 1))
              replace hv := hv.far3 (g := gm) (fun j hj => by have h2 := hj.2; have h3 : j < wr.heap.size := h2; omega) (.bool b) (.slice A3 (digs m2).length c3) (.int .i64 (E - 1))
              have hBz : Below w.heap.size w (((w4.setCell ⟨gm, 0, none⟩ (.bool b)).setCell ⟨gm, 1, none⟩ (.slice A3 (digs m2).length c3)).setCell ⟨gm, 2, none⟩ (.int .i64 (E - 1))) := below3 (below_step (below_step (below_step (below_step HB.out.drew hb1) hb2) hb3) hb4) (by omega) _ _ _
              have hlz : wr.heap.size ≤ (((w4.setCell ⟨gm, 0, none⟩ (.bool b)).setCell ⟨gm, 1, none⟩ (.slice A3 (digs m2).length c3)).setCell ⟨gm, 2, none⟩ (.int .i64 (E - 1))).heap.size := by simp; omega
              replace hz := hz.mono (ok' := fun j => j ≠ w.heap.size ∧ j ≠ w.heap.size + 1) (fun j hj => by have h1 := hj.1; constructor <;> omega)
              generalize (((w4.setCell ⟨gm, 0, none⟩ (.bool b)).setCell ⟨gm, 1, none⟩ (.slice A3 (digs m2).length c3)).setCell ⟨gm, 2, none⟩ (.int .i64 (E - 1))) = wz at *
              clear hgo hHeld
              by_cases hnd : nd m2 ≤ 19
              · have hnd1 : ¬ (19 : Int) < (nd m2 : Int) := by omega
                have hrm : m2 ≤ 9999999999999999999 := by have := nd_le_iff.mp hnd; omega
                have HR := Aside0.mk hrm
                clear hrm hnd
                have kmy00 := my0.c0; have kmy01 := my0.c1; have kmy02 := my0.c2; have qmy00 := my0.f0; have qmy01 := my0.f1; have qmy02 := my0.f2
                have kbz00 := bz0.c0; have kbz01 := bz0.c1; have kbz02 := bz0.c2; have qbz00 := bz0.f0; have qbz01 := bz0.f1; have qbz02 := bz0.f2
                have kry00 := ry0.c0; have kry01 := ry0.c1; have kry02 := ry0.c2; have qry00 := ry0.f0; have qry01 := ry0.f1; have qry02 := ry0.f2
                go_wp2_with (first | (go_at_call 43; (with_reducible refine (HD.out _ _ _ hz).mono ?_); rintro e wz1 ⟨rfl, hbz1⟩; have szz1 := hbz1.size; (try simp at szz1); (with_reducible have my1 := my0.below hbz1); have kmy10 := my1.c0; have kmy11 := my1.c1; have kmy12 := my1.c2; have qmy10 := my1.f0; have qmy11 := my1.f1; have qmy12 := my1.f2; (with_reducible have bz1 := bz0.below hbz1); have kbz10 := bz1.c0; have kbz11 := bz1.c1; have kbz12 := bz1.c2; have qbz10 := bz1.f0; have qbz11 := bz1.f1; have qbz12 := bz1.f2; (with_reducible have ry1 := ry0.below hbz1); have kry10 := ry1.c0; have kry11 := ry1.c1; have kry12 := ry1.c2; have qry10 := ry1.f0; have qry11 := ry1.f1; have qry12 := ry1.f2; replace hz := hz.below hbz1))
                go_roundg (gk - 1)
                case measure => have := HG.out; omega
                case rel => exact ⟨k + 1, PSt.of (HP.out.step (by omega) (by omega) (by rw [HM2.out]; exact HR.out)) HM2.out (sgn_times HSG.out) (hz.far3 (fun j hj => hj.1) _ _ _) (bz1.put3 _ _ _) (by have := HE.out; omega), ry1.far3 (by omega) _ _ _, ⟨by have := HG.out; omega⟩, ⟨below3 (below_step hBz hbz1) (Nat.le_refl _) _ _ _⟩⟩
              · have hnd1 : (19 : Int) < (nd m2 : Int) := by omega
                have hrm : ¬ m2 ≤ 9999999999999999999 := by rw [nd_le_iff] at hnd; omega
                have HR := Aside0.mk hrm
                clear hrm hnd
                have kmy00 := my0.c0; have kmy01 := my0.c1; have kmy02 := my0.c2; have qmy00 := my0.f0; have qmy01 := my0.f1; have qmy02 := my0.f2
                have kbz00 := bz0.c0; have kbz01 := bz0.c1; have kbz02 := bz0.c2; have qbz00 := bz0.f0; have qbz01 := bz0.f1; have qbz02 := bz0.f2
                have kry00 := ry0.c0; have kry01 := ry0.c1; have kry02 := ry0.c2; have qry00 := ry0.f0; have qry01 := ry0.f1; have qry02 := ry0.f2
                go_wp2_with (first | (go_at_call 43; (with_reducible refine (HD.out _ _ _ hz).mono ?_); rintro e wz1 ⟨rfl, hbz1⟩; have szz1 := hbz1.size; (try simp at szz1); (with_reducible have my1 := my0.below hbz1); have kmy10 := my1.c0; have kmy11 := my1.c1; have kmy12 := my1.c2; have qmy10 := my1.f0; have qmy11 := my1.f1; have qmy12 := my1.f2; (with_reducible have bz1 := bz0.below hbz1); have kbz10 := bz1.c0; have kbz11 := bz1.c1; have kbz12 := bz1.c2; have qbz10 := bz1.f0; have qbz11 := bz1.f1; have qbz12 := bz1.f2; (with_reducible have ry1 := ry0.below hbz1); have kry10 := ry1.c0; have kry11 := ry1.c1; have kry12 := ry1.c2; have qry10 := ry1.f0; have qry11 := ry1.f1; have qry12 := ry1.f2; replace hz := hz.below hbz1))
                refine bodyPost_ret (v := .agg #[.bool b, .slice A1 q0 c1, .int .i64 E]) (by simp [results, Tryd.results21, go_sem, kry10, kry11, kry12]) rfl ⟨_, rfl, DPadded.of (HP.out.stop (.inr (by rw [HM2.out]; exact HR.out))) HP.out.eq ((hv.below hbz1).far3 (fun j hj => hj.1.2) _ _ _) HE.out, below3 (below_step hBz hbz1) (by omega) _ _ _⟩
            ·
              obtain ⟨gm, hgm⟩ : ∃ g : Nat, g = w2.heap.size := ⟨_, rfl⟩
              refine value_ (v := .pointer (some ⟨gm, 0, none⟩)) (w1 := w2.alloc (Obj.cells #[Value.bool false, Value.slice none 0 0, Value.int .i64 0] 41)) (by rfl) rfl (by rw [hgm]; rfl) ?_
              have hb3 := low (w2) (Obj.cells #[Value.bool false, Value.slice none 0 0, Value.int .i64 0] 41)
              have mx3 : Box (w2.alloc (Obj.cells #[Value.bool false, Value.slice none 0 0, Value.int .i64 0] 41)) gm [.bool false, .slice none 0 0, .int .i64 0] := Box.new3 _ _ _ _ _ _ hgm.symm
              have hgs : w2.heap.size < (w2.alloc (Obj.cells #[Value.bool false, Value.slice none 0 0, Value.int .i64 0] 41)).heap.size := by simp
              have HGM := Aside0.mk hgm
              clear hgm
              generalize w2.alloc (Obj.cells #[Value.bool false, Value.slice none 0 0, Value.int .i64 0] 41) = w3 at *
              have sz3 : w2.heap.size ≤ w3.heap.size := hb3.size
              have bx3 := bx2.below hb3
              have rx3 := rx2.below hb3
              replace hv := hv.below hb3
              replace hu := hu.below hb3
              replace hz := hz.below hb3
              refine hK.out _ _ ⟨bx3.c0, bx3.c1, bx3.c2⟩ (fun hHeld => ?_)
              clear hK K
              refine norm_ (a' := ?_) ?_ ?_
              rotate_left
              · show Act.put _ (some 5) _ = _
                simp only [Act.put, List.setIfInBounds_toArray, List.set_cons_zero, List.set_cons_succ, i64_w, i32_w]
                rfl
              refine one_ (i := 8) (N := some 20) #[true, true, true, true, true, true, true, true, true, true, true, true, false, true, false] rfl rfl (by kernel_rfl) (by decide) (fun K hK => ?_)
              refine goes_ Tryd.func35 (by kernel_rfl) rfl #[.bool b, .slice A3 (digs m2).length c3] (by rfl) rfl rfl (by (try simp only [List.map_toArray, List.map_cons, List.map_nil]); first | done | rfl) ?_
              refine (HW.out _ _ _ hz).mono ?_
              rintro e w4 ⟨rfl, hb4⟩
              refine ⟨_, rfl, ?_⟩
              have sz4 : w3.heap.size ≤ w4.heap.size := hb4.size
              have mx4 := mx3.below hb4
              have bx4 := bx3.below hb4
              have rx4 := rx3.below hb4
              replace hv := hv.below hb4
              replace hu := hu.below hb4
              replace hz := hz.below hb4
              refine hK.out _ _ ⟨bx4.c0, bx4.c1, bx4.c2⟩ (fun hHeld => ?_)
              clear hK K
              refine norm_ (a' := ?_) ?_ ?_
              rotate_left
              · show Act.put _ (some 20) _ = _
                simp only [Act.put, List.setIfInBounds_toArray, List.set_cons_zero, List.set_cons_succ, i64_w, i32_w]
                rfl
              refine pure_ (i := 12) (N := some 24) (v := ?_) (a' := ?_) #[true, true, true, true, true, true, true, true, true, true, true, true, true, true, false] rfl rfl (by kernel_rfl) (fun _ _ _ h => h) (Or.inl ⟨by rfl, ?_⟩) ?_ ?_
              rotate_left
              · intro w'
                go_simp
                with_reducible rfl
              rotate_left
              · simp only [Act.put, List.setIfInBounds_toArray, List.set_cons_zero, List.set_cons_succ, i64_w, i32_w]
                rfl
              have kmx40 := mx4.c0
              have kmx41 := mx4.c1
              have kmx42 := mx4.c2
              have qmx40 := mx4.f0
              have qmx41 := mx4.f1
              have qmx42 := mx4.f2
              refine last_ (i := 14) (N := none) #[true, true, true, true, true, true, true, true, true, true, true, true, true, true, true] rfl rfl (by kernel_rfl) (by decide) (fun K hK => ?_)
              refine skip_ (w1 := ?_) (by rfl) rfl ?_ ?_
              rotate_left
              · go_simp
                rfl
              refine hK.out _ _ ?_
              clear hK K
              refine done_ (by kernel_rfl) ?_
              have hgo := HGM.out
              have my0 := mx4.put3 (.bool b) (.slice A3 (digs m2).length c3) (.int .i64 (E - 1))
              have bz0 := bx4.far3 (g' := gm) (show w.heap.size ≠ gm by omega) (.bool b) (.slice A3 (digs m2).length c3) (.int .i64 (E - 1))
              have ry0 := rx4.far3 (g' := gm) (show w.heap.size + 1 ≠ gm by omega) (.bool b) (.slice A3 (digs m2).length c3) (.int .i64 (E - 1))
              replace hz := hz.far3 (g := gm) (fun j hj => by have h1 := hj.1; have h2 := hj.2; omega) (.bool b) (.slice A3 (digs m2).length c3) (.int .i64 (E - 1))
              replace hv := hv.far3 (g := gm) (fun j hj => by have h2 := hj.2; have h3 : j < wr.heap.size := h2; omega) (.bool b) (.slice A3 (digs m2).length c3) (.int .i64 (E - 1))
              have hBz : Below w.heap.size w (((w4.setCell ⟨gm, 0, none⟩ (.bool b)).setCell ⟨gm, 1, none⟩ (.slice A3 (digs m2).length c3)).setCell ⟨gm, 2, none⟩ (.int .i64 (E - 1))) := below3 (below_step (below_step (below_step (below_step HB.out.drew hb1) hb2) hb3) hb4) (by omega) _ _ _
              have hlz : wr.heap.size ≤ (((w4.setCell ⟨gm, 0, none⟩ (.bool b)).setCell ⟨gm, 1, none⟩ (.slice A3 (digs m2).length c3)).setCell ⟨gm, 2, none⟩ (.int .i64 (E - 1))).heap.size := by simp; omega
              replace hz := hz.mono (ok' := fun j => j ≠ w.heap.size ∧ j ≠ w.heap.size + 1) (fun j hj => by have h1 := hj.1; constructor <;> omega)
              generalize (((w4.setCell ⟨gm, 0, none⟩ (.bool b)).setCell ⟨gm, 1, none⟩ (.slice A3 (digs m2).length c3)).setCell ⟨gm, 2, none⟩ (.int .i64 (E - 1))) = wz at *
              clear hgo hHeld
              by_cases hnd : nd m2 ≤ 19
              · have hnd1 : ¬ (19 : Int) < (nd m2 : Int) := by omega
                have hrm : m2 ≤ 9999999999999999999 := by have := nd_le_iff.mp hnd; omega
                have HR := Aside0.mk hrm
                clear hrm hnd
                have kmy00 := my0.c0; have kmy01 := my0.c1; have kmy02 := my0.c2; have qmy00 := my0.f0; have qmy01 := my0.f1; have qmy02 := my0.f2
                have kbz00 := bz0.c0; have kbz01 := bz0.c1; have kbz02 := bz0.c2; have qbz00 := bz0.f0; have qbz01 := bz0.f1; have qbz02 := bz0.f2
                have kry00 := ry0.c0; have kry01 := ry0.c1; have kry02 := ry0.c2; have qry00 := ry0.f0; have qry01 := ry0.f1; have qry02 := ry0.f2
                go_wp2_with (first | (go_at_call 43; (with_reducible refine (HD.out _ _ _ hz).mono ?_); rintro e wz1 ⟨rfl, hbz1⟩; have szz1 := hbz1.size; (try simp at szz1); (with_reducible have my1 := my0.below hbz1); have kmy10 := my1.c0; have kmy11 := my1.c1; have kmy12 := my1.c2; have qmy10 := my1.f0; have qmy11 := my1.f1; have qmy12 := my1.f2; (with_reducible have bz1 := bz0.below hbz1); have kbz10 := bz1.c0; have kbz11 := bz1.c1; have kbz12 := bz1.c2; have qbz10 := bz1.f0; have qbz11 := bz1.f1; have qbz12 := bz1.f2; (with_reducible have ry1 := ry0.below hbz1); have kry10 := ry1.c0; have kry11 := ry1.c1; have kry12 := ry1.c2; have qry10 := ry1.f0; have qry11 := ry1.f1; have qry12 := ry1.f2; replace hz := hz.below hbz1))
                go_roundg (gk - 1)
                case measure => have := HG.out; omega
                case rel => exact ⟨k + 1, PSt.of (HP.out.step (by omega) (by omega) (by rw [HM2.out]; exact HR.out)) HM2.out (sgn_times HSG.out) (hz.far3 (fun j hj => hj.1) _ _ _) (bz1.put3 _ _ _) (by have := HE.out; omega), ry1.far3 (by omega) _ _ _, ⟨by have := HG.out; omega⟩, ⟨below3 (below_step hBz hbz1) (Nat.le_refl _) _ _ _⟩⟩
              · have hnd1 : (19 : Int) < (nd m2 : Int) := by omega
                have hrm : ¬ m2 ≤ 9999999999999999999 := by rw [nd_le_iff] at hnd; omega
                have HR := Aside0.mk hrm
                clear hrm hnd
                have kmy00 := my0.c0; have kmy01 := my0.c1; have kmy02 := my0.c2; have qmy00 := my0.f0; have qmy01 := my0.f1; have qmy02 := my0.f2
                have kbz00 := bz0.c0; have kbz01 := bz0.c1; have kbz02 := bz0.c2; have qbz00 := bz0.f0; have qbz01 := bz0.f1; have qbz02 := bz0.f2
                have kry00 := ry0.c0; have kry01 := ry0.c1; have kry02 := ry0.c2; have qry00 := ry0.f0; have qry01 := ry0.f1; have qry02 := ry0.f2
                go_wp2_with (first | (go_at_call 43; (with_reducible refine (HD.out _ _ _ hz).mono ?_); rintro e wz1 ⟨rfl, hbz1⟩; have szz1 := hbz1.size; (try simp at szz1); (with_reducible have my1 := my0.below hbz1); have kmy10 := my1.c0; have kmy11 := my1.c1; have kmy12 := my1.c2; have qmy10 := my1.f0; have qmy11 := my1.f1; have qmy12 := my1.f2; (with_reducible have bz1 := bz0.below hbz1); have kbz10 := bz1.c0; have kbz11 := bz1.c1; have kbz12 := bz1.c2; have qbz10 := bz1.f0; have qbz11 := bz1.f1; have qbz12 := bz1.f2; (with_reducible have ry1 := ry0.below hbz1); have kry10 := ry1.c0; have kry11 := ry1.c1; have kry12 := ry1.c2; have qry10 := ry1.f0; have qry11 := ry1.f1; have qry12 := ry1.f2; replace hz := hz.below hbz1))
                refine bodyPost_ret (v := .agg #[.bool b, .slice A1 q0 c1, .int .i64 E]) (by simp [results, Tryd.results21, go_sem, kry10, kry11, kry12]) rfl ⟨_, rfl, DPadded.of (HP.out.stop (.inr (by rw [HM2.out]; exact HR.out))) HP.out.eq ((hv.below hbz1).far3 (fun j hj => hj.1.2) _ _ _) HE.out, below3 (below_step hBz hbz1) (by omega) _ _ _⟩
          ·
            obtain ⟨gm, hgm⟩ : ∃ g : Nat, g = w1.heap.size := ⟨_, rfl⟩
            refine value_ (v := .pointer (some ⟨gm, 0, none⟩)) (w1 := w1.alloc (Obj.cells #[Value.bool false, Value.slice none 0 0, Value.int .i64 0] 41)) (by rfl) rfl (by rw [hgm]; rfl) ?_
            have hb2 := low (w1) (Obj.cells #[Value.bool false, Value.slice none 0 0, Value.int .i64 0] 41)
            have mx2 : Box (w1.alloc (Obj.cells #[Value.bool false, Value.slice none 0 0, Value.int .i64 0] 41)) gm [.bool false, .slice none 0 0, .int .i64 0] := Box.new3 _ _ _ _ _ _ hgm.symm
            have hgs : w1.heap.size < (w1.alloc (Obj.cells #[Value.bool false, Value.slice none 0 0, Value.int .i64 0] 41)).heap.size := by simp
            have HGM := Aside0.mk hgm
            clear hgm
            generalize w1.alloc (Obj.cells #[Value.bool false, Value.slice none 0 0, Value.int .i64 0] 41) = w2 at *
            have sz2 : w1.heap.size ≤ w2.heap.size := hb2.size
            have bx2 := bx1.below hb2
            have rx2 := rx1.below hb2
            replace hv := hv.below hb2
            replace hu := hu.below hb2
            refine hK.out _ _ ⟨bx2.c0, bx2.c1, bx2.c2⟩ (fun hHeld => ?_)
            clear hK K
            refine norm_ (a' := ?_) ?_ ?_
            rotate_left
            · show Act.put _ (some 5) _ = _
              simp only [Act.put, List.setIfInBounds_toArray, List.set_cons_zero, List.set_cons_succ, i64_w, i32_w]
              rfl
            refine one_ (i := 7) (N := some 19) #[true, true, true, true, true, true, true, true, false, true, true, true, false, true, false] rfl rfl (by kernel_rfl) (by decide) (fun K hK => ?_)
            refine goes_ Tryd.func30 (by kernel_rfl) rfl #[.slice A1 q0 c1, .slice A2 (digs 10).length c2] (by rfl) rfl rfl (by (try simp only [List.map_toArray, List.map_cons, List.map_nil]); first | done | rfl) ?_
            refine (HM.out _ _ _ _ _ hv hu).mono ?_
            rintro e w3 ⟨z, rfl, hz, hb3⟩
            refine ⟨_, rfl, ?_⟩
            replace hz := hz.bound
            obtain ⟨A3, c3, rfl, _, _⟩ := hz.form
            have sz3 : w2.heap.size ≤ w3.heap.size := hb3.size
            have mx3 := mx2.below hb3
            have bx3 := bx2.below hb3
            have rx3 := rx2.below hb3
            replace hv := hv.below hb3
            replace hu := hu.below hb3
            refine hK.out _ _ ⟨bx3.c0, bx3.c1, bx3.c2⟩ (fun hHeld => ?_)
            clear hK K
            refine norm_ (a' := ?_) ?_ ?_
            rotate_left
            · show Act.put _ (some 19) _ = _
              simp only [Act.put, List.setIfInBounds_toArray, List.set_cons_zero, List.set_cons_succ, i64_w, i32_w]
              rfl
            refine one_ (i := 8) (N := some 20) #[true, true, true, true, true, true, true, true, true, true, true, true, false, true, false] rfl rfl (by kernel_rfl) (by decide) (fun K hK => ?_)
            refine goes_ Tryd.func35 (by kernel_rfl) rfl #[.bool b, .slice A3 (digs m2).length c3] (by rfl) rfl rfl (by (try simp only [List.map_toArray, List.map_cons, List.map_nil]); first | done | rfl) ?_
            refine (HW.out _ _ _ hz).mono ?_
            rintro e w4 ⟨rfl, hb4⟩
            refine ⟨_, rfl, ?_⟩
            have sz4 : w3.heap.size ≤ w4.heap.size := hb4.size
            have mx4 := mx3.below hb4
            have bx4 := bx3.below hb4
            have rx4 := rx3.below hb4
            replace hv := hv.below hb4
            replace hu := hu.below hb4
            replace hz := hz.below hb4
            refine hK.out _ _ ⟨bx4.c0, bx4.c1, bx4.c2⟩ (fun hHeld => ?_)
            clear hK K
            refine norm_ (a' := ?_) ?_ ?_
            rotate_left
            · show Act.put _ (some 20) _ = _
              simp only [Act.put, List.setIfInBounds_toArray, List.set_cons_zero, List.set_cons_succ, i64_w, i32_w]
              rfl
            refine pure_ (i := 12) (N := some 24) (v := ?_) (a' := ?_) #[true, true, true, true, true, true, true, true, true, true, true, true, true, true, false] rfl rfl (by kernel_rfl) (fun _ _ _ h => h) (Or.inl ⟨by rfl, ?_⟩) ?_ ?_
            rotate_left
            · intro w'
              go_simp
              with_reducible rfl
            rotate_left
            · simp only [Act.put, List.setIfInBounds_toArray, List.set_cons_zero, List.set_cons_succ, i64_w, i32_w]
              rfl
            have kmx40 := mx4.c0
            have kmx41 := mx4.c1
            have kmx42 := mx4.c2
            have qmx40 := mx4.f0
            have qmx41 := mx4.f1
            have qmx42 := mx4.f2
            refine last_ (i := 14) (N := none) #[true, true, true, true, true, true, true, true, true, true, true, true, true, true, true] rfl rfl (by kernel_rfl) (by decide) (fun K hK => ?_)
            refine skip_ (w1 := ?_) (by rfl) rfl ?_ ?_
            rotate_left
            · go_simp
              rfl
            refine hK.out _ _ ?_
            clear hK K
            refine done_ (by kernel_rfl) ?_
            have hgo := HGM.out
            have my0 := mx4.put3 (.bool b) (.slice A3 (digs m2).length c3) (.int .i64 (E - 1))
            have bz0 := bx4.far3 (g' := gm) (show w.heap.size ≠ gm by omega) (.bool b) (.slice A3 (digs m2).length c3) (.int .i64 (E - 1))
            have ry0 := rx4.far3 (g' := gm) (show w.heap.size + 1 ≠ gm by omega) (.bool b) (.slice A3 (digs m2).length c3) (.int .i64 (E - 1))
            replace hz := hz.far3 (g := gm) (fun j hj => by have h1 := hj.1; have h2 := hj.2; omega) (.bool b) (.slice A3 (digs m2).length c3) (.int .i64 (E - 1))
            replace hv := hv.far3 (g := gm) (fun j hj => by have h2 := hj.2; have h3 : j < wr.heap.size := h2; omega) (.bool b) (.slice A3 (digs m2).length c3) (.int .i64 (E - 1))
            have hBz : Below w.heap.size w (((w4.setCell ⟨gm, 0, none⟩ (.bool b)).setCell ⟨gm, 1, none⟩ (.slice A3 (digs m2).length c3)).setCell ⟨gm, 2, none⟩ (.int .i64 (E - 1))) := below3 (below_step (below_step (below_step (below_step HB.out.drew hb1) hb2) hb3) hb4) (by omega) _ _ _
            have hlz : wr.heap.size ≤ (((w4.setCell ⟨gm, 0, none⟩ (.bool b)).setCell ⟨gm, 1, none⟩ (.slice A3 (digs m2).length c3)).setCell ⟨gm, 2, none⟩ (.int .i64 (E - 1))).heap.size := by simp; omega
            replace hz := hz.mono (ok' := fun j => j ≠ w.heap.size ∧ j ≠ w.heap.size + 1) (fun j hj => by have h1 := hj.1; constructor <;> omega)
            generalize (((w4.setCell ⟨gm, 0, none⟩ (.bool b)).setCell ⟨gm, 1, none⟩ (.slice A3 (digs m2).length c3)).setCell ⟨gm, 2, none⟩ (.int .i64 (E - 1))) = wz at *
            clear hgo hHeld
            by_cases hnd : nd m2 ≤ 19
            · have hnd1 : ¬ (19 : Int) < (nd m2 : Int) := by omega
              have hrm : m2 ≤ 9999999999999999999 := by have := nd_le_iff.mp hnd; omega
              have HR := Aside0.mk hrm
              clear hrm hnd
              have kmy00 := my0.c0; have kmy01 := my0.c1; have kmy02 := my0.c2; have qmy00 := my0.f0; have qmy01 := my0.f1; have qmy02 := my0.f2
              have kbz00 := bz0.c0; have kbz01 := bz0.c1; have kbz02 := bz0.c2; have qbz00 := bz0.f0; have qbz01 := bz0.f1; have qbz02 := bz0.f2
              have kry00 := ry0.c0; have kry01 := ry0.c1; have kry02 := ry0.c2; have qry00 := ry0.f0; have qry01 := ry0.f1; have qry02 := ry0.f2
              go_wp2_with (first | (go_at_call 43; (with_reducible refine (HD.out _ _ _ hz).mono ?_); rintro e wz1 ⟨rfl, hbz1⟩; have szz1 := hbz1.size; (try simp at szz1); (with_reducible have my1 := my0.below hbz1); have kmy10 := my1.c0; have kmy11 := my1.c1; have kmy12 := my1.c2; have qmy10 := my1.f0; have qmy11 := my1.f1; have qmy12 := my1.f2; (with_reducible have bz1 := bz0.below hbz1); have kbz10 := bz1.c0; have kbz11 := bz1.c1; have kbz12 := bz1.c2; have qbz10 := bz1.f0; have qbz11 := bz1.f1; have qbz12 := bz1.f2; (with_reducible have ry1 := ry0.below hbz1); have kry10 := ry1.c0; have kry11 := ry1.c1; have kry12 := ry1.c2; have qry10 := ry1.f0; have qry11 := ry1.f1; have qry12 := ry1.f2; replace hz := hz.below hbz1))
              go_roundg (gk - 1)
              case measure => have := HG.out; omega
              case rel => exact ⟨k + 1, PSt.of (HP.out.step (by omega) (by omega) (by rw [HM2.out]; exact HR.out)) HM2.out (sgn_times HSG.out) (hz.far3 (fun j hj => hj.1) _ _ _) (bz1.put3 _ _ _) (by have := HE.out; omega), ry1.far3 (by omega) _ _ _, ⟨by have := HG.out; omega⟩, ⟨below3 (below_step hBz hbz1) (Nat.le_refl _) _ _ _⟩⟩
            · have hnd1 : (19 : Int) < (nd m2 : Int) := by omega
              have hrm : ¬ m2 ≤ 9999999999999999999 := by rw [nd_le_iff] at hnd; omega
              have HR := Aside0.mk hrm
              clear hrm hnd
              have kmy00 := my0.c0; have kmy01 := my0.c1; have kmy02 := my0.c2; have qmy00 := my0.f0; have qmy01 := my0.f1; have qmy02 := my0.f2
              have kbz00 := bz0.c0; have kbz01 := bz0.c1; have kbz02 := bz0.c2; have qbz00 := bz0.f0; have qbz01 := bz0.f1; have qbz02 := bz0.f2
              have kry00 := ry0.c0; have kry01 := ry0.c1; have kry02 := ry0.c2; have qry00 := ry0.f0; have qry01 := ry0.f1; have qry02 := ry0.f2
              go_wp2_with (first | (go_at_call 43; (with_reducible refine (HD.out _ _ _ hz).mono ?_); rintro e wz1 ⟨rfl, hbz1⟩; have szz1 := hbz1.size; (try simp at szz1); (with_reducible have my1 := my0.below hbz1); have kmy10 := my1.c0; have kmy11 := my1.c1; have kmy12 := my1.c2; have qmy10 := my1.f0; have qmy11 := my1.f1; have qmy12 := my1.f2; (with_reducible have bz1 := bz0.below hbz1); have kbz10 := bz1.c0; have kbz11 := bz1.c1; have kbz12 := bz1.c2; have qbz10 := bz1.f0; have qbz11 := bz1.f1; have qbz12 := bz1.f2; (with_reducible have ry1 := ry0.below hbz1); have kry10 := ry1.c0; have kry11 := ry1.c1; have kry12 := ry1.c2; have qry10 := ry1.f0; have qry11 := ry1.f1; have qry12 := ry1.f2; replace hz := hz.below hbz1))
              refine bodyPost_ret (v := .agg #[.bool b, .slice A1 q0 c1, .int .i64 E]) (by simp [results, Tryd.results21, go_sem, kry10, kry11, kry12]) rfl ⟨_, rfl, DPadded.of (HP.out.stop (.inr (by rw [HM2.out]; exact HR.out))) HP.out.eq ((hv.below hbz1).far3 (fun j hj => hj.1.2) _ _ _) HE.out, below3 (below_step hBz hbz1) (by omega) _ _ _⟩
        ·
          obtain ⟨gm, hgm⟩ : ∃ g : Nat, g = wr.heap.size := ⟨_, rfl⟩
          refine value_ (v := .pointer (some ⟨gm, 0, none⟩)) (w1 := wr.drew.alloc (Obj.cells #[Value.bool false, Value.slice none 0 0, Value.int .i64 0] 41)) (by rfl) rfl (by rw [hgm]; rfl) ?_
          have hb1 := low (wr.drew) (Obj.cells #[Value.bool false, Value.slice none 0 0, Value.int .i64 0] 41)
          have mx1 : Box (wr.drew.alloc (Obj.cells #[Value.bool false, Value.slice none 0 0, Value.int .i64 0] 41)) gm [.bool false, .slice none 0 0, .int .i64 0] := Box.new3 _ _ _ _ _ _ hgm.symm
          have hgs : wr.heap.size < (wr.drew.alloc (Obj.cells #[Value.bool false, Value.slice none 0 0, Value.int .i64 0] 41)).heap.size := by simp
          have HGM := Aside0.mk hgm
          clear hgm
          generalize wr.drew.alloc (Obj.cells #[Value.bool false, Value.slice none 0 0, Value.int .i64 0] 41) = w1 at *
          have sz1 : wr.heap.size ≤ w1.heap.size := hb1.size
          have bx1 := bx0.below hb1
          have rx1 := rx0.below hb1
          replace hv := hv.below hb1
          refine hK.out _ _ ⟨bx1.c0, bx1.c1, bx1.c2⟩ (fun hHeld => ?_)
          clear hK K
          refine norm_ (a' := ?_) ?_ ?_
          rotate_left
          · show Act.put _ (some 5) _ = _
            simp only [Act.put, List.setIfInBounds_toArray, List.set_cons_zero, List.set_cons_succ, i64_w, i32_w]
            rfl
          refine one_ (i := 6) (N := some 18) #[true, true, true, true, true, true, true, false, false, true, true, true, false, true, false] rfl rfl (by kernel_rfl) (by decide) (fun K hK => ?_)
          refine goes_ Tryd.func11 (by kernel_rfl) rfl #[.int .u64 10] (by rfl) rfl rfl (by (try simp only [List.map_toArray, List.map_cons, List.map_nil]); first | done | rfl) ?_
          refine (HF.out _).mono ?_
          rintro e w2 ⟨u, rfl, hu, hb2⟩
          refine ⟨_, rfl, ?_⟩
          obtain ⟨A2, c2, rfl, _, _⟩ := hu.form
          have sz2 : w1.heap.size ≤ w2.heap.size := hb2.size
          have mx2 := mx1.below hb2
          have bx2 := bx1.below hb2
          have rx2 := rx1.below hb2
          replace hv := hv.below hb2
          refine hK.out _ _ ⟨bx2.c0, bx2.c1, bx2.c2⟩ (fun hHeld => ?_)
          clear hK K
          refine norm_ (a' := ?_) ?_ ?_
          rotate_left
          · show Act.put _ (some 18) _ = _
            simp only [Act.put, List.setIfInBounds_toArray, List.set_cons_zero, List.set_cons_succ, i64_w, i32_w]
            rfl
          refine one_ (i := 7) (N := some 19) #[true, true, true, true, true, true, true, true, false, true, true, true, false, true, false] rfl rfl (by kernel_rfl) (by decide) (fun K hK => ?_)
          refine goes_ Tryd.func30 (by kernel_rfl) rfl #[.slice A1 q0 c1, .slice A2 (digs 10).length c2] (by rfl) rfl rfl (by (try simp only [List.map_toArray, List.map_cons, List.map_nil]); first | done | rfl) ?_
          refine (HM.out _ _ _ _ _ hv hu).mono ?_
          rintro e w3 ⟨z, rfl, hz, hb3⟩
          refine ⟨_, rfl, ?_⟩
          replace hz := hz.bound
          obtain ⟨A3, c3, rfl, _, _⟩ := hz.form
          have sz3 : w2.heap.size ≤ w3.heap.size := hb3.size
          have mx3 := mx2.below hb3
          have bx3 := bx2.below hb3
          have rx3 := rx2.below hb3
          replace hv := hv.below hb3
          replace hu := hu.below hb3
          refine hK.out _ _ ⟨bx3.c0, bx3.c1, bx3.c2⟩ (fun hHeld => ?_)
          clear hK K
          refine norm_ (a' := ?_) ?_ ?_
          rotate_left
          · show Act.put _ (some 19) _ = _
            simp only [Act.put, List.setIfInBounds_toArray, List.set_cons_zero, List.set_cons_succ, i64_w, i32_w]
            rfl
          refine one_ (i := 8) (N := some 20) #[true, true, true, true, true, true, true, true, true, true, true, true, false, true, false] rfl rfl (by kernel_rfl) (by decide) (fun K hK => ?_)
          refine goes_ Tryd.func35 (by kernel_rfl) rfl #[.bool b, .slice A3 (digs m2).length c3] (by rfl) rfl rfl (by (try simp only [List.map_toArray, List.map_cons, List.map_nil]); first | done | rfl) ?_
          refine (HW.out _ _ _ hz).mono ?_
          rintro e w4 ⟨rfl, hb4⟩
          refine ⟨_, rfl, ?_⟩
          have sz4 : w3.heap.size ≤ w4.heap.size := hb4.size
          have mx4 := mx3.below hb4
          have bx4 := bx3.below hb4
          have rx4 := rx3.below hb4
          replace hv := hv.below hb4
          replace hu := hu.below hb4
          replace hz := hz.below hb4
          refine hK.out _ _ ⟨bx4.c0, bx4.c1, bx4.c2⟩ (fun hHeld => ?_)
          clear hK K
          refine norm_ (a' := ?_) ?_ ?_
          rotate_left
          · show Act.put _ (some 20) _ = _
            simp only [Act.put, List.setIfInBounds_toArray, List.set_cons_zero, List.set_cons_succ, i64_w, i32_w]
            rfl
          refine pure_ (i := 12) (N := some 24) (v := ?_) (a' := ?_) #[true, true, true, true, true, true, true, true, true, true, true, true, true, true, false] rfl rfl (by kernel_rfl) (fun _ _ _ h => h) (Or.inl ⟨by rfl, ?_⟩) ?_ ?_
          rotate_left
          · intro w'
            go_simp
            with_reducible rfl
          rotate_left
          · simp only [Act.put, List.setIfInBounds_toArray, List.set_cons_zero, List.set_cons_succ, i64_w, i32_w]
            rfl
          have kmx40 := mx4.c0
          have kmx41 := mx4.c1
          have kmx42 := mx4.c2
          have qmx40 := mx4.f0
          have qmx41 := mx4.f1
          have qmx42 := mx4.f2
          refine last_ (i := 14) (N := none) #[true, true, true, true, true, true, true, true, true, true, true, true, true, true, true] rfl rfl (by kernel_rfl) (by decide) (fun K hK => ?_)
          refine skip_ (w1 := ?_) (by rfl) rfl ?_ ?_
          rotate_left
          · go_simp
            rfl
          refine hK.out _ _ ?_
          clear hK K
          refine done_ (by kernel_rfl) ?_
          have hgo := HGM.out
          have my0 := mx4.put3 (.bool b) (.slice A3 (digs m2).length c3) (.int .i64 (E - 1))
          have bz0 := bx4.far3 (g' := gm) (show w.heap.size ≠ gm by omega) (.bool b) (.slice A3 (digs m2).length c3) (.int .i64 (E - 1))
          have ry0 := rx4.far3 (g' := gm) (show w.heap.size + 1 ≠ gm by omega) (.bool b) (.slice A3 (digs m2).length c3) (.int .i64 (E - 1))
          replace hz := hz.far3 (g := gm) (fun j hj => by have h1 := hj.1; have h2 := hj.2; omega) (.bool b) (.slice A3 (digs m2).length c3) (.int .i64 (E - 1))
          replace hv := hv.far3 (g := gm) (fun j hj => by have h2 := hj.2; have h3 : j < wr.heap.size := h2; omega) (.bool b) (.slice A3 (digs m2).length c3) (.int .i64 (E - 1))
          have hBz : Below w.heap.size w (((w4.setCell ⟨gm, 0, none⟩ (.bool b)).setCell ⟨gm, 1, none⟩ (.slice A3 (digs m2).length c3)).setCell ⟨gm, 2, none⟩ (.int .i64 (E - 1))) := below3 (below_step (below_step (below_step (below_step HB.out.drew hb1) hb2) hb3) hb4) (by omega) _ _ _
          have hlz : wr.heap.size ≤ (((w4.setCell ⟨gm, 0, none⟩ (.bool b)).setCell ⟨gm, 1, none⟩ (.slice A3 (digs m2).length c3)).setCell ⟨gm, 2, none⟩ (.int .i64 (E - 1))).heap.size := by simp; omega
          replace hz := hz.mono (ok' := fun j => j ≠ w.heap.size ∧ j ≠ w.heap.size + 1) (fun j hj => by have h1 := hj.1; constructor <;> omega)
          generalize (((w4.setCell ⟨gm, 0, none⟩ (.bool b)).setCell ⟨gm, 1, none⟩ (.slice A3 (digs m2).length c3)).setCell ⟨gm, 2, none⟩ (.int .i64 (E - 1))) = wz at *
          clear hgo hHeld
          by_cases hnd : nd m2 ≤ 19
          · have hnd1 : ¬ (19 : Int) < (nd m2 : Int) := by omega
            have hrm : m2 ≤ 9999999999999999999 := by have := nd_le_iff.mp hnd; omega
            have HR := Aside0.mk hrm
            clear hrm hnd
            have kmy00 := my0.c0; have kmy01 := my0.c1; have kmy02 := my0.c2; have qmy00 := my0.f0; have qmy01 := my0.f1; have qmy02 := my0.f2
            have kbz00 := bz0.c0; have kbz01 := bz0.c1; have kbz02 := bz0.c2; have qbz00 := bz0.f0; have qbz01 := bz0.f1; have qbz02 := bz0.f2
            have kry00 := ry0.c0; have kry01 := ry0.c1; have kry02 := ry0.c2; have qry00 := ry0.f0; have qry01 := ry0.f1; have qry02 := ry0.f2
            go_wp2_with (first | (go_at_call 43; (with_reducible refine (HD.out _ _ _ hz).mono ?_); rintro e wz1 ⟨rfl, hbz1⟩; have szz1 := hbz1.size; (try simp at szz1); (with_reducible have my1 := my0.below hbz1); have kmy10 := my1.c0; have kmy11 := my1.c1; have kmy12 := my1.c2; have qmy10 := my1.f0; have qmy11 := my1.f1; have qmy12 := my1.f2; (with_reducible have bz1 := bz0.below hbz1); have kbz10 := bz1.c0; have kbz11 := bz1.c1; have kbz12 := bz1.c2; have qbz10 := bz1.f0; have qbz11 := bz1.f1; have qbz12 := bz1.f2; (with_reducible have ry1 := ry0.below hbz1); have kry10 := ry1.c0; have kry11 := ry1.c1; have kry12 := ry1.c2; have qry10 := ry1.f0; have qry11 := ry1.f1; have qry12 := ry1.f2; replace hz := hz.below hbz1))
            go_roundg (gk - 1)
            case measure => have := HG.out; omega
            case rel => exact ⟨k + 1, PSt.of (HP.out.step (by omega) (by omega) (by rw [HM2.out]; exact HR.out)) HM2.out (sgn_times HSG.out) (hz.far3 (fun j hj => hj.1) _ _ _) (bz1.put3 _ _ _) (by have := HE.out; omega), ry1.far3 (by omega) _ _ _, ⟨by have := HG.out; omega⟩, ⟨below3 (below_step hBz hbz1) (Nat.le_refl _) _ _ _⟩⟩
          · have hnd1 : (19 : Int) < (nd m2 : Int) := by omega
            have hrm : ¬ m2 ≤ 9999999999999999999 := by rw [nd_le_iff] at hnd; omega
            have HR := Aside0.mk hrm
            clear hrm hnd
            have kmy00 := my0.c0; have kmy01 := my0.c1; have kmy02 := my0.c2; have qmy00 := my0.f0; have qmy01 := my0.f1; have qmy02 := my0.f2
            have kbz00 := bz0.c0; have kbz01 := bz0.c1; have kbz02 := bz0.c2; have qbz00 := bz0.f0; have qbz01 := bz0.f1; have qbz02 := bz0.f2
            have kry00 := ry0.c0; have kry01 := ry0.c1; have kry02 := ry0.c2; have qry00 := ry0.f0; have qry01 := ry0.f1; have qry02 := ry0.f2
            go_wp2_with (first | (go_at_call 43; (with_reducible refine (HD.out _ _ _ hz).mono ?_); rintro e wz1 ⟨rfl, hbz1⟩; have szz1 := hbz1.size; (try simp at szz1); (with_reducible have my1 := my0.below hbz1); have kmy10 := my1.c0; have kmy11 := my1.c1; have kmy12 := my1.c2; have qmy10 := my1.f0; have qmy11 := my1.f1; have qmy12 := my1.f2; (with_reducible have bz1 := bz0.below hbz1); have kbz10 := bz1.c0; have kbz11 := bz1.c1; have kbz12 := bz1.c2; have qbz10 := bz1.f0; have qbz11 := bz1.f1; have qbz12 := bz1.f2; (with_reducible have ry1 := ry0.below hbz1); have kry10 := ry1.c0; have kry11 := ry1.c1; have kry12 := ry1.c2; have qry10 := ry1.f0; have qry11 := ry1.f1; have qry12 := ry1.f2; replace hz := hz.below hbz1))
            refine bodyPost_ret (v := .agg #[.bool b, .slice A1 q0 c1, .int .i64 E]) (by simp [results, Tryd.results21, go_sem, kry10, kry11, kry12]) rfl ⟨_, rfl, DPadded.of (HP.out.stop (.inr (by rw [HM2.out]; exact HR.out))) HP.out.eq ((hv.below hbz1).far3 (fun j hj => hj.1.2) _ _ _) HE.out, below3 (below_step hBz hbz1) (by omega) _ _ _⟩
    · have HE := Aside0.mk hE
      have HQ := Aside0.mk (hP.stop (.inl (by split at hk <;> omega)))
      have HP := Aside0.mk hP
      clear hE hP hml
      generalize hq0 : (digs m).length = q0 at *
      clear hq0
      go_wp2
      all_goals refine bodyPost_ret (v := .agg #[.bool b, .slice A1 q0 c1, .int .i64 E]) (by simp [results, Tryd.results21, go_sem, krx00, krx01, krx02]) rfl ⟨_, rfl, DPadded.of HQ.out HP.out.eq (hv.far3 (fun j hj => hj.2) _ _ _) HE.out, below3 HB.out (by omega) _ _ _⟩
end Go.Proofs.YtnjbfebeigginaaDoor.SpecWalk
