/-
  The reference's trimming of a decimal number.
-/
import Derived.Test.YtnjbfebeigginaaDoorSpecWalk3
import Derived.Test.YtnjbfebeigginaaDoorGvWalk3
set_option linter.unusedVariables false
set_option linter.unusedSimpArgs false
namespace Go.Proofs.YtnjbfebeigginaaDoor.SpecWalk
open Go.RowKit Go.Proofs.YtnjbfebeigginaaDoorW.PrintWords Go.Proofs.YtnjbfebeigginaaDoorW.PrintLast Go.Proofs.YtnjbfebeigginaaDoorW.PrintMore Go.Proofs.YtnjbfebeigginaaDoor.Digs Go.Proofs.YtnjbfebeigginaaDoor.StrLaw Go.Proofs.YtnjbfebeigginaaDoor.NatLaw Go.Proofs.YtnjbfebeigginaaDoor.NatWalk Go.Proofs.YtnjbfebeigginaaDoor.GvWalk

/-- How far a decimal number is trimmed. -/
structure Tri (b : Bool) (n s : Nat) (l : Int) (k : Nat) (c : Bool) (m : Nat) : Prop where
  mk :: (le : k ≤ s) (eq : n = m * 10 ^ (s - k)) (far : k = s ∨ l ≤ k) (sg : c = sgn b m)
theorem Tri.start {b : Bool} {n s : Nat} {l : Int} (hb : sgn b n = b) : Tri b n s l s b n := ⟨Nat.le_refl _, by rw [Nat.sub_self, Nat.pow_zero, Nat.mul_one], .inl rfl, hb.symm⟩
theorem Tri.step {b c : Bool} {n s k m : Nat} {l : Int} (h : Tri b n s l k c m) (h1 : l < k) (hl : 0 ≤ l) (h2 : m % 10 = 0) : Tri b n s l (k - 1) (sgn c (m / 10)) (m / 10) :=
  ⟨by have := h.le; omega, by
    have := h.le
    rw [show s - (k - 1) = (s - k) + 1 by omega, Nat.pow_succ, Nat.mul_comm (10 ^ (s - k)) 10, ← Nat.mul_assoc, Nat.div_mul_cancel (Nat.dvd_of_mod_eq_zero h2)]
    exact h.eq, .inr (by omega), by
    rw [h.sg]
    by_cases h0 : m / 10 = 0
    · rw [h0]; cases b <;> simp [sgn]
    · have : m ≠ 0 := by omega
      cases b <;> simp [sgn, Nat.pos_of_ne_zero this, Nat.pos_of_ne_zero h0]⟩
theorem Tri.stop {b c : Bool} {n s k m : Nat} {l : Int} (h : Tri b n s l k c m) (h1 : (k : Int) ≤ l ∨ m % 10 ≠ 0) : TrimTo n s l k ∧ m = n / 10 ^ (s - k) := by
  have hp : 0 < 10 ^ (s - k) := Nat.pow_pos (by decide)
  refine ⟨⟨h.le, ⟨m, by rw [Nat.mul_comm]; exact h.eq⟩, h.far, ?_⟩, by rw [h.eq, Nat.mul_div_cancel _ hp]⟩
  rcases h1 with h1 | h1
  · exact .inl h1
  · refine .inr (fun hd => h1 ?_)
    rw [h.eq, Nat.pow_succ] at hd
    rw [Nat.mul_comm m] at hd
    exact Nat.mod_eq_zero_of_dvd (Nat.dvd_of_mul_dvd_mul_left hp hd)

/-- The state of the loop: what the box of the number holds. -/
structure TSt (w : World) (g : Nat) (b : Bool) (n s : Nat) (l : Int) (k : Nat) : Prop where
  mk :: (out : ∃ c m, Tri b n s l k c m ∧ ∃ v, Rdv w (fun j => j ≠ g ∧ j ≠ g + 1) v m ∧ Box w g [.bool c, v, .int .i64 (-(k : Int))])
theorem Box.put3 {w : World} {g : Nat} {x y z : Value} (h : Box w g [x, y, z]) (a b c : Value) : Box (((w.setCell ⟨g, 0, none⟩ a).setCell ⟨g, 1, none⟩ b).setCell ⟨g, 2, none⟩ c) g [a, b, c] := by
  have h0 := h.c0; have h1 := h.c1; have h2 := h.c2
  have k0 := h.f0; have k1 := h.f1; have k2 := h.f2
  refine Box.mk3 ?_ ?_ ?_ ?_ ?_ ?_ <;> simp [go_sem, h0, h1, h2, k0, k1, k2]
theorem TSt.store {w : World} {g n s k m : Nat} {b c : Bool} {l E : Int} {v x y z : Value} (HT : Tri b n s l k c m) (hv : Rdv w (fun j => j ≠ g ∧ j ≠ g + 1) v m) (hb : Box w g [x, y, z]) (hE : E = -(k : Int)) :
    TSt (((w.setCell ⟨g, 0, none⟩ (.bool c)).setCell ⟨g, 1, none⟩ v).setCell ⟨g, 2, none⟩ (.int .i64 E)) g b n s l k :=
  ⟨c, m, HT, v, hv.far3 (fun j hj => hj.1) _ _ _, by rw [← hE]; exact hb.put3 _ _ _⟩
/-- A decimal number that is trimmed. -/
structure DTrimmed (w : World) (b : Bool) (n s : Nat) (l : Int) (v : Value) : Prop where
  mk :: (out : ∃ (k : Nat) (u : Value) (ok : Nat → Prop), v = .agg #[.bool (sgn b (n / 10 ^ (s - k))), u, .int .i64 (-(k : Int))] ∧ Rdv w ok u (n / 10 ^ (s - k)) ∧ TrimTo n s l k)

theorem DTrimmed.of {w : World} {b c : Bool} {n s k m : Nat} {l E : Int} {v : Value} {ok : Nat → Prop} (hF : TrimTo n s l k ∧ m = n / 10 ^ (s - k)) (sg : c = sgn b m) (hv : Rdv w ok v m) (hE : E = -(k : Int)) : DTrimmed w b n s l (.agg #[.bool c, v, .int .i64 E]) := by
  obtain ⟨h1, rfl⟩ := hF
  subst sg hE
  exact ⟨k, v, ok, rfl, hv, h1⟩
set_option maxHeartbeats 4000000 in
theorem decTrim_n (b : Bool) (n s : Nat) (l : Int) (oa : Nat → Prop) (v : Value) (w : World) (hv : Rdv w oa v n) (hb : sgn b n = b) (hs : s ≤ 19) (hn : n ≤ 9999999999999999999) (hl : 0 ≤ l ∧ l ≤ 9223372036854775807) :
    Calls Tryd.prog 24 #[.agg #[.bool b, v, .int .i64 (-(s : Int))], .int .i64 l] w fun e w' => ∃ v, e = .returned v ∧ DTrimmed w' b n s l v ∧ Below w.heap.size w w' := by
  obtain ⟨A, c0, rfl, _, _⟩ := hv.form
  replace hv := hv.bound
  have hneg : wrap64 (-l) = -l := by simp only [wrap64]; omega
  have HS := Tri.start (s := s) (l := l) hb
  have HN := Aside0.mk (And.intro hs hn)
  clear hs hn hb
  generalize hm : (digs n).length = m0 at *
  obtain ⟨E, hE⟩ : ∃ E : Int, E = -(s : Int) := ⟨_, rfl⟩
  rw [← hE]
  have HE0 := Aside0.mk hE
  clear hE
  go_enter Tryd.func24, Tryd.ntmps24
  go_wp2
  have bx0 : Box ((w.alloc (Obj.cells #[Value.bool b, Value.slice A m0 c0, Value.int .i64 E] 41)).alloc (Obj.cells #[Value.bool false, Value.slice none 0 0, Value.int .i64 0] 41)) w.heap.size [.bool b, .slice A m0 c0, .int .i64 E] := ((Box.new3 w _ _ _ _ _ (by simp)).alloc _)
  have rx0 : Box ((w.alloc (Obj.cells #[Value.bool b, Value.slice A m0 c0, Value.int .i64 E] 41)).alloc (Obj.cells #[Value.bool false, Value.slice none 0 0, Value.int .i64 0] 41)) (w.heap.size + 1) [.bool false, .slice none 0 0, .int .i64 0] := (Box.new3 (w.alloc (Obj.cells #[Value.bool b, Value.slice A m0 c0, Value.int .i64 E] 41)) _ _ _ _ _ (by simp))
  have hB0 : Below w.heap.size w ((w.alloc (Obj.cells #[Value.bool b, Value.slice A m0 c0, Value.int .i64 E] 41)).alloc (Obj.cells #[Value.bool false, Value.slice none 0 0, Value.int .i64 0] 41)) := (((Below.refl _ _).alloc (Nat.le_refl _) _).alloc (by simp) _)
  replace hv := hv.below hB0
  have hst : TSt (((w.alloc (Obj.cells #[Value.bool b, Value.slice A m0 c0, Value.int .i64 E] 41)).alloc (Obj.cells #[Value.bool false, Value.slice none 0 0, Value.int .i64 0] 41))) w.heap.size b n s l s := ⟨b, n, HS, .slice A m0 c0, hv.mono (fun k hk => by have := hk.2; constructor <;> omega), by rw [← HE0.out]; exact bx0⟩
  generalize ((w.alloc (Obj.cells #[Value.bool b, Value.slice A m0 c0, Value.int .i64 E] 41)).alloc (Obj.cells #[Value.bool false, Value.slice none 0 0, Value.int .i64 0] 41)) = w0 at *
  clear bx0 hv hm HS HE0
  obtain ⟨hgb, hgr⟩ : w.heap.size < w0.heap.size ∧ w.heap.size + 1 < w0.heap.size := ⟨by have := World.block_lt_of_cell? w0 _ rx0.c0; simp at this; omega, by have := World.block_lt_of_cell? w0 _ rx0.c0; simpa using this⟩
  go_loopg [5, 6] s (fun g v5 v6 w' => TSt w' w.heap.size b n s l g ∧ Box w' (w.heap.size + 1) [.bool false, .slice none 0 0, .int .i64 0] ∧ Aside0 (Below w.heap.size w w'))
  case atStart => exact ⟨hst, rx0, ⟨hB0⟩⟩
  case round =>
    clear hst rx0 hB0
    obtain ⟨hst, rx0, HB⟩ := hrel
    obtain ⟨c, m, hT, v, hv, bx0⟩ := hst.out
    obtain ⟨A1, c1, rfl, _, _⟩ := hv.form
    have hg1 := World.block_lt_of_cell? wr _ bx0.c0
    have hg2 := World.block_lt_of_cell? wr _ rx0.c0
    simp at hg1 hg2
    have hle := hT.le
    have HSG := Aside0.mk hT.sg
    have hml : (digs m).length ≤ 3 := digs_len m 3 (by
      have h1 : m * 1 ≤ m * 10 ^ (s - gk) := Nat.mul_le_mul_left _ (Nat.pow_pos (by decide))
      have h2 := hT.eq
      have h3 := HN.out.2
      omega)
    obtain ⟨E, hE⟩ : ∃ E : Int, E = -(gk : Int) := ⟨_, rfl⟩
    rw [← hE] at bx0
    have kbx00 := bx0.c0; have kbx01 := bx0.c1; have kbx02 := bx0.c2; have qbx00 := bx0.f0; have qbx01 := bx0.f1; have qbx02 := bx0.f2; have krx00 := rx0.c0; have krx01 := rx0.c1; have krx02 := rx0.c2; have qrx00 := rx0.f0; have qrx01 := rx0.f1; have qrx02 := rx0.f2
    by_cases hk : l < (gk : Int)
    · have hlt : E < -l := by omega
      have he1 : -100 ≤ E := by have := HN.out.1; omega
      have he2 : E ≤ 0 := by omega
      have hw1 : IntKind.i64.wrap (E + 1) = E + 1 := IntWalk.i64_in _ (by omega)
      by_cases h10 : m % 10 = 0
      · have hsh := fun oa v w hv => short_n m 10 oa v w hv (by decide) (by decide) (by omega)
        rw [h10, show ((10 : Nat) : Int) = 10 from rfl, show ((0 : Nat) : Int) = 0 from rfl] at hsh
        have HSh := Aside0.mk hsh
        have HW := Aside0.mk (fun ok v w hv => wholeOf_n c (m / 10) ok v w hv)
        have HT := hT.step hk hl.1 h10
        clear hsh hT
        have HE := Aside0.mk hE
        have HK := Aside0.mk hk
        have HL := Aside0.mk hle
        clear hE hk hle hml
        generalize m / 10 = m2 at *
        generalize sgn c m2 = c2 at *
        generalize hq0 : (digs m).length = q0 at *
        clear hq0
        go_wp2_with (first | (go_at_call 46; (with_reducible refine (HSh.out _ _ _ hv).mono ?_); rintro e w1 ⟨u, rfl, hu, hb1⟩; have sz1 := hb1.size; (try simp at sz1); (with_reducible have bx1 := bx0.below hb1); have kbx10 := bx1.c0; have kbx11 := bx1.c1; have kbx12 := bx1.c2; have qbx10 := bx1.f0; have qbx11 := bx1.f1; have qbx12 := bx1.f2; (with_reducible have rx1 := rx0.below hb1); have krx10 := rx1.c0; have krx11 := rx1.c1; have krx12 := rx1.c2; have qrx10 := rx1.f0; have qrx11 := rx1.f1; have qrx12 := rx1.f2; replace hu := hu.bound; obtain ⟨A2, c3, rfl, _, _⟩ := hu.form))
        replace hu := hu.drew
        replace bx1 := bx1.drew
        replace rx1 := rx1.drew
        replace hb1 := hb1.drew
        go_region_with ((first | (go_at_call 35; (with_reducible refine (HW.out _ _ _ hu).mono ?_); rintro e w2 ⟨rfl, hb2⟩; have sz2 := hb2.size; (try simp at sz2); (with_reducible have bx2 := bx1.below hb2); have kbx20 := bx2.c0; have kbx21 := bx2.c1; have kbx22 := bx2.c2; have qbx20 := bx2.f0; have qbx21 := bx2.f1; have qbx22 := bx2.f2; (with_reducible have rx2 := rx1.below hb2); have krx20 := rx2.c0; have krx21 := rx2.c1; have krx22 := rx2.c2; have qrx20 := rx2.f0; have qrx21 := rx2.f1; have qrx22 := rx2.f2)))
        all_goals go_wp2
        all_goals go_roundg (gk - 1)
        all_goals first | (have := HK.out; omega) | exact ⟨TSt.store HT ((hu.below hb2).mono (fun j hj => by have := hj.1; constructor <;> omega)) bx2 (by have := HE.out; have := HK.out; omega), rx2.far3 (by omega) _ _ _, ⟨below3 (below_step (below_step HB.out hb1) hb2) (Nat.le_refl _) _ _ _⟩⟩
      · have hsh := fun oa v w hv => short_n m 10 oa v w hv (by decide) (by decide) (by omega)
        obtain ⟨R, hR⟩ : ∃ R : Int, R = ((m % 10 : Nat) : Int) := ⟨_, rfl⟩
        rw [← hR, show ((10 : Nat) : Int) = 10 from rfl] at hsh
        have HSh := Aside0.mk hsh
        have hR0 : (R != 0) = true := by rw [bne_iff_ne]; omega
        have hR1 : ¬ R = 0 := by omega
        have HE := Aside0.mk hE
        have HF := Aside0.mk (hT.stop (.inr h10))
        clear hsh hR hE hml hT h10
        generalize hq0 : (digs m).length = q0 at *
        clear hq0
        go_wp2_with (first | (go_at_call 46; (with_reducible refine (HSh.out _ _ _ hv).mono ?_); rintro e w1 ⟨u, rfl, hu, hb1⟩; have sz1 := hb1.size; (try simp at sz1); (with_reducible have bx1 := bx0.below hb1); have kbx10 := bx1.c0; have kbx11 := bx1.c1; have kbx12 := bx1.c2; have qbx10 := bx1.f0; have qbx11 := bx1.f1; have qbx12 := bx1.f2; (with_reducible have rx1 := rx0.below hb1); have krx10 := rx1.c0; have krx11 := rx1.c1; have krx12 := rx1.c2; have qrx10 := rx1.f0; have qrx11 := rx1.f1; have qrx12 := rx1.f2; obtain ⟨A2, c3, rfl, _, _⟩ := hu.form))
        refine bodyPost_ret (v := .agg #[.bool c, .slice A1 q0 c1, .int .i64 E]) (by simp [results, Tryd.results24, go_sem, krx10, krx11, krx12]) rfl ⟨_, rfl, DTrimmed.of HF.out HSG.out ((hv.below hb1).far3 (fun j hj => hj.2) _ _ _) HE.out, below3 (below_step HB.out hb1) (by omega) _ _ _⟩
    · have HE := Aside0.mk hE
      have HF := Aside0.mk (hT.stop (.inl (by omega)))
      have hlt : ¬ E < -l := by omega
      clear hE hT hml
      generalize hq0 : (digs m).length = q0 at *
      clear hq0
      go_wp2
      refine bodyPost_ret (v := .agg #[.bool c, .slice A1 q0 c1, .int .i64 E]) (by simp [results, Tryd.results24, go_sem, krx00, krx01, krx02]) rfl ⟨_, rfl, DTrimmed.of HF.out HSG.out (hv.far3 (fun j hj => hj.2) _ _ _) HE.out, below3 HB.out (by omega) _ _ _⟩
end Go.Proofs.YtnjbfebeigginaaDoor.SpecWalk
