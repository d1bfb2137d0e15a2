/-
  The reference's quotient and remainder of two numbers.
-/
import Derived.Test.YtnjbfebeigginaaDoorNatLaw3
set_option linter.unusedVariables false
set_option linter.unusedSimpArgs false
namespace Go.Proofs.YtnjbfebeigginaaDoor.NatWalk
open Go.RowKit Go.Proofs.YtnjbfebeigginaaDoorW.PrintWords Go.Proofs.YtnjbfebeigginaaDoorW.PrintLast Go.Proofs.YtnjbfebeigginaaDoorW.PrintMore Go.Proofs.YtnjbfebeigginaaDoor.Digs Go.Proofs.YtnjbfebeigginaaDoor.StrLaw Go.Proofs.YtnjbfebeigginaaDoor.NatLaw

/-- What a division gives. -/
structure Quo (w : World) (base : Nat) (q r : Nat) (v : Value) : Prop where
  mk :: (out : ∃ x y, v = .tuple #[x, y] ∧ Rdv w (fun k => base ≤ k) x q ∧ Rdv w (fun k => base ≤ k) y r)

set_option maxHeartbeats 4000000 in
theorem div_less (a b : Nat) (oa ob : Nat → Prop) (v u : Value) (w : World) (hv : Rdv w oa v a) (hu : Rdv w ob u b) (hab : a < b) (hl : (digs a).length ≤ 4000000000) :
    Calls Tryd.prog 31 #[v, u] w fun e w' => ∃ z, e = .returned z ∧ Quo w' w.heap.size 0 a z ∧ Below w.heap.size w w' := by
  obtain ⟨A0, c0, rfl, hl0, hC0⟩ := hv.form
  obtain ⟨A1, c1, rfl, hl1, hC1⟩ := hu.form
  have hc := fun w hv hu => cmp_n a b oa ob (.slice A0 (digs a).length c0) (.slice A1 (digs b).length c1) w hv hu hl
  rw [show cmpN a b = -1 by unfold cmpN; rw [if_pos hab]] at hc
  have HC := Aside0.mk hc
  have HR0 := Aside0.mk hC0
  have hC9 := hC0
  have HL := Aside0.mk hl
  have HB := Aside0.mk (Below.refl w.heap.size w)
  clear hC0 hC1 hl0 hl1 hl hab hc
  go_enter Tryd.func31, Tryd.ntmps31
  go_wp2_with (first | (go_at_call 14; refine (HC.out _ hv hu).mono ?_; rintro e w1 ⟨rfl, ⟨nd, rfl⟩⟩; replace HB := Aside0.mk (pw_below_drewN HB.out (n := nd)); replace HR0 := Aside0.mk (Kd.C_below HR0.out HB.out)) | ((with_reducible refine gate_dst (N := 18) rfl ?_); refine Kd.R_lit (Kd.int .u32) (w0 := w) w.heap.size 59 ?hg (N := 18) ?hd (xs := ([] : List Int)) (inner := []) (ok := fun _ => True) (okp := fun _ => True) ?hr ?hp (fun _ hk => hk) trivial HB.out (below_size HB.out) (by simp) ?_; (case hd => rfl); (case hg => rfl); (case hr => first | (go_simp; done) | (go_simp; rfl)); (case hp => exact (Reps.none _ _)); intro v6 w6 ho hb hg_ hnew_; have HO := Aside0.mk ho; clear hg_ hnew_ ho; have HR6 := Aside0.mk (Kd.C_below hC9 hb); replace HB := Aside0.mk hb; clear hb) | ((with_reducible refine gate_builtin (b := .append) (xs := #[.tmp 18, .tmp 19]) rfl ?_); at_builtin; refine Kd.R_append_rows (Kd.int .u32) (w0 := w) w.heap.size rfl (.tmp 18) (.tmp 19) 32 59 (.int .u32 0) 4 rfl Tryd.underlying32 infoU rfl (by decide) (by omega) v6 [] (digs a) _ _ _ (fun _ => True) (fun _ => False) rfl rfl HO.out HR6.out (fun _ _ h => h) (fun _ h => h.elim) (fun _ _ => trivial) HB.out (below_size HB.out) (by have := HL.out; simp; omega) ?_; intro v8 w8 ho hb hg hat; have HO8 := Aside0.mk ho; have HB8 := Aside0.mk hb; clear ho hb hg hat))
  refine bodyPost_ret (v := .tuple #[.slice none 0 0, v8]) (by simp [results, Tryd.results31, go_sem]) rfl ⟨_, rfl, ⟨_, _, rfl, (Rdv.nil _).mono (fun _ h => h.elim), Rdv.of_R HO8.out⟩, HB8.out⟩
theorem cmpN_ge {a b : Nat} (h : b ≤ a) : 0 ≤ cmpN a b ∧ ¬ cmpN a b < 0 := by
  unfold cmpN
  rw [if_neg (by omega)]
  split <;> simp
set_option maxHeartbeats 4000000 in
theorem div_one (a b : Nat) (oa ob : Nat → Prop) (v u : Value) (w : World) (hv : Rdv w oa v a) (hu : Rdv w ob u b) (hab : b ≤ a) (hb1 : 0 < b) (hb2 : b < 1000000000) (hl : (digs a).length ≤ 4000000000) :
    Calls Tryd.prog 31 #[v, u] w fun e w' => ∃ z, e = .returned z ∧ Quo w' w.heap.size (a / b) (a % b) z ∧ Below w.heap.size w w' := by
  have hd := digs_one (n := b) (by omega) hb2
  obtain ⟨A0, c0, rfl, hl0, hC0⟩ := hv.form
  obtain ⟨A1, c1, rfl, hl1, hC1⟩ := hu.form
  obtain ⟨hc1, hc2⟩ := cmpN_ge hab
  have hc := fun w hv hu => cmp_n a b oa ob (.slice A0 (digs a).length c0) (.slice A1 (digs b).length c1) w hv hu hl
  have hs := fun w hv => short_n a b oa (.slice A0 (digs a).length c0) w hv hb1 (by omega) hl
  have hf := fun w => from_n (a % b) w (by have := Nat.mod_lt a hb1; omega)
  have hlb : ((digs b).length : Int) = 1 := by rw [hd]; rfl
  obtain ⟨ad, e0, hx⟩ := Kd.at_int hC1 0 (by omega) (by omega)
  rw [hd] at hx
  have hx' : w.cell? ad = some (.int .u32 b) := by have h : w.cell? (ad.add 0) = some (.int .u32 b) := hx; simpa [Addr.add] using h
  have hm : ((a % b : Nat) : Int) < 1000000000 := by have := Nat.mod_lt a hb1; omega
  have hwm : IntKind.u64.wrap ((a % b : Nat) : Int) = ((a % b : Nat) : Int) := wu64 _ (by omega) (by omega)
  generalize hR : ((a % b : Nat) : Int) = R at *
  generalize hK : cmpN a b = K at *
  have HC := Aside0.mk hc
  have HS := Aside0.mk hs
  have HF := Aside0.mk hf
  clear hc hs hf hC0 hC1 hl0 hl1 hl hab hx hd hR hK hm
  cases e0
  go_enter Tryd.func31, Tryd.ntmps31
  go_wp2_with (first | (go_at_call 14; refine (HC.out _ hv hu).mono ?_; rintro e w1 ⟨rfl, ⟨nd, rfl⟩⟩) | (go_at_call 46; (try rw [show ((b : Nat) : Int) = (b : Int) from rfl]); refine (HS.out _ (hv.below (pw_below_drewN (Below.refl w.heap.size w) (n := nd)))).mono ?_; rintro e w2 ⟨q, rfl, hq, hb2⟩; obtain ⟨A2, c2, rfl, _, _⟩ := hq.form) | (go_at_call 11; refine (HF.out _).mono ?_; rintro e w3 ⟨r, rfl, hr, hb3⟩))
  have hdn : Below w.heap.size w (w.drewN nd) := pw_below_drewN (Below.refl w.heap.size w) (n := nd)
  have hsz := hb2.size
  refine bodyPost_ret (v := .tuple #[.slice A2 (digs (a / b)).length c2, r]) (by simp [results, Tryd.results31, go_sem]) rfl ⟨_, rfl, ⟨_, _, rfl, (hq.below hb3).mono (fun k hk => hk), hr.mono (fun k hk => Nat.le_trans hsz hk)⟩, below_step (below_step hdn hb2) hb3⟩

theorem guess_n (r y : Nat) (oa ob : Nat → Prop) (v u : Value) (w : World) (hv : Rdv w oa v r) (hu : Rdv w ob u y) (hy : 0 < y) (hr : r < y * 1000000000) (hl : (digs y).length ≤ 4000000000) :
    Calls Tryd.prog 54 #[v, u] w fun e w' => ∃ g : Nat, e = .returned (.int .u64 g) ∧ (r / y ≤ g ∧ g ≤ 999999999) ∧ Below w.heap.size w w' := by
  obtain ⟨A0, c0, rfl, hl0, hC0⟩ := hv.form
  obtain ⟨A1, c1, rfl, hl1, hC1⟩ := hu.form
  obtain ⟨g, hg, h1, h2⟩ := guess_ev r y hy hr hl
  have h0 : (0 : Int) ≤ ((r / y : Nat) : Int) := Int.natCast_nonneg _
  obtain ⟨G, rfl⟩ := Int.eq_ofNat_of_zero_le (show 0 ≤ g by omega)
  refine (Go.Proofs.YtnjbfebeigginaaDoor.PnatGuess.spec_natGuess.calls A0 c0 (digs r) A1 c1 (digs y) G w hC0 hl0 hC1 hl1 hg).mono ?_
  rintro e w' ⟨he, hd⟩
  exact ⟨G, he, ⟨Int.ofNat_le.mp h1, by omega⟩, hd⟩
end Go.Proofs.YtnjbfebeigginaaDoor.NatWalk
