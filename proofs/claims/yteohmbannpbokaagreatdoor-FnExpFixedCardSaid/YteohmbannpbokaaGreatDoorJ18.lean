/-
 The reference's range for a logarithm.
-/
import Derived.Test.YteohmbannpbokaaGreatDoorJ17
set_option maxRecDepth 100000
set_option exponentiation.threshold 2000
set_option linter.unusedVariables false
set_option linter.unusedSimpArgs false
namespace Go.Proofs.YteohmbannpbokaaGreatDoor.SpecWalk
open Go.RowKit Go.Proofs.YteohmbannpbokaaGreatDoorW.PrintWords Go.Proofs.YteohmbannpbokaaGreatDoorW.PrintLast Go.Proofs.YteohmbannpbokaaGreatDoorW.PrintMore Go.Proofs.YteohmbannpbokaaGreatDoor.Digs Go.Proofs.YteohmbannpbokaaGreatDoor.StrLaw Go.Proofs.YteohmbannpbokaaGreatDoor.NatLaw Go.Proofs.YteohmbannpbokaaGreatDoor.NatWalk Go.Proofs.YteohmbannpbokaaGreatDoor.ExpLaw
structure Ln1 (a0 b0 h : Nat) : Prop where
 hh : h = 0 ∨ 2 * (b0 * 2 ^ h) < 3 * a0
 le : b0 * 2 ^ h < 2 ^ 401
 hb : h ≤ 400
theorem Ln1.start {a0 b0 : Nat} (hb : b0 < 2 ^ 400) : Ln1 a0 b0 0 := ⟨.inl rfl, by rw [Nat.pow_zero, Nat.mul_one]; exact Nat.lt_trans hb (Nat.pow_lt_pow_right (by decide) (by decide)), by decide⟩
theorem two_up (x h : Nat) : x * 2 ^ (h + 1) = 2 * (x * 2 ^ h) := by rw [Nat.pow_succ, ← Nat.mul_assoc, Nat.mul_comm _ 2]
theorem pow_lt_of {x h k : Nat} (hx : 0 < x) (hl : x * 2 ^ h < 2 ^ k) : h < k := by
 apply Classical.byContradiction
 intro hn
 have h1 : 2 ^ k ≤ 2 ^ h := Nat.pow_le_pow_right (by decide) (by omega)
 have h2 : 2 ^ h ≤ x * 2 ^ h := Nat.le_mul_of_pos_left _ hx
 omega
theorem Ln1.step {a0 b0 h : Nat} (ha : a0 < 2 ^ 400) (hb0 : 0 < b0) (H : Ln1 a0 b0 h) (hc : b0 * 2 ^ h * 4 < a0 * 3) : Ln1 a0 b0 (h + 1) := by
 have e := two_up b0 h
 have e1 : (2 : Nat) ^ 401 = 2 * 2 ^ 400 := by rw [show 401 = 400 + 1 from rfl, Nat.pow_succ, Nat.mul_comm]
 have hl : b0 * 2 ^ h < 2 ^ 400 := by
   generalize (2 : Nat) ^ 400 = P at *
   generalize b0 * 2 ^ h = x at *
   omega
 have h3 := pow_lt_of hb0 hl
 refine ⟨.inr ?_, ?_, by omega⟩
 · rw [e]; omega
 · rw [e, e1]
   generalize (2 : Nat) ^ 400 = P at *
   omega
structure Ln2 (a0 b0 h m : Nat) : Prop where
 hm : h = 0 ∨ m = 0
 up : 3 * (a0 * 2 ^ m) ≤ 4 * (b0 * 2 ^ h)
 le : a0 * 2 ^ m < 2 ^ 402
 hb : m ≤ 401
theorem Ln2.start {a0 b0 h : Nat} (ha : a0 < 2 ^ 400) (hc : ¬ b0 * 2 ^ h * 4 < a0 * 3) : Ln2 a0 b0 h 0 := by
 have e1 : (2 : Nat) ^ 400 < 2 ^ 402 := Nat.pow_lt_pow_right (by decide) (by decide)
 refine ⟨.inr rfl, ?_, ?_, by decide⟩ <;> rw [Nat.pow_zero, Nat.mul_one]
 · omega
 · exact Nat.lt_trans ha e1
theorem Ln2.step {a0 b0 h m : Nat} (ha0 : 0 < a0) (H1 : Ln1 a0 b0 h) (H : Ln2 a0 b0 h m) (hc : a0 * 2 ^ m * 3 < b0 * 2 ^ h + b0 * 2 ^ h) : Ln2 a0 b0 h (m + 1) := by
 have e := two_up a0 m
 have e1 : (2 : Nat) ^ 402 = 2 * 2 ^ 401 := by rw [show 402 = 401 + 1 from rfl, Nat.pow_succ, Nat.mul_comm]
 have hl : a0 * 2 ^ m < 2 ^ 401 := by
   have := H1.le
   generalize (2 : Nat) ^ 401 = P at *
   generalize b0 * 2 ^ h = x at *
   generalize a0 * 2 ^ m = y at *
   omega
 have h3 := pow_lt_of ha0 hl
 refine ⟨?_, ?_, ?_, by omega⟩
 · rcases H1.hh with h0 | h0
   · exact .inl h0
   · exfalso
     have : a0 ≤ a0 * 2 ^ m := Nat.le_mul_of_pos_right _ (Nat.pow_pos (by decide))
     generalize a0 * 2 ^ m = y at *
     generalize b0 * 2 ^ h = x at *
     omega
 · rw [e]
   generalize a0 * 2 ^ m = y at *
   generalize b0 * 2 ^ h = x at *
   omega
 · rw [e, e1]
   generalize (2 : Nat) ^ 401 = P at *
   omega
structure LnIn (a0 b0 T : Nat) (lo hi : Int) : Prop where
 mk :: (out : ∃ h m n n3 : Nat, (h = 0 ∨ m = 0) ∧ 2 * (b0 * 2 ^ h) ≤ 3 * (a0 * 2 ^ m) ∧ 3 * (a0 * 2 ^ m) ≤ 4 * (b0 * 2 ^ h) ∧
   pws (if b0 * 2 ^ h ≤ a0 * 2 ^ m then a0 * 2 ^ m - b0 * 2 ^ h else b0 * 2 ^ h - a0 * 2 ^ m) (a0 * 2 ^ m + b0 * 2 ^ h) T n = 0 ∧ pws 1 3 T n3 = 0 ∧
   lo = slow (a0 * 2 ^ m) (b0 * 2 ^ h) T n ((h : Int) - m) n3 ∧ hi = shigh (a0 * 2 ^ m) (b0 * 2 ^ h) T n ((h : Int) - m) n3)
theorem LnIn.law {a0 b0 T : Nat} {lo hi : Int} (ha : 0 < a0) (hb : 0 < b0) (hT : 0 < T) (H : LnIn a0 b0 T lo hi) : ELe ((lo : Rat) / T) ((a0 : Rat) / b0) ∧ ELe (-((hi : Rat) / T)) ((b0 : Rat) / a0) := by
 obtain ⟨h, m, n, n3, hm, h1, h2, p1, p2, rfl, rfl⟩ := H.out
 exact span_law ha hb hm h1 h2 hT p1 p2
theorem len_pow2 {x k : Nat} (h : x < 2 ^ k) (hk : k ≤ 20 * 29) : (digs x).length ≤ 20 := by
 apply len_digs_le
 have h1 : (2 : Nat) ^ k ≤ 2 ^ (29 * 20) := Nat.pow_le_pow_right (by decide) (by omega)
 have h2 : (2 : Nat) ^ (29 * 20) = (2 ^ 29) ^ 20 := Nat.pow_mul 2 29 20
 have h3 : ((2 : Nat) ^ 29) ^ 20 ≤ 1000000000 ^ 20 := Nat.pow_le_pow_left (by decide) 20
 rw [h2] at h1
 exact Nat.lt_of_lt_of_le h (Nat.le_trans h1 h3)
theorem Box.put4 {w : World} {g : Nat} {x y z t : Value} (h : Box w g [x, y, z, t]) (a b c d : Value) : Box ((((w.setCell ⟨g, 0, none⟩ a).setCell ⟨g, 1, none⟩ b).setCell ⟨g, 2, none⟩ c).setCell ⟨g, 3, none⟩ d) g [a, b, c, d] := by
 have h0 := h.c0; have h1 := h.c1; have h2 := h.c2; have h3 := h.c3
 have k0 := h.f0; have k1 := h.f1; have k2 := h.f2; have k3 := h.f3
 refine Box.mk4 ?_ ?_ ?_ ?_ ?_ ?_ ?_ ?_ <;> simp [go_sem, h0, h1, h2, h3, k0, k1, k2, k3]
def tlo (x y k : Int) : Int := if 0 ≤ k then x * k else y * k
theorem STim_n (x y k : Int) (ox oy ok : Nat → Prop) (v u t : Value) (w : World) (hv : Rdv w ox v x.natAbs) (hu : Rdv w oy u y.natAbs) (ht : Rdv w ok t k.natAbs)
   (h1 : (digs x.natAbs).length ≤ 100000000) (h2 : (digs y.natAbs).length ≤ 100000000) (h3 : (digs k.natAbs).length ≤ 100000000) :
   Calls Tryz.prog 58 #[.agg #[.bool (ng x), v, .bool (ng y), u], .agg #[.bool (ng k), t]] w fun en w' => ∃ z t, en = .returned (.agg #[.bool (ng (tlo x y k)), z, .bool (ng (tlo y x k)), t]) ∧ Rdv w' (fun k => w.heap.size ≤ k) z (tlo x y k).natAbs ∧ Rdv w' (fun k => w.heap.size ≤ k) t (tlo y x k).natAbs ∧ Below w.heap.size w w' := by
 unfold tlo
 by_cases hk : 0 ≤ k
 · simp only [if_pos hk]; exact STim_pos x y k ox oy ok v u t w hk hv hu ht h1 h2 h3
 · simp only [if_neg hk]; exact STim_neg x y k ox oy ok v u t w (by omega) hv hu ht h1 h2 h3
theorem dhigh_le {p q pl n : Nat} (hq : 0 < q) (h : 3 * p ≤ q) (hpl : pl ≤ 400) (hn : n ≤ 2 * pl + 1) : dlow p q (10 ^ pl) n ≤ dhigh p q (10 ^ pl) n ∧ dhigh p q (10 ^ pl) n ≤ 10000 * 10 ^ pl := by
 have h1 := sms_le hq h (10 ^ pl) n
 have h2 : n * 10 ^ pl ≤ 801 * 10 ^ pl := Nat.mul_le_mul_right _ (by omega)
 have h3 : 0 < 10 ^ pl := Nat.pow_pos (by decide)
 unfold dlow dhigh
 omega
theorem len_big {a pl : Nat} (hpl : pl ≤ 400) (h : a ≤ 10000000 * 10 ^ pl) : (digs a).length ≤ 1000 := by
 have h1 : 10000000 * 10 ^ pl ≤ 1000 * 10 ^ (pl + 4) := by rw [Nat.pow_add]; omega
 have := len_ten (Nat.le_trans h h1)
 omega
theorem tlo_abs {x y : Nat} {k : Int} (h1 : x ≤ y) (hk : -401 ≤ k ∧ k ≤ 400) : (tlo (x : Int) y k).natAbs ≤ 401 * y ∧ (tlo (y : Int) x k).natAbs ≤ 401 * y := by
 have key : ∀ z : Nat, z ≤ y → ((z : Int) * k).natAbs ≤ 401 * y := by
   intro z hz
   rw [Int.natAbs_mul, Int.natAbs_natCast, Nat.mul_comm]
   exact Nat.mul_le_mul (by omega) hz
 unfold tlo
 split
 · exact ⟨key x h1, key y (Nat.le_refl _)⟩
 · exact ⟨key y (Nat.le_refl _), key x h1⟩
set_option maxHeartbeats 4000000 in
theorem LnSpan_n (a0 b0 pl : Nat) (oa ob : Nat → Prop) (v u : Value) (w : World) (hv : Rdv w oa v a0) (hu : Rdv w ob u b0) (ha0 : 0 < a0) (hb0 : 0 < b0) (ha : a0 < 2 ^ 400) (hb : b0 < 2 ^ 400) (hpl : pl ≤ 400) :
   Calls Tryz.prog 32 #[.agg #[.bool false, v, u], .int .i64 pl] w fun e w' => ∃ (lo hi : Int) (z t : Value), e = .returned (.agg #[.bool (ng lo), z, .bool (ng hi), t]) ∧ Aside0 (LnIn a0 b0 (10 ^ pl) lo hi ∧ (digs lo.natAbs).length ≤ 1000 ∧ (digs hi.natAbs).length ≤ 1000) ∧ Rdv w' (fun k => w.heap.size ≤ k) z lo.natAbs ∧ Rdv w' (fun k => w.heap.size ≤ k) t hi.natAbs ∧ Below w.heap.size w w' := by
 obtain ⟨A, c, rfl, _, _⟩ := hv.form
 obtain ⟨A', c', rfl, _, _⟩ := hu.form
 have hva := Aside0.mk hv
 have hub := Aside0.mk hu
 have HB0 := Aside0.mk hb
 have HA0 := Aside0.mk ha
 generalize hla : (digs a0).length = la at *
 generalize hlb : (digs b0).length = lb at *
 clear hv hu ha hb
 have h402 : ∀ x, x < 2 ^ 402 → (digs x).length ≤ 20 := fun x hx => len_pow2 hx (by decide)
 have hla2 : la ≤ 20 := by rw [← hla]; exact len_pow2 HA0.out (by decide)
 have l3 : (digs 3).length ≤ 1 := len_digs_le (by decide)
 have l4 : (digs 4).length ≤ 1 := len_digs_le (by decide)
 have hlt1 : ∀ {x : Nat}, x < 2 ^ 401 → x < 2 ^ 402 := fun h => Nat.lt_trans h (Nat.pow_lt_pow_right (by decide) (by decide))
 have HA3 := Aside0.mk (fun oa ob v u w hv hu => mul_n a0 3 oa ob v u w hv hu (by rw [hla]; omega))
 have HB4 := Aside0.mk (fun h (H : Ln1 a0 b0 h) oa ob v u w hv hu => mul_n (b0 * 2 ^ h) 4 oa ob v u w hv hu (by have := h402 _ (hlt1 H.le); omega))
 have HC1 := Aside0.mk (fun h (H : Ln1 a0 b0 h) oa ob v u w hv hu => cmp_n (a0 * 3) (b0 * 2 ^ h * 4) oa ob v u w hv hu (by have := len_mul_le a0 3; rw [hla] at this; omega))
 have HBB := Aside0.mk (fun h (H : Ln1 a0 b0 h) oa ob v u w hv hu => add_n (b0 * 2 ^ h) (b0 * 2 ^ h) oa ob v u w hv hu (by have := h402 _ (hlt1 H.le); omega) (by have := h402 _ (hlt1 H.le); omega))
 have HM3 := Aside0.mk (fun h m (H : Ln2 a0 b0 h m) oa ob v u w hv hu => mul_n (a0 * 2 ^ m) 3 oa ob v u w hv hu (by have := h402 _ H.le; omega))
 have HC2 := Aside0.mk (fun h m (H : Ln2 a0 b0 h m) oa ob v u w hv hu => cmp_n (a0 * 2 ^ m * 3) (b0 * 2 ^ h + b0 * 2 ^ h) oa ob v u w hv hu (by have := len_mul_le (a0 * 2 ^ m) 3; have := h402 _ H.le; omega))
 have HMM := Aside0.mk (fun h m (H : Ln2 a0 b0 h m) oa ob v u w hv hu => add_n (a0 * 2 ^ m) (a0 * 2 ^ m) oa ob v u w hv hu (by have := h402 _ H.le; omega) (by have := h402 _ H.le; omega))
 clear h402 hlt1 l3 l4 hla2
 go_enter Tryz.func32, Tryz.ntmps32
 go_wp2_with fail
 have ax0 : Box ((w.alloc (Obj.cells #[Value.bool false, Value.slice A la c, Value.slice A' lb c'] 30)).alloc (Obj.cells #[Value.bool false, Value.slice none 0 0, Value.bool false, Value.slice none 0 0] 74)) w.heap.size [.bool false, .slice A la c, .slice A' lb c'] := ((Box.new3 w _ _ _ _ _ (by simp)).alloc _)
 have rx0 : Box ((w.alloc (Obj.cells #[Value.bool false, Value.slice A la c, Value.slice A' lb c'] 30)).alloc (Obj.cells #[Value.bool false, Value.slice none 0 0, Value.bool false, Value.slice none 0 0] 74)) (w.heap.size + 1) [.bool false, .slice none 0 0, .bool false, .slice none 0 0] := (Box.new4 (w.alloc (Obj.cells #[Value.bool false, Value.slice A la c, Value.slice A' lb c'] 30)) _ _ _ _ _ _ (by simp))
 have hB0 : Below w.heap.size w ((w.alloc (Obj.cells #[Value.bool false, Value.slice A la c, Value.slice A' lb c'] 30)).alloc (Obj.cells #[Value.bool false, Value.slice none 0 0, Value.bool false, Value.slice none 0 0] 74)) := (((Below.refl _ _).alloc (Nat.le_refl _) _).alloc (by simp) _)
 have sz0 : ((w.alloc (Obj.cells #[Value.bool false, Value.slice A la c, Value.slice A' lb c'] 30)).alloc (Obj.cells #[Value.bool false, Value.slice none 0 0, Value.bool false, Value.slice none 0 0] 74)).heap.size = w.heap.size + 1 + 1 := by simp
 generalize ((w.alloc (Obj.cells #[Value.bool false, Value.slice A la c, Value.slice A' lb c'] 30)).alloc (Obj.cells #[Value.bool false, Value.slice none 0 0, Value.bool false, Value.slice none 0 0] 74)) = w0 at *
 have q0 := ax0.c0; have q1 := ax0.c1; have q2 := ax0.c2
 go_region
 go_wp2_with fail
 have R3 := (Rdv.lit1 w0 3 (by decide) (by decide))
 have R3 := R3.below ((Below.refl _ _).alloc (Nat.le_refl _) (Obj.cells #[Value.int .u32 4] 44))
 have R4 := (Rdv.lit1 (w0.alloc (Obj.cells #[.int .u32 3] 44)) 4 (by decide) (by decide))
 have sz1 : (w0.alloc (Obj.cells #[.int .u32 3] 44)).heap.size = w0.heap.size + 1 := by simp
 have R3 := Aside0.mk R3.drew
 have R4 := Aside0.mk R4.drew
 have hBq := (((Below.refl w0.heap.size w0).alloc (Nat.le_refl _) (Obj.cells #[.int .u32 3] 44)).alloc (by simp) (Obj.cells #[.int .u32 4] 44)).drew
 have RX := Aside0.mk (rx0.below hBq)
 have hBq := below_step hB0 hBq
 have sz2 : ((w0.alloc (Obj.cells #[.int .u32 3] 44)).alloc (Obj.cells #[.int .u32 4] 44)).drew.heap.size = w0.heap.size + 2 := by simp
 have HVA := Aside0.mk (hva.out.below hBq)
 have HUB := Aside0.mk (hub.out.below hBq)
 have HBq := Aside0.mk hBq
 rw [sz1, sz0] at R4
 rw [sz0] at R3
 simp only [show ((3 : Nat) : Int) = 3 from rfl, show ((4 : Nat) : Int) = 4 from rfl] at R3 R4
 generalize ((w0.alloc (Obj.cells #[.int .u32 3] 44)).alloc (Obj.cells #[.int .u32 4] 44)).drew = W0 at *
 clear q0 q1 q2 ax0 rx0 hB0 hBq hva hub sz1
 go_loopg [6, 7] 401 (fun g v6 v7 w' => ∃ h : Nat, v7 = .int .i64 h ∧ Aside0 (h + g = 401 ∧ Ln1 a0 b0 h) ∧ Aside0 (Rdv w' (fun _ => True) v6 (b0 * 2 ^ h)) ∧ Aside0 (Below W0.heap.size W0 w'))
 case atStart => exact ⟨0, rfl, ⟨by omega, Ln1.start HB0.out⟩, ⟨by rw [Nat.pow_zero, Nat.mul_one]; exact HUB.out.mono (fun _ _ => trivial)⟩, ⟨Below.refl _ _⟩⟩
 case round =>
   obtain ⟨h, rfl, HG, HD, HB⟩ := hrel
   obtain ⟨A7, c7, e7, _, _⟩ := HD.out.form
   subst e7
   by_cases hc : b0 * 2 ^ h * 4 < a0 * 3
   · have p1 : (0 < cmpN (a0 * 3) (b0 * 2 ^ h * 4)) = True := eq_true (by unfold cmpN; rw [if_neg (by omega), if_neg (by omega)]; decide)
     have HCC := Aside0.mk hc
     clear hc
     have hh : (h : Int) ≤ 400 := by have := HG.out.2.hb; omega
     go_wp2_with (first
       | (go_at_call 37; with_reducible refine (HA3.out _ _ _ _ _ (HVA.out.below HB.out) (R3.out.below HB.out)).mono ?_; rintro e w6 ⟨z6, rfl, hx6, hb6⟩)
       | (go_at_call 37; with_reducible refine (HB4.out h HG.out.2 _ _ _ _ _ (HD.out.below hb6) ((R4.out.below HB.out).below hb6)).mono ?_; rintro e w7 ⟨z7, rfl, hx7, hb7⟩)
       | (go_at_call 38; with_reducible refine (HC1.out h HG.out.2 _ _ _ _ _ (hx6.below hb7) hx7).mono ?_; rintro e w8 ⟨rfl, hd8⟩; have hb8 := hd8.below)
       | (go_at_call 54; with_reducible refine (HBB.out h HG.out.2 _ _ _ _ _ (((HD.out.below hb6).below hb7).below hb8) (((HD.out.below hb6).below hb7).below hb8)).mono ?_; rintro e w9 ⟨z9, rfl, hx9, hb9⟩))
     go_roundg (gk - 1)
     case measure => have := HG.out.1; omega
     case rel => exact ⟨h + 1, rfl, ⟨by have := HG.out.1; omega, HG.out.2.step HA0.out hb0 HCC.out⟩, ⟨by rw [two_up, Nat.two_mul]; exact hx9.mono (fun _ _ => trivial)⟩, ⟨below_step (below_step (below_step (below_step HB.out hb6) hb7) hb8) hb9⟩⟩
   · have p1 : (0 < cmpN (a0 * 3) (b0 * 2 ^ h * 4)) = False := eq_false (by unfold cmpN; repeat' split <;> omega)
     have H2 := Aside0.mk (Ln2.start HA0.out hc)
     clear hc
     have hh : (h : Int) ≤ 400 := by have := HG.out.2.hb; omega
     go_wp2_with (first
       | (go_at_call 37; with_reducible refine (HA3.out _ _ _ _ _ (HVA.out.below HB.out) (R3.out.below HB.out)).mono ?_; rintro e w6 ⟨z6, rfl, hx6, hb6⟩)
       | (go_at_call 37; with_reducible refine (HB4.out h HG.out.2 _ _ _ _ _ (HD.out.below hb6) ((R4.out.below HB.out).below hb6)).mono ?_; rintro e w7 ⟨z7, rfl, hx7, hb7⟩)
       | (go_at_call 38; with_reducible refine (HC1.out h HG.out.2 _ _ _ _ _ (hx6.below hb7) hx7).mono ?_; rintro e w8 ⟨rfl, hd8⟩; have hb8 := hd8.below))
     have HB8 := below_step (below_step (below_step HB.out hb6) hb7) hb8
     have HD8 := Aside0.mk (((HD.out.below hb6).below hb7).below hb8)
     have HVA8 := Aside0.mk ((HVA.out.below HB8).mono (ok' := fun _ => True) (fun _ _ => trivial))
     have R38 := Aside0.mk (R3.out.below HB8)
     have RX8 := Aside0.mk (RX.out.below HB8)
     have HBq8 := Aside0.mk (below_step HBq.out HB8)
     have hs8 : w.heap.size + 4 ≤ w8.heap.size := by have := HB8.size; omega
     have H1 := Aside0.mk HG.out.2
     have HBB8 := Aside0.mk (HBB.out h H1.out)
     clear HB8 HB hb6 hb7 hb8 hd8 hx6 hx7 HG p1 HA3 HB4 HC1 HBB HD HVA HUB R3 R4 RX HBq sz2
     go_loopg [5, 7] 402 (fun g v5 v7 w' => ∃ m : Nat, v7 = .int .i64 ((h : Int) - m) ∧ Aside0 (m + g = 402 ∧ Ln2 a0 b0 h m) ∧ Aside0 (Rdv w' (fun _ => True) v5 (a0 * 2 ^ m)) ∧ Aside0 (Below w8.heap.size w8 w'))
     case atStart => exact ⟨0, by simp, ⟨by omega, H2.out⟩, ⟨by rw [Nat.pow_zero, Nat.mul_one]; first | exact HVA8.out | (rw [hla]; exact HVA8.out)⟩, ⟨Below.refl _ _⟩⟩
     case round =>
       obtain ⟨m, rfl, HG, HD, HB⟩ := hrel
       obtain ⟨A9, c9, e9, _, _⟩ := HD.out.form
       subst e9
       have hm : (m : Int) ≤ 401 := by have := HG.out.2.hb; omega
       by_cases hc : a0 * 2 ^ m * 3 < b0 * 2 ^ h + b0 * 2 ^ h
       · have p1 : (cmpN (a0 * 2 ^ m * 3) (b0 * 2 ^ h + b0 * 2 ^ h) < 0) = True := eq_true (by unfold cmpN; rw [if_pos hc]; decide)
         have HCC := Aside0.mk hc
         clear hc
         go_wp2_with (first
           | (go_at_call 37; with_reducible refine (HM3.out h m HG.out.2 _ _ _ _ _ HD.out (R38.out.below HB.out)).mono ?_; rintro e w10 ⟨z10, rfl, hx10, hb10⟩)
           | (go_at_call 54; with_reducible refine (HBB8.out _ _ _ _ _ ((HD8.out.below HB.out).below hb10) ((HD8.out.below HB.out).below hb10)).mono ?_; rintro e w11 ⟨z11, rfl, hx11, hb11⟩)
           | (go_at_call 38; with_reducible refine (HC2.out h m HG.out.2 _ _ _ _ _ (hx10.below hb11) hx11).mono ?_; rintro e w12 ⟨rfl, hd12⟩; have hb12 := hd12.below)
           | (go_at_call 54; with_reducible refine (HMM.out h m HG.out.2 _ _ _ _ _ (((HD.out.below hb10).below hb11).below hb12) (((HD.out.below hb10).below hb11).below hb12)).mono ?_; rintro e w13 ⟨z13, rfl, hx13, hb13⟩))
         go_roundg (gk - 1)
         case measure => have := HG.out.1; omega
         case rel => exact ⟨m + 1, by congr 1; omega, ⟨by have := HG.out.1; omega, HG.out.2.step ha0 H1.out HCC.out⟩, ⟨by rw [two_up, Nat.two_mul]; exact hx13.mono (fun _ _ => trivial)⟩, ⟨below_step (below_step (below_step (below_step HB.out hb10) hb11) hb12) hb13⟩⟩
       · have p1 : (cmpN (a0 * 2 ^ m * 3) (b0 * 2 ^ h + b0 * 2 ^ h) < 0) = False := eq_false (by unfold cmpN; rw [if_neg hc]; split <;> decide)
         have HCC := Aside0.mk hc
         clear hc
         go_wp2_with (first
           | (go_at_call 37; with_reducible refine (HM3.out h m HG.out.2 _ _ _ _ _ HD.out (R38.out.below HB.out)).mono ?_; rintro e w10 ⟨z10, rfl, hx10, hb10⟩)
           | (go_at_call 54; with_reducible refine (HBB8.out _ _ _ _ _ ((HD8.out.below HB.out).below hb10) ((HD8.out.below HB.out).below hb10)).mono ?_; rintro e w11 ⟨z11, rfl, hx11, hb11⟩)
           | (go_at_call 38; with_reducible refine (HC2.out h m HG.out.2 _ _ _ _ _ (hx10.below hb11) hx11).mono ?_; rintro e w12 ⟨rfl, hd12⟩; have hb12 := hd12.below))
         have HB12 := below_step (below_step (below_step HB.out hb10) hb11) hb12
         have tx0 := Box.new4 w12 w12.heap.size (.bool false) (.slice none 0 0) (.bool false) (.slice none 0 0) 74 rfl
         have hal := (Below.refl w12.heap.size w12).alloc (Nat.le_refl _) (Obj.cells #[.bool false, .slice none 0 0, .bool false, .slice none 0 0] 74)
         have hn := (((HD.out.below hb10).below hb11).below hb12).below hal
         have hd := (HD8.out.below HB12).below hal
         have rx0 := (RX8.out.below HB12).below hal
         have hBw := below_step (below_step HBq8.out HB12) hal
         have hs12 : w.heap.size + 4 ≤ w12.heap.size := by have := HB12.size; omega
         have hst : (w12.alloc (Obj.cells #[.bool false, .slice none 0 0, .bool false, .slice none 0 0] 74)).heap.size = w12.heap.size + 1 := by simp
         generalize (w12.alloc (Obj.cells #[.bool false, .slice none 0 0, .bool false, .slice none 0 0] 74)) = Wt at *
         have hLa : (digs (a0 * 2 ^ m)).length ≤ 20 := len_pow2 HG.out.2.le (by decide)
         have hLb : (digs (b0 * 2 ^ h)).length ≤ 20 := len_pow2 H1.out.le (by decide)
         have hb2 : 0 < b0 * 2 ^ h := Nat.mul_pos hb0 (Nat.pow_pos (by decide))
         have hup := HG.out.2.up
         have hdn : 2 * (b0 * 2 ^ h) ≤ 3 * (a0 * 2 ^ m) := by have := HCC.out; omega
         have hhm := HG.out.2.hm
         have HNH := Aside0.mk (show ∀ lo hi : Int, (∃ n n3 : Nat, pws (if b0 * 2 ^ h ≤ a0 * 2 ^ m then a0 * 2 ^ m - b0 * 2 ^ h else b0 * 2 ^ h - a0 * 2 ^ m) (a0 * 2 ^ m + b0 * 2 ^ h) (10 ^ pl) n = 0 ∧ pws 1 3 (10 ^ pl) n3 = 0 ∧
   lo = slow (a0 * 2 ^ m) (b0 * 2 ^ h) (10 ^ pl) n ((h : Int) - m) n3 ∧ hi = shigh (a0 * 2 ^ m) (b0 * 2 ^ h) (10 ^ pl) n ((h : Int) - m) n3) → LnIn a0 b0 (10 ^ pl) lo hi from fun lo hi ⟨n, n3, p1, p2, p3, p4⟩ => ⟨h, m, n, n3, hhm, hdn, hup, p1, p2, p3, p4⟩)
         have hk0 : -401 ≤ (h : Int) - m ∧ (h : Int) - m ≤ 400 := by have := H1.out.hb; omega
         clear HB12 hal HB HD HM3 HC2 HMM HBB8 hx10 hx11 hb10 hb11 hb12 hd12 p1 HG HCC H1 H2 HVA8 HD8 R38 RX8 HBq8 hhm hs8 HA0 HB0
         generalize a0 * 2 ^ m = a at *
         generalize b0 * 2 ^ h = b at *
         generalize (h : Int) - m = k at *
         have k0 := tx0.c0; have k1 := tx0.c1; have k2 := tx0.c2; have k3 := tx0.c3; have k4 := tx0.f0; have k5 := tx0.f1; have k6 := tx0.f2; have k7 := tx0.f3
         have HC3 := Aside0.mk (fun oa ob v u w hv hu => cmp_n a b oa ob v u w hv hu (by omega))
         have HAB := Aside0.mk (fun oa ob v u w hv hu => add_n a b oa ob v u w hv hu (by omega) (by omega))
         by_cases hge : b ≤ a
         · have p0 : (0 ≤ cmpN a b) = True := eq_true (cmpN_ge hge)
           have HS := Aside0.mk (fun oa ob v u w hv hu => sub_n a b oa ob v u w hv hu (by omega) (by omega))
           have HDB := Aside0.mk (fun oa ob v u w hv hu => Doubled_n (a - b) (a + b) pl oa ob v u w hv hu (by omega) (by omega) hpl (by have := len_digs_mono (Nat.sub_le a b); omega) (by
             have h1 : a + b ≤ a * 3 := by omega
             have h2 := len_digs_mono h1
             have h3 := len_mul_le a 3
             have h4 : (digs 3).length ≤ 1 := len_digs_le (by decide)
             omega))
           go_wp2_with (first
             | (go_at_call 38; with_reducible refine (HC3.out _ _ _ _ _ hn hd).mono ?_; rintro e v1 ⟨rfl, hd1⟩; have hb1 := hd1.below; replace hn := hn.below hb1; replace hd := hd.below hb1; replace tx0 := tx0.below hb1; replace rx0 := rx0.below hb1; replace hBw := below_step hBw hb1; have sz1 := hb1.size)
             | (go_at_call 42; with_reducible refine (HS.out _ _ _ _ _ hn hd).mono ?_; rintro e v2 ⟨y2, rfl, hy2, hb2'⟩; replace hn := hn.below hb2'; replace hd := hd.below hb2'; replace tx0 := tx0.below hb2'; replace rx0 := rx0.below hb2'; replace hBw := below_step hBw hb2'; have sz2 := hb2'.size)
             | (go_at_call 54; with_reducible refine (HAB.out _ _ _ _ _ hn hd).mono ?_; rintro e v3 ⟨y3, rfl, hy3, hb3⟩; replace hy2 := hy2.below hb3; replace tx0 := tx0.below hb3; replace rx0 := rx0.below hb3; replace hBw := below_step hBw hb3; have sz3 := hb3.size)
             | (go_at_call 55; with_reducible refine (HDB.out _ _ _ _ _ hy2 hy3).mono ?_; rintro e v4 ⟨n, Z, T, rfl, hpn, hZ, hT, hb4⟩; replace tx0 := tx0.below hb4; replace rx0 := rx0.below hb4; replace hBw := below_step hBw hb4; have sz4 := hb4.size; obtain ⟨Az, cz, rfl, _, _⟩ := hZ.form; obtain ⟨At, ct, rfl, _, _⟩ := hT.form; clear k0 k1 k2 k3 k4 k5 k6 k7; have k0 := tx0.c0; have k1 := tx0.c1; have k2 := tx0.c2; have k3 := tx0.c3; have k4 := tx0.f0; have k5 := tx0.f1; have k6 := tx0.f2; have k7 := tx0.f3))
           have hnn := hpn.out.2
           obtain ⟨dh1, dh2⟩ := dhigh_le (p := a - b) (q := a + b) (n := n) (by omega) (by omega) hpl hnn
           have tx1 := tx0.put4 (.bool false) (.slice Az (digs (dlow (a - b) (a + b) (10 ^ pl) n)).length cz) (.bool false) (.slice At (digs (dhigh (a - b) (a + b) (10 ^ pl) n)).length ct)
           have rx1 := rx0.far4 (g' := w12.heap.size) (by omega) (.bool false) (.slice Az (digs (dlow (a - b) (a + b) (10 ^ pl) n)).length cz) (.bool false) (.slice At (digs (dhigh (a - b) (a + b) (10 ^ pl) n)).length ct)
           have hZ1 := hZ.far4 (g := w12.heap.size) (fun k hk => by have h0 : _ ≤ k := hk; omega) (.bool false) (.slice Az (digs (dlow (a - b) (a + b) (10 ^ pl) n)).length cz) (.bool false) (.slice At (digs (dhigh (a - b) (a + b) (10 ^ pl) n)).length ct)
           have hT1 := hT.far4 (g := w12.heap.size) (fun k hk => by have h0 : _ ≤ k := hk; omega) (.bool false) (.slice Az (digs (dlow (a - b) (a + b) (10 ^ pl) n)).length cz) (.bool false) (.slice At (digs (dhigh (a - b) (a + b) (10 ^ pl) n)).length ct)
           have hBW := below4 hBw (g := w12.heap.size) (by omega) (.bool false) (.slice Az (digs (dlow (a - b) (a + b) (10 ^ pl) n)).length cz) (.bool false) (.slice At (digs (dhigh (a - b) (a + b) (10 ^ pl) n)).length ct)
           have HL1 := Aside0.mk (show ((dlow (a - b) (a + b) (10 ^ pl) n : Nat) : Int) = blow a b (10 ^ pl) n ∧ ((dhigh (a - b) (a + b) (10 ^ pl) n : Nat) : Int) = bhigh a b (10 ^ pl) n by unfold blow bhigh; rw [if_pos hge, if_pos hge]; exact ⟨rfl, rfl⟩)
           have hpw := hpn.out.1
           have HNH2 := Aside0.mk (fun lo hi n3 (p2 : pws 1 3 (10 ^ pl) n3 = 0) (p3 : lo = slow a b (10 ^ pl) n k n3) (p4 : hi = shigh a b (10 ^ pl) n k n3) => HNH.out lo hi ⟨n, n3, by rw [if_pos hge]; exact hpw, p2, p3, p4⟩)
           have hsW : v4.heap.size = ((((v4.setCell ⟨w12.heap.size, 0, none⟩ (.bool false)).setCell ⟨w12.heap.size, 1, none⟩ (.slice Az (digs (dlow (a - b) (a + b) (10 ^ pl) n)).length cz)).setCell ⟨w12.heap.size, 2, none⟩ (.bool false)).setCell ⟨w12.heap.size, 3, none⟩ (.slice At (digs (dhigh (a - b) (a + b) (10 ^ pl) n)).length ct)).heap.size := by simp
           generalize ((((v4.setCell ⟨w12.heap.size, 0, none⟩ (.bool false)).setCell ⟨w12.heap.size, 1, none⟩ (.slice Az (digs (dlow (a - b) (a + b) (10 ^ pl) n)).length cz)).setCell ⟨w12.heap.size, 2, none⟩ (.bool false)).setCell ⟨w12.heap.size, 3, none⟩ (.slice At (digs (dhigh (a - b) (a + b) (10 ^ pl) n)).length ct)) = W at *
           have hsW2 : w12.heap.size + 1 ≤ W.heap.size := by omega
           clear tx0 rx0 hZ hT hBw hpn hpw HNH HS HDB HC3 HAB k0 k1 k2 k3 k4 k5 k6 k7 hy2 hy3 hn hd hb1 hb2' hb3 hb4 sz1 sz2 sz3 sz4 hnn p0 hst
           obtain ⟨lo1, hlo0⟩ : ∃ z : Int, z = ((dlow (a - b) (a + b) (10 ^ pl) n : Nat) : Int) := ⟨_, rfl⟩
           obtain ⟨hi1, hhi0⟩ : ∃ z : Int, z = ((dhigh (a - b) (a + b) (10 ^ pl) n : Nat) : Int) := ⟨_, rfl⟩
           have g1 : false = ng lo1 := by simp [ng]; omega
           have g2 : false = ng hi1 := by simp [ng]; omega
           have a1 : dlow (a - b) (a + b) (10 ^ pl) n = lo1.natAbs := by omega
           have a2 : dhigh (a - b) (a + b) (10 ^ pl) n = hi1.natAbs := by omega
           rw [← hlo0, ← hhi0] at HL1
           rw [a1] at hZ1
           rw [a2] at hT1
           rw [a1, a2] at tx1
           generalize hmz : (digs lo1.natAbs).length = mz at *
           generalize hmt : (digs hi1.natAbs).length = mt at *
           have hlz : mz ≤ 1000 := by rw [← hmz]; exact len_big hpl (by omega)
           have hlt : mt ≤ 1000 := by rw [← hmt]; exact len_big hpl (by omega)
           have hlo1 : lo1.natAbs ≤ 10000 * 10 ^ pl := by omega
           have hhi1 : hi1.natAbs ≤ 10000 * 10 ^ pl := by omega
           have D13 := Aside0.mk (fun oa ob v u w hv hu => Doubled_n 1 3 pl oa ob v u w hv hu (by decide) (by decide) hpl (len_digs_le (by decide)) (len_digs_le (by decide)))
           have HWK := Aside0.mk (fun w => WOf_n k w (by omega))
           have HD3 := Aside0.mk (fun n3 (h3 : n3 ≤ 2 * pl + 1) => dhigh_le (p := 1) (q := 3) (n := n3) (by decide) (by decide) hpl h3)
           have HST := Aside0.mk (fun (L3 H3 : Nat) (h1 : L3 ≤ H3) (h2 : H3 ≤ 10000 * 10 ^ pl) ox oy ok v u t w hv hu ht => STim_n (L3 : Int) (H3 : Int) k ox oy ok v u t w hv hu ht (by have := len_big (a := L3) hpl (by omega); rw [Int.natAbs_natCast]; omega) (by have := len_big (a := H3) hpl (by omega); rw [Int.natAbs_natCast]; omega) (by have : (digs k.natAbs).length ≤ 1 := len_digs_le (by omega); omega))
           have hng : ∀ L : Nat, ng (L : Int) = false := fun L => by simp [ng] <;> omega
           simp only [hng, Int.natAbs_natCast] at HST
           have HSA := Aside0.mk (fun (L3 H3 : Nat) (h1 : L3 ≤ H3) (h2 : H3 ≤ 10000 * 10 ^ pl) oa ob oc od v u v' u' w hv hu hv' hu' => SAdd_n lo1 hi1 (tlo (L3 : Int) H3 k) (tlo (H3 : Int) L3 k) oa ob oc od v u v' u' w hv hu hv' hu' (by rw [hmz]; omega) (by rw [hmt]; omega) (by have := len_big (a := (tlo (L3 : Int) H3 k).natAbs) hpl (by have := (tlo_abs h1 hk0).1; omega); omega) (by have := len_big (a := (tlo (H3 : Int) L3 k).natAbs) hpl (by have := (tlo_abs h1 hk0).2; omega); omega))
           have HAbs := Aside0.mk (fun (L3 H3 : Nat) (h1 : L3 ≤ H3) (h2 : H3 ≤ 10000 * 10 ^ pl) => show (digs (lo1 + tlo (L3 : Int) H3 k).natAbs).length ≤ 1000 ∧ (digs (hi1 + tlo (H3 : Int) L3 k).natAbs).length ≤ 1000 from ⟨len_big hpl (by have := (tlo_abs h1 hk0).1; omega), len_big hpl (by have := (tlo_abs h1 hk0).2; omega)⟩)
           rw [← g1, ← g2] at HSA
           clear hng hlo1 hhi1 hlo0 hhi0 a1 a2 g1 g2 hup hdn hge hk0 dh1 dh2 hb2 hlz hlt hmz hmt hLa hLb
           have HK := Aside0.mk (fun n3 => show lo1 + tlo ((dlow 1 3 (10 ^ pl) n3 : Nat) : Int) (dhigh 1 3 (10 ^ pl) n3 : Nat) k = slow a b (10 ^ pl) n k n3 ∧ hi1 + tlo ((dhigh 1 3 (10 ^ pl) n3 : Nat) : Int) (dlow 1 3 (10 ^ pl) n3 : Nat) k = shigh a b (10 ^ pl) n k n3 by
             unfold slow shigh tlo
             rw [HL1.out.1, HL1.out.2]
             split
             · exact ⟨rfl, rfl⟩
             · rw [Int.neg_mul_neg, Int.neg_mul_neg]; exact ⟨rfl, rfl⟩)
           have j0 := tx1.c0; have j1 := tx1.c1; have j2 := tx1.c2; have j3 := tx1.c3; have j4 := rx1.c0; have j5 := rx1.c1; have j6 := rx1.c2; have j7 := rx1.c3; have j8 := rx1.f0; have j9 := rx1.f1; have j10 := rx1.f2; have j11 := rx1.f3
           have hAlA := (((Below.refl W.heap.size W).alloc (Nat.le_refl _) (Obj.cells #[.int .u32 1] 44)).alloc (by simp) (Obj.cells #[.int .u32 3] 44)).drew
           have hAlB := (((Below.refl W.heap.size W).alloc (Nat.le_refl _) (Obj.cells #[.int .u32 3] 44)).alloc (by simp) (Obj.cells #[.int .u32 1] 44)).drew
           have txd := tx1
           have rxd := rx1
           have hBd := hBW
           have hZd := hZ1
           have hTd := hT1
           have RA1 := ((Rdv.lit1 W 1 (by decide) (by decide)).below ((Below.refl _ _).alloc (Nat.le_refl _) (Obj.cells #[.int .u32 3] 44))).drew
           have RA3 := (Rdv.lit1 (W.alloc (Obj.cells #[.int .u32 1] 44)) 3 (by decide) (by decide)).drew
           have RB3 := ((Rdv.lit1 W 3 (by decide) (by decide)).below ((Below.refl _ _).alloc (Nat.le_refl _) (Obj.cells #[.int .u32 1] 44))).drew
           have RB1 := (Rdv.lit1 (W.alloc (Obj.cells #[.int .u32 3] 44)) 1 (by decide) (by decide)).drew
           have s1 : (W.alloc (Obj.cells #[.int .u32 1] 44)).heap.size = W.heap.size + 1 := by simp
           have s3 : (W.alloc (Obj.cells #[.int .u32 3] 44)).heap.size = W.heap.size + 1 := by simp
           simp only [s1, s3, show ((1 : Nat) : Int) = 1 from rfl, show ((3 : Nat) : Int) = 3 from rfl] at RA1 RA3 RB1 RB3
           have RA1 := Aside0.mk RA1
           have RA3 := Aside0.mk RA3
           have RB1 := Aside0.mk RB1
           have RB3 := Aside0.mk RB3
           clear s1 s3
           have netx : w12.heap.size ≠ w.heap.size + 1 := by omega
           go_region_held3 (fun w' => w'.cell? ⟨w12.heap.size, 0, none⟩ = some (.bool false) ∧ w'.cell? ⟨w12.heap.size, 1, none⟩ = some (.slice Az mz cz) ∧ w'.cell? ⟨w12.heap.size, 2, none⟩ = some (.bool false) ∧ w'.cell? ⟨w12.heap.size, 3, none⟩ = some (.slice At mt ct))
             (first
               | with_reducible exact ⟨tx1.c0, tx1.c1, tx1.c2, tx1.c3⟩
               | with_reducible exact ⟨tx1.drew.c0, tx1.drew.c1, tx1.drew.c2, tx1.drew.c3⟩
               | with_reducible exact ⟨tx5.c0, tx5.c1, tx5.c2, tx5.c3⟩
               | with_reducible exact ⟨tx4.c0, tx4.c1, tx4.c2, tx4.c3⟩
               | with_reducible exact ⟨tx3.c0, tx3.c1, tx3.c2, tx3.c3⟩
               | with_reducible exact ⟨tx2.c0, tx2.c1, tx2.c2, tx2.c3⟩
               | with_reducible exact ⟨(txd.alloc _).drew.c0, (txd.alloc _).drew.c1, (txd.alloc _).drew.c2, (txd.alloc _).drew.c3⟩
               | with_reducible exact ⟨((txd.alloc _).alloc _).drew.c0, ((txd.alloc _).alloc _).drew.c1, ((txd.alloc _).alloc _).drew.c2, ((txd.alloc _).alloc _).drew.c3⟩
               | exact ⟨(tx5.far4 netx _ _ _ _).c0, (tx5.far4 netx _ _ _ _).c1, (tx5.far4 netx _ _ _ _).c2, (tx5.far4 netx _ _ _ _).c3⟩
               | (go_keep; done))
             (first
               | (go_at_call 55; with_reducible refine (D13.out _ _ _ _ _ RA1.out RA3.out).mono ?_; rintro e w2 ⟨n3, Z3, T3, rfl, hp3, hZ3, hT3, hb2⟩; have tx2 := (txd.below hAlA).below hb2; have rx2 := (rxd.below hAlA).below hb2; have hB2 := below_step (below_step hBd hAlA) hb2; have hZ2 := (hZd.below hAlA).below hb2; have hT2 := (hTd.below hAlA).below hb2; have sz2 := hb2.size; (try simp at sz2); obtain ⟨A3, c3, rfl, _, _⟩ := hZ3.form; obtain ⟨A4, c4, rfl, _, _⟩ := hT3.form; obtain ⟨d1, d2⟩ := HD3.out n3 hp3.out.2; have HSTn := Aside0.mk (HST.out _ _ d1 d2); have HSAn := Aside0.mk (HSA.out _ _ d1 d2); have HABn := Aside0.mk (HAbs.out _ _ d1 d2); clear d1 d2)
               | (go_at_call 55; with_reducible refine (D13.out _ _ _ _ _ RB1.out RB3.out).mono ?_; rintro e w2 ⟨n3, Z3, T3, rfl, hp3, hZ3, hT3, hb2⟩; have tx2 := (txd.below hAlB).below hb2; have rx2 := (rxd.below hAlB).below hb2; have hB2 := below_step (below_step hBd hAlB) hb2; have hZ2 := (hZd.below hAlB).below hb2; have hT2 := (hTd.below hAlB).below hb2; have sz2 := hb2.size; (try simp at sz2); obtain ⟨A3, c3, rfl, _, _⟩ := hZ3.form; obtain ⟨A4, c4, rfl, _, _⟩ := hT3.form; obtain ⟨d1, d2⟩ := HD3.out n3 hp3.out.2; have HSTn := Aside0.mk (HST.out _ _ d1 d2); have HSAn := Aside0.mk (HSA.out _ _ d1 d2); have HABn := Aside0.mk (HAbs.out _ _ d1 d2); clear d1 d2)
               | (go_at_call 29; with_reducible refine (HWK.out _).mono ?_; rintro e w3 ⟨K3, rfl, hK3, hb3⟩; have tx3 := tx2.below hb3; have rx3 := rx2.below hb3; have hB3 := below_step hB2 hb3; have hZ4 := hZ2.below hb3; have hT4 := hT2.below hb3; replace hZ3 := hZ3.below hb3; replace hT3 := hT3.below hb3; have sz3 := hb3.size; obtain ⟨A5', c5', rfl, _, _⟩ := hK3.form)
               | (go_at_call 58; with_reducible refine (HSTn.out _ _ _ _ _ _ _ hZ3 hT3 hK3).mono ?_; rintro e w4 ⟨Z5, T5, rfl, hZ5, hT5, hb4⟩; have tx4 := tx3.below hb4; have rx4 := rx3.below hb4; have hB4 := below_step hB3 hb4; replace hZ4 := hZ4.below hb4; replace hT4 := hT4.below hb4; have sz4 := hb4.size; obtain ⟨A6, c6, rfl, _, _⟩ := hZ5.form; obtain ⟨A8, c8, rfl, _, _⟩ := hT5.form)
               | (go_at_call 57; with_reducible refine (HSAn.out _ _ _ _ _ _ _ _ _ hZ4 hT4 hZ5 hT5).mono ?_; rintro e w5 ⟨Z6, T6, rfl, hZ6, hT6, hb5⟩; have tx5 := tx4.below hb5; have rx5 := rx4.below hb5; have hB5 := below_step hB4 hb5; have sz5 := hb5.size; obtain ⟨A9', c9', rfl, _, _⟩ := hZ6.form; obtain ⟨A10, c10, rfl, _, _⟩ := hT6.form; have x0 := rx5.c0; have x1 := rx5.c1; have x2 := rx5.c2; have x3 := rx5.c3; have x4 := rx5.f0; have x5 := rx5.f1; have x6 := rx5.f2; have x7 := rx5.f3))
           all_goals
             go_wp2
             refine bodyPost_ret (v := .agg #[.bool (ng (lo1 + tlo ((dlow 1 3 (10 ^ pl) n3 : Nat) : Int) (dhigh 1 3 (10 ^ pl) n3 : Nat) k)), .slice A9' (digs (lo1 + tlo ((dlow 1 3 (10 ^ pl) n3 : Nat) : Int) (dhigh 1 3 (10 ^ pl) n3 : Nat) k).natAbs).length c9', .bool (ng (hi1 + tlo ((dhigh 1 3 (10 ^ pl) n3 : Nat) : Int) (dlow 1 3 (10 ^ pl) n3 : Nat) k)), .slice A10 (digs (hi1 + tlo ((dhigh 1 3 (10 ^ pl) n3 : Nat) : Int) (dlow 1 3 (10 ^ pl) n3 : Nat) k).natAbs).length c10]) (by simp [results, Tryz.results32, go_sem, x0, x1, x2, x3]) rfl ?_
             refine ⟨_, _, _, _, rfl, ⟨HNH2.out _ _ n3 hp3.out.1 (HK.out n3).1 (HK.out n3).2, HABn.out⟩, (hZ6.far4 (fun k hk => by have h0 : _ ≤ k := hk; omega) _ _ _ _).mono (fun k hk => by have h0 : _ ≤ k := hk; omega), (hT6.far4 (fun k hk => by have h0 : _ ≤ k := hk; omega) _ _ _ _).mono (fun k hk => by have h0 : _ ≤ k := hk; omega), below4 hB5 (by omega) _ _ _ _⟩
         · have p0 : (0 ≤ cmpN a b) = False := eq_false (cmpN_lt (by omega))
           have HSM := Aside0.mk (fun (n : Nat) => show ∀ (ox oy : Nat → Prop) (v u : Value) (w : World), Rdv w ox v (dlow (b - a) (a + b) (10 ^ pl) n) → Rdv w oy u (dhigh (b - a) (a + b) (10 ^ pl) n) → Calls Tryz.prog 56 #[.agg #[.bool false, v, .bool false, u]] w fun en w' => ∃ nb1 nb2 : Bool, Aside0 (nb1 = ng (-((dhigh (b - a) (a + b) (10 ^ pl) n : Nat) : Int)) ∧ nb2 = ng (-((dlow (b - a) (a + b) (10 ^ pl) n : Nat) : Int))) ∧ en = .returned (.agg #[.bool nb1, u, .bool nb2, v]) ∧ Below w.heap.size w w' from fun ox oy v u w hv hu => by
             have h := SMin_n ((dlow (b - a) (a + b) (10 ^ pl) n : Nat) : Int) ((dhigh (b - a) (a + b) (10 ^ pl) n : Nat) : Int) ox oy v u w (by rw [Int.natAbs_natCast]; exact hv) (by rw [Int.natAbs_natCast]; exact hu)
             have h1 : ∀ L : Nat, ng (L : Int) = false := fun L => by simp [ng] <;> omega
             rw [h1, h1] at h
             exact h.mono (fun e w' hh => ⟨_, _, ⟨rfl, rfl⟩, hh⟩))
           have HS := Aside0.mk (fun oa ob v u w hv hu => sub_n b a oa ob v u w hv hu (by omega) (by omega))
           have HDB := Aside0.mk (fun oa ob v u w hv hu => Doubled_n (b - a) (a + b) pl oa ob v u w hv hu (by omega) (by omega) hpl (by have := len_digs_mono (Nat.sub_le b a); omega) (by
             have h1 : a + b ≤ a * 3 := by omega
             have h2 := len_digs_mono h1
             have h3 := len_mul_le a 3
             have h4 : (digs 3).length ≤ 1 := len_digs_le (by decide)
             omega))
           go_wp2_with (first
             | (go_at_call 38; with_reducible refine (HC3.out _ _ _ _ _ hn hd).mono ?_; rintro e v1 ⟨rfl, hd1⟩; have hb1 := hd1.below; replace hn := hn.below hb1; replace hd := hd.below hb1; replace tx0 := tx0.below hb1; replace rx0 := rx0.below hb1; replace hBw := below_step hBw hb1; have sz1 := hb1.size)
             | (go_at_call 42; with_reducible refine (HS.out _ _ _ _ _ hd hn).mono ?_; rintro e v2 ⟨y2, rfl, hy2, hb2'⟩; replace hn := hn.below hb2'; replace hd := hd.below hb2'; replace tx0 := tx0.below hb2'; replace rx0 := rx0.below hb2'; replace hBw := below_step hBw hb2'; have sz2 := hb2'.size)
             | (go_at_call 54; with_reducible refine (HAB.out _ _ _ _ _ hn hd).mono ?_; rintro e v3 ⟨y3, rfl, hy3, hb3⟩; replace hy2 := hy2.below hb3; replace tx0 := tx0.below hb3; replace rx0 := rx0.below hb3; replace hBw := below_step hBw hb3; have sz3 := hb3.size)
             | (go_at_call 55; with_reducible refine (HDB.out _ _ _ _ _ hy2 hy3).mono ?_; rintro e v4 ⟨n, Z, T, rfl, hpn, hZ, hT, hb4⟩; replace tx0 := tx0.below hb4; replace rx0 := rx0.below hb4; replace hBw := below_step hBw hb4; have sz4 := hb4.size; obtain ⟨Az, cz, rfl, _, _⟩ := hZ.form; obtain ⟨At, ct, rfl, _, _⟩ := hT.form; clear k0 k1 k2 k3 k4 k5 k6 k7; have k0 := tx0.c0; have k1 := tx0.c1; have k2 := tx0.c2; have k3 := tx0.c3; have k4 := tx0.f0; have k5 := tx0.f1; have k6 := tx0.f2; have k7 := tx0.f3)
             | (go_at_call 56; with_reducible refine (HSM.out _ _ _ _ _ _ hZ hT).mono ?_; rintro e v5 ⟨nb1, nb2, hnb, rfl, hb5⟩; replace tx0 := tx0.below hb5; replace rx0 := rx0.below hb5; replace hBw := below_step hBw hb5; have sz5 := hb5.size; replace hZ := hZ.below hb5; replace hT := hT.below hb5; clear k0 k1 k2 k3 k4 k5 k6 k7; have k0 := tx0.c0; have k1 := tx0.c1; have k2 := tx0.c2; have k3 := tx0.c3; have k4 := tx0.f0; have k5 := tx0.f1; have k6 := tx0.f2; have k7 := tx0.f3))
           have hnn := hpn.out.2
           obtain ⟨dh1, dh2⟩ := dhigh_le (p := b - a) (q := a + b) (n := n) (by omega) (by omega) hpl hnn
           have tx1 := tx0.put4 (.bool nb1) (.slice At (digs (dhigh (b - a) (a + b) (10 ^ pl) n)).length ct) (.bool nb2) (.slice Az (digs (dlow (b - a) (a + b) (10 ^ pl) n)).length cz)
           have rx1 := rx0.far4 (g' := w12.heap.size) (by omega) (.bool nb1) (.slice At (digs (dhigh (b - a) (a + b) (10 ^ pl) n)).length ct) (.bool nb2) (.slice Az (digs (dlow (b - a) (a + b) (10 ^ pl) n)).length cz)
           have hZ1 := hZ.far4 (g := w12.heap.size) (fun k hk => by have h0 : _ ≤ k := hk; omega) (.bool nb1) (.slice At (digs (dhigh (b - a) (a + b) (10 ^ pl) n)).length ct) (.bool nb2) (.slice Az (digs (dlow (b - a) (a + b) (10 ^ pl) n)).length cz)
           have hT1 := hT.far4 (g := w12.heap.size) (fun k hk => by have h0 : _ ≤ k := hk; omega) (.bool nb1) (.slice At (digs (dhigh (b - a) (a + b) (10 ^ pl) n)).length ct) (.bool nb2) (.slice Az (digs (dlow (b - a) (a + b) (10 ^ pl) n)).length cz)
           have hBW := below4 hBw (g := w12.heap.size) (by omega) (.bool nb1) (.slice At (digs (dhigh (b - a) (a + b) (10 ^ pl) n)).length ct) (.bool nb2) (.slice Az (digs (dlow (b - a) (a + b) (10 ^ pl) n)).length cz)
           have HL1 := Aside0.mk (show -((dhigh (b - a) (a + b) (10 ^ pl) n : Nat) : Int) = blow a b (10 ^ pl) n ∧ -((dlow (b - a) (a + b) (10 ^ pl) n : Nat) : Int) = bhigh a b (10 ^ pl) n by unfold blow bhigh; rw [if_neg hge, if_neg hge]; exact ⟨rfl, rfl⟩)
           have hpw := hpn.out.1
           have HNH2 := Aside0.mk (fun lo hi n3 (p2 : pws 1 3 (10 ^ pl) n3 = 0) (p3 : lo = slow a b (10 ^ pl) n k n3) (p4 : hi = shigh a b (10 ^ pl) n k n3) => HNH.out lo hi ⟨n, n3, by rw [if_neg hge]; exact hpw, p2, p3, p4⟩)
           have hsW : v5.heap.size = ((((v5.setCell ⟨w12.heap.size, 0, none⟩ (.bool nb1)).setCell ⟨w12.heap.size, 1, none⟩ (.slice At (digs (dhigh (b - a) (a + b) (10 ^ pl) n)).length ct)).setCell ⟨w12.heap.size, 2, none⟩ (.bool nb2)).setCell ⟨w12.heap.size, 3, none⟩ (.slice Az (digs (dlow (b - a) (a + b) (10 ^ pl) n)).length cz)).heap.size := by simp
           generalize ((((v5.setCell ⟨w12.heap.size, 0, none⟩ (.bool nb1)).setCell ⟨w12.heap.size, 1, none⟩ (.slice At (digs (dhigh (b - a) (a + b) (10 ^ pl) n)).length ct)).setCell ⟨w12.heap.size, 2, none⟩ (.bool nb2)).setCell ⟨w12.heap.size, 3, none⟩ (.slice Az (digs (dlow (b - a) (a + b) (10 ^ pl) n)).length cz)) = W at *
           have hsW2 : w12.heap.size + 1 ≤ W.heap.size := by omega
           clear tx0 rx0 hZ hT hBw hpn hpw HNH HS HSM HDB HC3 HAB k0 k1 k2 k3 k4 k5 k6 k7 hy2 hy3 hn hd hb1 hb2' hb3 hb4 hb5 sz1 sz2 sz3 sz4 sz5 hnn p0 hst
           obtain ⟨lo1, hlo0⟩ : ∃ z : Int, z = -((dhigh (b - a) (a + b) (10 ^ pl) n : Nat) : Int) := ⟨_, rfl⟩
           obtain ⟨hi1, hhi0⟩ : ∃ z : Int, z = -((dlow (b - a) (a + b) (10 ^ pl) n : Nat) : Int) := ⟨_, rfl⟩
           have g1 : nb1 = ng lo1 := by rw [hlo0]; exact hnb.out.1
           have g2 : nb2 = ng hi1 := by rw [hhi0]; exact hnb.out.2
           have a1 : dhigh (b - a) (a + b) (10 ^ pl) n = lo1.natAbs := by omega
           have a2 : dlow (b - a) (a + b) (10 ^ pl) n = hi1.natAbs := by omega
           rw [← hlo0, ← hhi0] at HL1
           rw [a1] at hT1
           rw [a2] at hZ1
           rw [a1, a2] at tx1
           generalize hmz : (digs lo1.natAbs).length = mz at *
           generalize hmt : (digs hi1.natAbs).length = mt at *
           have hlz : mz ≤ 1000 := by rw [← hmz]; exact len_big hpl (by omega)
           have hlt : mt ≤ 1000 := by rw [← hmt]; exact len_big hpl (by omega)
           have hlo1 : lo1.natAbs ≤ 10000 * 10 ^ pl := by omega
           have hhi1 : hi1.natAbs ≤ 10000 * 10 ^ pl := by omega
           have D13 := Aside0.mk (fun oa ob v u w hv hu => Doubled_n 1 3 pl oa ob v u w hv hu (by decide) (by decide) hpl (len_digs_le (by decide)) (len_digs_le (by decide)))
           have HWK := Aside0.mk (fun w => WOf_n k w (by omega))
           have HD3 := Aside0.mk (fun n3 (h3 : n3 ≤ 2 * pl + 1) => dhigh_le (p := 1) (q := 3) (n := n3) (by decide) (by decide) hpl h3)
           have HST := Aside0.mk (fun (L3 H3 : Nat) (h1 : L3 ≤ H3) (h2 : H3 ≤ 10000 * 10 ^ pl) ox oy ok v u t w hv hu ht => STim_n (L3 : Int) (H3 : Int) k ox oy ok v u t w hv hu ht (by have := len_big (a := L3) hpl (by omega); rw [Int.natAbs_natCast]; omega) (by have := len_big (a := H3) hpl (by omega); rw [Int.natAbs_natCast]; omega) (by have : (digs k.natAbs).length ≤ 1 := len_digs_le (by omega); omega))
           have hng : ∀ L : Nat, ng (L : Int) = false := fun L => by simp [ng] <;> omega
           simp only [hng, Int.natAbs_natCast] at HST
           have HSA := Aside0.mk (fun (L3 H3 : Nat) (h1 : L3 ≤ H3) (h2 : H3 ≤ 10000 * 10 ^ pl) oa ob oc od v u v' u' w hv hu hv' hu' => SAdd_n lo1 hi1 (tlo (L3 : Int) H3 k) (tlo (H3 : Int) L3 k) oa ob oc od v u v' u' w hv hu hv' hu' (by rw [hmz]; omega) (by rw [hmt]; omega) (by have := len_big (a := (tlo (L3 : Int) H3 k).natAbs) hpl (by have := (tlo_abs h1 hk0).1; omega); omega) (by have := len_big (a := (tlo (H3 : Int) L3 k).natAbs) hpl (by have := (tlo_abs h1 hk0).2; omega); omega))
           have HAbs := Aside0.mk (fun (L3 H3 : Nat) (h1 : L3 ≤ H3) (h2 : H3 ≤ 10000 * 10 ^ pl) => show (digs (lo1 + tlo (L3 : Int) H3 k).natAbs).length ≤ 1000 ∧ (digs (hi1 + tlo (H3 : Int) L3 k).natAbs).length ≤ 1000 from ⟨len_big hpl (by have := (tlo_abs h1 hk0).1; omega), len_big hpl (by have := (tlo_abs h1 hk0).2; omega)⟩)
           rw [← g1, ← g2] at HSA
           clear hng hlo1 hhi1 hlo0 hhi0 a1 a2 g1 g2 hup hdn hge hk0 dh1 dh2 hb2 hlz hlt hmz hmt hLa hLb
           have HK := Aside0.mk (fun n3 => show lo1 + tlo ((dlow 1 3 (10 ^ pl) n3 : Nat) : Int) (dhigh 1 3 (10 ^ pl) n3 : Nat) k = slow a b (10 ^ pl) n k n3 ∧ hi1 + tlo ((dhigh 1 3 (10 ^ pl) n3 : Nat) : Int) (dlow 1 3 (10 ^ pl) n3 : Nat) k = shigh a b (10 ^ pl) n k n3 by
             unfold slow shigh tlo
             rw [HL1.out.1, HL1.out.2]
             split
             · exact ⟨rfl, rfl⟩
             · rw [Int.neg_mul_neg, Int.neg_mul_neg]; exact ⟨rfl, rfl⟩)
           have j0 := tx1.c0; have j1 := tx1.c1; have j2 := tx1.c2; have j3 := tx1.c3; have j4 := rx1.c0; have j5 := rx1.c1; have j6 := rx1.c2; have j7 := rx1.c3; have j8 := rx1.f0; have j9 := rx1.f1; have j10 := rx1.f2; have j11 := rx1.f3
           have hAlA := (((Below.refl W.heap.size W).alloc (Nat.le_refl _) (Obj.cells #[.int .u32 1] 44)).alloc (by simp) (Obj.cells #[.int .u32 3] 44)).drew
           have hAlB := (((Below.refl W.heap.size W).alloc (Nat.le_refl _) (Obj.cells #[.int .u32 3] 44)).alloc (by simp) (Obj.cells #[.int .u32 1] 44)).drew
           have txd := tx1
           have rxd := rx1
           have hBd := hBW
           have hZd := hT1
           have hTd := hZ1
           have RA1 := ((Rdv.lit1 W 1 (by decide) (by decide)).below ((Below.refl _ _).alloc (Nat.le_refl _) (Obj.cells #[.int .u32 3] 44))).drew
           have RA3 := (Rdv.lit1 (W.alloc (Obj.cells #[.int .u32 1] 44)) 3 (by decide) (by decide)).drew
           have RB3 := ((Rdv.lit1 W 3 (by decide) (by decide)).below ((Below.refl _ _).alloc (Nat.le_refl _) (Obj.cells #[.int .u32 1] 44))).drew
           have RB1 := (Rdv.lit1 (W.alloc (Obj.cells #[.int .u32 3] 44)) 1 (by decide) (by decide)).drew
           have s1 : (W.alloc (Obj.cells #[.int .u32 1] 44)).heap.size = W.heap.size + 1 := by simp
           have s3 : (W.alloc (Obj.cells #[.int .u32 3] 44)).heap.size = W.heap.size + 1 := by simp
           simp only [s1, s3, show ((1 : Nat) : Int) = 1 from rfl, show ((3 : Nat) : Int) = 3 from rfl] at RA1 RA3 RB1 RB3
           have RA1 := Aside0.mk RA1
           have RA3 := Aside0.mk RA3
           have RB1 := Aside0.mk RB1
           have RB3 := Aside0.mk RB3
           clear s1 s3
           have netx : w12.heap.size ≠ w.heap.size + 1 := by omega
           go_region_held3 (fun w' => w'.cell? ⟨w12.heap.size, 0, none⟩ = some (.bool nb1) ∧ w'.cell? ⟨w12.heap.size, 1, none⟩ = some (.slice At mz ct) ∧ w'.cell? ⟨w12.heap.size, 2, none⟩ = some (.bool nb2) ∧ w'.cell? ⟨w12.heap.size, 3, none⟩ = some (.slice Az mt cz))
             (first
               | with_reducible exact ⟨tx1.c0, tx1.c1, tx1.c2, tx1.c3⟩
               | with_reducible exact ⟨tx1.drew.c0, tx1.drew.c1, tx1.drew.c2, tx1.drew.c3⟩
               | with_reducible exact ⟨tx5.c0, tx5.c1, tx5.c2, tx5.c3⟩
               | with_reducible exact ⟨tx4.c0, tx4.c1, tx4.c2, tx4.c3⟩
               | with_reducible exact ⟨tx3.c0, tx3.c1, tx3.c2, tx3.c3⟩
               | with_reducible exact ⟨tx2.c0, tx2.c1, tx2.c2, tx2.c3⟩
               | with_reducible exact ⟨(txd.alloc _).drew.c0, (txd.alloc _).drew.c1, (txd.alloc _).drew.c2, (txd.alloc _).drew.c3⟩
               | with_reducible exact ⟨((txd.alloc _).alloc _).drew.c0, ((txd.alloc _).alloc _).drew.c1, ((txd.alloc _).alloc _).drew.c2, ((txd.alloc _).alloc _).drew.c3⟩
               | exact ⟨(tx5.far4 netx _ _ _ _).c0, (tx5.far4 netx _ _ _ _).c1, (tx5.far4 netx _ _ _ _).c2, (tx5.far4 netx _ _ _ _).c3⟩
               | (go_keep; done))
             (first
               | (go_at_call 55; with_reducible refine (D13.out _ _ _ _ _ RA1.out RA3.out).mono ?_; rintro e w2 ⟨n3, Z3, T3, rfl, hp3, hZ3, hT3, hb2⟩; have tx2 := (txd.below hAlA).below hb2; have rx2 := (rxd.below hAlA).below hb2; have hB2 := below_step (below_step hBd hAlA) hb2; have hZ2 := (hZd.below hAlA).below hb2; have hT2 := (hTd.below hAlA).below hb2; have sz2 := hb2.size; (try simp at sz2); obtain ⟨A3, c3, rfl, _, _⟩ := hZ3.form; obtain ⟨A4, c4, rfl, _, _⟩ := hT3.form; obtain ⟨d1, d2⟩ := HD3.out n3 hp3.out.2; have HSTn := Aside0.mk (HST.out _ _ d1 d2); have HSAn := Aside0.mk (HSA.out _ _ d1 d2); have HABn := Aside0.mk (HAbs.out _ _ d1 d2); clear d1 d2)
               | (go_at_call 55; with_reducible refine (D13.out _ _ _ _ _ RB1.out RB3.out).mono ?_; rintro e w2 ⟨n3, Z3, T3, rfl, hp3, hZ3, hT3, hb2⟩; have tx2 := (txd.below hAlB).below hb2; have rx2 := (rxd.below hAlB).below hb2; have hB2 := below_step (below_step hBd hAlB) hb2; have hZ2 := (hZd.below hAlB).below hb2; have hT2 := (hTd.below hAlB).below hb2; have sz2 := hb2.size; (try simp at sz2); obtain ⟨A3, c3, rfl, _, _⟩ := hZ3.form; obtain ⟨A4, c4, rfl, _, _⟩ := hT3.form; obtain ⟨d1, d2⟩ := HD3.out n3 hp3.out.2; have HSTn := Aside0.mk (HST.out _ _ d1 d2); have HSAn := Aside0.mk (HSA.out _ _ d1 d2); have HABn := Aside0.mk (HAbs.out _ _ d1 d2); clear d1 d2)
               | (go_at_call 29; with_reducible refine (HWK.out _).mono ?_; rintro e w3 ⟨K3, rfl, hK3, hb3⟩; have tx3 := tx2.below hb3; have rx3 := rx2.below hb3; have hB3 := below_step hB2 hb3; have hZ4 := hZ2.below hb3; have hT4 := hT2.below hb3; replace hZ3 := hZ3.below hb3; replace hT3 := hT3.below hb3; have sz3 := hb3.size; obtain ⟨A5', c5', rfl, _, _⟩ := hK3.form)
               | (go_at_call 58; with_reducible refine (HSTn.out _ _ _ _ _ _ _ hZ3 hT3 hK3).mono ?_; rintro e w4 ⟨Z5, T5, rfl, hZ5, hT5, hb4⟩; have tx4 := tx3.below hb4; have rx4 := rx3.below hb4; have hB4 := below_step hB3 hb4; replace hZ4 := hZ4.below hb4; replace hT4 := hT4.below hb4; have sz4 := hb4.size; obtain ⟨A6, c6, rfl, _, _⟩ := hZ5.form; obtain ⟨A8, c8, rfl, _, _⟩ := hT5.form)
               | (go_at_call 57; with_reducible refine (HSAn.out _ _ _ _ _ _ _ _ _ hZ4 hT4 hZ5 hT5).mono ?_; rintro e w5 ⟨Z6, T6, rfl, hZ6, hT6, hb5⟩; have tx5 := tx4.below hb5; have rx5 := rx4.below hb5; have hB5 := below_step hB4 hb5; have sz5 := hb5.size; obtain ⟨A9', c9', rfl, _, _⟩ := hZ6.form; obtain ⟨A10, c10, rfl, _, _⟩ := hT6.form; have x0 := rx5.c0; have x1 := rx5.c1; have x2 := rx5.c2; have x3 := rx5.c3; have x4 := rx5.f0; have x5 := rx5.f1; have x6 := rx5.f2; have x7 := rx5.f3))
           all_goals
             go_wp2
             refine bodyPost_ret (v := .agg #[.bool (ng (lo1 + tlo ((dlow 1 3 (10 ^ pl) n3 : Nat) : Int) (dhigh 1 3 (10 ^ pl) n3 : Nat) k)), .slice A9' (digs (lo1 + tlo ((dlow 1 3 (10 ^ pl) n3 : Nat) : Int) (dhigh 1 3 (10 ^ pl) n3 : Nat) k).natAbs).length c9', .bool (ng (hi1 + tlo ((dhigh 1 3 (10 ^ pl) n3 : Nat) : Int) (dlow 1 3 (10 ^ pl) n3 : Nat) k)), .slice A10 (digs (hi1 + tlo ((dhigh 1 3 (10 ^ pl) n3 : Nat) : Int) (dlow 1 3 (10 ^ pl) n3 : Nat) k).natAbs).length c10]) (by simp [results, Tryz.results32, go_sem, x0, x1, x2, x3]) rfl ?_
             refine ⟨_, _, _, _, rfl, ⟨HNH2.out _ _ n3 hp3.out.1 (HK.out n3).1 (HK.out n3).2, HABn.out⟩, (hZ6.far4 (fun k hk => by have h0 : _ ≤ k := hk; omega) _ _ _ _).mono (fun k hk => by have h0 : _ ≤ k := hk; omega), (hT6.far4 (fun k hk => by have h0 : _ ≤ k := hk; omega) _ _ _ _).mono (fun k hk => by have h0 : _ ≤ k := hk; omega), below4 hB5 (by omega) _ _ _ _⟩
end Go.Proofs.YteohmbannpbokaaGreatDoor.SpecWalk
