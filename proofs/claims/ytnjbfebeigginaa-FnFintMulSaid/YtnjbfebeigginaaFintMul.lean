/-
  FnFintMul: for every two machine numbers the law returns true.
-/
import Derived.Test.YtnjbfebeigginaaPFintMulx1
import Derived.Test.YtnjbfebeigginaaPgvMostx1
import Derived.Test.YtnjbfebeigginaaNatWalk1
import Derived.Deep.RegionWith
set_option linter.unusedVariables false
set_option linter.unusedSimpArgs false
namespace Go.Proofs.Ytnjbfebeigginaa.FintMul
open Go.RowKit Go.Proofs.YtnjbfebeigginaaW.PrintWords Go.Proofs.YtnjbfebeigginaaW.PrintLast Go.Proofs.YtnjbfebeigginaaW.PrintMore Go.Proofs.Ytnjbfebeigginaa.Digs Go.Proofs.Ytnjbfebeigginaa.StrLaw Go.Proofs.Ytnjbfebeigginaa.NatLaw Go.Proofs.Ytnjbfebeigginaa.NatWalk
open Go.Proofs.Ytnjbfebeigginaa.PFintMul Go.Proofs.Ytnjbfebeigginaa.PgvMost

theorem tdiv_eq {x y : Int} (h : 0 ≤ x) : Int.tdiv x y = x / y := Int.tdiv_eq_ediv_of_nonneg h
/-- The product told, or not. -/
theorem mul_yes (x y : Nat) (hx : x < 10000000000000000000) (hy : y < 10000000000000000000) (h : x * y < 10000000000000000000) : impl_FintMul.f x y = some (((x * y : Nat) : Int), true) := by
  have e : (x : Int) * (y : Int) = ((x * y : Nat) : Int) := by simp
  have e1 : IntKind.u64.wrap ((x : Int) * (y : Int)) = ((x * y : Nat) : Int) := by rw [e, wu64 _ (by omega) (by omega)]
  simp only [impl_FintMul.f, govalues_ZzFintMul.f, govalues_fint_mul.f, e1]
  rw [if_neg (by omega), if_neg (by omega)]
  by_cases h0 : y = 0
  · subst h0; rfl
  · have e2 : Int.tdiv ((x * y : Nat) : Int) (y : Int) = (x : Int) := by
      rw [tdiv_eq (by omega)]
      rw [← Int.natCast_ediv, Nat.mul_div_cancel _ (Nat.pos_of_ne_zero h0)]
    rw [if_neg (by omega), e2, wu64 _ (by omega) (by omega), if_pos rfl, if_neg (by omega)]
    rfl
theorem mul_no (x y : Nat) (hx : x < 10000000000000000000) (hy : y < 10000000000000000000) (h : 10000000000000000000 ≤ x * y) : impl_FintMul.f x y = some (0, false) := by
  have hy0 : y ≠ 0 := by rintro rfl; simp at h
  simp only [impl_FintMul.f, govalues_ZzFintMul.f, govalues_fint_mul.f]
  rw [if_neg (by omega), if_neg (by omega), if_neg (by omega)]
  obtain ⟨z, hz⟩ : ∃ z : Nat, IntKind.u64.wrap ((x : Int) * (y : Int)) = (z : Int) ∧ z = x * y % 18446744073709551616 := by
    refine ⟨x * y % 18446744073709551616, ?_, rfl⟩
    rw [IntKind.wrap_u64, ← Int.natCast_mul]
    omega
  obtain ⟨hz, hz2⟩ := hz
  have hzl : z < 18446744073709551616 := by omega
  have hdl : z / y < 18446744073709551616 := Nat.lt_of_le_of_lt (Nat.div_le_self _ _) hzl
  have h3 : x = z / y → x * y ≤ z := fun h2 => by rw [h2]; exact Nat.div_mul_le_self z y
  rw [hz, tdiv_eq (by omega), ← Int.natCast_ediv]
  generalize z / y = q at *
  rw [wu64 _ (by omega) (by omega)]
  by_cases h1 : (q : Int) = (x : Int)
  · rw [if_pos h1]
    have h3 := h3 (by omega)
    rw [if_pos (by omega)]
    rfl
  · rw [if_neg h1]
    rfl
theorem w1 : wrap64 (0 + 1) = 1 := by rw [w64 _ (by decide) (by decide)]; rfl
theorem w2 : wrap64 (1 + 1) = 2 := by rw [w64 _ (by decide) (by decide)]; rfl
theorem most_yes (x y : Nat) (hx : x < 10000000000000000000) (hy : y < 10000000000000000000) : laws_gvMost.f 3 [(x : Int), (y : Int)] = some true := by
  simp only [laws_gvMost.f, laws_gvMost.l0, List.length_cons, List.length_nil, w1, w2]
  have r0 : rd [(x : Int), (y : Int)] 0 = x := rfl
  have r1 : rd [(x : Int), (y : Int)] 1 = y := rfl
  rw [r0, r1, if_pos (by decide), if_pos (by decide), if_pos (by decide), if_neg (by omega), if_pos (by decide), if_pos (by decide), if_pos (by decide), if_neg (by omega), if_neg (by decide)]
theorem most_no (x y : Nat) (h : ¬ (x < 10000000000000000000 ∧ y < 10000000000000000000)) : laws_gvMost.f 3 [(x : Int), (y : Int)] = some false := by
  simp only [laws_gvMost.f, laws_gvMost.l0, List.length_cons, List.length_nil, w1, w2]
  have r0 : rd [(x : Int), (y : Int)] 0 = x := rfl
  have r1 : rd [(x : Int), (y : Int)] 1 = y := rfl
  rw [r0, r1, if_pos (by decide), if_pos (by decide), if_pos (by decide)]
  by_cases hx : x < 10000000000000000000
  · rw [if_neg (by omega), if_pos (by decide), if_pos (by decide), if_pos (by decide), if_pos (by omega)]
  · rw [if_pos (by omega)]

/-- What the law asks of a product. -/
theorem whole_yes (x y : Nat) (hx : x < 10000000000000000000) (hy : y < 10000000000000000000) (h : x * y < 10000000000000000000) : nd (x * y) ≤ 19 := nd_le_iff.2 h
theorem whole_no (x y : Nat) (h : 10000000000000000000 ≤ x * y) : 19 < nd (x * y) := by
  rcases Nat.lt_or_ge 19 (nd (x * y)) with h1 | h1
  · exact h1
  · have := nd_le_iff.1 h1
    omega
theorem len_le (n : Nat) (h : n < 100000000000000000000000000000000000000) : (digs n).length ≤ 5 := len_digs_le (by omega)

set_option maxHeartbeats 1000000 in
theorem whole_told (p : Nat) (u : Value) (w : World) (hp : p < 10000000000000000000) (hu : Rdg w u p) (hnd : nd p ≤ 19) :
    Calls Try.prog 6 #[.int .u64 p, .bool true, u] w fun e w' => e = .returned (.bool true) ∧ Below w.heap.size w w' := by
  have hl : ((digs p).length : Int) ≤ 4000000000 := by have := len_le p (by omega); omega
  have hl2 : (digs p).length ≤ 4000000000 := by omega
  have hd := digits_n p u w hu hl
  have hcc : cmpN p p = 0 := by simp [cmpN]
  have HU := Aside0.mk hu
  have hnd' : decide ((19 : Int) < (nd p : Int)) = false := decide_eq_false (by omega)
  have HP := Aside0.mk hp
  clear hl hu hnd hp
  go_enter Try.func6, Try.ntmps6
  go_wp2_with (first | (go_at_call 10; refine hd.mono ?_; rintro e w1 ⟨rfl, hb⟩; have HB := Aside0.mk hb; clear hb) | (go_at_call 8; refine (from_n p _ (by have := HP.out; omega)).mono ?_; rintro e w2 ⟨v, rfl, hv, hb⟩; have HV := Aside0.mk hv; have HB2 := Aside0.mk hb; clear hv hb) | (go_at_call 11; refine (cmp_n p p v u _ HV.out ((HU.out.below HB.out).below HB2.out) hl2).mono ?_; rintro e w3 ⟨rfl, hb⟩; have HB3 := Aside0.mk hb; clear hb))
  go_ret
  exact ⟨by first | rfl | (simp [hcc]; done), below_step (below_step HB.out HB2.out) HB3.out⟩
set_option maxHeartbeats 1000000 in
theorem whole_untold (p : Nat) (u : Value) (w : World) (hu : Rdg w u p) (hnd : 19 < nd p) (hl : ((digs p).length : Int) ≤ 4000000000) :
    Calls Try.prog 6 #[.int .u64 0, .bool false, u] w fun e w' => e = .returned (.bool true) ∧ Below w.heap.size w w' := by
  have hd := digits_n p u w hu hl
  have hnd' : decide ((19 : Int) < (nd p : Int)) = true := decide_eq_true (by omega)
  clear hl hu hnd
  go_enter Try.func6, Try.ntmps6
  go_wp2_with (go_at_call 10; refine hd.mono ?_; rintro e w1 ⟨rfl, hb⟩; have HB := Aside0.mk hb; clear hb)
  go_ret
  exact ⟨rfl, HB.out⟩

/-- The two numbers lie in new memory and are read. -/
theorem most_calls (x y : Nat) (b : Bool) (w : World) (h : laws_gvMost.f 3 [(x : Int), (y : Int)] = some b) :
    Calls Try.prog 5 #[.slice (some ⟨w.heap.size, 0, none⟩) 2 2] (w.alloc (.cells #[.int .u64 x, .int .u64 y] 22)) fun e w' => e = .returned (.bool b) ∧ Drawn0 (w.alloc (.cells #[.int .u64 x, .int .u64 y] 22)) w' := by
  refine laws_gvMost.calls 3 (some ⟨w.heap.size, 0, none⟩) 2 [(x : Int), (y : Int)] b _ ?_ (by simp) h
  refine Kd.C_of_reads (enc := Value.int .u64) (d := (0 : Int)) (h1 := fun _ => rfl) ⟨rfl, by simp, fun _ => ⟨_, rfl, fun j hj => ?_⟩⟩
  have hj2 : j < 2 := hj
  rcases (show j = 0 ∨ j = 1 by omega) with rfl | rfl
  · rw [add_plain, World.cell?_alloc_new]; rfl
  · rw [add_plain, World.cell?_alloc_new]; rfl

set_option maxHeartbeats 1000000 in
theorem law_out (x y : Nat) (w : World) (h : ¬ (x < 10000000000000000000 ∧ y < 10000000000000000000)) (r : Int × Bool) (hr : impl_FintMul.f x y = some r) :
    Calls Try.prog 3 #[.int .u64 x, .int .u64 y] w fun e w' => e = .returned (.bool true) ∧ Below w.heap.size w w' := by
  have hm := fun w => most_calls x y false w (most_no x y h)
  have hi := fun w => impl_FintMul.calls x y r.1 r.2 w hr
  have HM := Aside0.mk hm
  have HI := Aside0.mk hi
  clear hm hi h hr
  generalize (x : Int) = X at *
  generalize (y : Int) = Y at *
  go_enter Try.func3, Try.ntmps3
  go_wp2_with (first | (go_at_call 4; refine (HI.out _).mono ?_; rintro e w1 ⟨rfl, hb⟩; have HB := Aside0.mk hb; clear hb) | (go_at_call 5; refine (HM.out _).mono ?_; rintro e w2 ⟨rfl, hb⟩; have HB2 := Aside0.mk hb; clear hb))
  go_ret
  exact ⟨rfl, below_step (below_step HB.out.below ((Below.refl _ _).alloc (Nat.le_refl _) _)) HB2.out.below⟩

set_option maxHeartbeats 2000000 in
theorem law_in (x y p : Nat) (w : World) (hx : x < 10000000000000000000) (hy : y < 10000000000000000000) (hp : x * y = p) (r : Int × Bool) (hr : impl_FintMul.f x y = some r)
    (ht : ∀ (u : Value) (w : World), Rdg w u p → Calls Try.prog 6 #[.int .u64 r.1, .bool r.2, u] w fun e w' => e = .returned (.bool true) ∧ Below w.heap.size w w') :
    Calls Try.prog 3 #[.int .u64 x, .int .u64 y] w fun e w' => e = .returned (.bool true) ∧ Below w.heap.size w w' := by
  have hm := fun w => most_calls x y true w (most_yes x y hx hy)
  have hi := fun w => impl_FintMul.calls x y r.1 r.2 w hr
  have HM := Aside0.mk hm
  have HI := Aside0.mk hi
  have HT := Aside0.mk ht
  have HFX := Aside0.mk (fun w => from_n x w (by omega))
  have HFY := Aside0.mk (fun w => from_n y w (by omega))
  have HMU := Aside0.mk (fun (v u : Value) (w : World) (hv : Rdg w v x) (hu : Rdg w u y) => mul_n x y v u w hv hu (by have := len_le x (by omega); have := len_le y (by omega); omega))
  rw [hp] at HMU
  clear hm hi hr ht hp hx hy
  generalize hX : (x : Int) = X at *
  generalize hY : (y : Int) = Y at *
  clear hX hY
  obtain ⟨r1, r2⟩ := r
  simp only at HI HT
  go_enter Try.func3, Try.ntmps3
  go_wp2_with (first | (go_at_call 4; refine (HI.out _).mono ?_; rintro e w1 ⟨rfl, hb⟩; have HB := Aside0.mk hb; clear hb) | (go_at_call 5; refine (HM.out _).mono ?_; rintro e w2 ⟨rfl, hb⟩; have HB2 := Aside0.mk hb; clear hb) | (go_at_call_of 8 (Value.int IntKind.u64 X); refine (HFX.out _).mono ?_; rintro e w3 ⟨v, rfl, hv, hb⟩; have HV := Aside0.mk hv; have HB3 := Aside0.mk hb; clear hv hb HFX) | (go_at_call_of 8 (Value.int IntKind.u64 Y); refine (HFY.out _).mono ?_; rintro e w4 ⟨u, rfl, hu, hb⟩; have HU := Aside0.mk hu; have HB4 := Aside0.mk hb; clear hu hb HFY) | (go_at_call 7; refine (HMU.out _ _ _ (HV.out.below HB4.out) HU.out).mono ?_; rintro e w5 ⟨z, rfl, hz, hb⟩; have HZ := Aside0.mk hz; have HB5 := Aside0.mk hb; clear hz hb) | (go_at_call 6; refine (HT.out _ _ HZ.out).mono ?_; rintro e w6 ⟨rfl, hb⟩; have HB6 := Aside0.mk hb; clear hb))
  go_ret
  exact ⟨rfl, below_step (below_step (below_step (below_step (below_step (below_step HB.out.below ((Below.refl _ _).alloc (Nat.le_refl _) _)) (below_step HB2.out.below HB3.out)) HB4.out) HB5.out) HB6.out) (Below.refl _ _)⟩

theorem law_calls (x y : Nat) (w : World) (hx : x < 18446744073709551616) (hy : y < 18446744073709551616) :
    Calls Try.prog 3 #[.int .u64 x, .int .u64 y] w fun e w' => e = .returned (.bool true) ∧ Below w.heap.size w w' := by
  by_cases h : x < 10000000000000000000 ∧ y < 10000000000000000000
  · by_cases hp : x * y < 10000000000000000000
    · exact law_in x y (x * y) w h.1 h.2 rfl _ (mul_yes x y h.1 h.2 hp) fun u w hu => whole_told (x * y) u w hp hu (whole_yes x y h.1 h.2 hp)
    · have hl : x * y < 100000000000000000000000000000000000000 := Nat.mul_lt_mul'' h.1 h.2
      exact law_in x y (x * y) w h.1 h.2 rfl _ (mul_no x y h.1 h.2 (by omega)) fun u w hu => whole_untold (x * y) u w hu (whole_no x y (by omega)) (by have := len_le _ hl; omega)
  · by_cases hx1 : x < 10000000000000000000
    · refine law_out x y w h (0, false) ?_
      have hy1 : ¬ y < 10000000000000000000 := fun hy1 => h ⟨hx1, hy1⟩
      simp only [impl_FintMul.f]
      rw [if_neg (by omega), if_pos (by omega)]
    · refine law_out x y w h (0, false) ?_
      simp only [impl_FintMul.f]
      rw [if_pos (by omega)]
end Go.Proofs.Ytnjbfebeigginaa.FintMul
