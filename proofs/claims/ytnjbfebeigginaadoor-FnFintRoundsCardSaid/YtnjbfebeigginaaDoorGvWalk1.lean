/-
  The package's digits of a word: how many, how many zeros at the end, cut off; read off its table of powers of ten, which stands as the condition says.
-/
import Derived.Test.YtnjbfebeigginaaDoorSpecWalk3
import Derived.RegionTactic
import Derived.LoopTactic
set_option linter.unusedVariables false
set_option linter.unusedSimpArgs false
namespace Go.Proofs.YtnjbfebeigginaaDoor.GvWalk
open Go.RowKit Go.Proofs.YtnjbfebeigginaaDoorW.PrintWords Go.Proofs.YtnjbfebeigginaaDoorW.PrintLast Go.Proofs.YtnjbfebeigginaaDoorW.PrintMore Go.Proofs.YtnjbfebeigginaaDoor.Digs Go.Proofs.YtnjbfebeigginaaDoor.StrLaw Go.Proofs.YtnjbfebeigginaaDoor.NatLaw Go.Proofs.YtnjbfebeigginaaDoor.NatWalk Go.Proofs.YtnjbfebeigginaaDoor.SpecWalk

/-- The table of powers of ten, as it is laid. -/
structure Pows (w : World) : Prop where
  mk :: (out : ∀ i : Nat, i < 20 → w.cell? ⟨0, i, none⟩ = some (.int .u64 ((10 ^ i : Nat) : Int)))
theorem Pows.size {w : World} (h : Pows w) : 0 < w.heap.size := World.block_lt_of_cell? w _ (h.out 0 (by decide))
theorem Pows.below {w w1 : World} (h : Pows w) (hb : Below w.heap.size w w1) : Pows w1 := ⟨fun i hi => pw_cell_below hb (h.out i hi)⟩
theorem Pows.far {w : World} (h : Pows w) {p : Addr} (hp : 0 ≠ p.block) (u : Value) : Pows (w.setCell p u) := by
  refine ⟨fun i hi => ?_⟩
  have hb := Below.heap_setCell w p u 0 hp
  have := h.out i hi
  simpa [World.cell?, hb] using this

/-- A search by halves among the powers: below the left end they are not greater, from the right end on they are. -/
structure Pre (x : Nat) (l r : Int) : Prop where
  mk :: (b : 0 ≤ l ∧ l ≤ r ∧ r ≤ 20) (lo : ∀ i : Nat, (i : Int) < l → 10 ^ i ≤ x) (hi : ∀ i : Nat, r ≤ (i : Int) → i < 20 → x < 10 ^ i)
theorem Pre.start (x : Nat) : Pre x 0 20 := ⟨by omega, fun i h => by omega, fun i h h2 => by omega⟩
theorem pow_mono {i j : Nat} (h : i ≤ j) : 10 ^ i ≤ 10 ^ j := Nat.pow_le_pow_right (by decide) h
theorem Pre.left {x : Nat} {l r m : Int} (h : Pre x l r) (h1 : l ≤ m) (h2 : m < r) (hx : ((x : Nat) : Int) < ((10 ^ m.toNat : Nat) : Int)) : Pre x l m :=
  ⟨by have := h.b; omega, h.lo, fun i hi _ => Nat.lt_of_lt_of_le (Int.ofNat_lt.mp hx) (pow_mono (by omega))⟩
theorem Pre.right {x : Nat} {l r m : Int} (h : Pre x l r) (h1 : l ≤ m) (h2 : m < r) (hx : ¬ ((x : Nat) : Int) < ((10 ^ m.toNat : Nat) : Int)) : Pre x (m + 1) r :=
  ⟨by have := h.b; omega, fun i hi => Nat.le_trans (pow_mono (show i ≤ m.toNat by have := h.b; omega)) (by omega), h.hi⟩
theorem Pre.done {x : Nat} {l r : Int} (h : Pre x l r) (he : ¬ l < r) (hx : x ≤ 9999999999999999999) : l.toNat ≤ 19 ∧ (l.toNat = 0 ∨ 10 ^ (l.toNat - 1) ≤ x) ∧ x < 10 ^ l.toNat := by
  obtain ⟨b0, b1, b2⟩ := h.b
  have : l = r := by omega
  subst this
  have h19 : l < 20 := by
    apply Classical.byContradiction
    intro hc
    have := h.lo 19 (by omega)
    omega
  refine ⟨by omega, ?_, h.hi l.toNat (by omega) (by omega)⟩
  by_cases h0 : l = 0
  · exact .inl (by omega)
  · exact .inr (h.lo (l.toNat - 1) (by omega))

set_option maxHeartbeats 1000000 in
theorem prec_n (x : Nat) (w : World) (hp : Pows w) (hx : x ≤ 9999999999999999999) :
    Calls Tryd.prog 65 #[.int .u64 x] w fun e w' => ∃ p : Nat, e = .returned (.int .i64 p) ∧ (p ≤ 19 ∧ (p = 0 ∨ 10 ^ (p - 1) ≤ x) ∧ x < 10 ^ p) ∧ w' = w := by
  have HX := Aside0.mk hx
  clear hx
  go_enter Tryd.func65, Tryd.ntmps65
  go_wp2
  go_loopg [3, 4] 20 (fun g v3 v4 w' => ∃ l r : Int, v3 = .int .i64 l ∧ v4 = .int .i64 r ∧ Pre x l r ∧ Aside0 (r - l ≤ (g : Int)) ∧ w' = w)
  case atStart => exact ⟨0, 20, rfl, rfl, Pre.start x, ⟨by simp⟩, rfl⟩
  case round =>
    obtain ⟨l, r, rfl, rfl, HP, HG, rfl⟩ := hrel
    obtain ⟨b0, b1, b2⟩ := HP.b
    by_cases hlt : l < r
    · have hm1 : l ≤ (l + r) / 2 ∧ (l + r) / 2 < r := by omega
      obtain ⟨m1, m2⟩ := hm1
      have hc := hp.out ((l + r) / 2).toNat (by omega)
      obtain ⟨P, hP⟩ : ∃ P : Int, P = ((10 ^ ((l + r) / 2).toNat : Nat) : Int) := ⟨_, rfl⟩
      rw [← hP] at hc
      have HQ := Aside0.mk hP
      clear hP
      by_cases hx : (x : Int) < P
      · go_wp2
        go_roundg (gk - 1)
        case measure => have := HG.out; omega
        case rel => exact ⟨_, _, rfl, rfl, HP.left m1 m2 (by rw [← HQ.out]; exact hx), ⟨by have := HG.out; omega⟩, rfl⟩
      · go_wp2
        go_roundg (gk - 1)
        case measure => have := HG.out; omega
        case rel => exact ⟨_, _, rfl, rfl, HP.right m1 m2 (by rw [← HQ.out]; exact Int.not_lt.mpr hx), ⟨by have := HG.out; omega⟩, rfl⟩
    · go_wp2
      go_ret
      exact ⟨l.toNat, by simp [Int.toNat_of_nonneg b0], HP.done (by omega) HX.out, rfl⟩

/-- A search by halves for the zeros at the end. -/
structure Ntz (x : Nat) (l r : Int) : Prop where
  mk :: (b : 1 ≤ l ∧ l ≤ r ∧ r ≤ 19) (lo : 10 ^ (l.toNat - 1) ∣ x) (hi : ¬ 10 ^ r.toNat ∣ x)
theorem Ntz.left {x : Nat} {l r m : Int} (h : Ntz x l r) (h1 : l ≤ m) (h2 : m < r) (hx : ¬ 10 ^ m.toNat ∣ x) : Ntz x l m := ⟨by have := h.b; omega, h.lo, hx⟩
theorem Ntz.right {x : Nat} {l r m : Int} (h : Ntz x l r) (h1 : l ≤ m) (h2 : m < r) (hx : 10 ^ m.toNat ∣ x) : Ntz x (m + 1) r :=
  ⟨by have := h.b; omega, by rw [show (m + 1).toNat - 1 = m.toNat by have := h.b; omega]; exact hx, h.hi⟩
theorem Ntz.start {x p : Nat} (h0 : 0 < x) (hp : p ≤ 19) (hx : x < 10 ^ p) : Ntz x 1 p :=
  ⟨by
    have : 0 < p := by
      apply Classical.byContradiction
      intro hc
      have : p = 0 := by omega
      subst this
      omega
    omega, by simp, fun hd => by have := Nat.le_of_dvd h0 hd; simp at this; omega⟩

set_option maxHeartbeats 1000000 in
theorem ntz_n (x : Nat) (w : World) (hp : Pows w) (h0 : 0 < x) (hx : x ≤ 9999999999999999999) :
    Calls Tryd.prog 70 #[.int .u64 x] w fun e w' => ∃ t : Nat, e = .returned (.int .i64 t) ∧ (10 ^ t ∣ x ∧ ¬ 10 ^ (t + 1) ∣ x ∧ t ≤ 18) ∧ w' = w := by
  have HC := Aside0.mk (prec_n x w hp hx)
  have H0 := Aside0.mk h0
  clear hx h0
  go_enter Tryd.func70, Tryd.ntmps70
  go_wp2_with (go_at_call 65; refine HC.out.mono ?_; rintro e w1 ⟨p, rfl, ⟨p1, p2, p3⟩, rfl⟩)
  have HS := Ntz.start H0.out p1 p3
  clear HC p1 p2 p3
  obtain ⟨pi, hpi⟩ : ∃ pi : Int, pi = (p : Int) := ⟨_, rfl⟩
  rw [← hpi] at HS ⊢
  have hpb := HS.b
  clear hpi
  go_loopg [3, 4] 20 (fun g v3 v4 w' => ∃ l r : Int, v3 = .int .i64 l ∧ v4 = .int .i64 r ∧ Ntz x l r ∧ Aside0 (r - l ≤ (g : Int)) ∧ w' = w1)
  case atStart => exact ⟨1, pi, rfl, rfl, HS, ⟨by omega⟩, rfl⟩
  case round =>
    clear HS hpb
    obtain ⟨l, r, rfl, rfl, HP, HG, rfl⟩ := hrel
    obtain ⟨b0, b1, b2⟩ := HP.b
    by_cases hlt : l < r
    · have hm1 : l ≤ (l + r) / 2 ∧ (l + r) / 2 < r := by omega
      obtain ⟨m1, m2⟩ := hm1
      have hc := hp.out ((l + r) / 2).toNat (by omega)
      have hpp : 0 < 10 ^ ((l + r) / 2).toNat := Nat.pow_pos (by decide)
      obtain ⟨P, hP⟩ : ∃ P : Int, P = ((10 ^ ((l + r) / 2).toNat : Nat) : Int) := ⟨_, rfl⟩
      rw [← hP] at hc
      have hP0 : ¬ P = 0 := by omega
      have hr : (10 ^ ((l + r) / 2).toNat : Nat) ∣ x ↔ ((x : Int) % P == 0) = true := by
        rw [hP, beq_iff_eq, ← Int.natCast_emod]
        exact ⟨fun h => by rw [Nat.mod_eq_zero_of_dvd h]; rfl, fun h => Nat.dvd_of_mod_eq_zero (by omega)⟩
      have HR := Aside0.mk hr
      clear hP hpp hr
      by_cases hx : ((x : Int) % P == 0) = true
      · go_wp2
        go_roundg (gk - 1)
        case measure => have := HG.out; omega
        case rel => exact ⟨_, _, rfl, rfl, HP.right m1 m2 (HR.out.mpr hx), ⟨by have := HG.out; omega⟩, rfl⟩
      · have hx' : ((x : Int) % P == 0) = false := by revert hx; cases ((x : Int) % P == 0) <;> simp
        go_wp2
        go_roundg (gk - 1)
        case measure => have := HG.out; omega
        case rel => exact ⟨_, _, rfl, rfl, HP.left m1 m2 (fun h => hx (HR.out.mp h)), ⟨by have := HG.out; omega⟩, rfl⟩
    · go_wp2
      go_ret
      exact ⟨l.toNat - 1, by simp; omega, ⟨HP.lo, by rw [show l.toNat - 1 + 1 = r.toNat by omega]; exact HP.hi, by omega⟩, rfl⟩

set_option maxHeartbeats 1000000 in
/-- Cut off by a number of digits. -/
theorem rshDown_n (x s : Nat) (w : World) (hp : Pows w) (hx : x ≤ 9999999999999999999) (hs : s ≤ 9223372036854775807) :
    Calls Tryd.prog 51 #[.int .u64 x, .int .i64 s] w fun e w' => e = .returned (.int .u64 ((x / 10 ^ s : Nat) : Int)) ∧ w' = w := by
  have HX := Aside0.mk hx
  clear hx
  by_cases hx0 : x = 0
  · subst hx0
    rw [Nat.zero_div]
    clear hs
    go_enter Tryd.func51, Tryd.ntmps51
    go_wp2
    go_ret
    exact ⟨rfl, rfl⟩
  · have hx1 : ((x : Int) == 0) = false := beq_eq_false_iff_ne.mpr (by omega)
    by_cases hs0 : s = 0
    · subst hs0
      rw [Nat.pow_zero, Nat.div_one]
      go_enter Tryd.func51, Tryd.ntmps51
      go_wp2
      go_ret
      exact ⟨rfl, rfl⟩
    · by_cases hs2 : 20 ≤ s
      · have hz : x / 10 ^ s = 0 := Nat.div_eq_of_lt (by have h1 := pow_mono hs2; have h2 := HX.out; omega)
        rw [hz]
        go_enter Tryd.func51, Tryd.ntmps51
        go_wp2
        go_ret
        exact ⟨rfl, rfl⟩
      · have hc := hp.out s (by omega)
        have hpp : 0 < 10 ^ s := Nat.pow_pos (by decide)
        have hq : ((x / 10 ^ s : Nat) : Int) = (x : Int) / ((10 ^ s : Nat) : Int) := rfl
        rw [hq]
        have hq2 : (x : Int) / ((10 ^ s : Nat) : Int) ≤ (x : Int) := Int.ediv_le_self _ (by omega)
        have hq3 : 0 ≤ (x : Int) / ((10 ^ s : Nat) : Int) := Int.ediv_nonneg (by omega) (by omega)
        clear hq
        obtain ⟨P, hP⟩ : ∃ P : Int, P = ((10 ^ s : Nat) : Int) := ⟨_, rfl⟩
        rw [← hP] at hc hq2 hq3 ⊢
        have hP0 : ¬ P = 0 := by omega
        clear hP hpp
        have hxm := HX.out
        have hwr : IntKind.u64.wrap ((x : Int) / P) = (x : Int) / P := IntWalk.u64_in _ (by omega)
        go_enter Tryd.func51, Tryd.ntmps51
        go_wp2
        go_ret
        exact ⟨rfl, rfl⟩

set_option maxHeartbeats 1000000 in
theorem fmul_n (x y : Nat) (w : World) (hy : 0 < y) (hx : x * y ≤ 9999999999999999999) :
    Calls Tryd.prog 66 #[.int .u64 x, .int .u64 y] w fun e w' => e = .returned (.tuple #[.int .u64 ((x * y : Nat) : Int), .bool true]) ∧ w' = w := by
  have h1 : ((y : Int) == 0) = false := beq_eq_false_iff_ne.mpr (by omega)
  have h2 : ¬ (y : Int) = 0 := by omega
  have h3 : ((x * y : Nat) : Int) = (x : Int) * (y : Int) := by simp
  have h4 : ((x : Int) * (y : Int)) / (y : Int) = (x : Int) := Int.mul_ediv_cancel _ h2
  have h6 : IntKind.u64.wrap ((x : Int) * (y : Int)) = (x : Int) * (y : Int) := IntWalk.u64_in _ (by omega)
  have h5 : (x : Int) * (y : Int) ≤ 9999999999999999999 ∧ 0 ≤ (x : Int) * (y : Int) := by omega
  have h7 : IntKind.u64.wrap (x : Int) = (x : Int) := IntWalk.u64_in _ (by
    have : x * 1 ≤ x * y := Nat.mul_le_mul_left _ hy
    omega)
  rw [h3]
  generalize hX : (x : Int) = X at *
  generalize hY : (y : Int) = Y at *
  clear h3 hx hy hX hY
  obtain ⟨h5, h8⟩ := h5
  go_enter Tryd.func66, Tryd.ntmps66
  go_wp2
  exact bodyPost_ret (v := .tuple #[.int .u64 (X * Y), .bool true]) (by simp [results, Tryd.results66, go_sem]) rfl ⟨rfl, rfl⟩

set_option maxRecDepth 100000 in
set_option maxHeartbeats 1000000 in
/-- Shifted to the left, where there is room. -/
theorem lsh_n (x s : Nat) (w : World) (hp : Pows w) (hs : 1 ≤ s) (hs2 : s ≤ 19) (hx : x * 10 ^ s ≤ 9999999999999999999) :
    Calls Tryd.prog 59 #[.int .u64 x, .int .i64 s] w fun e w' => e = .returned (.tuple #[.int .u64 ((x * 10 ^ s : Nat) : Int), .bool true]) ∧ w' = w := by
  have HC := Aside0.mk (fmul_n x (10 ^ s) w (Nat.pow_pos (by decide)) hx)
  by_cases hs1 : s = 1
  · subst hs1
    rw [Nat.pow_one] at *
    by_cases hx1 : (x : Int) < 999999999999999999
    · clear hs hs2
      have h6 : IntKind.u64.wrap ((x : Int) * 10) = (x : Int) * 10 := IntWalk.u64_in _ (by omega)
      have h7 : IntKind.u64.wrap ((10 : Int) * x) = (x : Int) * 10 := by rw [Int.mul_comm]; exact h6
      clear hx
      go_enter Tryd.func59, Tryd.ntmps59
      go_wp2
      exact bodyPost_ret (v := .tuple #[.int .u64 ((x : Int) * 10), .bool true]) (by simp [results, Tryd.results59, go_sem]) rfl ⟨by simp, rfl⟩
    · have hc := hp.out 1 (by decide)
      have hc' : w.cell? ⟨0, 1, none⟩ = some (.int .u64 10) := hc
      clear hs hs2 hx hc
      go_enter Tryd.func59, Tryd.ntmps59
      go_wp2_with (go_at_call 66; refine HC.out.mono ?_; rintro e w1 ⟨rfl, rfl⟩)
      exact bodyPost_ret (v := .tuple #[.int .u64 ((x * 10 : Nat) : Int), .bool true]) (by simp [results, Tryd.results59, go_sem]) rfl ⟨rfl, rfl⟩
  · have hc := hp.out s (by omega)
    clear hx
    generalize hP : ((10 ^ s : Nat) : Int) = P at *
    generalize hQ : ((x * 10 ^ s : Nat) : Int) = Q at *
    clear hP hQ
    go_enter Tryd.func59, Tryd.ntmps59
    go_wp2_with (go_at_call 66; refine HC.out.mono ?_; rintro e w1 ⟨rfl, rfl⟩)
    exact bodyPost_ret (v := .tuple #[.int .u64 Q, .bool true]) (by simp [results, Tryd.results59, go_sem]) rfl ⟨rfl, rfl⟩
end Go.Proofs.YtnjbfebeigginaaDoor.GvWalk
