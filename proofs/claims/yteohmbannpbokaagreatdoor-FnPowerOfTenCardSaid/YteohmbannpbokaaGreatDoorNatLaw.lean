/-
  What the reference's loops over limbs come to (zeros cut off, from a machine number, comparison, product): a plain law over the functions that the print wrote.
  What the reference's other loops over limbs come to (difference, quotients, powers of ten): a plain law over the functions that the print wrote.
-/
import Derived.Test.YteohmbannpbokaaGreatDoorPPow10x1
import Derived.Test.YteohmbannpbokaaGreatDoorLaws
set_option linter.unusedVariables false
set_option linter.unusedSimpArgs false
namespace Go.Proofs.YteohmbannpbokaaGreatDoor.NatLaw
open Go.RowKit Go.Proofs.YteohmbannpbokaaGreatDoorW.PrintWords Go.Proofs.YteohmbannpbokaaGreatDoor.Digs
open Go.Proofs.YteohmbannpbokaaGreatDoor.PPow10

theorem ev_eq {α : Type} {g : Nat → Option α} {r r' : α} (e : r = r') (h : Ev g r) : Ev g r' := e ▸ h

/-! ### zeros cut off -/
/-! ### from a machine number -/
/-! ### comparison -/
def cmpN (a b : Nat) : Int := if a < b then -1 else if a = b then 0 else 1
def cmpI (a b : Int) : Int := if a < b then -1 else if a = b then 0 else 1
/-! ### product -/
theorem wsum (c o x y : Int) (c0 : 0 ≤ c) (c1 : c < 1000000000) (o0 : 0 ≤ o) (o1 : o < 1000000000) (x0 : 0 ≤ x) (x1 : x < 1000000000) (y0 : 0 ≤ y) (y1 : y < 1000000000) (p0 : 0 ≤ x * y) (p1 : x * y ≤ 999999998000000001) :
    IntKind.u64.wrap (c + IntKind.u64.wrap (IntKind.u64.wrap o + IntKind.u64.wrap (IntKind.u64.wrap x * IntKind.u64.wrap y))) = c + (o + x * y) := by
  rw [wu64 o o0 (by omega), wu64 x x0 (by omega), wu64 y y0 (by omega)]
  generalize x * y = p at *
  rw [wu64 p p0 (by omega), wu64 (o + p) (by omega) (by omega), wu64 (c + (o + p)) (by omega) (by omega)]
end Go.Proofs.YteohmbannpbokaaGreatDoor.NatLaw

set_option linter.unusedVariables false
set_option linter.unusedSimpArgs false
namespace Go.Proofs.YteohmbannpbokaaGreatDoor.NatLaw
open Go.RowKit Go.Proofs.YteohmbannpbokaaGreatDoorW.PrintWords Go.Proofs.YteohmbannpbokaaGreatDoorW.PrintMore Go.Proofs.YteohmbannpbokaaGreatDoor.Digs
open Go.Proofs.YteohmbannpbokaaGreatDoor.PPow10

theorem take_val_end {l : List Int} {i : Nat} (h : l.length ≤ i) : val (l.take i) = val l := by rw [List.take_of_length_le h]

/-! ### difference -/
theorem sub_step (b : List Int) (i : Nat) : ∃ y, (i < b.length → y = rd b i) ∧ (¬ i < b.length → y = 0) ∧ val (b.take (i + 1)) = val (b.take i) + y * 1000000000 ^ i := by
  by_cases h : i < b.length
  · exact ⟨rd b i, fun _ => rfl, fun h' => absurd h h', val_take_succ h⟩
  · exact ⟨0, fun h' => absurd h' h, fun _ => rfl, by rw [take_val_end (by omega), take_val_end (by omega)]; omega⟩
/-- The state of the loop that subtracts: behind i limbs; c: what was lent. -/
structure SubInv (a b : Nat) (out : List Int) (c i : Int) : Prop where
  mk :: (out : ∃ m : Nat, i = m ∧ m ≤ (digs a).length ∧ Dig out ∧ out.length = m ∧ (c = 0 ∨ c = 1) ∧ val out - c * 1000000000 ^ m = val ((digs a).take m) - val ((digs b).take m))
theorem SubInv.start (a b : Nat) : SubInv a b [] 0 0 := ⟨0, rfl, Nat.zero_le _, Dig.nil, rfl, .inl rfl, by simp [val]⟩
theorem SubInv.bound {a b : Nat} {out : List Int} {c i : Int} (h : SubInv a b out c i) : 0 ≤ i ∧ i ≤ (digs a).length ∧ 0 ≤ c ∧ c ≤ 1 ∧ (out.length : Int) = i := by
  obtain ⟨m, rfl, hm, _, hl, hc, _⟩ := h
  refine ⟨by omega, by omega, ?_, ?_, by omega⟩ <;> rcases hc with h | h <;> omega
theorem SubInv.step {a b : Nat} {out : List Int} {c i y z c' : Int} (h : SubInv a b out c i) (hi : i < (digs a).length) (hy : (i < (digs b).length ∧ y = rd (digs b) i) ∨ (¬ i < (digs b).length ∧ y = 0)) (hc' : c' = 0 ∨ c' = 1) (hz : 0 ≤ z ∧ z < 1000000000) (hz2 : z = rd (digs a) i - (c + y) + c' * 1000000000) :
    SubInv a b (out ++ [z]) c' (i + 1) := by
  obtain ⟨m, rfl, hm, hD, hl, hc, hv⟩ := h
  have va := val_take_succ (l := digs a) (i := m) (by omega)
  obtain ⟨y', hy1, hy2, vb⟩ := sub_step (digs b) m
  have e : y = y' := by
    rcases hy with ⟨h1, h2⟩ | ⟨h1, h2⟩
    · rw [h2, hy1 (by omega)]
    · rw [h2, hy2 (by omega)]
  subst e
  refine ⟨m + 1, by omega, by omega, hD.append (Dig.cons hz Dig.nil), by simp; omega, hc', ?_⟩
  rw [val_append, va, vb, hl, pw_succ, hz2]
  simp only [val]
  grind
theorem SubInv.done {a b : Nat} {out : List Int} {c i : Int} (h : SubInv a b out c i) (hi : ¬ i < (digs a).length) (hab : b ≤ a) : Dig out ∧ val out = ((a - b : Nat) : Int) := by
  obtain ⟨m, rfl, hm, hD, hl, hc, hv⟩ := h
  have hlb := len_digs_mono hab
  rw [take_val_end (by omega), take_val_end (by omega), val_digs, val_digs] at hv
  have h1 := val_lt hD
  rw [hl] at h1
  refine ⟨hD, ?_⟩
  rcases hc with h | h
  · rw [h, Int.zero_mul] at hv; omega
  · rw [h, Int.one_mul] at hv; omega

/-! ### powers of ten -/
theorem pow10_list (n : Nat) : (List.replicate (n / 9 + 1) (0 : Int)).set (n / 9) ((10 ^ (n % 9) : Nat) : Int) = digs (10 ^ n) := by
  have h9 : n % 9 < 9 := Nat.mod_lt _ (by decide)
  have hx : 10 ^ (n % 9) < 1000000000 := Nat.lt_of_lt_of_le (Nat.pow_lt_pow_right (by decide) h9) (by decide)
  have hx0 : 0 < 10 ^ (n % 9) := Nat.pow_pos (by decide)
  generalize hq : 10 ^ (n % 9) = x at *
  refine canon ((Dig.rep _).set _ (by omega)) ?_ ?_
  · intro h
    rw [List.getLast_eq_getElem]
    simp only [List.length_set, List.length_replicate, Nat.add_sub_cancel, List.getElem_set_self]
    omega
  · rw [val_set _ _ _ (by simp), val_rep, rd_rep, ← hq]
    have e : (10 : Nat) ^ n = 10 ^ (n % 9) * 1000000000 ^ (n / 9) := by
      rw [show (1000000000 : Nat) = 10 ^ 9 by decide, ← Nat.pow_mul, ← Nat.pow_add]
      congr 1
      omega
    rw [e]
    simp
theorem pow10_ev_l (n : Nat) (hn : n ≤ 1000000) (out : List Int) (hl : out.length = n / 9 + 1) : ∀ (d i : Nat), n % 9 - i = d → i ≤ n % 9 → Ev (fun k => spec_Pow10.l0 k n out ((10 ^ i : Nat) : Int) i) (out.set (n / 9) ((10 ^ (n % 9) : Nat) : Int)) := by
  have e1 : Int.tmod (n : Int) 9 = ((n % 9 : Nat) : Int) := by rw [Int.tmod_eq_emod_of_nonneg (by omega)]; omega
  have e2 : wrap64 (Int.tdiv (n : Int) 9) = ((n / 9 : Nat) : Int) := by rw [Int.tdiv_eq_ediv_of_nonneg (by omega), w64 _ (by omega) (by omega)]; omega
  intro d
  induction d with
  | zero =>
    intro i hd hi
    obtain rfl : i = n % 9 := by omega
    refine Ev.step (f := fun _ => some _) (fun k => ?_) (Ev.now _)
    simp only [spec_Pow10.l0, e1, e2]
    rw [if_neg (by omega), if_pos (by omega), if_pos (by omega), Int.toNat_natCast]
  | succ d ih =>
    intro i hd hi
    have e3 : wrap64 ((i : Int) + 1) = ((i + 1 : Nat) : Int) := by rw [w64 _ (by omega) (by omega)]; omega
    have hx : 10 ^ i ≤ 10 ^ 8 := Nat.pow_le_pow_right (by decide) (by omega)
    have e4 : ((10 ^ i : Nat) : Int) * 10 % 4294967296 = ((10 ^ (i + 1) : Nat) : Int) := by
      rw [Nat.pow_succ]
      generalize 10 ^ i = x at *
      omega
    refine Ev.step (f := fun k => spec_Pow10.l0 k n out ((10 ^ (i + 1) : Nat) : Int) ((i + 1 : Nat) : Int)) (fun k => ?_) (ih (i + 1) (by omega) (by omega))
    simp only [spec_Pow10.l0, e1, e3, e4]
    rw [if_pos (by omega)]
theorem pow10_ev (n : Nat) (hn : n ≤ 1000000) : Ev (fun k => spec_Pow10.f k n) (digs (10 ^ n)) := by
  have e2 : wrap64 (Int.tdiv (n : Int) 9) = ((n / 9 : Nat) : Int) := by rw [Int.tdiv_eq_ediv_of_nonneg (by omega), w64 _ (by omega) (by omega)]; omega
  have e3 : wrap64 (((n / 9 : Nat) : Int) + 1) = ((n / 9 + 1 : Nat) : Int) := by rw [w64 _ (by omega) (by omega)]; omega
  refine Ev.congr (f := fun k => spec_Pow10.l0 k n (List.replicate (n / 9 + 1) 0) ((10 ^ 0 : Nat) : Int) ((0 : Nat) : Int)) (fun k => ?_) (ev_eq (pow10_list n) (pow10_ev_l n hn _ (by simp) _ 0 rfl (by omega)))
  simp only [spec_Pow10.f, e2, e3]
  rw [if_neg (by omega), if_pos (by omega), if_pos (by rw [Int.toNat_natCast]; omega), Int.toNat_natCast]
  rfl

/-! ### quotient by a limb -/
/-! ### sum -/
structure AddInv (a b : Nat) (out : List Int) (c i : Int) : Prop where
  mk :: (out : ∃ m : Nat, i = m ∧ Dig out ∧ out.length = m ∧ (c = 0 ∨ c = 1) ∧ (m ≤ (digs a).length ∨ m ≤ (digs b).length ∨ c = 0) ∧ (m ≤ (digs a).length ∨ m ≤ (digs b).length ∨ Top out) ∧ val out + c * 1000000000 ^ m = val ((digs a).take m) + val ((digs b).take m))
theorem AddInv.start (a b : Nat) : AddInv a b [] 0 0 := ⟨0, rfl, Dig.nil, rfl, .inl rfl, .inl (Nat.zero_le _), .inl (Nat.zero_le _), by simp [val]⟩
theorem AddInv.bound {a b : Nat} {out : List Int} {c i : Int} (h : AddInv a b out c i) : 0 ≤ i ∧ 0 ≤ c ∧ c ≤ 1 ∧ (out.length : Int) = i := by
  obtain ⟨m, rfl, _, hl, hc, _, _, _⟩ := h
  refine ⟨by omega, ?_, ?_, by omega⟩ <;> rcases hc with h | h <;> omega
theorem top_snoc (out : List Int) (z : Int) (h : z ≠ 0) : Top (out ++ [z]) := fun hne => by simp [h]
theorem AddInv.step {a b : Nat} {out : List Int} {c i x y : Int} (h : AddInv a b out c i) (hx : (i < (digs a).length ∧ x = rd (digs a) i) ∨ (¬ i < (digs a).length ∧ x = 0)) (hy : (i < (digs b).length ∧ y = rd (digs b) i) ∨ (¬ i < (digs b).length ∧ y = 0)) (hg : i < (digs a).length ∨ i < (digs b).length ∨ 0 < c) :
    AddInv a b (out ++ [(c + x + y) % 1000000000]) ((c + x + y) / 1000000000) (i + 1) := by
  obtain ⟨m, rfl, hD, hl, hc, ho, ht, hv⟩ := h
  obtain ⟨x', hx1, hx2, va⟩ := sub_step (digs a) m
  obtain ⟨y', hy1, hy2, vb⟩ := sub_step (digs b) m
  have ra := dig_rd (dig_digs a) (m : Int)
  have rb := dig_rd (dig_digs b) (m : Int)
  have e1 : x = x' ∧ 0 ≤ x ∧ x < 1000000000 := by
    rcases hx with ⟨h1, h2⟩ | ⟨h1, h2⟩
    · rw [h2]; exact ⟨(hx1 (by omega)).symm, ra⟩
    · rw [h2]; exact ⟨(hx2 (by omega)).symm, by omega⟩
  have e2 : y = y' ∧ 0 ≤ y ∧ y < 1000000000 := by
    rcases hy with ⟨h1, h2⟩ | ⟨h1, h2⟩
    · rw [h2]; exact ⟨(hy1 (by omega)).symm, rb⟩
    · rw [h2]; exact ⟨(hy2 (by omega)).symm, by omega⟩
  obtain ⟨rfl, x0, x1⟩ := e1
  obtain ⟨rfl, y0, y1⟩ := e2
  have hcb : 0 ≤ c ∧ c ≤ 1 := by rcases hc with h | h <;> omega
  have hq : 1000000000 * ((c + x + y) / 1000000000) + (c + x + y) % 1000000000 = c + x + y := Int.mul_ediv_add_emod _ _
  refine ⟨m + 1, by omega, hD.append (Dig.cons (by omega) Dig.nil), by simp; omega, by omega, ?_, ?_, ?_⟩
  · by_cases h1 : m < (digs a).length
    · exact .inl h1
    · by_cases h2 : m < (digs b).length
      · exact .inr (.inl h2)
      · refine .inr (.inr ?_)
        have : x = 0 := by rcases hx with h | h <;> omega
        have : y = 0 := by rcases hy with h | h <;> omega
        omega
  · by_cases h1 : m < (digs a).length
    · exact .inl h1
    · by_cases h2 : m < (digs b).length
      · exact .inr (.inl h2)
      · refine .inr (.inr (top_snoc _ _ ?_))
        have : x = 0 := by rcases hx with h | h <;> omega
        have : y = 0 := by rcases hy with h | h <;> omega
        omega
  · rw [val_append, va, vb, hl, pw_succ]
    simp only [val]
    grind
theorem top_of_val {l : List Int} {m : Nat} (hl : l.length = m + 1) (hd : Dig l) (hv : 1000000000 ^ m ≤ val l) : Top l := fun hne => by
  intro h0
  have e : l = l.take m ++ [0] := by
    have := take_succ_rd (l := l) (i := m) (by omega)
    rw [← hl, List.take_length, rd_lt (by omega)] at this
    rw [List.getLast_eq_getElem] at h0
    have e2 : l[m]'(by omega) = 0 := by simpa [hl] using h0
    rw [e2] at this
    exact this
  have h1 := val_lt (hd.take m)
  rw [e, val_append] at hv
  simp only [val, List.length_take, Nat.min_eq_left (show m ≤ l.length by omega), List.take_append_of_le_length (show m ≤ (l.take m).length by simp; omega), List.take_take, Nat.min_self] at hv h1
  omega
theorem AddInv.done {a b : Nat} {out : List Int} {c i : Int} (h : AddInv a b out c i) (h1 : ¬ i < (digs a).length) (h2 : ¬ i < (digs b).length) (h3 : ¬ 0 < c) : out = digs (a + b) := by
  obtain ⟨m, rfl, hD, hl, hc, ho, ht, hv⟩ := h
  have hc0 : c = 0 := by rcases hc with h | h <;> omega
  rw [take_val_end (by omega), take_val_end (by omega), val_digs, val_digs, hc0, Int.zero_mul, Int.add_zero] at hv
  refine canon hD ?_ (by rw [hv]; omega)
  have hp : ∀ n : Nat, n ≠ 0 → 1000000000 ^ ((digs n).length - 1) ≤ n := by
    intro n hn
    rcases Nat.lt_or_ge n (1000000000 ^ ((digs n).length - 1)) with h | h
    · have := len_digs_le h
      have := len_pos hn
      omega
    · exact h
  have hpi : ∀ n k : Nat, n ≠ 0 → (digs n).length = k + 1 → (1000000000 : Int) ^ k ≤ n := by
    intro n k hn hk
    have := hp n hn
    rw [hk, Nat.add_sub_cancel] at this
    have e : ((1000000000 ^ k : Nat) : Int) = (1000000000 : Int) ^ k := by simp
    omega
  rcases Nat.eq_zero_or_pos m with hm | hm
  · have : out = [] := List.length_eq_zero_iff.1 (by omega)
    rw [this]
    exact fun h => absurd rfl h
  · obtain ⟨k, rfl⟩ : ∃ k, m = k + 1 := ⟨m - 1, by omega⟩
    by_cases ha : (digs a).length = k + 1
    · have h0 : a ≠ 0 := by intro h; rw [h, digs_zero] at ha; simp at ha
      have := hpi a k h0 ha
      exact top_of_val hl hD (by omega)
    · by_cases hb : (digs b).length = k + 1
      · have h0 : b ≠ 0 := by intro h; rw [h, digs_zero] at hb; simp at hb
        have := hpi b k h0 hb
        exact top_of_val hl hD (by omega)
      · rcases ht with h | h | h
        · omega
        · omega
        · exact h
end Go.Proofs.YteohmbannpbokaaGreatDoor.NatLaw
