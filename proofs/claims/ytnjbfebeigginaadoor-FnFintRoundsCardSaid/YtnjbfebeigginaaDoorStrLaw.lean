/-
  The decimal digits of a number, the lowest ones first, and how the reference comes to them limb by limb: a plain law, with no program in sight.
-/
import Derived.Test.YtnjbfebeigginaaDoorDigs
set_option linter.unusedVariables false
set_option linter.unusedSimpArgs false
namespace Go.Proofs.YtnjbfebeigginaaDoor.StrLaw
open Go.RowKit Go.Proofs.YtnjbfebeigginaaDoorW.PrintWords Go.Proofs.YtnjbfebeigginaaDoor.Digs

/-- How many decimal digits a number has. -/
def nd (n : Nat) : Nat := if h : n = 0 then 0 else nd (n / 10) + 1
  termination_by n
  decreasing_by omega
theorem nd_zero : nd 0 = 0 := by rw [nd]; simp
theorem nd_pos {n : Nat} (h : n ≠ 0) : nd n = nd (n / 10) + 1 := by rw [nd]; simp [h]
theorem nd_lt : ∀ (j n : Nat), j < nd n ↔ 0 < n / 10 ^ j := by
  intro j
  induction j with
  | zero =>
    intro n
    rw [Nat.pow_zero, Nat.div_one]
    by_cases h : n = 0
    · subst h; simp [nd_zero]
    · rw [nd_pos h]; omega
  | succ j ih =>
    intro n
    rw [Nat.pow_succ, Nat.mul_comm, ← Nat.div_div_eq_div_mul, ← ih]
    by_cases h : n = 0
    · subst h; simp [nd_zero]
    · rw [nd_pos h]; omega
theorem nd_le {n k : Nat} (h : n < 10 ^ k) : nd n ≤ k := by
  rcases Nat.lt_or_ge k (nd n) with h1 | h1
  · have := (nd_lt k n).1 h1
    rw [Nat.div_eq_of_lt h] at this
    omega
  · exact h1
theorem lt_of_nd (n : Nat) : n < 10 ^ nd n := by
  rcases Nat.lt_or_ge n (10 ^ nd n) with h | h
  · exact h
  · have := (nd_lt (nd n) n).2 (Nat.div_pos h (Nat.pow_pos (by decide)))
    omega
theorem nd_le_iff {n k : Nat} : nd n ≤ k ↔ n < 10 ^ k := ⟨fun h => Nat.lt_of_lt_of_le (lt_of_nd n) (Nat.pow_le_pow_right (by decide) h), nd_le⟩
theorem pow9 (i : Nat) : (1000000000 : Nat) ^ i = 10 ^ (9 * i) := by rw [Nat.pow_mul]

/-- Its lowest k digits, as bytes. -/
def dbyt (n k : Nat) : List Int := (List.range k).map fun j => ((48 + n / 10 ^ j % 10 : Nat) : Int)
theorem dbyt_zero (n : Nat) : dbyt n 0 = [] := rfl
theorem dbyt_succ (n k : Nat) : dbyt n (k + 1) = dbyt n k ++ [((48 + n / 10 ^ k % 10 : Nat) : Int)] := by simp [dbyt, List.range_succ]
theorem dbyt_len (n k : Nat) : (dbyt n k).length = k := by simp [dbyt]

theorem rd_digs : ∀ (i n : Nat), rd (digs n) (i : Int) = ((n / 1000000000 ^ i % 1000000000 : Nat) : Int) := by
  intro i
  induction i with
  | zero =>
    intro n
    rw [rd_nat]
    by_cases h : n = 0
    · subst h; rw [digs_zero]; simp
    · rw [digs_pos h]; simp
  | succ i ih =>
    intro n
    rw [rd_nat]
    by_cases h : n = 0
    · subst h; rw [digs_zero]; simp
    · rw [digs_pos h, List.getD_cons_succ, ← rd_nat, ih, Nat.div_div_eq_div_mul, Nat.pow_succ, Nat.mul_comm (1000000000 ^ i)]
theorem len_digs_iff (n i : Nat) : i < (digs n).length ↔ 0 < n / 1000000000 ^ i := by
  constructor
  · intro h
    rcases Nat.eq_zero_or_pos (n / 1000000000 ^ i) with h0 | h0
    · have := len_digs_le (n := n) (L := i) ((Nat.div_eq_zero_iff_lt (Nat.pow_pos (by decide))).1 h0)
      omega
    · exact h0
  · intro h
    rcases Nat.lt_or_ge i (digs n).length with h1 | h1
    · exact h1
    · have := lt_of_len n
      have h2 : n < 1000000000 ^ i := Nat.lt_of_lt_of_le this (Nat.pow_le_pow_right (by decide) h1)
      rw [Nat.div_eq_of_lt h2] at h
      omega
theorem nd_le_len (n : Nat) : nd n ≤ 9 * (digs n).length := by
  rw [nd_le_iff, ← pow9]; exact lt_of_len n

/-- Behind i limbs. -/
structure Out (n : Nat) (i : Int) (x : List Int) : Prop where
  mk :: (out : ∃ a : Nat, i = a ∧ a ≤ (digs n).length ∧ x = dbyt n (min (9 * a) (nd n)))
/-- Within limb i, behind k of its digits. -/
structure Inn (n : Nat) (i k c : Int) (x : List Int) : Prop where
  mk :: (out : ∃ a b : Nat, i = a ∧ k = b ∧ a < (digs n).length ∧ b ≤ 9 ∧ c = ((n / 1000000000 ^ a % 1000000000 / 10 ^ b : Nat) : Int) ∧ x = dbyt n (9 * a + b) ∧ 9 * a + b ≤ nd n)

theorem Out.start (n : Nat) : Out n 0 [] := ⟨0, rfl, Nat.zero_le _, by simp [dbyt_zero]⟩
theorem nd_of_len {n a : Nat} (h : a < (digs n).length) : 9 * a < nd n := by rw [nd_lt, ← pow9]; exact (len_digs_iff n a).1 h
theorem Out.inn {n : Nat} {i : Int} {x : List Int} (h : Out n i x) (hi : i < (digs n).length) : Inn n i 0 (rd (digs n) i) x := by
  obtain ⟨a, rfl, ha, rfl⟩ := h
  have ha' : a < (digs n).length := by omega
  have := nd_of_len ha'
  exact ⟨a, 0, rfl, rfl, ha', by omega, by rw [rd_digs, Nat.pow_zero, Nat.div_one], by rw [Nat.min_eq_left (by omega)]; rfl, by omega⟩
theorem Out.bound {n : Nat} {i : Int} {x : List Int} (h : Out n i x) : 0 ≤ i ∧ i ≤ (digs n).length ∧ x.length ≤ 9 * (digs n).length := by
  obtain ⟨a, rfl, ha, rfl⟩ := h
  rw [dbyt_len]
  omega
theorem Inn.bound {n : Nat} {i k c : Int} {x : List Int} (h : Inn n i k c x) : 0 ≤ i ∧ i < (digs n).length ∧ 0 ≤ k ∧ k ≤ 9 ∧ 0 ≤ c ∧ c ≤ 999999999 ∧ x.length ≤ 9 * (digs n).length := by
  obtain ⟨a, b, rfl, rfl, ha, hb, rfl, rfl, hn⟩ := h
  have h1 : n / 1000000000 ^ a % 1000000000 / 10 ^ b < 1000000000 := Nat.lt_of_le_of_lt (Nat.div_le_self _ _) (Nat.mod_lt _ (by decide))
  have := nd_le_len n
  rw [dbyt_len]
  generalize n / 1000000000 ^ a % 1000000000 / 10 ^ b = q at *
  omega
theorem Out.done {n : Nat} {i : Int} {x : List Int} (h : Out n i x) (hi : ¬ i < (digs n).length) : x = dbyt n (nd n) := by
  obtain ⟨a, rfl, ha, rfl⟩ := h
  have : a = (digs n).length := by omega
  subst this
  rw [Nat.min_eq_right (nd_le_len n)]
theorem div_lo (m b : Nat) (hb : b < 9) : m % 1000000000 / 10 ^ b % 10 = m / 10 ^ b % 10 := by
  have hb' : b = 0 ∨ b = 1 ∨ b = 2 ∨ b = 3 ∨ b = 4 ∨ b = 5 ∨ b = 6 ∨ b = 7 ∨ b = 8 := by omega
  rcases hb' with rfl | rfl | rfl | rfl | rfl | rfl | rfl | rfl | rfl <;> simp only [Nat.reducePow, Nat.pow_zero] <;> omega
theorem Inn.step {n : Nat} {i k c : Int} {x : List Int} (h : Inn n i k c x) (hk : k < 9) (hc : 0 < c ∨ i + 1 < (digs n).length) : Inn n i (k + 1) (c / 10) (x ++ [48 + c % 10]) := by
  obtain ⟨a, b, rfl, rfl, ha, hb, rfl, rfl, hn⟩ := h
  have hp : 0 < 10 ^ b := Nat.pow_pos (by decide)
  have hlt : 9 * a + b < nd n := by
    rcases hc with hc | hc
    · rw [nd_lt, Nat.pow_add, ← pow9, ← Nat.div_div_eq_div_mul]
      have h2 : 10 ^ b ≤ n / 1000000000 ^ a % 1000000000 := by
        rcases Nat.lt_or_ge (n / 1000000000 ^ a % 1000000000) (10 ^ b) with h3 | h3
        · rw [Nat.div_eq_of_lt h3] at hc; omega
        · exact h3
      exact Nat.div_pos (Nat.le_trans h2 (Nat.mod_le _ _)) hp
    · have := nd_of_len (n := n) (a := a + 1) (by omega)
      omega
  have h1 : n / 1000000000 ^ a % 1000000000 / 10 ^ b < 1000000000 := Nat.lt_of_le_of_lt (Nat.div_le_self _ _) (Nat.mod_lt _ (by decide))
  refine ⟨a, b + 1, rfl, by omega, ha, by omega, ?_, ?_, by omega⟩
  · rw [Nat.pow_succ, ← Nat.div_div_eq_div_mul]
    generalize n / 1000000000 ^ a % 1000000000 / 10 ^ b = q at *
    omega
  · rw [← Nat.add_assoc, dbyt_succ]
    congr 2
    rw [Nat.pow_add, ← pow9, ← Nat.div_div_eq_div_mul, ← div_lo _ b (by omega)]
    generalize n / 1000000000 ^ a % 1000000000 / 10 ^ b = q at *
    omega
/-- The limb is at its end. -/
theorem Inn.stop9 {n : Nat} {i k c : Int} {x : List Int} (h : Inn n i k c x) (hk : ¬ k < 9) : Out n (i + 1) x := by
  obtain ⟨a, b, rfl, rfl, ha, hb, rfl, rfl, hn⟩ := h
  have e : b = 9 := by omega
  subst e
  exact ⟨a + 1, by omega, ha, by rw [Nat.min_eq_left (by omega), Nat.mul_succ]⟩
/-- The number is at its end. -/
theorem Inn.stop0 {n : Nat} {i k c : Int} {x : List Int} (h : Inn n i k c x) (hk : k < 9) (hc : ¬ 0 < c) (hi : ¬ i + 1 < (digs n).length) : Out n (i + 1) x := by
  obtain ⟨a, b, rfl, rfl, ha, hb, rfl, rfl, hn⟩ := h
  have hp : 0 < 10 ^ b := Nat.pow_pos (by decide)
  have ea : (digs n).length = a + 1 := by omega
  have hn1 : n < 1000000000 ^ (a + 1) := by have := lt_of_len n; rwa [ea] at this
  have h2 : n / 1000000000 ^ a < 1000000000 := by
    rw [Nat.pow_succ] at hn1
    exact Nat.div_lt_of_lt_mul hn1
  have h3 : n / 1000000000 ^ a < 10 ^ b := by
    rw [Nat.mod_eq_of_lt h2] at hc
    rcases Nat.lt_or_ge (n / 1000000000 ^ a) (10 ^ b) with h | h
    · exact h
    · have := Nat.div_pos h hp
      omega
  have e : ¬ 9 * a + b < nd n := by
    rw [nd_lt, Nat.pow_add, ← pow9, ← Nat.div_div_eq_div_mul, Nat.div_eq_of_lt h3]
    omega
  exact ⟨a + 1, by omega, by omega, by rw [show min (9 * (a + 1)) (nd n) = 9 * a + b by omega]⟩

/-- A list, turned round from both ends up to i and j. -/
structure Rev (x y : List Int) (i j : Int) : Prop where
  mk :: (out : ∃ a : Nat, i = a ∧ j = (x.length : Int) - 1 - a ∧ y.length = x.length ∧ 2 * a ≤ x.length + 1 ∧ ∀ t : Nat, t < x.length → rd y t = if t < a ∨ x.length ≤ t + a then rd x ((x.length - 1 - t : Nat) : Int) else rd x t)
theorem Rev.start (x : List Int) : Rev x x 0 ((x.length : Int) - 1) := ⟨0, rfl, by omega, rfl, by omega, fun t ht => by rw [if_neg (by omega)]⟩
theorem Rev.bound {x y : List Int} {i j : Int} (h : Rev x y i j) : y.length = x.length ∧ 0 ≤ i ∧ j < x.length ∧ (i < j → j - i ≤ x.length) := by
  obtain ⟨a, rfl, rfl, hl, h2, _⟩ := h
  omega
theorem Rev.step {x y : List Int} {i j : Int} (h : Rev x y i j) (hij : i < j) : Rev x ((y.set i.toNat (rd y j)).set j.toNat (rd y i)) (i + 1) (j - 1) := by
  obtain ⟨a, rfl, rfl, hl, h2, hy⟩ := h
  have ej : ((x.length : Int) - 1 - a).toNat = x.length - 1 - a := by omega
  have ej2 : (x.length : Int) - 1 - a = ((x.length - 1 - a : Nat) : Int) := by omega
  have yi : rd y (a : Int) = rd x a := by rw [hy a (by omega), if_neg (by omega)]
  have yj : rd y ((x.length : Int) - 1 - a) = rd x ((x.length - 1 - a : Nat) : Int) := by rw [ej2, hy _ (by omega), if_neg (by omega)]
  rw [ej, yi, yj, Int.toNat_natCast]
  refine ⟨a + 1, by omega, by omega, by simp [hl], by omega, fun t ht => ?_⟩
  by_cases e1 : t = x.length - 1 - a
  · subst e1
    rw [rd_set_self (by simp; omega), if_pos (by omega)]
    congr 1
    omega
  · rw [rd_set_ne (by omega)]
    by_cases e2 : t = a
    · subst e2
      rw [rd_set_self (by omega), if_pos (by omega)]
    · rw [rd_set_ne (by omega), hy t ht]
      by_cases e3 : t < a ∨ x.length ≤ t + a
      · rw [if_pos e3, if_pos (by omega)]
      · rw [if_neg e3, if_neg (by omega)]
theorem Rev.done {x y : List Int} {i j : Int} (h : Rev x y i j) (hij : ¬ i < j) : y = x.reverse := by
  obtain ⟨a, rfl, rfl, hl, h2, hy⟩ := h
  refine List.ext_getElem (by simp [hl]) fun t h1 h3 => ?_
  have ht : t < x.length := by omega
  have := hy t ht
  rw [rd_lt h1, rd_lt ht, rd_lt (by omega)] at this
  rw [this, List.getElem_reverse]
  by_cases e : t < a ∨ x.length ≤ t + a
  · rw [if_pos e]
  · rw [if_neg e]
    congr 1
    omega

/-- The text of a number. -/
def text (n : Nat) : ByteArray := if n = 0 then ⟨#[48]⟩ else strOfNums (dbyt n (nd n)).reverse
theorem dbyt_nil {n : Nat} : ((dbyt n (nd n)).length : Int) = 0 ↔ n = 0 := by
  rw [dbyt_len]
  constructor
  · intro h
    refine Classical.byContradiction fun hn => ?_
    rw [nd_pos hn] at h
    omega
  · rintro rfl
    rw [nd_zero]
    rfl
theorem text_zero : text 0 = ⟨#[48]⟩ := rfl
theorem text_pos {n : Nat} (h : n ≠ 0) : text n = strOfNums (dbyt n (nd n)).reverse := if_neg h
end Go.Proofs.YtnjbfebeigginaaDoor.StrLaw
