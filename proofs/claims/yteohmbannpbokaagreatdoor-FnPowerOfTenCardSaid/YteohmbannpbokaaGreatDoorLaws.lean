/-
  Natural numbers as lists of limbs below 10^9 (the lowest ones first): a plain law, with no program in sight.
  The decimal digits of a number, the lowest ones first, and how the reference comes to them limb by limb: a plain law, with no program in sight.
  Natural numbers as lists of limbs below 18446744073709551616 (the lowest ones first): a plain law, with no program in sight.
  Natural numbers as lists of limbs below 4294967296 (the lowest ones first): a plain law, with no program in sight.
  The numbers of texts of digits: a plain law, with no program in sight.
  Numbers in words and in halves of words: a plain law, with no program in sight.
-/
import Derived.Test.YteohmbannpbokaaGreatDoorWWords
import Derived.IntWalk
import Derived.Lib.VarintBits
set_option linter.unusedVariables false
set_option linter.unusedSimpArgs false
namespace Go.Proofs.YteohmbannpbokaaGreatDoor.Digs
open Go.RowKit Go.Proofs.YteohmbannpbokaaGreatDoorW.PrintWords

theorem w64 (x : Int) (h1 : -9223372036854775808 ≤ x) (h2 : x ≤ 9223372036854775807) : wrap64 x = x := by
  unfold wrap64; omega
theorem wu64 (x : Int) (h1 : 0 ≤ x) (h2 : x ≤ 18446744073709551615) : IntKind.u64.wrap x = x := by
  exact IntWalk.u64_in x ⟨h1, h2⟩

/-! ### lists of limbs -/
def val : List Int → Int
  | [] => 0
  | x :: xs => x + 1000000000 * val xs
def Dig (l : List Int) : Prop := ∀ x ∈ l, 0 ≤ x ∧ x < 1000000000
def Top (l : List Int) : Prop := ∀ h : l ≠ [], l.getLast h ≠ 0

theorem pw_pos (i : Nat) : 0 < (1000000000 : Int) ^ i := Int.pow_pos (by decide)
theorem pw_succ (i : Nat) : (1000000000 : Int) ^ (i + 1) = 1000000000 * 1000000000 ^ i := by rw [Int.pow_succ, Int.mul_comm]

theorem Dig.nil : Dig [] := fun x h => by cases h
theorem Dig.cons {x : Int} {xs : List Int} (h : 0 ≤ x ∧ x < 1000000000) (hs : Dig xs) : Dig (x :: xs) := fun y hy => by
  rcases List.mem_cons.1 hy with rfl | hy
  · exact h
  · exact hs y hy
theorem Dig.head {x : Int} {xs : List Int} (h : Dig (x :: xs)) : 0 ≤ x ∧ x < 1000000000 := h x List.mem_cons_self
theorem Dig.tail {x : Int} {xs : List Int} (h : Dig (x :: xs)) : Dig xs := fun y hy => h y (List.mem_cons_of_mem _ hy)
theorem Dig.append {a b : List Int} (ha : Dig a) (hb : Dig b) : Dig (a ++ b) := fun y hy => (List.mem_append.1 hy).elim (ha y) (hb y)
theorem Dig.take {a : List Int} (ha : Dig a) (n : Nat) : Dig (a.take n) := fun y hy => ha y (List.mem_of_mem_take hy)
theorem Dig.set {a : List Int} (ha : Dig a) (i : Nat) {v : Int} (hv : 0 ≤ v ∧ v < 1000000000) : Dig (a.set i v) := fun y hy => by
  rcases List.mem_or_eq_of_mem_set hy with h | rfl
  · exact ha y h
  · exact hv
theorem Dig.rep (n : Nat) : Dig (List.replicate n 0) := fun y hy => by
  have := (List.mem_replicate.1 hy).2
  omega
theorem dig_rd {a : List Int} (ha : Dig a) (i : Int) : 0 ≤ rd a i ∧ rd a i < 1000000000 := by
  unfold Go.Proofs.YteohmbannpbokaaGreatDoorW.PrintWords.rd
  rw [List.getD_eq_getElem?_getD]
  by_cases h : i.toNat < a.length
  · rw [List.getElem?_eq_getElem h]
    exact ha _ (List.getElem_mem h)
  · rw [List.getElem?_eq_none (by omega)]
    simp

theorem val_append (a b : List Int) : val (a ++ b) = val a + 1000000000 ^ a.length * val b := by
  induction a with
  | nil => simp [val]
  | cons x xs ih =>
    simp only [List.cons_append, val, ih, List.length_cons, pw_succ]
    grind
theorem val_nonneg {l : List Int} (h : Dig l) : 0 ≤ val l := by
  induction l with
  | nil => simp [val]
  | cons x xs ih =>
    have := ih h.tail
    have := h.head
    simp only [val]
    omega
theorem val_lt {l : List Int} (h : Dig l) : val l < 1000000000 ^ l.length := by
  induction l with
  | nil => simp [val]
  | cons x xs ih =>
    have := ih h.tail
    have := h.head
    simp only [val, List.length_cons, pw_succ]
    omega
theorem val_rep (n : Nat) : val (List.replicate n 0) = 0 := by
  induction n with
  | zero => rfl
  | succ n ih => simp [List.replicate_succ, val, ih]
theorem rd_nat (l : List Int) (i : Nat) : rd l (i : Int) = l.getD i 0 := by simp [Go.Proofs.YteohmbannpbokaaGreatDoorW.PrintWords.rd]
theorem rd_lt {l : List Int} {i : Nat} (h : i < l.length) : rd l (i : Int) = l[i] := by
  rw [rd_nat, List.getD_eq_getElem?_getD, List.getElem?_eq_getElem h]; rfl
theorem val_set : ∀ (l : List Int) (i : Nat) (v : Int), i < l.length → val (l.set i v) = val l + (v - rd l i) * 1000000000 ^ i := by
  intro l
  induction l with
  | nil => intro i v h; simp at h
  | cons x xs ih =>
    intro i v h
    cases i with
    | zero =>
      simp only [List.set_cons_zero, val, rd_nat, List.getD_cons_zero, Int.pow_zero]
      omega
    | succ i =>
      have := ih i v (by simpa using h)
      simp only [List.set_cons_succ, val, this, rd_nat, List.getD_cons_succ, pw_succ]
      grind
theorem take_succ_rd {l : List Int} {i : Nat} (h : i < l.length) : l.take (i + 1) = l.take i ++ [rd l i] := by
  rw [rd_lt h, List.take_succ_eq_append_getElem h]
theorem val_take_succ {l : List Int} {i : Nat} (h : i < l.length) : val (l.take (i + 1)) = val (l.take i) + rd l i * 1000000000 ^ i := by
  rw [take_succ_rd h, val_append]
  simp only [val, List.length_take, Nat.min_eq_left (Nat.le_of_lt h)]
  grind
theorem rd_set_self {l : List Int} {i : Nat} {v : Int} (h : i < l.length) : rd (l.set i v) i = v := by
  rw [rd_lt (by simpa using h)]
  simp
theorem rd_set_ne {l : List Int} {i j : Nat} {v : Int} (h : i ≠ j) : rd (l.set i v) (j : Int) = rd l (j : Int) := by
  rw [rd_nat, rd_nat, List.getD_eq_getElem?_getD, List.getD_eq_getElem?_getD, List.getElem?_set_ne h]
theorem rd_rep (n i : Nat) : rd (List.replicate n 0) (i : Int) = 0 := by
  rw [rd_nat, List.getD_eq_getElem?_getD, List.getElem?_replicate]
  split <;> rfl

/-! ### the limbs of a number -/
def digs (n : Nat) : List Int := if h : n = 0 then [] else ((n % 1000000000 : Nat) : Int) :: digs (n / 1000000000)
  termination_by n
  decreasing_by omega
theorem digs_zero : digs 0 = [] := by rw [digs]; simp
theorem digs_pos {n : Nat} (h : n ≠ 0) : digs n = ((n % 1000000000 : Nat) : Int) :: digs (n / 1000000000) := by rw [digs]; simp [h]
theorem digs_ne {n : Nat} (h : n ≠ 0) : digs n ≠ [] := by rw [digs_pos h]; simp
theorem digs_one {n : Nat} (h : n ≠ 0) (h2 : n < 1000000000) : digs n = [(n : Int)] := by
  rw [digs_pos h, Nat.mod_eq_of_lt h2, Nat.div_eq_of_lt h2, digs_zero]
theorem val_digs (n : Nat) : val (digs n) = n := by
  induction n using Nat.strongRecOn with
  | _ n ih =>
    by_cases h : n = 0
    · subst h; rw [digs_zero]; rfl
    · rw [digs_pos h, val, ih _ (by omega)]
      omega
theorem dig_digs (n : Nat) : Dig (digs n) := by
  induction n using Nat.strongRecOn with
  | _ n ih =>
    by_cases h : n = 0
    · subst h; rw [digs_zero]; exact Dig.nil
    · rw [digs_pos h]
      exact Dig.cons (by omega) (ih _ (by omega))
theorem top_digs (n : Nat) : Top (digs n) := by
  induction n using Nat.strongRecOn with
  | _ n ih =>
    by_cases h : n = 0
    · subst h; rw [digs_zero]; intro h; exact absurd rfl h
    · intro hn
      have e := digs_pos h
      by_cases h2 : n / 1000000000 = 0
      · rw [h2, digs_zero] at e
        simp only [e, List.getLast_singleton]
        omega
      · have := ih _ (by omega) (digs_ne h2)
        simp only [e, List.getLast_cons (digs_ne h2)]
        exact this
theorem canon {l : List Int} (hd : Dig l) (ht : Top l) : ∀ {n : Nat}, val l = n → l = digs n := by
  induction l with
  | nil =>
    intro n h
    have : n = 0 := by simp only [val] at h; omega
    subst this
    rw [digs_zero]
  | cons x xs ih =>
    intro n h
    have hx := hd.head
    have hv := val_nonneg hd.tail
    simp only [val] at h
    have hts : Top xs := fun hne => by have := ht (by simp); rwa [List.getLast_cons hne] at this
    have e := ih hd.tail hts (n := n / 1000000000) (by omega)
    have hn : n ≠ 0 := by
      intro h0
      subst h0
      by_cases hxs : xs = []
      · subst hxs
        have := ht (by simp)
        simp only [List.getLast_singleton] at this
        simp only [val] at h
        omega
      · rw [show (0 / 1000000000 : Nat) = 0 from rfl, digs_zero] at e
        exact hxs e
    rw [digs_pos hn, ← e]
    congr 1
    omega
theorem len_digs_le {n L : Nat} (h : n < 1000000000 ^ L) : (digs n).length ≤ L := by
  induction L generalizing n with
  | zero =>
    have : n = 0 := by simp at h; exact h
    subst this
    simp [digs_zero]
  | succ L ih =>
    by_cases h0 : n = 0
    · subst h0; simp [digs_zero]
    · rw [digs_pos h0, List.length_cons]
      have := ih (n := n / 1000000000) (by rw [Nat.pow_succ, Nat.mul_comm] at h; exact Nat.div_lt_of_lt_mul h)
      omega
theorem lt_of_len (n : Nat) : n < 1000000000 ^ (digs n).length := by
  have := val_lt (dig_digs n)
  rw [val_digs] at this
  have e : ((1000000000 ^ (digs n).length : Nat) : Int) = (1000000000 : Int) ^ (digs n).length := by simp
  rw [← e] at this
  exact Int.ofNat_lt.1 this
theorem len_digs_lt {a b : Nat} (h : (digs a).length < (digs b).length) : a < b := by
  rcases Nat.lt_or_ge a b with h1 | h1
  · exact h1
  · have := len_digs_le (n := b) (L := (digs a).length) (Nat.lt_of_le_of_lt h1 (lt_of_len a))
    omega
theorem len_digs_mono {a b : Nat} (h : a ≤ b) : (digs a).length ≤ (digs b).length := len_digs_le (Nat.lt_of_le_of_lt h (lt_of_len b))
theorem digs_inj {a b : Nat} (h : digs a = digs b) : a = b := by
  have h1 := val_digs a
  rw [h, val_digs] at h1
  omega
theorem digs_nil {n : Nat} : digs n = [] ↔ n = 0 := ⟨fun h => Classical.byContradiction fun hn => digs_ne hn h, fun h => by rw [h, digs_zero]⟩
theorem len_pos {n : Nat} (h : n ≠ 0) : 0 < (digs n).length := List.length_pos_iff.2 (digs_ne h)
theorem len_zero {n : Nat} : (digs n).length = 0 ↔ n = 0 := by rw [List.length_eq_zero_iff, digs_nil]

end Go.Proofs.YteohmbannpbokaaGreatDoor.Digs

set_option linter.unusedVariables false
set_option linter.unusedSimpArgs false
namespace Go.Proofs.YteohmbannpbokaaGreatDoor.StrLaw
open Go.RowKit Go.Proofs.YteohmbannpbokaaGreatDoorW.PrintWords Go.Proofs.YteohmbannpbokaaGreatDoor.Digs

/-- How many decimal digits a number has. -/
def nd (n : Nat) : Nat := if h : n = 0 then 0 else nd (n / 10) + 1
  termination_by n
  decreasing_by omega
theorem nd_zero : nd 0 = 0 := by rw [nd]; simp
theorem nd_pos {n : Nat} (h : n ≠ 0) : nd n = nd (n / 10) + 1 := by rw [nd]; simp [h]
theorem nd_lt : ∀ (j n : Nat), j < nd n ↔ 0 < n / 10 ^ j := by
  intro j
  induction j with
  | zero =>
    intro n
    rw [Nat.pow_zero, Nat.div_one]
    by_cases h : n = 0
    · subst h; simp [nd_zero]
    · rw [nd_pos h]; omega
  | succ j ih =>
    intro n
    rw [Nat.pow_succ, Nat.mul_comm, ← Nat.div_div_eq_div_mul, ← ih]
    by_cases h : n = 0
    · subst h; simp [nd_zero]
    · rw [nd_pos h]; omega
theorem nd_le {n k : Nat} (h : n < 10 ^ k) : nd n ≤ k := by
  rcases Nat.lt_or_ge k (nd n) with h1 | h1
  · have := (nd_lt k n).1 h1
    rw [Nat.div_eq_of_lt h] at this
    omega
  · exact h1
theorem lt_of_nd (n : Nat) : n < 10 ^ nd n := by
  rcases Nat.lt_or_ge n (10 ^ nd n) with h | h
  · exact h
  · have := (nd_lt (nd n) n).2 (Nat.div_pos h (Nat.pow_pos (by decide)))
    omega
theorem nd_le_iff {n k : Nat} : nd n ≤ k ↔ n < 10 ^ k := ⟨fun h => Nat.lt_of_lt_of_le (lt_of_nd n) (Nat.pow_le_pow_right (by decide) h), nd_le⟩
theorem pow9 (i : Nat) : (1000000000 : Nat) ^ i = 10 ^ (9 * i) := by rw [Nat.pow_mul]

/-- Its lowest k digits, as bytes. -/
def dbyt (n k : Nat) : List Int := (List.range k).map fun j => ((48 + n / 10 ^ j % 10 : Nat) : Int)
theorem dbyt_zero (n : Nat) : dbyt n 0 = [] := rfl
theorem dbyt_succ (n k : Nat) : dbyt n (k + 1) = dbyt n k ++ [((48 + n / 10 ^ k % 10 : Nat) : Int)] := by simp [dbyt, List.range_succ]
theorem dbyt_len (n k : Nat) : (dbyt n k).length = k := by simp [dbyt]

theorem rd_digs : ∀ (i n : Nat), rd (digs n) (i : Int) = ((n / 1000000000 ^ i % 1000000000 : Nat) : Int) := by
  intro i
  induction i with
  | zero =>
    intro n
    rw [rd_nat]
    by_cases h : n = 0
    · subst h; rw [digs_zero]; simp
    · rw [digs_pos h]; simp
  | succ i ih =>
    intro n
    rw [rd_nat]
    by_cases h : n = 0
    · subst h; rw [digs_zero]; simp
    · rw [digs_pos h, List.getD_cons_succ, ← rd_nat, ih, Nat.div_div_eq_div_mul, Nat.pow_succ, Nat.mul_comm (1000000000 ^ i)]
theorem len_digs_iff (n i : Nat) : i < (digs n).length ↔ 0 < n / 1000000000 ^ i := by
  constructor
  · intro h
    rcases Nat.eq_zero_or_pos (n / 1000000000 ^ i) with h0 | h0
    · have := len_digs_le (n := n) (L := i) ((Nat.div_eq_zero_iff_lt (Nat.pow_pos (by decide))).1 h0)
      omega
    · exact h0
  · intro h
    rcases Nat.lt_or_ge i (digs n).length with h1 | h1
    · exact h1
    · have := lt_of_len n
      have h2 : n < 1000000000 ^ i := Nat.lt_of_lt_of_le this (Nat.pow_le_pow_right (by decide) h1)
      rw [Nat.div_eq_of_lt h2] at h
      omega
theorem nd_le_len (n : Nat) : nd n ≤ 9 * (digs n).length := by
  rw [nd_le_iff, ← pow9]; exact lt_of_len n

/-- Behind i limbs. -/
structure Out (n : Nat) (i : Int) (x : List Int) : Prop where
  mk :: (out : ∃ a : Nat, i = a ∧ a ≤ (digs n).length ∧ x = dbyt n (min (9 * a) (nd n)))
/-- Within limb i, behind k of its digits. -/
structure Inn (n : Nat) (i k c : Int) (x : List Int) : Prop where
  mk :: (out : ∃ a b : Nat, i = a ∧ k = b ∧ a < (digs n).length ∧ b ≤ 9 ∧ c = ((n / 1000000000 ^ a % 1000000000 / 10 ^ b : Nat) : Int) ∧ x = dbyt n (9 * a + b) ∧ 9 * a + b ≤ nd n)

theorem Out.start (n : Nat) : Out n 0 [] := ⟨0, rfl, Nat.zero_le _, by simp [dbyt_zero]⟩
theorem nd_of_len {n a : Nat} (h : a < (digs n).length) : 9 * a < nd n := by rw [nd_lt, ← pow9]; exact (len_digs_iff n a).1 h
theorem Out.inn {n : Nat} {i : Int} {x : List Int} (h : Out n i x) (hi : i < (digs n).length) : Inn n i 0 (rd (digs n) i) x := by
  obtain ⟨a, rfl, ha, rfl⟩ := h
  have ha' : a < (digs n).length := by omega
  have := nd_of_len ha'
  exact ⟨a, 0, rfl, rfl, ha', by omega, by rw [rd_digs, Nat.pow_zero, Nat.div_one], by rw [Nat.min_eq_left (by omega)]; rfl, by omega⟩
theorem Out.bound {n : Nat} {i : Int} {x : List Int} (h : Out n i x) : 0 ≤ i ∧ i ≤ (digs n).length ∧ x.length ≤ 9 * (digs n).length := by
  obtain ⟨a, rfl, ha, rfl⟩ := h
  rw [dbyt_len]
  omega
theorem Inn.bound {n : Nat} {i k c : Int} {x : List Int} (h : Inn n i k c x) : 0 ≤ i ∧ i < (digs n).length ∧ 0 ≤ k ∧ k ≤ 9 ∧ 0 ≤ c ∧ c ≤ 999999999 ∧ x.length ≤ 9 * (digs n).length := by
  obtain ⟨a, b, rfl, rfl, ha, hb, rfl, rfl, hn⟩ := h
  have h1 : n / 1000000000 ^ a % 1000000000 / 10 ^ b < 1000000000 := Nat.lt_of_le_of_lt (Nat.div_le_self _ _) (Nat.mod_lt _ (by decide))
  have := nd_le_len n
  rw [dbyt_len]
  generalize n / 1000000000 ^ a % 1000000000 / 10 ^ b = q at *
  omega
theorem Out.done {n : Nat} {i : Int} {x : List Int} (h : Out n i x) (hi : ¬ i < (digs n).length) : x = dbyt n (nd n) := by
  obtain ⟨a, rfl, ha, rfl⟩ := h
  have : a = (digs n).length := by omega
  subst this
  rw [Nat.min_eq_right (nd_le_len n)]
theorem div_lo (m b : Nat) (hb : b < 9) : m % 1000000000 / 10 ^ b % 10 = m / 10 ^ b % 10 := by
  have hb' : b = 0 ∨ b = 1 ∨ b = 2 ∨ b = 3 ∨ b = 4 ∨ b = 5 ∨ b = 6 ∨ b = 7 ∨ b = 8 := by omega
  rcases hb' with rfl | rfl | rfl | rfl | rfl | rfl | rfl | rfl | rfl <;> simp only [Nat.reducePow, Nat.pow_zero] <;> omega
theorem Inn.step {n : Nat} {i k c : Int} {x : List Int} (h : Inn n i k c x) (hk : k < 9) (hc : 0 < c ∨ i + 1 < (digs n).length) : Inn n i (k + 1) (c / 10) (x ++ [48 + c % 10]) := by
  obtain ⟨a, b, rfl, rfl, ha, hb, rfl, rfl, hn⟩ := h
  have hp : 0 < 10 ^ b := Nat.pow_pos (by decide)
  have hlt : 9 * a + b < nd n := by
    rcases hc with hc | hc
    · rw [nd_lt, Nat.pow_add, ← pow9, ← Nat.div_div_eq_div_mul]
      have h2 : 10 ^ b ≤ n / 1000000000 ^ a % 1000000000 := by
        rcases Nat.lt_or_ge (n / 1000000000 ^ a % 1000000000) (10 ^ b) with h3 | h3
        · rw [Nat.div_eq_of_lt h3] at hc; omega
        · exact h3
      exact Nat.div_pos (Nat.le_trans h2 (Nat.mod_le _ _)) hp
    · have := nd_of_len (n := n) (a := a + 1) (by omega)
      omega
  have h1 : n / 1000000000 ^ a % 1000000000 / 10 ^ b < 1000000000 := Nat.lt_of_le_of_lt (Nat.div_le_self _ _) (Nat.mod_lt _ (by decide))
  refine ⟨a, b + 1, rfl, by omega, ha, by omega, ?_, ?_, by omega⟩
  · rw [Nat.pow_succ, ← Nat.div_div_eq_div_mul]
    generalize n / 1000000000 ^ a % 1000000000 / 10 ^ b = q at *
    omega
  · rw [← Nat.add_assoc, dbyt_succ]
    congr 2
    rw [Nat.pow_add, ← pow9, ← Nat.div_div_eq_div_mul, ← div_lo _ b (by omega)]
    generalize n / 1000000000 ^ a % 1000000000 / 10 ^ b = q at *
    omega
/-- The limb is at its end. -/
theorem Inn.stop9 {n : Nat} {i k c : Int} {x : List Int} (h : Inn n i k c x) (hk : ¬ k < 9) : Out n (i + 1) x := by
  obtain ⟨a, b, rfl, rfl, ha, hb, rfl, rfl, hn⟩ := h
  have e : b = 9 := by omega
  subst e
  exact ⟨a + 1, by omega, ha, by rw [Nat.min_eq_left (by omega), Nat.mul_succ]⟩
/-- The number is at its end. -/
theorem Inn.stop0 {n : Nat} {i k c : Int} {x : List Int} (h : Inn n i k c x) (hk : k < 9) (hc : ¬ 0 < c) (hi : ¬ i + 1 < (digs n).length) : Out n (i + 1) x := by
  obtain ⟨a, b, rfl, rfl, ha, hb, rfl, rfl, hn⟩ := h
  have hp : 0 < 10 ^ b := Nat.pow_pos (by decide)
  have ea : (digs n).length = a + 1 := by omega
  have hn1 : n < 1000000000 ^ (a + 1) := by have := lt_of_len n; rwa [ea] at this
  have h2 : n / 1000000000 ^ a < 1000000000 := by
    rw [Nat.pow_succ] at hn1
    exact Nat.div_lt_of_lt_mul hn1
  have h3 : n / 1000000000 ^ a < 10 ^ b := by
    rw [Nat.mod_eq_of_lt h2] at hc
    rcases Nat.lt_or_ge (n / 1000000000 ^ a) (10 ^ b) with h | h
    · exact h
    · have := Nat.div_pos h hp
      omega
  have e : ¬ 9 * a + b < nd n := by
    rw [nd_lt, Nat.pow_add, ← pow9, ← Nat.div_div_eq_div_mul, Nat.div_eq_of_lt h3]
    omega
  exact ⟨a + 1, by omega, by omega, by rw [show min (9 * (a + 1)) (nd n) = 9 * a + b by omega]⟩

/-- A list, turned round from both ends up to i and j. -/
structure Rev (x y : List Int) (i j : Int) : Prop where
  mk :: (out : ∃ a : Nat, i = a ∧ j = (x.length : Int) - 1 - a ∧ y.length = x.length ∧ 2 * a ≤ x.length + 1 ∧ ∀ t : Nat, t < x.length → rd y t = if t < a ∨ x.length ≤ t + a then rd x ((x.length - 1 - t : Nat) : Int) else rd x t)
theorem Rev.start (x : List Int) : Rev x x 0 ((x.length : Int) - 1) := ⟨0, rfl, by omega, rfl, by omega, fun t ht => by rw [if_neg (by omega)]⟩
theorem Rev.bound {x y : List Int} {i j : Int} (h : Rev x y i j) : y.length = x.length ∧ 0 ≤ i ∧ j < x.length ∧ (i < j → j - i ≤ x.length) := by
  obtain ⟨a, rfl, rfl, hl, h2, _⟩ := h
  omega
theorem Rev.step {x y : List Int} {i j : Int} (h : Rev x y i j) (hij : i < j) : Rev x ((y.set i.toNat (rd y j)).set j.toNat (rd y i)) (i + 1) (j - 1) := by
  obtain ⟨a, rfl, rfl, hl, h2, hy⟩ := h
  have ej : ((x.length : Int) - 1 - a).toNat = x.length - 1 - a := by omega
  have ej2 : (x.length : Int) - 1 - a = ((x.length - 1 - a : Nat) : Int) := by omega
  have yi : rd y (a : Int) = rd x a := by rw [hy a (by omega), if_neg (by omega)]
  have yj : rd y ((x.length : Int) - 1 - a) = rd x ((x.length - 1 - a : Nat) : Int) := by rw [ej2, hy _ (by omega), if_neg (by omega)]
  rw [ej, yi, yj, Int.toNat_natCast]
  refine ⟨a + 1, by omega, by omega, by simp [hl], by omega, fun t ht => ?_⟩
  by_cases e1 : t = x.length - 1 - a
  · subst e1
    rw [rd_set_self (by simp; omega), if_pos (by omega)]
    congr 1
    omega
  · rw [rd_set_ne (by omega)]
    by_cases e2 : t = a
    · subst e2
      rw [rd_set_self (by omega), if_pos (by omega)]
    · rw [rd_set_ne (by omega), hy t ht]
      by_cases e3 : t < a ∨ x.length ≤ t + a
      · rw [if_pos e3, if_pos (by omega)]
      · rw [if_neg e3, if_neg (by omega)]
theorem Rev.done {x y : List Int} {i j : Int} (h : Rev x y i j) (hij : ¬ i < j) : y = x.reverse := by
  obtain ⟨a, rfl, rfl, hl, h2, hy⟩ := h
  refine List.ext_getElem (by simp [hl]) fun t h1 h3 => ?_
  have ht : t < x.length := by omega
  have := hy t ht
  rw [rd_lt h1, rd_lt ht, rd_lt (by omega)] at this
  rw [this, List.getElem_reverse]
  by_cases e : t < a ∨ x.length ≤ t + a
  · rw [if_pos e]
  · rw [if_neg e]
    congr 1
    omega

/-- The text of a number. -/
def text (n : Nat) : ByteArray := if n = 0 then ⟨#[48]⟩ else strOfNums (dbyt n (nd n)).reverse
theorem dbyt_nil {n : Nat} : ((dbyt n (nd n)).length : Int) = 0 ↔ n = 0 := by
  rw [dbyt_len]
  constructor
  · intro h
    refine Classical.byContradiction fun hn => ?_
    rw [nd_pos hn] at h
    omega
  · rintro rfl
    rw [nd_zero]
    rfl
theorem text_zero : text 0 = ⟨#[48]⟩ := rfl
theorem text_pos {n : Nat} (h : n ≠ 0) : text n = strOfNums (dbyt n (nd n)).reverse := if_neg h
end Go.Proofs.YteohmbannpbokaaGreatDoor.StrLaw

set_option linter.unusedVariables false
set_option linter.unusedSimpArgs false
namespace Go.Proofs.YteohmbannpbokaaGreatDoor.W64
open Go.RowKit Go.Proofs.YteohmbannpbokaaGreatDoorW.PrintWords

/-! ### lists of limbs -/
def val : List Int → Int
  | [] => 0
  | x :: xs => x + 18446744073709551616 * val xs
def Dig (l : List Int) : Prop := ∀ x ∈ l, 0 ≤ x ∧ x < 18446744073709551616
def Top (l : List Int) : Prop := ∀ h : l ≠ [], l.getLast h ≠ 0

theorem pw_pos (i : Nat) : 0 < (18446744073709551616 : Int) ^ i := Int.pow_pos (by decide)
theorem pw_succ (i : Nat) : (18446744073709551616 : Int) ^ (i + 1) = 18446744073709551616 * 18446744073709551616 ^ i := by rw [Int.pow_succ, Int.mul_comm]

theorem Dig.nil : Dig [] := fun x h => by cases h
theorem Dig.cons {x : Int} {xs : List Int} (h : 0 ≤ x ∧ x < 18446744073709551616) (hs : Dig xs) : Dig (x :: xs) := fun y hy => by
  rcases List.mem_cons.1 hy with rfl | hy
  · exact h
  · exact hs y hy
theorem Dig.head {x : Int} {xs : List Int} (h : Dig (x :: xs)) : 0 ≤ x ∧ x < 18446744073709551616 := h x List.mem_cons_self
theorem Dig.tail {x : Int} {xs : List Int} (h : Dig (x :: xs)) : Dig xs := fun y hy => h y (List.mem_cons_of_mem _ hy)
theorem Dig.append {a b : List Int} (ha : Dig a) (hb : Dig b) : Dig (a ++ b) := fun y hy => (List.mem_append.1 hy).elim (ha y) (hb y)
theorem Dig.take {a : List Int} (ha : Dig a) (n : Nat) : Dig (a.take n) := fun y hy => ha y (List.mem_of_mem_take hy)
theorem Dig.set {a : List Int} (ha : Dig a) (i : Nat) {v : Int} (hv : 0 ≤ v ∧ v < 18446744073709551616) : Dig (a.set i v) := fun y hy => by
  rcases List.mem_or_eq_of_mem_set hy with h | rfl
  · exact ha y h
  · exact hv
theorem Dig.rep (n : Nat) : Dig (List.replicate n 0) := fun y hy => by
  have := (List.mem_replicate.1 hy).2
  omega
theorem dig_rd {a : List Int} (ha : Dig a) (i : Int) : 0 ≤ rd a i ∧ rd a i < 18446744073709551616 := by
  unfold Go.Proofs.YteohmbannpbokaaGreatDoorW.PrintWords.rd
  rw [List.getD_eq_getElem?_getD]
  by_cases h : i.toNat < a.length
  · rw [List.getElem?_eq_getElem h]
    exact ha _ (List.getElem_mem h)
  · rw [List.getElem?_eq_none (by omega)]
    simp

theorem val_append (a b : List Int) : val (a ++ b) = val a + 18446744073709551616 ^ a.length * val b := by
  induction a with
  | nil => simp [val]
  | cons x xs ih =>
    simp only [List.cons_append, val, ih, List.length_cons, pw_succ]
    grind
theorem val_nonneg {l : List Int} (h : Dig l) : 0 ≤ val l := by
  induction l with
  | nil => simp [val]
  | cons x xs ih =>
    have := ih h.tail
    have := h.head
    simp only [val]
    omega
theorem val_lt {l : List Int} (h : Dig l) : val l < 18446744073709551616 ^ l.length := by
  induction l with
  | nil => simp [val]
  | cons x xs ih =>
    have := ih h.tail
    have := h.head
    simp only [val, List.length_cons, pw_succ]
    omega
theorem val_rep (n : Nat) : val (List.replicate n 0) = 0 := by
  induction n with
  | zero => rfl
  | succ n ih => simp [List.replicate_succ, val, ih]
theorem rd_nat (l : List Int) (i : Nat) : rd l (i : Int) = l.getD i 0 := by simp [Go.Proofs.YteohmbannpbokaaGreatDoorW.PrintWords.rd]
theorem rd_lt {l : List Int} {i : Nat} (h : i < l.length) : rd l (i : Int) = l[i] := by
  rw [rd_nat, List.getD_eq_getElem?_getD, List.getElem?_eq_getElem h]; rfl
theorem val_set : ∀ (l : List Int) (i : Nat) (v : Int), i < l.length → val (l.set i v) = val l + (v - rd l i) * 18446744073709551616 ^ i := by
  intro l
  induction l with
  | nil => intro i v h; simp at h
  | cons x xs ih =>
    intro i v h
    cases i with
    | zero =>
      simp only [List.set_cons_zero, val, rd_nat, List.getD_cons_zero, Int.pow_zero]
      omega
    | succ i =>
      have := ih i v (by simpa using h)
      simp only [List.set_cons_succ, val, this, rd_nat, List.getD_cons_succ, pw_succ]
      grind
theorem take_succ_rd {l : List Int} {i : Nat} (h : i < l.length) : l.take (i + 1) = l.take i ++ [rd l i] := by
  rw [rd_lt h, List.take_succ_eq_append_getElem h]
theorem val_take_succ {l : List Int} {i : Nat} (h : i < l.length) : val (l.take (i + 1)) = val (l.take i) + rd l i * 18446744073709551616 ^ i := by
  rw [take_succ_rd h, val_append]
  simp only [val, List.length_take, Nat.min_eq_left (Nat.le_of_lt h)]
  grind
theorem rd_set_self {l : List Int} {i : Nat} {v : Int} (h : i < l.length) : rd (l.set i v) i = v := by
  rw [rd_lt (by simpa using h)]
  simp
theorem rd_set_ne {l : List Int} {i j : Nat} {v : Int} (h : i ≠ j) : rd (l.set i v) (j : Int) = rd l (j : Int) := by
  rw [rd_nat, rd_nat, List.getD_eq_getElem?_getD, List.getD_eq_getElem?_getD, List.getElem?_set_ne h]
theorem rd_rep (n i : Nat) : rd (List.replicate n 0) (i : Int) = 0 := by
  rw [rd_nat, List.getD_eq_getElem?_getD, List.getElem?_replicate]
  split <;> rfl

/-! ### the limbs of a number -/
def digs (n : Nat) : List Int := if h : n = 0 then [] else ((n % 18446744073709551616 : Nat) : Int) :: digs (n / 18446744073709551616)
  termination_by n
  decreasing_by omega
theorem digs_zero : digs 0 = [] := by rw [digs]; simp
theorem digs_pos {n : Nat} (h : n ≠ 0) : digs n = ((n % 18446744073709551616 : Nat) : Int) :: digs (n / 18446744073709551616) := by rw [digs]; simp [h]
theorem digs_ne {n : Nat} (h : n ≠ 0) : digs n ≠ [] := by rw [digs_pos h]; simp
theorem digs_one {n : Nat} (h : n ≠ 0) (h2 : n < 18446744073709551616) : digs n = [(n : Int)] := by
  rw [digs_pos h, Nat.mod_eq_of_lt h2, Nat.div_eq_of_lt h2, digs_zero]
theorem val_digs (n : Nat) : val (digs n) = n := by
  induction n using Nat.strongRecOn with
  | _ n ih =>
    by_cases h : n = 0
    · subst h; rw [digs_zero]; rfl
    · rw [digs_pos h, val, ih _ (by omega)]
      omega
theorem dig_digs (n : Nat) : Dig (digs n) := by
  induction n using Nat.strongRecOn with
  | _ n ih =>
    by_cases h : n = 0
    · subst h; rw [digs_zero]; exact Dig.nil
    · rw [digs_pos h]
      exact Dig.cons (by omega) (ih _ (by omega))
theorem top_digs (n : Nat) : Top (digs n) := by
  induction n using Nat.strongRecOn with
  | _ n ih =>
    by_cases h : n = 0
    · subst h; rw [digs_zero]; intro h; exact absurd rfl h
    · intro hn
      have e := digs_pos h
      by_cases h2 : n / 18446744073709551616 = 0
      · rw [h2, digs_zero] at e
        simp only [e, List.getLast_singleton]
        omega
      · have := ih _ (by omega) (digs_ne h2)
        simp only [e, List.getLast_cons (digs_ne h2)]
        exact this
theorem canon {l : List Int} (hd : Dig l) (ht : Top l) : ∀ {n : Nat}, val l = n → l = digs n := by
  induction l with
  | nil =>
    intro n h
    have : n = 0 := by simp only [val] at h; omega
    subst this
    rw [digs_zero]
  | cons x xs ih =>
    intro n h
    have hx := hd.head
    have hv := val_nonneg hd.tail
    simp only [val] at h
    have hts : Top xs := fun hne => by have := ht (by simp); rwa [List.getLast_cons hne] at this
    have e := ih hd.tail hts (n := n / 18446744073709551616) (by omega)
    have hn : n ≠ 0 := by
      intro h0
      subst h0
      by_cases hxs : xs = []
      · subst hxs
        have := ht (by simp)
        simp only [List.getLast_singleton] at this
        simp only [val] at h
        omega
      · rw [show (0 / 18446744073709551616 : Nat) = 0 from rfl, digs_zero] at e
        exact hxs e
    rw [digs_pos hn, ← e]
    congr 1
    omega
theorem len_digs_le {n L : Nat} (h : n < 18446744073709551616 ^ L) : (digs n).length ≤ L := by
  induction L generalizing n with
  | zero =>
    have : n = 0 := by simp at h; exact h
    subst this
    simp [digs_zero]
  | succ L ih =>
    by_cases h0 : n = 0
    · subst h0; simp [digs_zero]
    · rw [digs_pos h0, List.length_cons]
      have := ih (n := n / 18446744073709551616) (by rw [Nat.pow_succ, Nat.mul_comm] at h; exact Nat.div_lt_of_lt_mul h)
      omega
theorem lt_of_len (n : Nat) : n < 18446744073709551616 ^ (digs n).length := by
  have := val_lt (dig_digs n)
  rw [val_digs] at this
  have e : ((18446744073709551616 ^ (digs n).length : Nat) : Int) = (18446744073709551616 : Int) ^ (digs n).length := by simp
  rw [← e] at this
  exact Int.ofNat_lt.1 this
theorem len_digs_lt {a b : Nat} (h : (digs a).length < (digs b).length) : a < b := by
  rcases Nat.lt_or_ge a b with h1 | h1
  · exact h1
  · have := len_digs_le (n := b) (L := (digs a).length) (Nat.lt_of_le_of_lt h1 (lt_of_len a))
    omega
theorem len_digs_mono {a b : Nat} (h : a ≤ b) : (digs a).length ≤ (digs b).length := len_digs_le (Nat.lt_of_le_of_lt h (lt_of_len b))
theorem digs_inj {a b : Nat} (h : digs a = digs b) : a = b := by
  have h1 := val_digs a
  rw [h, val_digs] at h1
  omega
theorem digs_nil {n : Nat} : digs n = [] ↔ n = 0 := ⟨fun h => Classical.byContradiction fun hn => digs_ne hn h, fun h => by rw [h, digs_zero]⟩
theorem len_pos {n : Nat} (h : n ≠ 0) : 0 < (digs n).length := List.length_pos_iff.2 (digs_ne h)
theorem len_zero {n : Nat} : (digs n).length = 0 ↔ n = 0 := by rw [List.length_eq_zero_iff, digs_nil]

end Go.Proofs.YteohmbannpbokaaGreatDoor.W64

set_option linter.unusedVariables false
set_option linter.unusedSimpArgs false
namespace Go.Proofs.YteohmbannpbokaaGreatDoor.H32
open Go.RowKit Go.Proofs.YteohmbannpbokaaGreatDoorW.PrintWords

/-! ### lists of limbs -/
def val : List Int → Int
  | [] => 0
  | x :: xs => x + 4294967296 * val xs
def Dig (l : List Int) : Prop := ∀ x ∈ l, 0 ≤ x ∧ x < 4294967296
def Top (l : List Int) : Prop := ∀ h : l ≠ [], l.getLast h ≠ 0

theorem pw_pos (i : Nat) : 0 < (4294967296 : Int) ^ i := Int.pow_pos (by decide)
theorem pw_succ (i : Nat) : (4294967296 : Int) ^ (i + 1) = 4294967296 * 4294967296 ^ i := by rw [Int.pow_succ, Int.mul_comm]

theorem Dig.nil : Dig [] := fun x h => by cases h
theorem Dig.cons {x : Int} {xs : List Int} (h : 0 ≤ x ∧ x < 4294967296) (hs : Dig xs) : Dig (x :: xs) := fun y hy => by
  rcases List.mem_cons.1 hy with rfl | hy
  · exact h
  · exact hs y hy
theorem Dig.head {x : Int} {xs : List Int} (h : Dig (x :: xs)) : 0 ≤ x ∧ x < 4294967296 := h x List.mem_cons_self
theorem Dig.tail {x : Int} {xs : List Int} (h : Dig (x :: xs)) : Dig xs := fun y hy => h y (List.mem_cons_of_mem _ hy)
theorem Dig.append {a b : List Int} (ha : Dig a) (hb : Dig b) : Dig (a ++ b) := fun y hy => (List.mem_append.1 hy).elim (ha y) (hb y)
theorem Dig.take {a : List Int} (ha : Dig a) (n : Nat) : Dig (a.take n) := fun y hy => ha y (List.mem_of_mem_take hy)
theorem Dig.set {a : List Int} (ha : Dig a) (i : Nat) {v : Int} (hv : 0 ≤ v ∧ v < 4294967296) : Dig (a.set i v) := fun y hy => by
  rcases List.mem_or_eq_of_mem_set hy with h | rfl
  · exact ha y h
  · exact hv
theorem Dig.rep (n : Nat) : Dig (List.replicate n 0) := fun y hy => by
  have := (List.mem_replicate.1 hy).2
  omega
theorem dig_rd {a : List Int} (ha : Dig a) (i : Int) : 0 ≤ rd a i ∧ rd a i < 4294967296 := by
  unfold Go.Proofs.YteohmbannpbokaaGreatDoorW.PrintWords.rd
  rw [List.getD_eq_getElem?_getD]
  by_cases h : i.toNat < a.length
  · rw [List.getElem?_eq_getElem h]
    exact ha _ (List.getElem_mem h)
  · rw [List.getElem?_eq_none (by omega)]
    simp

theorem val_append (a b : List Int) : val (a ++ b) = val a + 4294967296 ^ a.length * val b := by
  induction a with
  | nil => simp [val]
  | cons x xs ih =>
    simp only [List.cons_append, val, ih, List.length_cons, pw_succ]
    grind
theorem val_nonneg {l : List Int} (h : Dig l) : 0 ≤ val l := by
  induction l with
  | nil => simp [val]
  | cons x xs ih =>
    have := ih h.tail
    have := h.head
    simp only [val]
    omega
theorem val_lt {l : List Int} (h : Dig l) : val l < 4294967296 ^ l.length := by
  induction l with
  | nil => simp [val]
  | cons x xs ih =>
    have := ih h.tail
    have := h.head
    simp only [val, List.length_cons, pw_succ]
    omega
theorem val_rep (n : Nat) : val (List.replicate n 0) = 0 := by
  induction n with
  | zero => rfl
  | succ n ih => simp [List.replicate_succ, val, ih]
theorem rd_nat (l : List Int) (i : Nat) : rd l (i : Int) = l.getD i 0 := by simp [Go.Proofs.YteohmbannpbokaaGreatDoorW.PrintWords.rd]
theorem rd_lt {l : List Int} {i : Nat} (h : i < l.length) : rd l (i : Int) = l[i] := by
  rw [rd_nat, List.getD_eq_getElem?_getD, List.getElem?_eq_getElem h]; rfl
theorem val_set : ∀ (l : List Int) (i : Nat) (v : Int), i < l.length → val (l.set i v) = val l + (v - rd l i) * 4294967296 ^ i := by
  intro l
  induction l with
  | nil => intro i v h; simp at h
  | cons x xs ih =>
    intro i v h
    cases i with
    | zero =>
      simp only [List.set_cons_zero, val, rd_nat, List.getD_cons_zero, Int.pow_zero]
      omega
    | succ i =>
      have := ih i v (by simpa using h)
      simp only [List.set_cons_succ, val, this, rd_nat, List.getD_cons_succ, pw_succ]
      grind
theorem take_succ_rd {l : List Int} {i : Nat} (h : i < l.length) : l.take (i + 1) = l.take i ++ [rd l i] := by
  rw [rd_lt h, List.take_succ_eq_append_getElem h]
theorem val_take_succ {l : List Int} {i : Nat} (h : i < l.length) : val (l.take (i + 1)) = val (l.take i) + rd l i * 4294967296 ^ i := by
  rw [take_succ_rd h, val_append]
  simp only [val, List.length_take, Nat.min_eq_left (Nat.le_of_lt h)]
  grind
theorem rd_set_self {l : List Int} {i : Nat} {v : Int} (h : i < l.length) : rd (l.set i v) i = v := by
  rw [rd_lt (by simpa using h)]
  simp
theorem rd_set_ne {l : List Int} {i j : Nat} {v : Int} (h : i ≠ j) : rd (l.set i v) (j : Int) = rd l (j : Int) := by
  rw [rd_nat, rd_nat, List.getD_eq_getElem?_getD, List.getD_eq_getElem?_getD, List.getElem?_set_ne h]
theorem rd_rep (n i : Nat) : rd (List.replicate n 0) (i : Int) = 0 := by
  rw [rd_nat, List.getD_eq_getElem?_getD, List.getElem?_replicate]
  split <;> rfl

/-! ### the limbs of a number -/
def digs (n : Nat) : List Int := if h : n = 0 then [] else ((n % 4294967296 : Nat) : Int) :: digs (n / 4294967296)
  termination_by n
  decreasing_by omega
theorem digs_zero : digs 0 = [] := by rw [digs]; simp
theorem digs_pos {n : Nat} (h : n ≠ 0) : digs n = ((n % 4294967296 : Nat) : Int) :: digs (n / 4294967296) := by rw [digs]; simp [h]
theorem digs_ne {n : Nat} (h : n ≠ 0) : digs n ≠ [] := by rw [digs_pos h]; simp
theorem digs_one {n : Nat} (h : n ≠ 0) (h2 : n < 4294967296) : digs n = [(n : Int)] := by
  rw [digs_pos h, Nat.mod_eq_of_lt h2, Nat.div_eq_of_lt h2, digs_zero]
theorem val_digs (n : Nat) : val (digs n) = n := by
  induction n using Nat.strongRecOn with
  | _ n ih =>
    by_cases h : n = 0
    · subst h; rw [digs_zero]; rfl
    · rw [digs_pos h, val, ih _ (by omega)]
      omega
theorem dig_digs (n : Nat) : Dig (digs n) := by
  induction n using Nat.strongRecOn with
  | _ n ih =>
    by_cases h : n = 0
    · subst h; rw [digs_zero]; exact Dig.nil
    · rw [digs_pos h]
      exact Dig.cons (by omega) (ih _ (by omega))
theorem top_digs (n : Nat) : Top (digs n) := by
  induction n using Nat.strongRecOn with
  | _ n ih =>
    by_cases h : n = 0
    · subst h; rw [digs_zero]; intro h; exact absurd rfl h
    · intro hn
      have e := digs_pos h
      by_cases h2 : n / 4294967296 = 0
      · rw [h2, digs_zero] at e
        simp only [e, List.getLast_singleton]
        omega
      · have := ih _ (by omega) (digs_ne h2)
        simp only [e, List.getLast_cons (digs_ne h2)]
        exact this
theorem canon {l : List Int} (hd : Dig l) (ht : Top l) : ∀ {n : Nat}, val l = n → l = digs n := by
  induction l with
  | nil =>
    intro n h
    have : n = 0 := by simp only [val] at h; omega
    subst this
    rw [digs_zero]
  | cons x xs ih =>
    intro n h
    have hx := hd.head
    have hv := val_nonneg hd.tail
    simp only [val] at h
    have hts : Top xs := fun hne => by have := ht (by simp); rwa [List.getLast_cons hne] at this
    have e := ih hd.tail hts (n := n / 4294967296) (by omega)
    have hn : n ≠ 0 := by
      intro h0
      subst h0
      by_cases hxs : xs = []
      · subst hxs
        have := ht (by simp)
        simp only [List.getLast_singleton] at this
        simp only [val] at h
        omega
      · rw [show (0 / 4294967296 : Nat) = 0 from rfl, digs_zero] at e
        exact hxs e
    rw [digs_pos hn, ← e]
    congr 1
    omega
theorem len_digs_le {n L : Nat} (h : n < 4294967296 ^ L) : (digs n).length ≤ L := by
  induction L generalizing n with
  | zero =>
    have : n = 0 := by simp at h; exact h
    subst this
    simp [digs_zero]
  | succ L ih =>
    by_cases h0 : n = 0
    · subst h0; simp [digs_zero]
    · rw [digs_pos h0, List.length_cons]
      have := ih (n := n / 4294967296) (by rw [Nat.pow_succ, Nat.mul_comm] at h; exact Nat.div_lt_of_lt_mul h)
      omega
theorem lt_of_len (n : Nat) : n < 4294967296 ^ (digs n).length := by
  have := val_lt (dig_digs n)
  rw [val_digs] at this
  have e : ((4294967296 ^ (digs n).length : Nat) : Int) = (4294967296 : Int) ^ (digs n).length := by simp
  rw [← e] at this
  exact Int.ofNat_lt.1 this
theorem len_digs_lt {a b : Nat} (h : (digs a).length < (digs b).length) : a < b := by
  rcases Nat.lt_or_ge a b with h1 | h1
  · exact h1
  · have := len_digs_le (n := b) (L := (digs a).length) (Nat.lt_of_le_of_lt h1 (lt_of_len a))
    omega
theorem len_digs_mono {a b : Nat} (h : a ≤ b) : (digs a).length ≤ (digs b).length := len_digs_le (Nat.lt_of_le_of_lt h (lt_of_len b))
theorem digs_inj {a b : Nat} (h : digs a = digs b) : a = b := by
  have h1 := val_digs a
  rw [h, val_digs] at h1
  omega
theorem digs_nil {n : Nat} : digs n = [] ↔ n = 0 := ⟨fun h => Classical.byContradiction fun hn => digs_ne hn h, fun h => by rw [h, digs_zero]⟩
theorem len_pos {n : Nat} (h : n ≠ 0) : 0 < (digs n).length := List.length_pos_iff.2 (digs_ne h)
theorem len_zero {n : Nat} : (digs n).length = 0 ↔ n = 0 := by rw [List.length_eq_zero_iff, digs_nil]

end Go.Proofs.YteohmbannpbokaaGreatDoor.H32

set_option linter.unusedVariables false
set_option linter.unusedSimpArgs false
namespace Go.Proofs.YteohmbannpbokaaGreatDoor.TextLaw
open Go.RowKit Go.Proofs.YteohmbannpbokaaGreatDoorW.PrintWords Go.Proofs.YteohmbannpbokaaGreatDoor.Digs Go.Proofs.YteohmbannpbokaaGreatDoor.StrLaw

/-- The digit that a byte is. -/
def dgt (s : ByteArray) (i : Nat) : Nat := (bt s i - 48).toNat
/-- The number of k bytes from place a on. -/
def dseg (s : ByteArray) (a : Nat) : Nat → Nat
  | 0 => 0
  | k + 1 => dseg s a k * 10 + dgt s (a + k)
/-- The number of a whole text. -/
def dnum (s : ByteArray) : Nat := dseg s 0 s.size
/-- A text of digits. -/
structure Digits (s : ByteArray) : Prop where
  mk :: (pos : 0 < s.size) (all : ∀ i : Nat, i < s.size → 48 ≤ bt s i ∧ bt s i ≤ 57)
theorem Digits.dgt {s : ByteArray} (h : Digits s) {i : Nat} (hi : i < s.size) : bt s i = 48 + (dgt s i : Int) ∧ TextLaw.dgt s i ≤ 9 := by
  have := h.all i hi
  unfold TextLaw.dgt
  omega
theorem dseg_add (s : ByteArray) (a j : Nat) : ∀ k, dseg s a (j + k) = dseg s a j * 10 ^ k + dseg s (a + j) k := by
  intro k
  induction k with
  | zero => simp [dseg]
  | succ k ih =>
    rw [← Nat.add_assoc, dseg, dseg, ih, Nat.pow_succ, Nat.add_assoc a j k]
    rw [Nat.add_mul, Nat.mul_assoc]
    omega
theorem dseg_lt {s : ByteArray} (h : Digits s) (a : Nat) : ∀ k, a + k ≤ s.size → dseg s a k < 10 ^ k := by
  intro k
  induction k with
  | zero => intro _; simp [dseg]
  | succ k ih =>
    intro hk
    have h1 := ih (by omega)
    have h2 := (h.dgt (show a + k < s.size by omega)).2
    rw [dseg, Nat.pow_succ]
    omega

/-- What is there while the limbs are read from the end on: e places are still to be read. -/
structure OfInv (s : ByteArray) (out : List Int) (e : Int) : Prop where
  mk :: (dig : Dig out) (len : (out.length : Int) * 9 + e = s.size) (val : val out = ((dseg s e.toNat (s.size - e.toNat) : Nat) : Int)) (low : -9 < e)
theorem OfInv.start (s : ByteArray) : OfInv s [] s.size := ⟨Dig.nil, by simp, by simp [Digs.val, dseg], by omega⟩
theorem OfInv.bound {s : ByteArray} {out : List Int} {e : Int} (h : OfInv s out e) : e ≤ s.size ∧ -9 < e ∧ out.length ≤ s.size := by
  have := h.len; have := h.low; omega
theorem OfInv.step {s : ByteArray} {out : List Int} {e : Int} (h : OfInv s out e) (hD : Digits s) (he : 0 < e) {a k : Nat} (ha : a = (max 0 (e - 9)).toNat) (hk : a + k = e.toNat) :
    OfInv s (out ++ [((dseg s a k : Nat) : Int)]) (e - 9) := by
  obtain ⟨hb, hl, hm⟩ := h.bound
  have hlt := dseg_lt hD a k (by omega)
  have hk9 : k ≤ 9 := by omega
  have hpk : 10 ^ k ≤ 10 ^ 9 := Nat.pow_le_pow_right (by decide) hk9
  refine ⟨h.dig.append (Dig.cons ⟨Int.natCast_nonneg _, by omega⟩ Dig.nil), by simp only [List.length_append, List.length_cons, List.length_nil]; have := h.len; omega, ?_, by omega⟩
  rw [val_append, h.val]
  have hp : (1000000000 : Int) ^ out.length = ((10 ^ (s.size - e.toNat) : Nat) : Int) := by
    have hx : s.size - e.toNat = 9 * out.length := by have := h.len; omega
    rw [hx, Nat.pow_mul]; simp
  rw [hp]
  have hseg := dseg_add s a k (s.size - e.toNat)
  rw [hk, show k + (s.size - e.toNat) = s.size - a by omega] at hseg
  rw [show (e - 9).toNat = a by omega, hseg]
  simp only [Int.natCast_add, Int.natCast_mul]
  rw [show Digs.val [((dseg s a k : Nat) : Int)] = ((dseg s a k : Nat) : Int) by simp [Digs.val]]
  rw [Int.mul_comm, Int.add_comm]
theorem OfInv.done {s : ByteArray} {out : List Int} {e : Int} (h : OfInv s out e) (he : ¬ 0 < e) : Digs.val out = ((dnum s : Nat) : Int) := by
  have := h.val
  rw [show e.toNat = 0 by omega, Nat.sub_zero] at this
  exact this

/-- What is read within a limb: from place a on up to place i. -/
structure InInv (s : ByteArray) (a : Nat) (n i : Int) : Prop where
  mk :: (out : ∃ k : Nat, i = (a + k : Nat) ∧ n = ((dseg s a k : Nat) : Int))
theorem InInv.start (s : ByteArray) (a : Nat) : InInv s a 0 a := ⟨0, by simp, rfl⟩
theorem InInv.step {s : ByteArray} {a : Nat} {n i : Int} (h : InInv s a n i) (hD : Digits s) (hi : i < s.size) : InInv s a (n * 10 + (bt s i - 48)) (i + 1) := by
  obtain ⟨k, rfl, rfl⟩ := h
  have h1 := (hD.dgt (show a + k < s.size by omega)).1
  refine ⟨k + 1, by omega, ?_⟩
  rw [dseg, h1]; omega
theorem InInv.bound {s : ByteArray} {a : Nat} {n i : Int} (h : InInv s a n i) (hD : Digits s) (hi : i ≤ s.size) (hi9 : i ≤ (a : Int) + 9) : (a : Int) ≤ i ∧ 0 ≤ n ∧ n ≤ 999999999 ∧ (i < (a : Int) + 9 → n ≤ 99999999) := by
  obtain ⟨k, rfl, rfl⟩ := h
  have h1 := dseg_lt hD a k (by omega)
  have hp : 10 ^ k ≤ 10 ^ 9 := Nat.pow_le_pow_right (by decide) (by omega)
  refine ⟨by omega, by omega, by omega, fun h => ?_⟩
  have hp : 10 ^ k ≤ 10 ^ 8 := Nat.pow_le_pow_right (by decide) (by omega)
  omega

/-! ### the text of a number -/
theorem size_text {n : Nat} (h : n ≠ 0) : (text n).size = nd n := by
  rw [text_pos h]; simp [strOfNums, ByteArray.size, dbyt_len]
theorem bt_nums (l : List Int) (hl : ∀ x ∈ l, 0 ≤ x ∧ x < 256) (i : Nat) (hi : i < l.length) : bt (strOfNums l) i = l[i] := by
  have hs : (strOfNums l).size = l.length := strOfNums_size l
  have h := hl _ (List.getElem_mem hi)
  have hi2 : ((i : Int)).toNat < (strOfNums l).size := by rw [hs, Int.toNat_natCast]; exact hi
  unfold bt
  rw [dif_pos hi2]
  show (((strOfNums l).data[i]'(by simpa [strOfNums] using hi)).toNat : Int) = _
  simp only [strOfNums, List.getElem_toArray, List.getElem_map]
  rw [UInt8.toNat_ofNat_of_lt' (show l[i].toNat < 256 by omega)]
  omega
theorem bt_text {n : Nat} (hn : n ≠ 0) {i : Nat} (hi : i < nd n) : bt (text n) i = ((48 + n / 10 ^ (nd n - 1 - i) % 10 : Nat) : Int) := by
  rw [text_pos hn, bt_nums _ ?_ i (by simpa [dbyt_len] using hi)]
  · rw [List.getElem_reverse]
    simp only [dbyt, List.getElem_map, List.getElem_range, List.length_map, List.length_range]
  · intro x hx
    simp only [dbyt, List.mem_reverse, List.mem_map, List.mem_range] at hx
    obtain ⟨j, _, rfl⟩ := hx
    omega
theorem dseg_text {n : Nat} (hn : n ≠ 0) : ∀ i, i ≤ nd n → dseg (text n) 0 i = n / 10 ^ (nd n - i) := by
  intro i
  induction i with
  | zero =>
    intro _
    rw [dseg, Nat.sub_zero, Nat.div_eq_of_lt (lt_of_nd n)]
  | succ i ih =>
    intro hi
    rw [dseg, ih (by omega), Nat.zero_add]
    unfold dgt
    rw [bt_text hn (by omega)]
    have hp : 10 ^ (nd n - i) = 10 ^ (nd n - (i + 1)) * 10 := by rw [← Nat.pow_succ]; congr 1; omega
    rw [hp, ← Nat.div_div_eq_div_mul, show nd n - 1 - i = nd n - (i + 1) by omega]
    omega
theorem text_digits (n : Nat) : Digits (text n) := by
  by_cases hn : n = 0
  · subst hn
    refine ⟨by decide, fun i hi => ?_⟩
    have : i = 0 := by have : (text 0).size = 1 := rfl; omega
    subst this
    decide
  · refine ⟨by rw [size_text hn, nd_pos hn]; omega, fun i hi => ?_⟩
    rw [size_text hn] at hi
    rw [bt_text hn hi]
    omega
theorem dnum_text (n : Nat) : dnum (text n) = n := by
  by_cases hn : n = 0
  · subst hn; decide
  · unfold dnum
    rw [size_text hn, dseg_text hn _ (Nat.le_refl _), Nat.sub_self, Nat.pow_zero, Nat.div_one]

/-! ### a sign ahead of it -/
def minus (s : ByteArray) : ByteArray := ⟨#[45]⟩ ++ s
/-- The text of a whole number. -/
def stext (b : Bool) (n : Nat) : ByteArray := if b then minus (text n) else text n
theorem minus_size (s : ByteArray) : (minus s).size = s.size + 1 := by
  have h : (⟨#[45]⟩ : ByteArray).size = 1 := rfl
  unfold minus
  rw [ByteArray.size_append, h]; omega
theorem minus_tail (s : ByteArray) : (minus s).extract 1 (minus s).size = s := by
  rw [minus_size]
  apply ByteArray.ext
  simp [minus, ByteArray.data_extract]
theorem minus_first (s : ByteArray) : bt (minus s) 0 = 45 := by
  unfold bt
  rw [dif_pos (by rw [minus_size]; simp)]
  rfl

/-! ### digits that are gathered -/
theorem dbyt_cons (n k : Nat) : dbyt n (k + 1) = ((48 + n % 10 : Nat) : Int) :: dbyt (n / 10) k := by
  simp only [dbyt, List.range_succ_eq_map, List.map_cons, Nat.pow_zero, Nat.div_one, List.map_map]
  congr 1
  apply List.map_congr_left
  intro j _
  simp only [Function.comp, Nat.pow_succ']
  rw [Nat.div_div_eq_div_mul]
/-- The digits of a number, the highest first. -/
def top (n : Nat) : List Int := (dbyt n (nd n)).reverse
theorem top_zero : top 0 = [] := by unfold top; rw [nd_zero]; rfl
theorem top_len (n : Nat) : (top n).length = nd n := by unfold top; rw [List.length_reverse, dbyt_len]
theorem top_step (n d : Nat) (hd : d ≤ 9) (h : 0 < n ∨ 0 < d) : top (n * 10 + d) = top n ++ [((48 + d : Nat) : Int)] ∧ nd (n * 10 + d) = nd n + 1 := by
  have h1 : (n * 10 + d) / 10 = n := by omega
  have h2 : (n * 10 + d) % 10 = d := by omega
  have h3 : nd (n * 10 + d) = nd n + 1 := by rw [nd_pos (by omega), h1]
  refine ⟨?_, h3⟩
  unfold top
  rw [h3, dbyt_cons, h1, h2, List.reverse_cons]
theorem text_top {n : Nat} (h : n ≠ 0) : strOfNums (top n) = text n := (text_pos h).symm
theorem nd_zero_iff {n : Nat} : nd n = 0 ↔ n = 0 := by
  constructor
  · intro h
    apply Classical.byContradiction
    intro hn
    rw [nd_pos hn] at h
    omega
  · rintro rfl; exact nd_zero
end Go.Proofs.YteohmbannpbokaaGreatDoor.TextLaw

set_option linter.unusedVariables false
set_option linter.unusedSimpArgs false
namespace Go.Proofs.YteohmbannpbokaaGreatDoor.BigLaw
open Go.RowKit Go.Proofs.YteohmbannpbokaaGreatDoorW.PrintWords Go.Proofs.YteohmbannpbokaaGreatDoor.StrLaw Go.Proofs.YteohmbannpbokaaGreatDoor.TextLaw

theorem and32 (x : Int) (h0 : 0 ≤ x) (h1 : x ≤ 18446744073709551615) : bits .and .u64 x 4294967295 = x % 4294967296 := by
  have h := bits_mask .u64 64 (by decide) wraps_u64 32 (by decide) x h0 (by omega)
  simpa using h
/-- A low half joined to a high one. -/
theorem or_lo (y x : Int) (h0 : 0 ≤ y) (h1 : y < 4294967296) (h2 : 0 ≤ x) (h3 : x % 4294967296 = 0) (h4 : x < 18446744073709551616) : bits .or .u64 y x = y + x :=
  bits_join_low .u64 64 (by decide) wraps_u64 32 y x h0 (by omega) (by omega) h2 (by omega) (by omega)
/-- A high half joined to a low one. -/
theorem or_hi (x y : Int) (h0 : 0 ≤ y) (h1 : y < 4294967296) (h2 : 0 ≤ x) (h3 : x % 4294967296 = 0) (h4 : x < 18446744073709551616) : bits .or .u64 x y = x + y :=
  bits_join .u64 64 (by decide) wraps_u64 32 x y h2 (by omega) (by omega) h0 (by omega) (by omega)
theorem w2 : (18446744073709551616 : Int) = 4294967296 * 4294967296 := by decide
theorem pw2 (i : Nat) : (18446744073709551616 : Int) ^ i = 4294967296 ^ (2 * i) := by rw [w2, Int.pow_mul]; congr 1

/-- The halves of the first words. -/
structure Halves (ws : List Int) (x : List Int) (i : Int) : Prop where
  mk :: (out : ∃ k : Nat, i = k ∧ k ≤ ws.length ∧ H32.Dig x ∧ x.length = 2 * k ∧ H32.val x = W64.val (ws.take k))
theorem Halves.start (ws : List Int) : Halves ws [] 0 := ⟨0, rfl, Nat.zero_le _, H32.Dig.nil, rfl, by simp [H32.val, W64.val]⟩
theorem Halves.bound {ws x : List Int} {i : Int} (h : Halves ws x i) : 0 ≤ i ∧ i ≤ ws.length ∧ (x.length : Int) = 2 * i := by
  obtain ⟨k, rfl, h1, _, h3, _⟩ := h
  omega
theorem Halves.step {ws x : List Int} {i : Int} (h : Halves ws x i) (hd : W64.Dig ws) (hi : i < ws.length) : Halves ws (x ++ [rd ws i % 4294967296, rd ws i / 4294967296]) (i + 1) := by
  obtain ⟨k, rfl, h1, h2, h3, h4⟩ := h
  have hw := W64.dig_rd hd (k : Int)
  refine ⟨k + 1, by omega, by omega, h2.append (H32.Dig.cons ⟨by omega, by omega⟩ (H32.Dig.cons ⟨by omega, by omega⟩ H32.Dig.nil)), by simp [h3]; omega, ?_⟩
  rw [W64.val_take_succ (by omega), H32.val_append, h4, h3, pw2]
  simp only [H32.val]
  generalize rd ws (k : Int) = w at *
  generalize (4294967296 : Int) ^ (2 * k) = P at *
  have : w % 4294967296 + 4294967296 * (w / 4294967296 + 4294967296 * 0) = w := by omega
  rw [this, Int.mul_comm]
theorem Halves.done {ws x : List Int} {i : Int} (h : Halves ws x i) (hi : ¬ i < ws.length) : H32.Dig x ∧ H32.val x = W64.val ws ∧ x.length = 2 * ws.length := by
  obtain ⟨k, rfl, h1, h2, h3, h4⟩ := h
  obtain rfl : k = ws.length := by omega
  rw [List.take_length] at h4
  exact ⟨h2, h4, h3⟩

theorem val_drop {l : List Int} {s : Nat} (h : s < l.length) : H32.val (l.drop s) = rd l s + 4294967296 * H32.val (l.drop (s + 1)) := by
  rw [List.drop_eq_getElem_cons h, H32.val, H32.rd_lt h]
/-- A division by 10^9, from the highest half down. -/
structure DivK (x y : List Int) (r t : Int) : Prop where
  mk :: (out : ∃ k : Nat, t = (k : Int) - 1 ∧ k ≤ x.length ∧ y.length = x.length ∧ H32.Dig y ∧ (∀ j : Nat, j < k → rd y j = rd x j) ∧ 0 ≤ r ∧ r < 1000000000 ∧ H32.val (y.drop k) * 1000000000 + r = H32.val (x.drop k))
theorem DivK.start {x : List Int} (hd : H32.Dig x) : DivK x x 0 ((x.length : Int) - 1) :=
  ⟨x.length, rfl, Nat.le_refl _, rfl, hd, fun _ _ => rfl, by omega, by omega, by simp [H32.val]⟩
theorem DivK.bound {x y : List Int} {r t : Int} (h : DivK x y r t) : -1 ≤ t ∧ t < x.length ∧ y.length = x.length ∧ 0 ≤ r ∧ r ≤ 999999999 := by
  obtain ⟨k, rfl, h1, h2, _, _, h5, h6, _⟩ := h
  omega
theorem DivK.step {x y : List Int} {r t : Int} (h : DivK x y r t) (hx : H32.Dig x) (ht : 0 ≤ t) {c : Int} (hc : c = rd y t + r * 4294967296) :
    DivK x (y.set t.toNat (c / 1000000000)) (c % 1000000000) (t - 1) ∧ 0 ≤ c ∧ c ≤ 4294967296000000000 := by
  obtain ⟨k, rfl, h1, h2, h3, h4, h5, h6, h7⟩ := h
  obtain ⟨s, rfl⟩ : ∃ s, k = s + 1 := ⟨k - 1, by omega⟩
  have e : ((s + 1 : Nat) : Int) - 1 = (s : Int) := by omega
  rw [e] at hc ⊢
  have hxs := H32.dig_rd hx (s : Int)
  have hys := h4 s (by omega)
  have hcb : 0 ≤ c ∧ c ≤ 4294967296000000000 := by rw [hc, hys]; omega
  refine ⟨⟨s, rfl, by omega, by simpa using h2, h3.set _ (by omega), fun j hj => ?_, by omega, by omega, ?_⟩, hcb⟩
  · rw [show ((s : Int)).toNat = s by omega, H32.rd_set_ne (by omega)]
    exact h4 j (by omega)
  · rw [show ((s : Int)).toNat = s by omega]
    have hlen : s < (y.set s (c / 1000000000)).length := by simp; omega
    rw [val_drop hlen, val_drop (l := x) (by omega), H32.rd_set_self (by omega)]
    have hds : (y.set s (c / 1000000000)).drop (s + 1) = y.drop (s + 1) := by
      rw [List.drop_set]; simp
    rw [hds, ← h7, ← hys]
    generalize H32.val (y.drop (s + 1)) = V at *
    omega
theorem DivK.done {x y : List Int} {r t : Int} (h : DivK x y r t) (ht : ¬ 0 ≤ t) : H32.Dig y ∧ y.length = x.length ∧ H32.val y = H32.val x / 1000000000 ∧ r = H32.val x % 1000000000 := by
  obtain ⟨k, rfl, h1, h2, h3, h4, h5, h6, h7⟩ := h
  obtain rfl : k = 0 := by omega
  simp only [List.drop_zero] at h7
  refine ⟨h3, h2, by omega, by omega⟩

theorem take_zero {l : List Int} (hp : 0 < l.length) (hz : rd l ((l.length : Int) - 1) = 0) : H32.val (l.take (l.length - 1)) = H32.val l := by
  obtain ⟨m, hm⟩ : ∃ m, l.length = m + 1 := ⟨l.length - 1, by omega⟩
  rw [hm, show ((m + 1 : Nat) : Int) - 1 = (m : Int) by omega] at hz
  have h := H32.val_take_succ (l := l) (i := m) (by omega)
  rw [hz, ← hm, List.take_length] at h
  rw [hm, Nat.add_sub_cancel]
  omega
theorem top_pos {l : List Int} (hd : H32.Dig l) (hp : 0 < l.length) (hz : ¬ rd l ((l.length : Int) - 1) = 0) : 0 < H32.val l := by
  obtain ⟨m, hm⟩ : ∃ m, l.length = m + 1 := ⟨l.length - 1, by omega⟩
  rw [hm, show ((m + 1 : Nat) : Int) - 1 = (m : Int) by omega] at hz
  have h := H32.val_take_succ (l := l) (i := m) (by omega)
  rw [← hm, List.take_length] at h
  have h0 := H32.val_nonneg (hd.take m)
  have h1 := H32.dig_rd hd (m : Int)
  have h2 : 0 < rd l (m : Int) * 4294967296 ^ m := Int.mul_pos (by omega) (H32.pw_pos m)
  omega
/-- What is left to be divided, and the digits that are there. -/
structure Outl (N : Nat) (i : Int) (x l : List Int) : Prop where
  mk :: (out : Out N i x) (dig : H32.Dig l) (val : H32.val l = ((N / 1000000000 ^ i.toNat : Nat) : Int)) (pos : 0 < l.length ↔ i < (Digs.digs N).length)
/-- What is left behind the division, cut at its end. -/
structure Trimd (M : Nat) (l : List Int) : Prop where
  mk :: (dig : H32.Dig l) (val : H32.val l = (M : Int))
theorem Trimd.of_div {N : Nat} {i : Int} {x l y : List Int} {r t : Int} (h : Outl N i x l) (hi : 0 ≤ i) (hd : DivK l y r t) (ht : ¬ 0 ≤ t) : Trimd (N / 1000000000 ^ (i.toNat + 1)) y ∧ r = rd (Digs.digs N) i := by
  obtain ⟨h1, h2, h3, h4⟩ := hd.done ht
  rw [h.val] at h3 h4
  obtain ⟨a, rfl⟩ := Int.eq_ofNat_of_zero_le hi
  rw [Int.toNat_natCast] at h3 h4 ⊢
  refine ⟨⟨h1, ?_⟩, ?_⟩
  · rw [h3, Nat.pow_succ, ← Nat.div_div_eq_div_mul]; rfl
  · rw [h4, StrLaw.rd_digs]; rfl
theorem Trimd.step {M : Nat} {l : List Int} (h : Trimd M l) (hp : 0 < l.length) (hz : rd l ((l.length : Int) - 1) = 0) : Trimd M (l.take (l.length - 1)) := ⟨h.dig.take _, by rw [take_zero hp hz]; exact h.val⟩
theorem Trimd.done {M : Nat} {l : List Int} (h : Trimd M l) (hz : ¬ (0 < l.length ∧ rd l ((l.length : Int) - 1) = 0)) : 0 < l.length ↔ 0 < M := by
  constructor
  · intro hp
    have := top_pos h.dig hp (fun h0 => hz ⟨hp, h0⟩)
    have := h.val
    omega
  · intro hM
    apply Classical.byContradiction
    intro hp
    have : l = [] := List.eq_nil_of_length_eq_zero (by omega)
    subst this
    have := h.val
    simp [H32.val] at this
    omega
theorem Outl.next {N : Nat} {i : Int} {x l : List Int} (hi : 0 ≤ i) (ho : Out N (i + 1) x) (h : Trimd (N / 1000000000 ^ (i.toNat + 1)) l) (hp : 0 < l.length ↔ 0 < N / 1000000000 ^ (i.toNat + 1)) : Outl N (i + 1) x l := by
  obtain ⟨a, rfl⟩ := Int.eq_ofNat_of_zero_le hi
  rw [Int.toNat_natCast] at h hp
  refine ⟨ho, h.dig, ?_, ?_⟩
  · rw [h.val, show ((a : Int) + 1).toNat = a + 1 by omega]
  · rw [hp, ← len_digs_iff]; omega
end Go.Proofs.YteohmbannpbokaaGreatDoor.BigLaw
