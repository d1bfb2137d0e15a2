/-
  Natural numbers as lists of limbs below 10^9 (the lowest ones first): a plain law, with no program in sight.
-/
import Derived.Test.YtnjbfebeigginaaDoorWWords
import Derived.IntWalk
set_option linter.unusedVariables false
set_option linter.unusedSimpArgs false
namespace Go.Proofs.YtnjbfebeigginaaDoor.Digs
open Go.RowKit Go.Proofs.YtnjbfebeigginaaDoorW.PrintWords

theorem w64 (x : Int) (h1 : -9223372036854775808 ≤ x) (h2 : x ≤ 9223372036854775807) : wrap64 x = x := by
  unfold wrap64; omega
theorem wu64 (x : Int) (h1 : 0 ≤ x) (h2 : x ≤ 18446744073709551615) : IntKind.u64.wrap x = x := by
  exact IntWalk.u64_in x ⟨h1, h2⟩

/-! ### lists of limbs -/
def val : List Int → Int
  | [] => 0
  | x :: xs => x + 1000000000 * val xs
def Dig (l : List Int) : Prop := ∀ x ∈ l, 0 ≤ x ∧ x < 1000000000
def Top (l : List Int) : Prop := ∀ h : l ≠ [], l.getLast h ≠ 0

theorem pw_pos (i : Nat) : 0 < (1000000000 : Int) ^ i := Int.pow_pos (by decide)
theorem pw_succ (i : Nat) : (1000000000 : Int) ^ (i + 1) = 1000000000 * 1000000000 ^ i := by rw [Int.pow_succ, Int.mul_comm]

theorem Dig.nil : Dig [] := fun x h => by cases h
theorem Dig.cons {x : Int} {xs : List Int} (h : 0 ≤ x ∧ x < 1000000000) (hs : Dig xs) : Dig (x :: xs) := fun y hy => by
  rcases List.mem_cons.1 hy with rfl | hy
  · exact h
  · exact hs y hy
theorem Dig.head {x : Int} {xs : List Int} (h : Dig (x :: xs)) : 0 ≤ x ∧ x < 1000000000 := h x List.mem_cons_self
theorem Dig.tail {x : Int} {xs : List Int} (h : Dig (x :: xs)) : Dig xs := fun y hy => h y (List.mem_cons_of_mem _ hy)
theorem Dig.append {a b : List Int} (ha : Dig a) (hb : Dig b) : Dig (a ++ b) := fun y hy => (List.mem_append.1 hy).elim (ha y) (hb y)
theorem Dig.take {a : List Int} (ha : Dig a) (n : Nat) : Dig (a.take n) := fun y hy => ha y (List.mem_of_mem_take hy)
theorem Dig.set {a : List Int} (ha : Dig a) (i : Nat) {v : Int} (hv : 0 ≤ v ∧ v < 1000000000) : Dig (a.set i v) := fun y hy => by
  rcases List.mem_or_eq_of_mem_set hy with h | rfl
  · exact ha y h
  · exact hv
theorem Dig.rep (n : Nat) : Dig (List.replicate n 0) := fun y hy => by
  have := (List.mem_replicate.1 hy).2
  omega
theorem dig_rd {a : List Int} (ha : Dig a) (i : Int) : 0 ≤ rd a i ∧ rd a i < 1000000000 := by
  unfold Go.Proofs.YtnjbfebeigginaaDoorW.PrintWords.rd
  rw [List.getD_eq_getElem?_getD]
  by_cases h : i.toNat < a.length
  · rw [List.getElem?_eq_getElem h]
    exact ha _ (List.getElem_mem h)
  · rw [List.getElem?_eq_none (by omega)]
    simp

theorem val_append (a b : List Int) : val (a ++ b) = val a + 1000000000 ^ a.length * val b := by
  induction a with
  | nil => simp [val]
  | cons x xs ih =>
    simp only [List.cons_append, val, ih, List.length_cons, pw_succ]
    grind
theorem val_nonneg {l : List Int} (h : Dig l) : 0 ≤ val l := by
  induction l with
  | nil => simp [val]
  | cons x xs ih =>
    have := ih h.tail
    have := h.head
    simp only [val]
    omega
theorem val_lt {l : List Int} (h : Dig l) : val l < 1000000000 ^ l.length := by
  induction l with
  | nil => simp [val]
  | cons x xs ih =>
    have := ih h.tail
    have := h.head
    simp only [val, List.length_cons, pw_succ]
    omega
theorem val_rep (n : Nat) : val (List.replicate n 0) = 0 := by
  induction n with
  | zero => rfl
  | succ n ih => simp [List.replicate_succ, val, ih]
theorem rd_nat (l : List Int) (i : Nat) : rd l (i : Int) = l.getD i 0 := by simp [Go.Proofs.YtnjbfebeigginaaDoorW.PrintWords.rd]
theorem rd_lt {l : List Int} {i : Nat} (h : i < l.length) : rd l (i : Int) = l[i] := by
  rw [rd_nat, List.getD_eq_getElem?_getD, List.getElem?_eq_getElem h]; rfl
theorem val_set : ∀ (l : List Int) (i : Nat) (v : Int), i < l.length → val (l.set i v) = val l + (v - rd l i) * 1000000000 ^ i := by
  intro l
  induction l with
  | nil => intro i v h; simp at h
  | cons x xs ih =>
    intro i v h
    cases i with
    | zero =>
      simp only [List.set_cons_zero, val, rd_nat, List.getD_cons_zero, Int.pow_zero]
      omega
    | succ i =>
      have := ih i v (by simpa using h)
      simp only [List.set_cons_succ, val, this, rd_nat, List.getD_cons_succ, pw_succ]
      grind
theorem take_succ_rd {l : List Int} {i : Nat} (h : i < l.length) : l.take (i + 1) = l.take i ++ [rd l i] := by
  rw [rd_lt h, List.take_succ_eq_append_getElem h]
theorem val_take_succ {l : List Int} {i : Nat} (h : i < l.length) : val (l.take (i + 1)) = val (l.take i) + rd l i * 1000000000 ^ i := by
  rw [take_succ_rd h, val_append]
  simp only [val, List.length_take, Nat.min_eq_left (Nat.le_of_lt h)]
  grind
theorem rd_set_self {l : List Int} {i : Nat} {v : Int} (h : i < l.length) : rd (l.set i v) i = v := by
  rw [rd_lt (by simpa using h)]
  simp
theorem rd_set_ne {l : List Int} {i j : Nat} {v : Int} (h : i ≠ j) : rd (l.set i v) (j : Int) = rd l (j : Int) := by
  rw [rd_nat, rd_nat, List.getD_eq_getElem?_getD, List.getD_eq_getElem?_getD, List.getElem?_set_ne h]
theorem rd_rep (n i : Nat) : rd (List.replicate n 0) (i : Int) = 0 := by
  rw [rd_nat, List.getD_eq_getElem?_getD, List.getElem?_replicate]
  split <;> rfl

/-! ### the limbs of a number -/
def digs (n : Nat) : List Int := if h : n = 0 then [] else ((n % 1000000000 : Nat) : Int) :: digs (n / 1000000000)
  termination_by n
  decreasing_by omega
theorem digs_zero : digs 0 = [] := by rw [digs]; simp
theorem digs_pos {n : Nat} (h : n ≠ 0) : digs n = ((n % 1000000000 : Nat) : Int) :: digs (n / 1000000000) := by rw [digs]; simp [h]
theorem digs_ne {n : Nat} (h : n ≠ 0) : digs n ≠ [] := by rw [digs_pos h]; simp
theorem digs_one {n : Nat} (h : n ≠ 0) (h2 : n < 1000000000) : digs n = [(n : Int)] := by
  rw [digs_pos h, Nat.mod_eq_of_lt h2, Nat.div_eq_of_lt h2, digs_zero]
theorem val_digs (n : Nat) : val (digs n) = n := by
  induction n using Nat.strongRecOn with
  | _ n ih =>
    by_cases h : n = 0
    · subst h; rw [digs_zero]; rfl
    · rw [digs_pos h, val, ih _ (by omega)]
      omega
theorem dig_digs (n : Nat) : Dig (digs n) := by
  induction n using Nat.strongRecOn with
  | _ n ih =>
    by_cases h : n = 0
    · subst h; rw [digs_zero]; exact Dig.nil
    · rw [digs_pos h]
      exact Dig.cons (by omega) (ih _ (by omega))
theorem top_digs (n : Nat) : Top (digs n) := by
  induction n using Nat.strongRecOn with
  | _ n ih =>
    by_cases h : n = 0
    · subst h; rw [digs_zero]; intro h; exact absurd rfl h
    · intro hn
      have e := digs_pos h
      by_cases h2 : n / 1000000000 = 0
      · rw [h2, digs_zero] at e
        simp only [e, List.getLast_singleton]
        omega
      · have := ih _ (by omega) (digs_ne h2)
        simp only [e, List.getLast_cons (digs_ne h2)]
        exact this
theorem canon {l : List Int} (hd : Dig l) (ht : Top l) : ∀ {n : Nat}, val l = n → l = digs n := by
  induction l with
  | nil =>
    intro n h
    have : n = 0 := by simp only [val] at h; omega
    subst this
    rw [digs_zero]
  | cons x xs ih =>
    intro n h
    have hx := hd.head
    have hv := val_nonneg hd.tail
    simp only [val] at h
    have hts : Top xs := fun hne => by have := ht (by simp); rwa [List.getLast_cons hne] at this
    have e := ih hd.tail hts (n := n / 1000000000) (by omega)
    have hn : n ≠ 0 := by
      intro h0
      subst h0
      by_cases hxs : xs = []
      · subst hxs
        have := ht (by simp)
        simp only [List.getLast_singleton] at this
        simp only [val] at h
        omega
      · rw [show (0 / 1000000000 : Nat) = 0 from rfl, digs_zero] at e
        exact hxs e
    rw [digs_pos hn, ← e]
    congr 1
    omega
theorem len_digs_le {n L : Nat} (h : n < 1000000000 ^ L) : (digs n).length ≤ L := by
  induction L generalizing n with
  | zero =>
    have : n = 0 := by simp at h; exact h
    subst this
    simp [digs_zero]
  | succ L ih =>
    by_cases h0 : n = 0
    · subst h0; simp [digs_zero]
    · rw [digs_pos h0, List.length_cons]
      have := ih (n := n / 1000000000) (by rw [Nat.pow_succ, Nat.mul_comm] at h; exact Nat.div_lt_of_lt_mul h)
      omega
theorem lt_of_len (n : Nat) : n < 1000000000 ^ (digs n).length := by
  have := val_lt (dig_digs n)
  rw [val_digs] at this
  have e : ((1000000000 ^ (digs n).length : Nat) : Int) = (1000000000 : Int) ^ (digs n).length := by simp
  rw [← e] at this
  exact Int.ofNat_lt.1 this
theorem len_digs_lt {a b : Nat} (h : (digs a).length < (digs b).length) : a < b := by
  rcases Nat.lt_or_ge a b with h1 | h1
  · exact h1
  · have := len_digs_le (n := b) (L := (digs a).length) (Nat.lt_of_le_of_lt h1 (lt_of_len a))
    omega
theorem len_digs_mono {a b : Nat} (h : a ≤ b) : (digs a).length ≤ (digs b).length := len_digs_le (Nat.lt_of_le_of_lt h (lt_of_len b))
theorem digs_inj {a b : Nat} (h : digs a = digs b) : a = b := by
  have h1 := val_digs a
  rw [h, val_digs] at h1
  omega
theorem digs_nil {n : Nat} : digs n = [] ↔ n = 0 := ⟨fun h => Classical.byContradiction fun hn => digs_ne hn h, fun h => by rw [h, digs_zero]⟩
theorem len_pos {n : Nat} (h : n ≠ 0) : 0 < (digs n).length := List.length_pos_iff.2 (digs_ne h)
theorem len_zero {n : Nat} : (digs n).length = 0 ↔ n = 0 := by rw [List.length_eq_zero_iff, digs_nil]

end Go.Proofs.YtnjbfebeigginaaDoor.Digs
