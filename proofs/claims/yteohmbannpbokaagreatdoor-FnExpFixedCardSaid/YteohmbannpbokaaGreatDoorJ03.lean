/-
 Natural numbers as lists of limbs below 10^9 (the lowest ones first): a plain law, with no program in sight.
 The decimal digits of a number, the lowest ones first, and how the reference comes to them limb by limb: a plain law, with no program in sight.
 The numbers of texts of digits: a plain law, with no program in sight.
 Words for this claim.
-/
import Derived.Test.YteohmbannpbokaaGreatDoorJ02
import Derived.IntWalk
import Derived.Test.YteohmbannpbokaaGreatDoorJ01
set_option linter.unusedVariables false
set_option linter.unusedSimpArgs false
namespace Go.Proofs.YteohmbannpbokaaGreatDoor.Digs
open Go.RowKit Go.Proofs.YteohmbannpbokaaGreatDoorW.PrintWords
theorem w64 (x : Int) (h1 : -9223372036854775808 ≤ x) (h2 : x ≤ 9223372036854775807) : wrap64 x = x := by
 unfold wrap64; omega
theorem wu64 (x : Int) (h1 : 0 ≤ x) (h2 : x ≤ 18446744073709551615) : IntKind.u64.wrap x = x := by
 exact IntWalk.u64_in x ⟨h1, h2⟩
def val : List Int → Int
 | [] => 0
 | x :: xs => x + 1000000000 * val xs
def Dig (l : List Int) : Prop := ∀ x ∈ l, 0 ≤ x ∧ x < 1000000000
def Top (l : List Int) : Prop := ∀ h : l ≠ [], l.getLast h ≠ 0
theorem pw_pos (i : Nat) : 0 < (1000000000 : Int) ^ i := Int.pow_pos (by decide)
theorem pw_succ (i : Nat) : (1000000000 : Int) ^ (i + 1) = 1000000000 * 1000000000 ^ i := by rw [Int.pow_succ, Int.mul_comm]
theorem Dig.nil : Dig [] := fun x h => by cases h
theorem Dig.cons {x : Int} {xs : List Int} (h : 0 ≤ x ∧ x < 1000000000) (hs : Dig xs) : Dig (x :: xs) := fun y hy => by
 rcases List.mem_cons.1 hy with rfl | hy
 · exact h
 · exact hs y hy
theorem Dig.head {x : Int} {xs : List Int} (h : Dig (x :: xs)) : 0 ≤ x ∧ x < 1000000000 := h x List.mem_cons_self
theorem Dig.tail {x : Int} {xs : List Int} (h : Dig (x :: xs)) : Dig xs := fun y hy => h y (List.mem_cons_of_mem _ hy)
theorem Dig.append {a b : List Int} (ha : Dig a) (hb : Dig b) : Dig (a ++ b) := fun y hy => (List.mem_append.1 hy).elim (ha y) (hb y)
theorem Dig.take {a : List Int} (ha : Dig a) (n : Nat) : Dig (a.take n) := fun y hy => ha y (List.mem_of_mem_take hy)
theorem Dig.set {a : List Int} (ha : Dig a) (i : Nat) {v : Int} (hv : 0 ≤ v ∧ v < 1000000000) : Dig (a.set i v) := fun y hy => by
 rcases List.mem_or_eq_of_mem_set hy with h | rfl
 · exact ha y h
 · exact hv
theorem Dig.rep (n : Nat) : Dig (List.replicate n 0) := fun y hy => by
 have := (List.mem_replicate.1 hy).2
 omega
theorem dig_rd {a : List Int} (ha : Dig a) (i : Int) : 0 ≤ rd a i ∧ rd a i < 1000000000 := by
 unfold Go.Proofs.YteohmbannpbokaaGreatDoorW.PrintWords.rd
 rw [List.getD_eq_getElem?_getD]
 by_cases h : i.toNat < a.length
 · rw [List.getElem?_eq_getElem h]
   exact ha _ (List.getElem_mem h)
 · rw [List.getElem?_eq_none (by omega)]
   simp
theorem val_append (a b : List Int) : val (a ++ b) = val a + 1000000000 ^ a.length * val b := by
 induction a with
 | nil => simp [val]
 | cons x xs ih =>
   simp only [List.cons_append, val, ih, List.length_cons, pw_succ]
   grind
theorem val_nonneg {l : List Int} (h : Dig l) : 0 ≤ val l := by
 induction l with
 | nil => simp [val]
 | cons x xs ih =>
   have := ih h.tail
   have := h.head
   simp only [val]
   omega
theorem val_lt {l : List Int} (h : Dig l) : val l < 1000000000 ^ l.length := by
 induction l with
 | nil => simp [val]
 | cons x xs ih =>
   have := ih h.tail
   have := h.head
   simp only [val, List.length_cons, pw_succ]
   omega
theorem val_rep (n : Nat) : val (List.replicate n 0) = 0 := by
 induction n with
 | zero => rfl
 | succ n ih => simp [List.replicate_succ, val, ih]
theorem rd_nat (l : List Int) (i : Nat) : rd l (i : Int) = l.getD i 0 := by simp [Go.Proofs.YteohmbannpbokaaGreatDoorW.PrintWords.rd]
theorem rd_lt {l : List Int} {i : Nat} (h : i < l.length) : rd l (i : Int) = l[i] := by
 rw [rd_nat, List.getD_eq_getElem?_getD, List.getElem?_eq_getElem h]; rfl
theorem val_set : ∀ (l : List Int) (i : Nat) (v : Int), i < l.length → val (l.set i v) = val l + (v - rd l i) * 1000000000 ^ i := by
 intro l
 induction l with
 | nil => intro i v h; simp at h
 | cons x xs ih =>
   intro i v h
   cases i with
   | zero =>
     simp only [List.set_cons_zero, val, rd_nat, List.getD_cons_zero, Int.pow_zero]
     omega
   | succ i =>
     have := ih i v (by simpa using h)
     simp only [List.set_cons_succ, val, this, rd_nat, List.getD_cons_succ, pw_succ]
     grind
theorem take_succ_rd {l : List Int} {i : Nat} (h : i < l.length) : l.take (i + 1) = l.take i ++ [rd l i] := by
 rw [rd_lt h, List.take_succ_eq_append_getElem h]
theorem val_take_succ {l : List Int} {i : Nat} (h : i < l.length) : val (l.take (i + 1)) = val (l.take i) + rd l i * 1000000000 ^ i := by
 rw [take_succ_rd h, val_append]
 simp only [val, List.length_take, Nat.min_eq_left (Nat.le_of_lt h)]
 grind
theorem rd_set_self {l : List Int} {i : Nat} {v : Int} (h : i < l.length) : rd (l.set i v) i = v := by
 rw [rd_lt (by simpa using h)]
 simp
theorem rd_set_ne {l : List Int} {i j : Nat} {v : Int} (h : i ≠ j) : rd (l.set i v) (j : Int) = rd l (j : Int) := by
 rw [rd_nat, rd_nat, List.getD_eq_getElem?_getD, List.getD_eq_getElem?_getD, List.getElem?_set_ne h]
theorem rd_rep (n i : Nat) : rd (List.replicate n 0) (i : Int) = 0 := by
 rw [rd_nat, List.getD_eq_getElem?_getD, List.getElem?_replicate]
 split <;> rfl
def digs (n : Nat) : List Int := if h : n = 0 then [] else ((n % 1000000000 : Nat) : Int) :: digs (n / 1000000000)
 termination_by n
 decreasing_by omega
theorem digs_zero : digs 0 = [] := by rw [digs]; simp
theorem digs_pos {n : Nat} (h : n ≠ 0) : digs n = ((n % 1000000000 : Nat) : Int) :: digs (n / 1000000000) := by rw [digs]; simp [h]
theorem digs_ne {n : Nat} (h : n ≠ 0) : digs n ≠ [] := by rw [digs_pos h]; simp
theorem digs_one {n : Nat} (h : n ≠ 0) (h2 : n < 1000000000) : digs n = [(n : Int)] := by
 rw [digs_pos h, Nat.mod_eq_of_lt h2, Nat.div_eq_of_lt h2, digs_zero]
theorem val_digs (n : Nat) : val (digs n) = n := by
 induction n using Nat.strongRecOn with
 | _ n ih =>
   by_cases h : n = 0
   · subst h; rw [digs_zero]; rfl
   · rw [digs_pos h, val, ih _ (by omega)]
     omega
theorem dig_digs (n : Nat) : Dig (digs n) := by
 induction n using Nat.strongRecOn with
 | _ n ih =>
   by_cases h : n = 0
   · subst h; rw [digs_zero]; exact Dig.nil
   · rw [digs_pos h]
     exact Dig.cons (by omega) (ih _ (by omega))
theorem canon {l : List Int} (hd : Dig l) (ht : Top l) : ∀ {n : Nat}, val l = n → l = digs n := by
 induction l with
 | nil =>
   intro n h
   have : n = 0 := by simp only [val] at h; omega
   subst this
   rw [digs_zero]
 | cons x xs ih =>
   intro n h
   have hx := hd.head
   have hv := val_nonneg hd.tail
   simp only [val] at h
   have hts : Top xs := fun hne => by have := ht (by simp); rwa [List.getLast_cons hne] at this
   have e := ih hd.tail hts (n := n / 1000000000) (by omega)
   have hn : n ≠ 0 := by
     intro h0
     subst h0
     by_cases hxs : xs = []
     · subst hxs
       have := ht (by simp)
       simp only [List.getLast_singleton] at this
       simp only [val] at h
       omega
     · rw [show (0 / 1000000000 : Nat) = 0 from rfl, digs_zero] at e
       exact hxs e
   rw [digs_pos hn, ← e]
   congr 1
   omega
theorem len_digs_le {n L : Nat} (h : n < 1000000000 ^ L) : (digs n).length ≤ L := by
 induction L generalizing n with
 | zero =>
   have : n = 0 := by simp at h; exact h
   subst this
   simp [digs_zero]
 | succ L ih =>
   by_cases h0 : n = 0
   · subst h0; simp [digs_zero]
   · rw [digs_pos h0, List.length_cons]
     have := ih (n := n / 1000000000) (by rw [Nat.pow_succ, Nat.mul_comm] at h; exact Nat.div_lt_of_lt_mul h)
     omega
theorem lt_of_len (n : Nat) : n < 1000000000 ^ (digs n).length := by
 have := val_lt (dig_digs n)
 rw [val_digs] at this
 have e : ((1000000000 ^ (digs n).length : Nat) : Int) = (1000000000 : Int) ^ (digs n).length := by simp
 rw [← e] at this
 exact Int.ofNat_lt.1 this
theorem len_digs_lt {a b : Nat} (h : (digs a).length < (digs b).length) : a < b := by
 rcases Nat.lt_or_ge a b with h1 | h1
 · exact h1
 · have := len_digs_le (n := b) (L := (digs a).length) (Nat.lt_of_le_of_lt h1 (lt_of_len a))
   omega
theorem len_digs_mono {a b : Nat} (h : a ≤ b) : (digs a).length ≤ (digs b).length := len_digs_le (Nat.lt_of_le_of_lt h (lt_of_len b))
theorem digs_nil {n : Nat} : digs n = [] ↔ n = 0 := ⟨fun h => Classical.byContradiction fun hn => digs_ne hn h, fun h => by rw [h, digs_zero]⟩
theorem len_pos {n : Nat} (h : n ≠ 0) : 0 < (digs n).length := List.length_pos_iff.2 (digs_ne h)
theorem len_zero {n : Nat} : (digs n).length = 0 ↔ n = 0 := by rw [List.length_eq_zero_iff, digs_nil]
end Go.Proofs.YteohmbannpbokaaGreatDoor.Digs
namespace Go.Proofs.YteohmbannpbokaaGreatDoor.StrLaw
open Go.RowKit Go.Proofs.YteohmbannpbokaaGreatDoorW.PrintWords Go.Proofs.YteohmbannpbokaaGreatDoor.Digs
def nd (n : Nat) : Nat := if h : n = 0 then 0 else nd (n / 10) + 1
 termination_by n
 decreasing_by omega
theorem nd_zero : nd 0 = 0 := by rw [nd]; simp
theorem nd_pos {n : Nat} (h : n ≠ 0) : nd n = nd (n / 10) + 1 := by rw [nd]; simp [h]
theorem nd_lt : ∀ (j n : Nat), j < nd n ↔ 0 < n / 10 ^ j := by
 intro j
 induction j with
 | zero =>
   intro n
   rw [Nat.pow_zero, Nat.div_one]
   by_cases h : n = 0
   · subst h; simp [nd_zero]
   · rw [nd_pos h]; omega
 | succ j ih =>
   intro n
   rw [Nat.pow_succ, Nat.mul_comm, ← Nat.div_div_eq_div_mul, ← ih]
   by_cases h : n = 0
   · subst h; simp [nd_zero]
   · rw [nd_pos h]; omega
theorem nd_le {n k : Nat} (h : n < 10 ^ k) : nd n ≤ k := by
 rcases Nat.lt_or_ge k (nd n) with h1 | h1
 · have := (nd_lt k n).1 h1
   rw [Nat.div_eq_of_lt h] at this
   omega
 · exact h1
theorem lt_of_nd (n : Nat) : n < 10 ^ nd n := by
 rcases Nat.lt_or_ge n (10 ^ nd n) with h | h
 · exact h
 · have := (nd_lt (nd n) n).2 (Nat.div_pos h (Nat.pow_pos (by decide)))
   omega
theorem nd_le_iff {n k : Nat} : nd n ≤ k ↔ n < 10 ^ k := ⟨fun h => Nat.lt_of_lt_of_le (lt_of_nd n) (Nat.pow_le_pow_right (by decide) h), nd_le⟩
theorem pow9 (i : Nat) : (1000000000 : Nat) ^ i = 10 ^ (9 * i) := by rw [Nat.pow_mul]
def dbyt (n k : Nat) : List Int := (List.range k).map fun j => ((48 + n / 10 ^ j % 10 : Nat) : Int)
theorem dbyt_zero (n : Nat) : dbyt n 0 = [] := rfl
theorem dbyt_succ (n k : Nat) : dbyt n (k + 1) = dbyt n k ++ [((48 + n / 10 ^ k % 10 : Nat) : Int)] := by simp [dbyt, List.range_succ]
theorem dbyt_len (n k : Nat) : (dbyt n k).length = k := by simp [dbyt]
theorem rd_digs : ∀ (i n : Nat), rd (digs n) (i : Int) = ((n / 1000000000 ^ i % 1000000000 : Nat) : Int) := by
 intro i
 induction i with
 | zero =>
   intro n
   rw [rd_nat]
   by_cases h : n = 0
   · subst h; rw [digs_zero]; simp
   · rw [digs_pos h]; simp
 | succ i ih =>
   intro n
   rw [rd_nat]
   by_cases h : n = 0
   · subst h; rw [digs_zero]; simp
   · rw [digs_pos h, List.getD_cons_succ, ← rd_nat, ih, Nat.div_div_eq_div_mul, Nat.pow_succ, Nat.mul_comm (1000000000 ^ i)]
theorem len_digs_iff (n i : Nat) : i < (digs n).length ↔ 0 < n / 1000000000 ^ i := by
 constructor
 · intro h
   rcases Nat.eq_zero_or_pos (n / 1000000000 ^ i) with h0 | h0
   · have := len_digs_le (n := n) (L := i) ((Nat.div_eq_zero_iff_lt (Nat.pow_pos (by decide))).1 h0)
     omega
   · exact h0
 · intro h
   rcases Nat.lt_or_ge i (digs n).length with h1 | h1
   · exact h1
   · have := lt_of_len n
     have h2 : n < 1000000000 ^ i := Nat.lt_of_lt_of_le this (Nat.pow_le_pow_right (by decide) h1)
     rw [Nat.div_eq_of_lt h2] at h
     omega
theorem nd_le_len (n : Nat) : nd n ≤ 9 * (digs n).length := by
 rw [nd_le_iff, ← pow9]; exact lt_of_len n
structure Out (n : Nat) (i : Int) (x : List Int) : Prop where
 mk :: (out : ∃ a : Nat, i = a ∧ a ≤ (digs n).length ∧ x = dbyt n (min (9 * a) (nd n)))
structure Inn (n : Nat) (i k c : Int) (x : List Int) : Prop where
 mk :: (out : ∃ a b : Nat, i = a ∧ k = b ∧ a < (digs n).length ∧ b ≤ 9 ∧ c = ((n / 1000000000 ^ a % 1000000000 / 10 ^ b : Nat) : Int) ∧ x = dbyt n (9 * a + b) ∧ 9 * a + b ≤ nd n)
theorem Out.start (n : Nat) : Out n 0 [] := ⟨0, rfl, Nat.zero_le _, by simp [dbyt_zero]⟩
theorem nd_of_len {n a : Nat} (h : a < (digs n).length) : 9 * a < nd n := by rw [nd_lt, ← pow9]; exact (len_digs_iff n a).1 h
theorem Out.inn {n : Nat} {i : Int} {x : List Int} (h : Out n i x) (hi : i < (digs n).length) : Inn n i 0 (rd (digs n) i) x := by
 obtain ⟨a, rfl, ha, rfl⟩ := h
 have ha' : a < (digs n).length := by omega
 have := nd_of_len ha'
 exact ⟨a, 0, rfl, rfl, ha', by omega, by rw [rd_digs, Nat.pow_zero, Nat.div_one], by rw [Nat.min_eq_left (by omega)]; rfl, by omega⟩
theorem Out.bound {n : Nat} {i : Int} {x : List Int} (h : Out n i x) : 0 ≤ i ∧ i ≤ (digs n).length ∧ x.length ≤ 9 * (digs n).length := by
 obtain ⟨a, rfl, ha, rfl⟩ := h
 rw [dbyt_len]
 omega
theorem Inn.bound {n : Nat} {i k c : Int} {x : List Int} (h : Inn n i k c x) : 0 ≤ i ∧ i < (digs n).length ∧ 0 ≤ k ∧ k ≤ 9 ∧ 0 ≤ c ∧ c ≤ 999999999 ∧ x.length ≤ 9 * (digs n).length := by
 obtain ⟨a, b, rfl, rfl, ha, hb, rfl, rfl, hn⟩ := h
 have h1 : n / 1000000000 ^ a % 1000000000 / 10 ^ b < 1000000000 := Nat.lt_of_le_of_lt (Nat.div_le_self _ _) (Nat.mod_lt _ (by decide))
 have := nd_le_len n
 rw [dbyt_len]
 generalize n / 1000000000 ^ a % 1000000000 / 10 ^ b = q at *
 omega
theorem Out.done {n : Nat} {i : Int} {x : List Int} (h : Out n i x) (hi : ¬ i < (digs n).length) : x = dbyt n (nd n) := by
 obtain ⟨a, rfl, ha, rfl⟩ := h
 have : a = (digs n).length := by omega
 subst this
 rw [Nat.min_eq_right (nd_le_len n)]
theorem div_lo (m b : Nat) (hb : b < 9) : m % 1000000000 / 10 ^ b % 10 = m / 10 ^ b % 10 := by
 have hb' : b = 0 ∨ b = 1 ∨ b = 2 ∨ b = 3 ∨ b = 4 ∨ b = 5 ∨ b = 6 ∨ b = 7 ∨ b = 8 := by omega
 rcases hb' with rfl | rfl | rfl | rfl | rfl | rfl | rfl | rfl | rfl <;> simp only [Nat.reducePow, Nat.pow_zero] <;> omega
theorem Inn.step {n : Nat} {i k c : Int} {x : List Int} (h : Inn n i k c x) (hk : k < 9) (hc : 0 < c ∨ i + 1 < (digs n).length) : Inn n i (k + 1) (c / 10) (x ++ [48 + c % 10]) := by
 obtain ⟨a, b, rfl, rfl, ha, hb, rfl, rfl, hn⟩ := h
 have hp : 0 < 10 ^ b := Nat.pow_pos (by decide)
 have hlt : 9 * a + b < nd n := by
   rcases hc with hc | hc
   · rw [nd_lt, Nat.pow_add, ← pow9, ← Nat.div_div_eq_div_mul]
     have h2 : 10 ^ b ≤ n / 1000000000 ^ a % 1000000000 := by
       rcases Nat.lt_or_ge (n / 1000000000 ^ a % 1000000000) (10 ^ b) with h3 | h3
       · rw [Nat.div_eq_of_lt h3] at hc; omega
       · exact h3
     exact Nat.div_pos (Nat.le_trans h2 (Nat.mod_le _ _)) hp
   · have := nd_of_len (n := n) (a := a + 1) (by omega)
     omega
 have h1 : n / 1000000000 ^ a % 1000000000 / 10 ^ b < 1000000000 := Nat.lt_of_le_of_lt (Nat.div_le_self _ _) (Nat.mod_lt _ (by decide))
 refine ⟨a, b + 1, rfl, by omega, ha, by omega, ?_, ?_, by omega⟩
 · rw [Nat.pow_succ, ← Nat.div_div_eq_div_mul]
   generalize n / 1000000000 ^ a % 1000000000 / 10 ^ b = q at *
   omega
 · rw [← Nat.add_assoc, dbyt_succ]
   congr 2
   rw [Nat.pow_add, ← pow9, ← Nat.div_div_eq_div_mul, ← div_lo _ b (by omega)]
   generalize n / 1000000000 ^ a % 1000000000 / 10 ^ b = q at *
   omega
theorem Inn.stop9 {n : Nat} {i k c : Int} {x : List Int} (h : Inn n i k c x) (hk : ¬ k < 9) : Out n (i + 1) x := by
 obtain ⟨a, b, rfl, rfl, ha, hb, rfl, rfl, hn⟩ := h
 have e : b = 9 := by omega
 subst e
 exact ⟨a + 1, by omega, ha, by rw [Nat.min_eq_left (by omega), Nat.mul_succ]⟩
theorem Inn.stop0 {n : Nat} {i k c : Int} {x : List Int} (h : Inn n i k c x) (hk : k < 9) (hc : ¬ 0 < c) (hi : ¬ i + 1 < (digs n).length) : Out n (i + 1) x := by
 obtain ⟨a, b, rfl, rfl, ha, hb, rfl, rfl, hn⟩ := h
 have hp : 0 < 10 ^ b := Nat.pow_pos (by decide)
 have ea : (digs n).length = a + 1 := by omega
 have hn1 : n < 1000000000 ^ (a + 1) := by have := lt_of_len n; rwa [ea] at this
 have h2 : n / 1000000000 ^ a < 1000000000 := by
   rw [Nat.pow_succ] at hn1
   exact Nat.div_lt_of_lt_mul hn1
 have h3 : n / 1000000000 ^ a < 10 ^ b := by
   rw [Nat.mod_eq_of_lt h2] at hc
   rcases Nat.lt_or_ge (n / 1000000000 ^ a) (10 ^ b) with h | h
   · exact h
   · have := Nat.div_pos h hp
     omega
 have e : ¬ 9 * a + b < nd n := by
   rw [nd_lt, Nat.pow_add, ← pow9, ← Nat.div_div_eq_div_mul, Nat.div_eq_of_lt h3]
   omega
 exact ⟨a + 1, by omega, by omega, by rw [show min (9 * (a + 1)) (nd n) = 9 * a + b by omega]⟩
structure Rev (x y : List Int) (i j : Int) : Prop where
 mk :: (out : ∃ a : Nat, i = a ∧ j = (x.length : Int) - 1 - a ∧ y.length = x.length ∧ 2 * a ≤ x.length + 1 ∧ ∀ t : Nat, t < x.length → rd y t = if t < a ∨ x.length ≤ t + a then rd x ((x.length - 1 - t : Nat) : Int) else rd x t)
theorem Rev.start (x : List Int) : Rev x x 0 ((x.length : Int) - 1) := ⟨0, rfl, by omega, rfl, by omega, fun t ht => by rw [if_neg (by omega)]⟩
theorem Rev.bound {x y : List Int} {i j : Int} (h : Rev x y i j) : y.length = x.length ∧ 0 ≤ i ∧ j < x.length ∧ (i < j → j - i ≤ x.length) := by
 obtain ⟨a, rfl, rfl, hl, h2, _⟩ := h
 omega
theorem Rev.step {x y : List Int} {i j : Int} (h : Rev x y i j) (hij : i < j) : Rev x ((y.set i.toNat (rd y j)).set j.toNat (rd y i)) (i + 1) (j - 1) := by
 obtain ⟨a, rfl, rfl, hl, h2, hy⟩ := h
 have ej : ((x.length : Int) - 1 - a).toNat = x.length - 1 - a := by omega
 have ej2 : (x.length : Int) - 1 - a = ((x.length - 1 - a : Nat) : Int) := by omega
 have yi : rd y (a : Int) = rd x a := by rw [hy a (by omega), if_neg (by omega)]
 have yj : rd y ((x.length : Int) - 1 - a) = rd x ((x.length - 1 - a : Nat) : Int) := by rw [ej2, hy _ (by omega), if_neg (by omega)]
 rw [ej, yi, yj, Int.toNat_natCast]
 refine ⟨a + 1, by omega, by omega, by simp [hl], by omega, fun t ht => ?_⟩
 by_cases e1 : t = x.length - 1 - a
 · subst e1
   rw [rd_set_self (by simp; omega), if_pos (by omega)]
   congr 1
   omega
 · rw [rd_set_ne (by omega)]
   by_cases e2 : t = a
   · subst e2
     rw [rd_set_self (by omega), if_pos (by omega)]
   · rw [rd_set_ne (by omega), hy t ht]
     by_cases e3 : t < a ∨ x.length ≤ t + a
     · rw [if_pos e3, if_pos (by omega)]
     · rw [if_neg e3, if_neg (by omega)]
theorem Rev.done {x y : List Int} {i j : Int} (h : Rev x y i j) (hij : ¬ i < j) : y = x.reverse := by
 obtain ⟨a, rfl, rfl, hl, h2, hy⟩ := h
 refine List.ext_getElem (by simp [hl]) fun t h1 h3 => ?_
 have ht : t < x.length := by omega
 have := hy t ht
 rw [rd_lt h1, rd_lt ht, rd_lt (by omega)] at this
 rw [this, List.getElem_reverse]
 by_cases e : t < a ∨ x.length ≤ t + a
 · rw [if_pos e]
 · rw [if_neg e]
   congr 1
   omega
def text (n : Nat) : ByteArray := if n = 0 then ⟨#[48]⟩ else strOfNums (dbyt n (nd n)).reverse
theorem dbyt_nil {n : Nat} : ((dbyt n (nd n)).length : Int) = 0 ↔ n = 0 := by
 rw [dbyt_len]
 constructor
 · intro h
   refine Classical.byContradiction fun hn => ?_
   rw [nd_pos hn] at h
   omega
 · rintro rfl
   rw [nd_zero]
   rfl
theorem text_zero : text 0 = ⟨#[48]⟩ := rfl
theorem text_pos {n : Nat} (h : n ≠ 0) : text n = strOfNums (dbyt n (nd n)).reverse := if_neg h
end Go.Proofs.YteohmbannpbokaaGreatDoor.StrLaw
namespace Go.Proofs.YteohmbannpbokaaGreatDoor.TextLaw
open Go.RowKit Go.Proofs.YteohmbannpbokaaGreatDoorW.PrintWords Go.Proofs.YteohmbannpbokaaGreatDoor.Digs Go.Proofs.YteohmbannpbokaaGreatDoor.StrLaw
def dgt (s : ByteArray) (i : Nat) : Nat := (bt s i - 48).toNat
def dseg (s : ByteArray) (a : Nat) : Nat → Nat
 | 0 => 0
 | k + 1 => dseg s a k * 10 + dgt s (a + k)
def dnum (s : ByteArray) : Nat := dseg s 0 s.size
structure Digits (s : ByteArray) : Prop where
 mk :: (pos : 0 < s.size) (all : ∀ i : Nat, i < s.size → 48 ≤ bt s i ∧ bt s i ≤ 57)
theorem Digits.dgt {s : ByteArray} (h : Digits s) {i : Nat} (hi : i < s.size) : bt s i = 48 + (dgt s i : Int) ∧ TextLaw.dgt s i ≤ 9 := by
 have := h.all i hi
 unfold TextLaw.dgt
 omega
theorem dseg_add (s : ByteArray) (a j : Nat) : ∀ k, dseg s a (j + k) = dseg s a j * 10 ^ k + dseg s (a + j) k := by
 intro k
 induction k with
 | zero => simp [dseg]
 | succ k ih =>
   rw [← Nat.add_assoc, dseg, dseg, ih, Nat.pow_succ, Nat.add_assoc a j k]
   rw [Nat.add_mul, Nat.mul_assoc]
   omega
theorem dseg_lt {s : ByteArray} (h : Digits s) (a : Nat) : ∀ k, a + k ≤ s.size → dseg s a k < 10 ^ k := by
 intro k
 induction k with
 | zero => intro _; simp [dseg]
 | succ k ih =>
   intro hk
   have h1 := ih (by omega)
   have h2 := (h.dgt (show a + k < s.size by omega)).2
   rw [dseg, Nat.pow_succ]
   omega
structure OfInv (s : ByteArray) (out : List Int) (e : Int) : Prop where
 mk :: (dig : Dig out) (len : (out.length : Int) * 9 + e = s.size) (val : val out = ((dseg s e.toNat (s.size - e.toNat) : Nat) : Int)) (low : -9 < e)
theorem OfInv.start (s : ByteArray) : OfInv s [] s.size := ⟨Dig.nil, by simp, by simp [Digs.val, dseg], by omega⟩
theorem OfInv.bound {s : ByteArray} {out : List Int} {e : Int} (h : OfInv s out e) : e ≤ s.size ∧ -9 < e ∧ out.length ≤ s.size := by
 have := h.len; have := h.low; omega
theorem OfInv.step {s : ByteArray} {out : List Int} {e : Int} (h : OfInv s out e) (hD : Digits s) (he : 0 < e) {a k : Nat} (ha : a = (max 0 (e - 9)).toNat) (hk : a + k = e.toNat) :
   OfInv s (out ++ [((dseg s a k : Nat) : Int)]) (e - 9) := by
 obtain ⟨hb, hl, hm⟩ := h.bound
 have hlt := dseg_lt hD a k (by omega)
 have hk9 : k ≤ 9 := by omega
 have hpk : 10 ^ k ≤ 10 ^ 9 := Nat.pow_le_pow_right (by decide) hk9
 refine ⟨h.dig.append (Dig.cons ⟨Int.natCast_nonneg _, by omega⟩ Dig.nil), by simp only [List.length_append, List.length_cons, List.length_nil]; have := h.len; omega, ?_, by omega⟩
 rw [val_append, h.val]
 have hp : (1000000000 : Int) ^ out.length = ((10 ^ (s.size - e.toNat) : Nat) : Int) := by
   have hx : s.size - e.toNat = 9 * out.length := by have := h.len; omega
   rw [hx, Nat.pow_mul]; simp
 rw [hp]
 have hseg := dseg_add s a k (s.size - e.toNat)
 rw [hk, show k + (s.size - e.toNat) = s.size - a by omega] at hseg
 rw [show (e - 9).toNat = a by omega, hseg]
 simp only [Int.natCast_add, Int.natCast_mul]
 rw [show Digs.val [((dseg s a k : Nat) : Int)] = ((dseg s a k : Nat) : Int) by simp [Digs.val]]
 rw [Int.mul_comm, Int.add_comm]
theorem OfInv.done {s : ByteArray} {out : List Int} {e : Int} (h : OfInv s out e) (he : ¬ 0 < e) : Digs.val out = ((dnum s : Nat) : Int) := by
 have := h.val
 rw [show e.toNat = 0 by omega, Nat.sub_zero] at this
 exact this
structure InInv (s : ByteArray) (a : Nat) (n i : Int) : Prop where
 mk :: (out : ∃ k : Nat, i = (a + k : Nat) ∧ n = ((dseg s a k : Nat) : Int))
theorem InInv.start (s : ByteArray) (a : Nat) : InInv s a 0 a := ⟨0, by simp, rfl⟩
theorem InInv.step {s : ByteArray} {a : Nat} {n i : Int} (h : InInv s a n i) (hD : Digits s) (hi : i < s.size) : InInv s a (n * 10 + (bt s i - 48)) (i + 1) := by
 obtain ⟨k, rfl, rfl⟩ := h
 have h1 := (hD.dgt (show a + k < s.size by omega)).1
 refine ⟨k + 1, by omega, ?_⟩
 rw [dseg, h1]; omega
theorem InInv.bound {s : ByteArray} {a : Nat} {n i : Int} (h : InInv s a n i) (hD : Digits s) (hi : i ≤ s.size) (hi9 : i ≤ (a : Int) + 9) : (a : Int) ≤ i ∧ 0 ≤ n ∧ n ≤ 999999999 ∧ (i < (a : Int) + 9 → n ≤ 99999999) := by
 obtain ⟨k, rfl, rfl⟩ := h
 have h1 := dseg_lt hD a k (by omega)
 have hp : 10 ^ k ≤ 10 ^ 9 := Nat.pow_le_pow_right (by decide) (by omega)
 refine ⟨by omega, by omega, by omega, fun h => ?_⟩
 have hp : 10 ^ k ≤ 10 ^ 8 := Nat.pow_le_pow_right (by decide) (by omega)
 omega
theorem size_text {n : Nat} (h : n ≠ 0) : (text n).size = nd n := by
 rw [text_pos h]; simp [strOfNums, ByteArray.size, dbyt_len]
theorem bt_nums (l : List Int) (hl : ∀ x ∈ l, 0 ≤ x ∧ x < 256) (i : Nat) (hi : i < l.length) : bt (strOfNums l) i = l[i] := by
 have hs : (strOfNums l).size = l.length := strOfNums_size l
 have h := hl _ (List.getElem_mem hi)
 have hi2 : ((i : Int)).toNat < (strOfNums l).size := by rw [hs, Int.toNat_natCast]; exact hi
 unfold bt
 rw [dif_pos hi2]
 show (((strOfNums l).data[i]'(by simpa [strOfNums] using hi)).toNat : Int) = _
 simp only [strOfNums, List.getElem_toArray, List.getElem_map]
 rw [UInt8.toNat_ofNat_of_lt' (show l[i].toNat < 256 by omega)]
 omega
theorem bt_text {n : Nat} (hn : n ≠ 0) {i : Nat} (hi : i < nd n) : bt (text n) i = ((48 + n / 10 ^ (nd n - 1 - i) % 10 : Nat) : Int) := by
 rw [text_pos hn, bt_nums _ ?_ i (by simpa [dbyt_len] using hi)]
 · rw [List.getElem_reverse]
   simp only [dbyt, List.getElem_map, List.getElem_range, List.length_map, List.length_range]
 · intro x hx
   simp only [dbyt, List.mem_reverse, List.mem_map, List.mem_range] at hx
   obtain ⟨j, _, rfl⟩ := hx
   omega
theorem dseg_text {n : Nat} (hn : n ≠ 0) : ∀ i, i ≤ nd n → dseg (text n) 0 i = n / 10 ^ (nd n - i) := by
 intro i
 induction i with
 | zero =>
   intro _
   rw [dseg, Nat.sub_zero, Nat.div_eq_of_lt (lt_of_nd n)]
 | succ i ih =>
   intro hi
   rw [dseg, ih (by omega), Nat.zero_add]
   unfold dgt
   rw [bt_text hn (by omega)]
   have hp : 10 ^ (nd n - i) = 10 ^ (nd n - (i + 1)) * 10 := by rw [← Nat.pow_succ]; congr 1; omega
   rw [hp, ← Nat.div_div_eq_div_mul, show nd n - 1 - i = nd n - (i + 1) by omega]
   omega
theorem text_digits (n : Nat) : Digits (text n) := by
 by_cases hn : n = 0
 · subst hn
   refine ⟨by decide, fun i hi => ?_⟩
   have : i = 0 := by have : (text 0).size = 1 := rfl; omega
   subst this
   decide
 · refine ⟨by rw [size_text hn, nd_pos hn]; omega, fun i hi => ?_⟩
   rw [size_text hn] at hi
   rw [bt_text hn hi]
   omega
theorem dnum_text (n : Nat) : dnum (text n) = n := by
 by_cases hn : n = 0
 · subst hn; decide
 · unfold dnum
   rw [size_text hn, dseg_text hn _ (Nat.le_refl _), Nat.sub_self, Nat.pow_zero, Nat.div_one]
def minus (s : ByteArray) : ByteArray := ⟨#[45]⟩ ++ s
def stext (b : Bool) (n : Nat) : ByteArray := if b then minus (text n) else text n
theorem minus_size (s : ByteArray) : (minus s).size = s.size + 1 := by
 have h : (⟨#[45]⟩ : ByteArray).size = 1 := rfl
 unfold minus
 rw [ByteArray.size_append, h]; omega
theorem minus_tail (s : ByteArray) : (minus s).extract 1 (minus s).size = s := by
 rw [minus_size]
 apply ByteArray.ext
 simp [minus, ByteArray.data_extract]
theorem minus_first (s : ByteArray) : bt (minus s) 0 = 45 := by
 unfold bt
 rw [dif_pos (by rw [minus_size]; simp)]
 rfl
theorem dbyt_cons (n k : Nat) : dbyt n (k + 1) = ((48 + n % 10 : Nat) : Int) :: dbyt (n / 10) k := by
 simp only [dbyt, List.range_succ_eq_map, List.map_cons, Nat.pow_zero, Nat.div_one, List.map_map]
 congr 1
 apply List.map_congr_left
 intro j _
 simp only [Function.comp, Nat.pow_succ']
 rw [Nat.div_div_eq_div_mul]
def top (n : Nat) : List Int := (dbyt n (nd n)).reverse
theorem top_zero : top 0 = [] := by unfold top; rw [nd_zero]; rfl
theorem top_len (n : Nat) : (top n).length = nd n := by unfold top; rw [List.length_reverse, dbyt_len]
theorem top_step (n d : Nat) (hd : d ≤ 9) (h : 0 < n ∨ 0 < d) : top (n * 10 + d) = top n ++ [((48 + d : Nat) : Int)] ∧ nd (n * 10 + d) = nd n + 1 := by
 have h1 : (n * 10 + d) / 10 = n := by omega
 have h2 : (n * 10 + d) % 10 = d := by omega
 have h3 : nd (n * 10 + d) = nd n + 1 := by rw [nd_pos (by omega), h1]
 refine ⟨?_, h3⟩
 unfold top
 rw [h3, dbyt_cons, h1, h2, List.reverse_cons]
theorem text_top {n : Nat} (h : n ≠ 0) : strOfNums (top n) = text n := (text_pos h).symm
theorem nd_zero_iff {n : Nat} : nd n = 0 ↔ n = 0 := by
 constructor
 · intro h
   apply Classical.byContradiction
   intro hn
   rw [nd_pos hn] at h
   omega
 · rintro rfl; exact nd_zero
end Go.Proofs.YteohmbannpbokaaGreatDoor.TextLaw
namespace Go.Proofs.YteohmbannpbokaaGreatDoorW.PrintLast
open Go.Proofs.YteohmbannpbokaaGreatDoorW.PrintWords (Aside0)
def needsOf (md : Region.Mode) (o : Oper) : List Nat := (o.after.toList.filter (fun e => Region.binds md e)).map (fun e => e.on)
def clashOf (md : Region.Mode) (ops : Array Oper) (i : Nat) (oi : Oper) : List Nat := (List.range ops.size).filter fun j => !(j == i) && match ops[j]? with
 | some oj => !(oj.after.any (fun e => Region.binds md e && e.on == i) || oi.apart ops oj)
 | none => false
def rtab (md : Region.Mode) (ops : Array Oper) : Bool × List (List Nat × List Nat) := (Region.noSelect ops, (List.range ops.size).map fun i => match ops[i]? with
 | some o => (needsOf md o, clashOf md ops i o)
 | none => ([], []))
def readyAt (T : List (List Nat × List Nat)) (l : List Bool) (i : Nat) : Bool := !l.getD i true && match T[i]? with
 | some r => r.1.all (fun j => l.getD j false)
 | none => false
def readyT (T : List (List Nat × List Nat)) (l : List Bool) : List Nat := (List.range T.length).filter (readyAt T l)
section
variable {md : Region.Mode} {ops : Array Oper} {T : Bool × List (List Nat × List Nat)} {l l' li lj lk : Array Bool} {ds : List Nat} {i j k : Nat}
theorem gd (l : Array Bool) (j : Nat) (b : Bool) : l.getD j b = l.toList.getD j b := by simp [Array.getD_eq_getD_getElem?, List.getD_eq_getElem?_getD]
theorem needs_all (o : Oper) (p : Nat → Bool) : o.after.all (fun e => !Region.binds md e || p e.on) = (needsOf md o).all p := by
 unfold needsOf
 rw [← Array.all_toList]
 induction o.after.toList with
 | nil => rfl
 | cons e r ih =>
   rw [List.all_cons, ih, List.filter_cons]
   cases h : Region.binds md e <;> simp
theorem rtab_length : (rtab md ops).2.length = ops.size := by simp [rtab]
theorem rtab_some {o : Oper} (h : ops[i]? = some o) : (rtab md ops).2[i]? = some (needsOf md o, clashOf md ops i o) := by
 have hi := (Array.getElem?_eq_some_iff.1 h).1
 unfold rtab
 rw [List.getElem?_map, List.getElem?_range hi, Option.map_some, h]
theorem rtab_none (h : ops[i]? = none) : (rtab md ops).2[i]? = none := by
 have hi : ops.size ≤ i := Array.getElem?_eq_none_iff.1 h
 exact List.getElem?_eq_none (by rw [rtab_length]; exact hi)
theorem readyAt_eq : readyAt (rtab md ops).2 l.toList i = (!l.getD i true && ((ops[i]?).map (·.after.all fun e => !Region.binds md e || l.getD e.on false)).getD false) := by
 unfold readyAt
 rw [gd]
 cases h : ops[i]? with
 | none => rw [rtab_none h]; rfl
 | some o =>
   rw [rtab_some h]
   simp only [Option.map_some, Option.getD_some]
   rw [← needs_all]
   simp only [gd]
theorem ready_eq : Region.ready md ops l = readyT (rtab md ops).2 l.toList := by
 unfold Region.ready readyT
 rw [rtab_length]
 refine List.filter_congr (fun i _ => ?_)
 rw [readyAt_eq]
theorem set_of (h : (l.toList.set i true == l'.toList) = true) : (l.setIfInBounds i true == l') = true := by
 rw [beq_iff_eq] at h ⊢
 apply Array.ext'
 rw [Array.toList_setIfInBounds]
 exact h
end
end Go.Proofs.YteohmbannpbokaaGreatDoorW.PrintLast
namespace Go.Proofs.YteohmbannpbokaaGreatDoorW.PrintLast
section
variable {P : Program} {ops : Array Oper} {Q : Exit → Act → World → Prop} {md : Region.Mode} {S : World → Prop} {ds : List Nat} {T : Bool × List (List Nat × List Nat)}
theorem four_of {i j k m : Nat} {l li lj lk lm : Array Bool} (hT : rtab md ops = T) (h : (readyT T.2 l.toList == [i, j, k, m] && l.toList.set i true == li.toList && l.toList.set j true == lj.toList && l.toList.set k true == lk.toList && l.toList.set m true == lm.toList) = true) : (Region.ready md ops l == [i, j, k, m] && l.setIfInBounds i true == li && l.setIfInBounds j true == lj && l.setIfInBounds k true == lk && l.setIfInBounds m true == lm) = true := by
 simp only [Bool.and_eq_true] at h ⊢
 obtain ⟨⟨⟨⟨hr, hsi⟩, hsj⟩, hsk⟩, hsm⟩ := h
 subst hT
 exact ⟨⟨⟨⟨by rw [ready_eq]; exact hr, set_of hsi⟩, set_of hsj⟩, set_of hsk⟩, set_of hsm⟩
end
end Go.Proofs.YteohmbannpbokaaGreatDoorW.PrintLast
namespace Go.Proofs.YteohmbannpbokaaGreatDoorW.PrintWords
open Go.RowKit
namespace Kd
def tag {α : Type} (f : Nat → Nat) (d : Kd α) : Kd (α × Nat) where
 sz := d.sz
 E := d.E
 K := fun w x cs => d.K w x.1 cs
 M := fun w base ok x cs => d.M w base (fun k => ok k ∧ f k = x.2) x.1 cs
 K_len := fun h => d.K_len h
 K_one := fun h => d.K_one h
 K_below := fun hb h => d.K_below hb h
 K_of_M := fun h => d.K_of_M h
 M_mono := fun hok h => d.M_mono (fun k hk => ⟨hok k hk.1, hk.2⟩) h
 M_bound := fun h => d.M_mono (fun _ hk => ⟨⟨hk.1.1, hk.2⟩, hk.1.2⟩) (d.M_bound h)
 M_move := fun hm h => d.M_move (fun k hk => hm k hk.1) h
 M_lower := fun hb h => d.M_lower hb h
def raw (sz : Nat) : Kd (List Value) where
 sz := sz
 E := []
 K := fun _ x cs => cs = x ∧ cs.length = sz ∧ ∀ u ∈ cs, u.oneCell' = true
 M := fun _ _ _ x cs => cs = x ∧ cs.length = sz ∧ ∀ u ∈ cs, u.oneCell' = true
 K_len := fun h => h.2.1
 K_one := fun h => h.2.2
 K_below := fun _ h => h
 K_of_M := fun h => h
 M_mono := fun _ h => h
 M_bound := fun h => h
 M_move := fun _ h => h
 M_lower := fun _ h => h
def S {α : Type} (d : Kd α) (e : Nat) (w : World) (base : Nat) (ok : Nat → Prop) (v : Value) (xs : List α) : Prop := ∃ f, (tag f d).R e w base ok v xs.zipIdx
section
variable {α β : Type} {d : Kd α} {d' : Kd β} {e e' : Nat} {w w1 W : World} {base b : Nat} {ok ok' okv oku : Nat → Prop} {u v : Value} {xs : List α} {ys : List β}
theorem R_tight (hE : d.E = []) (h : d.R e w base ok v xs) : d.R e w base (fun k => some k = v.ownBlock) v xs := by
 obtain ⟨h0, inner, ho, hr⟩ := h
 refine ⟨fun k hk => hk.symm, inner, ho, hr.imp_ (fun p c hp => d.M_mono (fun k hk => ?_) (d.M_bound hp))⟩
 obtain ⟨_, _, _, q, hq, _⟩ := hk
 rw [hE] at hq
 cases hq
theorem S_nil (d : Kd α) (e : Nat) (w : World) (base : Nat) (ok : Nat → Prop) : S d e w base ok (.slice none 0 0) [] := ⟨fun _ => 0, R_nil _ _ _ _ _⟩
end
section
variable {α β : Type} {d : Kd α} {d' : Kd β} {e e' g : Nat} {w w1 W : World} {base b : Nat} {ok ok' okv oku : Nat → Prop} {u v : Value} {xs : List α} {ys : List β}
end
section
variable {P : Program} {ops : Array Oper} {rest : List Oper} {o : Oper} {a : Act} {Q : Exit → Act → World → Prop} {Kc : Act → World → Prop} {α : Type}
end
def gap {α : Type} (f : Nat → Nat) (d : Kd α) (i : Nat) (c : List Value) : Kd (α × Nat) where
 sz := d.sz
 E := d.E
 K := fun w x cs => (x.2 = i → cs = c ∧ cs.length = d.sz ∧ ∀ u ∈ cs, u.oneCell' = true) ∧ (x.2 ≠ i → d.K w x.1 cs)
 M := fun w base ok x cs => (x.2 = i → cs = c ∧ cs.length = d.sz ∧ ∀ u ∈ cs, u.oneCell' = true) ∧ (x.2 ≠ i → d.M w base (fun k => ok k ∧ f k = x.2) x.1 cs)
 K_len := fun {w x cs} h => by
   by_cases hx : x.2 = i
   · exact (h.1 hx).2.1
   · exact d.K_len (h.2 hx)
 K_one := fun {w x cs} h => by
   by_cases hx : x.2 = i
   · exact (h.1 hx).2.2
   · exact d.K_one (h.2 hx)
 K_below := fun hb h => ⟨h.1, fun hx => d.K_below hb (h.2 hx)⟩
 K_of_M := fun h => ⟨h.1, fun hx => d.K_of_M (h.2 hx)⟩
 M_mono := fun hok h => ⟨h.1, fun hx => d.M_mono (fun k hk => ⟨hok k hk.1, hk.2⟩) (h.2 hx)⟩
 M_bound := fun h => ⟨h.1, fun hx => d.M_mono (fun _ hk => ⟨⟨hk.1.1, hk.2⟩, hk.1.2⟩) (d.M_bound (h.2 hx))⟩
 M_move := fun hm h => ⟨h.1, fun hx => d.M_move (fun k hk => hm k hk.1) (h.2 hx)⟩
 M_lower := fun hb h => ⟨h.1, fun hx => d.M_lower hb (h.2 hx)⟩
def H {α : Type} (d : Kd α) (e : Nat) (w : World) (base : Nat) (ok : Nat → Prop) (v : Value) (xs : List α) (i : Int) (oki : Nat → Prop) (c : List Value) : Prop :=
 (∀ k, oki k → ok k) ∧ ∃ f, (gap f d i.toNat c).R e w base (fun k => ok k ∧ ¬ oki k) v xs.zipIdx
section
variable {α β : Type} {d : Kd α} {e e' g n cap : Nat} {w w1 W : World} {base : Nat} {ok ok' oki okp : Nat → Prop} {u v : Value} {xs : List α} {i : Int} {c : List Value}
end
section
variable {P : Program} {ops : Array Oper} {rest : List Oper} {o : Oper} {a : Act} {Q : Exit → Act → World → Prop} {α : Type}
end
end Kd
def Foot (P : World → Prop) (W : World) (ok : Nat → Prop) : Prop := ∀ W' : World, (∀ k, ok k → k < W.heap.size → W'.heap[k]? = W.heap[k]?) → P W'
theorem heap_lt {W W1 : World} {k : Nat} (h : W1.heap[k]? = W.heap[k]?) (hlt : k < W.heap.size) : k < W1.heap.size := by
 rw [Array.getElem?_eq_getElem hlt] at h
 exact (Array.getElem?_eq_some_iff.1 h).1
namespace Foot
variable {P Q : World → Prop} {W W1 : World} {ok ok' : Nat → Prop}
theorem now (h : Foot P W ok) : P W := h W (fun _ _ _ => rfl)
theorem mono (h : Foot P W ok) (hok : ∀ k, ok k → ok' k) : Foot P W ok' := fun W' hW => h W' (fun k hk hlt => hW k (hok k hk) hlt)
theorem bound (h : Foot P W ok) : Foot P W (fun k => ok k ∧ k < W.heap.size) := fun W' hW => h W' (fun k hk hlt => hW k ⟨hk, hlt⟩ hlt)
theorem step (h : Foot P W ok) (hm : ∀ k, ok k → k < W.heap.size → W1.heap[k]? = W.heap[k]?) : Foot P W1 ok := fun W' hW => h W' (fun k hk hlt => (hW k hk (heap_lt (hm k hk hlt) hlt)).trans (hm k hk hlt))
theorem imp (h : Foot P W ok) (hi : ∀ W', P W' → Q W') : Foot Q W ok := fun W' hW => hi W' (h W' hW)
end Foot
namespace Kd
def F {α : Type} (d : Kd α) (W : World) (ok : Nat → Prop) (A : Option Addr) (n : Nat) (xs : List α) : Prop := Foot (fun W => d.C W A n xs) W ok
def FK {α : Type} (d : Kd α) (W : World) (ok : Nat → Prop) (x : α) (c : List Value) : Prop := Foot (fun W => d.K W x c) W ok
section
variable {α β : Type} {d : Kd α} {e base n n' cc g N : Nat} {ok ok' okp S : Nat → Prop} {w w0 w1 W W1 : World} {A A' : Option Addr} {u v v1 : Value} {xs : List α} {xs' : List β} {d' : Kd β} {x : α} {c : List Value}
theorem F_now (h : F d W ok A n xs) : d.C W A n xs := Foot.now h
theorem F_mono (h : F d W ok A n xs) (hok : ∀ k, ok k → ok' k) : F d W ok' A n xs := Foot.mono h hok
theorem F_bound (h : F d W ok A n xs) : F d W (fun k => ok k ∧ k < W.heap.size) A n xs := Foot.bound h
theorem F_step (h : F d W ok A n xs) (hm : ∀ k, ok k → k < W.heap.size → W1.heap[k]? = W.heap[k]?) : F d W1 ok A n xs := Foot.step h hm
theorem F_imp (h : F d W ok A n xs) (hi : ∀ W', d.C W' A n xs → d'.C W' A' n' xs') : F d' W ok A' n' xs' := Foot.imp h hi
theorem F_below (h : F d W ok A n xs) (hb : Below W.heap.size W W1) : F d W1 ok A n xs := F_step h (fun k _ hlt => hb.block k hlt)
theorem F_alloc (h : F d W ok A n xs) (o : Obj) : F d (W.alloc o) ok A n xs := F_below h (below_alloc (Below.refl _ _) o)
theorem F_drew (h : F d W ok A n xs) : F d W.drew ok A n xs := F_below h (below_drew (Below.refl _ _))
theorem F_drewN (h : F d W ok A n xs) (m : Nat) : F d (W.drewN m) ok A n xs := F_below h (pw_below_drewN (Below.refl _ _) m)
theorem F_far (h : F d W ok A n xs) {p : Addr} (hok : ∀ k, ok k → k ≠ p.block) (u : Value) : F d (W.setCell p u) ok A n xs := F_step h (fun k hk _ => Below.heap_setCell W p u k (hok k hk))
theorem F_nil (d : Kd α) (W : World) (ok : Nat → Prop) : F d W ok none ([] : List α).length [] := fun W' _ => C_nil d W'
theorem R_F (h : d.R e W base ok (.slice A n cc) xs) : F d W ok A n xs := fun W' hW => by
 have h2 := R_reads' (R_step h hW)
 rw [h2.1]
 exact h2.2.2
theorem FK_of_M (h : d.M W base ok x c) : FK d W ok x c := fun _ hW => d.K_of_M (M_step h hW)
end
end Kd
end Go.Proofs.YteohmbannpbokaaGreatDoorW.PrintWords
