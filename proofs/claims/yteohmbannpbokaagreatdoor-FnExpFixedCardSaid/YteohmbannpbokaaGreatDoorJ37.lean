/-
 Numbers out of digits, by halves of words: a plain law, with no program in sight.
-/
import Derived.Test.YteohmbannpbokaaGreatDoorJ36
set_option linter.unusedVariables false
set_option linter.unusedSimpArgs false
namespace Go.Proofs.YteohmbannpbokaaGreatDoor.BigLaw
open Go.RowKit Go.Proofs.YteohmbannpbokaaGreatDoorW.PrintWords Go.Proofs.YteohmbannpbokaaGreatDoor.StrLaw Go.Proofs.YteohmbannpbokaaGreatDoor.TextLaw
structure Nine (s : ByteArray) (a : Nat) (n sc i : Int) : Prop where
 mk :: (out : ∃ k : Nat, i = (a + k : Nat) ∧ k ≤ 9 ∧ n = ((dseg s a k : Nat) : Int) ∧ sc = ((10 ^ k : Nat) : Int))
theorem Nine.start (s : ByteArray) (a : Nat) : Nine s a 0 1 a := ⟨0, by simp, by omega, rfl, rfl⟩
theorem Nine.bound {s : ByteArray} {a : Nat} {n sc i : Int} (h : Nine s a n sc i) (hD : Digits s) (hi : i ≤ s.size) : (a : Int) ≤ i ∧ 0 ≤ n ∧ n < sc ∧ 1 ≤ sc ∧ sc ≤ 1000000000 ∧ (sc < 1000000000 → sc ≤ 100000000 ∧ i < (a : Int) + 9) ∧ (¬ sc < 1000000000 → (a : Int) < i) := by
 obtain ⟨k, rfl, hk, rfl, rfl⟩ := h
 have h1 := dseg_lt hD a k (by omega)
 have h2 : 10 ^ k ≤ 10 ^ 9 := Nat.pow_le_pow_right (by decide) hk
 have h3 : 0 < 10 ^ k := Nat.pow_pos (by decide)
 refine ⟨by omega, by omega, by omega, by omega, by omega, fun h => ?_, fun h => ?_⟩
 · have h8 : k ≤ 8 := by
     apply Classical.byContradiction
     intro h9
     obtain rfl : k = 9 := by omega
     simp at h
   have h2 : 10 ^ k ≤ 10 ^ 8 := Nat.pow_le_pow_right (by decide) h8
   omega
 · have : 0 < k := by
     apply Classical.byContradiction
     intro h9
     obtain rfl : k = 0 := by omega
     simp at h
   omega
theorem Nine.step {s : ByteArray} {a : Nat} {n sc i : Int} (h : Nine s a n sc i) (hD : Digits s) (hi : i < s.size) (hs : sc < 1000000000) : Nine s a (n * 10 + (bt s i - 48)) (sc * 10) (i + 1) := by
 have hb := (h.bound hD (by omega)).2.2.2.2.2.1 hs
 obtain ⟨k, rfl, hk, rfl, rfl⟩ := h
 have h1 := (hD.dgt (show a + k < s.size by omega)).1
 refine ⟨k + 1, by omega, by omega, ?_, ?_⟩
 · rw [dseg, h1]; omega
 · rw [Nat.pow_succ]; omega
theorem drop_set {l : List Int} {k : Nat} {v : Int} : (l.set k v).drop (k + 1) = l.drop (k + 1) := by rw [List.drop_set]; simp
theorem take_set {l : List Int} {k : Nat} {v : Int} (h : k < l.length) : H32.val ((l.set k v).take (k + 1)) = H32.val (l.take k) + v * 4294967296 ^ k := by
 rw [H32.val_take_succ (by simpa using h), H32.rd_set_self h, List.take_set]
 congr 2
 rw [List.set_eq_of_length_le (by simp; omega)]
structure MulK (x y : List Int) (n0 sc n i : Int) : Prop where
 mk :: (out : ∃ k : Nat, i = k ∧ k ≤ x.length ∧ y.length = x.length ∧ H32.Dig y ∧ (∀ j : Nat, k ≤ j → rd y j = rd x j) ∧ 0 ≤ n ∧ n ≤ 1000000000 ∧ H32.val (y.take k) + n * 4294967296 ^ k = H32.val (x.take k) * sc + n0)
theorem MulK.start {x : List Int} {n0 sc : Int} (hd : H32.Dig x) (h0 : 0 ≤ n0) (h1 : n0 ≤ 1000000000) : MulK x x n0 sc n0 0 :=
 ⟨0, rfl, Nat.zero_le _, rfl, hd, fun _ _ => rfl, h0, h1, by simp [H32.val]⟩
theorem MulK.bound {x y : List Int} {n0 sc n i : Int} (h : MulK x y n0 sc n i) : 0 ≤ i ∧ i ≤ x.length ∧ y.length = x.length ∧ 0 ≤ n ∧ n ≤ 1000000000 := by
 obtain ⟨k, rfl, h1, h2, _, _, h5, h6, _⟩ := h
 omega
theorem MulK.dig {x y : List Int} {n0 sc n i : Int} (h : MulK x y n0 sc n i) : H32.Dig y := by
 obtain ⟨k, rfl, _, _, h3, _⟩ := h
 exact h3
theorem MulK.step {x y : List Int} {n0 sc n i : Int} (h : MulK x y n0 sc n i) (hx : H32.Dig x) (hi : i < x.length) (hs0 : 1 ≤ sc) (hs1 : sc ≤ 1000000000) {c : Int} (hc : c = n + rd y i * sc) :
   MulK x (y.set i.toNat (c % 4294967296)) n0 sc (c / 4294967296) (i + 1) ∧ 0 ≤ c ∧ c ≤ 4294967296000000000 ∧ 0 ≤ rd y i * sc ∧ rd y i * sc ≤ 4294967295000000000 := by
 obtain ⟨k, rfl, h1, h2, h3, h4, h5, h6, h7⟩ := h
 have hys := h4 k (Nat.le_refl _)
 have hyd := H32.dig_rd h3 (k : Int)
 have hp0 : 0 ≤ rd y (k : Int) * sc := Int.mul_nonneg hyd.1 (by omega)
 have hp1 : rd y (k : Int) * sc ≤ 4294967295 * 1000000000 := Int.mul_le_mul (by omega) hs1 (by omega) (by omega)
 refine ⟨⟨k + 1, by omega, by omega, by simpa using h2, h3.set _ (by omega), fun j hj => ?_, by omega, by omega, ?_⟩, by omega, by omega, hp0, by omega⟩
 · rw [Int.toNat_natCast, H32.rd_set_ne (by omega)]
   exact h4 j (by omega)
 · rw [Int.toNat_natCast, take_set (by omega), H32.val_take_succ (l := x) (by omega), H32.pw_succ]
   rw [← hys]
   have e : c = n + rd y (k : Int) * sc := hc
   have hcm : c % 4294967296 + 4294967296 * (c / 4294967296) = c := by omega
   generalize rd y (k : Int) = z at *
   generalize H32.val (y.take k) = V at *
   generalize H32.val (x.take k) = U at *
   generalize (4294967296 : Int) ^ k = P at *
   generalize c % 4294967296 = lo at *
   generalize c / 4294967296 = hi' at *
   have : V + lo * P + hi' * (4294967296 * P) = V + c * P := by rw [← hcm]; grind
   rw [this, e]
   grind
theorem MulK.done {x y : List Int} {n0 sc n i : Int} (h : MulK x y n0 sc n i) (hi : ¬ i < x.length) : y.length = x.length ∧ H32.val y + n * 4294967296 ^ y.length = H32.val x * sc + n0 := by
 obtain ⟨k, rfl, h1, h2, h3, h4, h5, h6, h7⟩ := h
 obtain rfl : k = x.length := by omega
 rw [List.take_length, ← h2, List.take_length] at h7
 exact ⟨h2, h7⟩
structure Acc (s : ByteArray) (l : List Int) (i : Int) : Prop where
 mk :: (out : ∃ k : Nat, i = k ∧ k ≤ s.size ∧ H32.Dig l ∧ l.length ≤ k ∧ H32.val l = ((dseg s 0 k : Nat) : Int))
theorem Acc.start (s : ByteArray) : Acc s [] 0 := ⟨0, rfl, Nat.zero_le _, H32.Dig.nil, by simp, by simp [H32.val, dseg]⟩
theorem Acc.bound {s : ByteArray} {l : List Int} {i : Int} (h : Acc s l i) : 0 ≤ i ∧ i ≤ s.size ∧ (l.length : Int) ≤ i ∧ H32.Dig l := by
 obtain ⟨k, rfl, h1, h2, h3, _⟩ := h
 exact ⟨by omega, by omega, by omega, h2⟩
theorem Acc.step {s : ByteArray} {l y z : List Int} {i n0 sc i2 n t : Int} (h : Acc s l i) (hD : Digits s) (hN : Nine s i.toNat n0 sc i2) (hlt : i < i2) (hi2 : i2 ≤ s.size) (hM : MulK l y n0 sc n t) (ht : ¬ t < l.length) (hz : z = y ∧ n = 0 ∨ z = y ++ [n] ∧ 0 < n) : Acc s z i2 := by
 obtain ⟨k, rfl, h1, h2, h3, h4⟩ := h
 rw [Int.toNat_natCast] at hN
 obtain ⟨m, rfl, hm, rfl, rfl⟩ := hN
 obtain ⟨hyl, hv⟩ := hM.done ht
 obtain ⟨_, _, _, n0', n1'⟩ := hM.bound
 have hdy := hM.dig
 have hseg := dseg_add s 0 k m
 rw [Nat.zero_add] at hseg
 have hval : H32.val y + n * 4294967296 ^ y.length = ((dseg s 0 (k + m) : Nat) : Int) := by
   rw [hv, h4, hseg, Int.natCast_add, Int.natCast_mul]
 refine ⟨k + m, rfl, by omega, ?_, ?_, ?_⟩
 · rcases hz with ⟨rfl, _⟩ | ⟨rfl, _⟩
   · exact hdy
   · exact hdy.append (H32.Dig.cons ⟨by omega, by omega⟩ H32.Dig.nil)
 · rcases hz with ⟨rfl, _⟩ | ⟨rfl, _⟩
   · omega
   · simp; omega
 · rcases hz with ⟨rfl, hn⟩ | ⟨rfl, _⟩
   · rw [← hval, hn]; simp
   · rw [← hval, H32.val_append]; simp only [H32.val]; rw [Int.mul_comm n]; simp
theorem Acc.done {s : ByteArray} {l : List Int} {i : Int} (h : Acc s l i) (hi : ¬ i < s.size) : H32.Dig l ∧ H32.val l = ((dnum s : Nat) : Int) ∧ l.length ≤ s.size := by
 obtain ⟨k, rfl, h1, h2, h3, h4⟩ := h
 obtain rfl : k = s.size := by omega
 exact ⟨h2, h4, h3⟩
structure Join (l w : List Int) (i : Int) : Prop where
 mk :: (out : ∃ k : Nat, i = k ∧ k ≤ l.length ∧ W64.Dig w ∧ w.length = (k + 1) / 2 ∧ W64.val w = H32.val (l.take k) ∧ (k % 2 = 1 → rd w ((k / 2 : Nat) : Int) < 4294967296))
theorem Join.start (l : List Int) : Join l [] 0 := ⟨0, rfl, Nat.zero_le _, W64.Dig.nil, rfl, by simp [W64.val, H32.val], by omega⟩
theorem Join.bound {l w : List Int} {i : Int} (h : Join l w i) : 0 ≤ i ∧ i ≤ l.length ∧ (w.length : Int) = (i + 1) / 2 := by
 obtain ⟨k, rfl, h1, _, h3, _⟩ := h
 omega
theorem Join.even {l w : List Int} {i : Int} (h : Join l w i) (hd : H32.Dig l) (hi : i < l.length) (he : i % 2 = 0) : Join l (w ++ [rd l i]) (i + 1) := by
 obtain ⟨k, rfl, h1, h2, h3, h4, h5⟩ := h
 obtain ⟨j, rfl⟩ : ∃ j, k = 2 * j := ⟨k / 2, by omega⟩
 have hz := H32.dig_rd hd ((2 * j : Nat) : Int)
 have hw : w.length = j := by omega
 refine ⟨2 * j + 1, by omega, by omega, h2.append (W64.Dig.cons ⟨by omega, by omega⟩ W64.Dig.nil), by simp; omega, ?_, fun _ => ?_⟩
 · rw [W64.val_append, h4, H32.val_take_succ (by omega), hw, pw2]
   simp only [W64.val]
   rw [Int.mul_comm (rd l _)]; simp
 · rw [show (2 * j + 1) / 2 = w.length by omega, W64.rd_nat, show (w ++ [rd l ((2 * j : Nat) : Int)]).getD w.length 0 = rd l ((2 * j : Nat) : Int) by simp [List.getD_eq_getElem?_getD]]
   exact hz.2
theorem Join.odd {l w : List Int} {i : Int} (h : Join l w i) (hd : H32.Dig l) (hi : i < l.length) (ho : i % 2 = 1) : Join l (w.set (i / 2).toNat (rd w (i / 2) + rd l i * 4294967296)) (i + 1) ∧ 0 ≤ rd w (i / 2) ∧ rd w (i / 2) < 4294967296 ∧ i / 2 < w.length := by
 obtain ⟨k, rfl, h1, h2, h3, h4, h5⟩ := h
 obtain ⟨j, rfl⟩ : ∃ j, k = 2 * j + 1 := ⟨k / 2, by omega⟩
 have hz := H32.dig_rd hd ((2 * j + 1 : Nat) : Int)
 have hw : w.length = j + 1 := by omega
 have e : ((2 * j + 1 : Nat) : Int) / 2 = (j : Int) := by omega
 have hlo := h5 (by omega)
 rw [show (2 * j + 1) / 2 = j by omega] at hlo
 rw [e, Int.toNat_natCast]
 have hwd := W64.dig_rd h2 (j : Int)
 refine ⟨⟨2 * j + 2, by omega, by omega, h2.set _ (by omega), by simp; omega, ?_, by omega⟩, hwd.1, hlo, by omega⟩
 rw [W64.val_set _ _ _ (by omega), h4, H32.val_take_succ (l := l) (i := 2 * j + 1) (by omega), pw2, H32.pw_succ]
 generalize (4294967296 : Int) ^ (2 * j) = P at *
 generalize rd w (j : Int) = a at *
 generalize rd l ((2 * j + 1 : Nat) : Int) = c at *
 generalize H32.val (l.take (2 * j + 1)) = V at *
 grind
theorem Join.done {l w : List Int} {i : Int} (h : Join l w i) (hi : ¬ i < l.length) : W64.Dig w ∧ W64.val w = H32.val l ∧ w.length ≤ l.length := by
 obtain ⟨k, rfl, h1, h2, h3, h4, _⟩ := h
 obtain rfl : k = l.length := by omega
 rw [List.take_length] at h4
 exact ⟨h2, h4, by omega⟩
end Go.Proofs.YteohmbannpbokaaGreatDoor.BigLaw
