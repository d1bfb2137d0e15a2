/-
  A power's exponent, bit by bit; a stack made; leading zeros.
  One round of a power of ten: a square, and perhaps ten times.
  A power of ten by squares.
-/
import Derived.Test.YteohmbannpbokaaGreatDoorNums
import Derived.Lib.ItoaNum
set_option linter.unusedVariables false
set_option linter.unusedSimpArgs false
namespace Go.Proofs.YteohmbannpbokaaGreatDoor.WordWalk
open Go.RowKit Go.Proofs.YteohmbannpbokaaGreatDoorW.PrintWords Go.Proofs.YteohmbannpbokaaGreatDoorW.PrintLast Go.Proofs.YteohmbannpbokaaGreatDoorW.PrintMore Go.Proofs.YteohmbannpbokaaGreatDoor.SpecWalk Go.Proofs.YteohmbannpbokaaGreatDoor.BigWalk

theorem and_top_nat {a : Nat} (h : a < 2 ^ 64) : a &&& 2 ^ 63 = if 2 ^ 63 ≤ a then 2 ^ 63 else 0 := by
  apply Nat.eq_of_testBit_eq
  intro i
  rw [Nat.testBit_and, Nat.testBit_two_pow]
  by_cases h63 : 63 = i
  · subst h63
    by_cases ha : 2 ^ 63 ≤ a
    · rw [if_pos ha, Nat.testBit_two_pow, Nat.testBit_eq_decide_div_mod_eq]
      have : a / 2 ^ 63 % 2 = 1 := by omega
      simp [this]
    · rw [if_neg ha, Nat.zero_testBit, Nat.testBit_lt_two_pow (by omega)]
      rfl
  · by_cases ha : 2 ^ 63 ≤ a
    · rw [if_pos ha, Nat.testBit_two_pow]; simp [h63]
    · rw [if_neg ha, Nat.zero_testBit]; simp [h63]
theorem and_top {a : Nat} (h : a < 18446744073709551616) : bits .and .u64 (a : Int) 9223372036854775808 = if 9223372036854775808 ≤ (a : Int) then 9223372036854775808 else 0 := by
  have h1 := (bits_nat .u64 64 (by decide) (fun n a b => by rw [IntKind.wrap_u64]; omega) a (2 ^ 63) (by omega) (by decide)).1
  have e : (((2 ^ 63 : Nat)) : Int) = 9223372036854775808 := by decide
  rw [e, and_top_nat (by omega)] at h1
  rw [h1]
  by_cases ha : 2 ^ 63 ≤ a
  · rw [if_pos ha, if_pos (by omega)]; exact e
  · rw [if_neg ha, if_neg (by omega)]; rfl
/-- What is left of an exponent: k bits, that stand at the top of a word. -/
structure Bits (n e k v : Nat) : Prop where
  mk :: (r : ∃ r, r < 2 ^ k ∧ n = e * 2 ^ k + r ∧ v = r * 2 ^ (64 - k)) (le : k ≤ 64)
theorem Bits.start {n L : Nat} (h1 : 2 ^ L ≤ n) (h2 : n < 2 ^ (L + 1)) (hL : L < 64) : Bits n 1 L (n * 2 ^ (64 - L) % 18446744073709551616) := by
  refine ⟨⟨n - 2 ^ L, by rw [Nat.pow_succ] at h2; omega, by omega, ?_⟩, by omega⟩
  have e1 : 2 ^ L * 2 ^ (64 - L) = 18446744073709551616 := by rw [← Nat.pow_add, show L + (64 - L) = 64 by omega]
  have e2 : n * 2 ^ (64 - L) = (n - 2 ^ L) * 2 ^ (64 - L) + 18446744073709551616 := by rw [← e1, ← Nat.add_mul]; congr 1; omega
  rw [e2, Nat.add_mod_right]
  apply Nat.mod_eq_of_lt
  rw [← e1]
  exact Nat.mul_lt_mul_of_pos_right (by rw [Nat.pow_succ] at h2; omega) (Nat.two_pow_pos _)
theorem Bits.bound {n e k v : Nat} (h : Bits n e k v) : v < 18446744073709551616 ∧ e * 2 ^ k ≤ n := by
  obtain ⟨⟨r, h1, h2, h3⟩, h4⟩ := h
  refine ⟨?_, by omega⟩
  have e1 : 2 ^ k * 2 ^ (64 - k) = 18446744073709551616 := by rw [← Nat.pow_add, show k + (64 - k) = 64 by omega]
  rw [h3, ← e1]
  exact Nat.mul_lt_mul_of_pos_right h1 (Nat.two_pow_pos _)
theorem Bits.one {n e k v : Nat} (h : Bits n e (k + 1) v) (hv : 9223372036854775808 ≤ v) : Bits n (2 * e + 1) k (v * 2 % 18446744073709551616) := by
  obtain ⟨⟨r, h1, h2, h3⟩, h4⟩ := h
  have e1 : 2 ^ k * 2 ^ (64 - k) = 18446744073709551616 := by rw [← Nat.pow_add, show k + (64 - k) = 64 by omega]
  have e2 : 2 ^ (64 - (k + 1)) * 2 = 2 ^ (64 - k) := by rw [← Nat.pow_succ]; congr 1; omega
  have e3 : v * 2 = r * 2 ^ (64 - k) := by rw [h3, Nat.mul_assoc, e2]
  have hp := Nat.two_pow_pos (64 - k)
  have hr : 2 ^ k ≤ r := by
    apply Nat.le_of_mul_le_mul_right (c := 2 ^ (64 - k)) _ hp
    rw [e1, ← e3]; omega
  refine ⟨⟨r - 2 ^ k, by rw [Nat.pow_succ] at h1; omega, ?_, ?_⟩, by omega⟩
  · rw [h2, Nat.pow_succ, Nat.add_mul, Nat.mul_comm 2 e, Nat.mul_assoc, Nat.mul_comm 2 (2 ^ k)]; omega
  · rw [e3]
    have e4 : r * 2 ^ (64 - k) = (r - 2 ^ k) * 2 ^ (64 - k) + 18446744073709551616 := by rw [← e1, ← Nat.add_mul]; congr 1; omega
    rw [e4, Nat.add_mod_right]
    apply Nat.mod_eq_of_lt
    rw [← e1]
    exact Nat.mul_lt_mul_of_pos_right (by rw [Nat.pow_succ] at h1; omega) hp
theorem Bits.zero {n e k v : Nat} (h : Bits n e (k + 1) v) (hv : ¬ 9223372036854775808 ≤ v) : Bits n (2 * e) k (v * 2 % 18446744073709551616) := by
  obtain ⟨⟨r, h1, h2, h3⟩, h4⟩ := h
  have e1 : 2 ^ k * 2 ^ (64 - k) = 18446744073709551616 := by rw [← Nat.pow_add, show k + (64 - k) = 64 by omega]
  have e2 : 2 ^ (64 - (k + 1)) * 2 = 2 ^ (64 - k) := by rw [← Nat.pow_succ]; congr 1; omega
  have e3 : v * 2 = r * 2 ^ (64 - k) := by rw [h3, Nat.mul_assoc, e2]
  have hr : r < 2 ^ k := by
    apply Nat.lt_of_mul_lt_mul_right (a := 2 ^ (64 - k))
    rw [e1, ← e3]; omega
  refine ⟨⟨r, hr, ?_, ?_⟩, by omega⟩
  · rw [h2, Nat.pow_succ, Nat.mul_comm 2 e, Nat.mul_assoc, Nat.mul_comm 2 (2 ^ k)]
  · rw [e3]
    apply Nat.mod_eq_of_lt
    rw [← e1]
    exact Nat.mul_lt_mul_of_pos_right hr (Nat.two_pow_pos _)
theorem Bits.done {n e v : Nat} (h : Bits n e 0 v) : e = n := by
  obtain ⟨⟨r, h1, h2, h3⟩, h4⟩ := h
  rw [Nat.pow_zero] at h1 h2
  omega
theorem ten_len {e : Nat} (h : e ≤ 400) : (W64.digs (10 ^ e)).length ≤ 21 :=
  W64.len_digs_le (Nat.lt_of_le_of_lt (Nat.pow_le_pow_right (by decide) h) (by decide +kernel))
theorem ten_len2 {e : Nat} (h : e ≤ 800) : (W64.digs (10 ^ e)).length ≤ 42 :=
  W64.len_digs_le (Nat.lt_of_le_of_lt (Nat.pow_le_pow_right (by decide) h) (by decide +kernel))
theorem ten_small {e : Nat} (h : e ≤ 211) : (W64.digs (10 ^ e)).length < 12 :=
  Nat.lt_succ_of_le (W64.len_digs_le (Nat.lt_of_le_of_lt (Nat.pow_le_pow_right (by decide) h) (by decide +kernel)))
theorem ten_ne (e : Nat) : (10 : Nat) ^ e ≠ 0 := Nat.ne_of_gt (Nat.pow_pos (by decide))
set_option maxHeartbeats 1000000 in
theorem getStack_n (w : World) : Calls Tryz.prog 86 #[] w fun e w' => e = .returned (.pointer (some ⟨w.heap.size, 0, none⟩)) ∧ w' = w.alloc (.cells #[.pointer none] 141) := by
  go_enter Tryz.func86, Tryz.ntmps86
  go_wp2
  go_ret
  exact ⟨rfl, rfl⟩
theorem nlz_n (x : Nat) (w : World) (h : x < 18446744073709551616) (h0 : x ≠ 0) : Calls Tryz.prog 137 #[.int .u64 x] w fun e w' => e = .returned (.int .u64 (64 - (Lib.bitLen x : Int))) ∧ w' = w := by
  have HM := Aside0.mk (Tryz.bits_LeadingZeros (x : Int) w (by omega) (by omega))
  have hb := Lib.bitLenAux_bounds 64 x (by omega) h0
  have hb2 : Lib.bitLen x ≤ 64 := by
    apply Classical.byContradiction
    intro hc
    have : 2 ^ 64 ≤ 2 ^ (Lib.bitLen x - 1) := Nat.pow_le_pow_right (by decide) (by omega)
    have := hb.2.1
    unfold Lib.bitLen at *
    omega
  rw [Int.toNat_natCast] at HM
  have hbi : (Lib.bitLen x : Int) ≤ 64 := by omega
  have hb0 : 0 ≤ (Lib.bitLen x : Int) := by omega
  clear h h0 hb
  generalize (Lib.bitLen x : Int) = L at *
  generalize (x : Int) = X at *
  go_enter Tryz.func137, Tryz.ntmps137
  go_wp2_with (go_at_call 157; refine HM.out.mono ?_; rintro e w1 ⟨rfl, rfl⟩)
  go_ret
  exact ⟨rfl, rfl⟩
end Go.Proofs.YteohmbannpbokaaGreatDoor.WordWalk

set_option linter.unusedVariables false
set_option linter.unusedSimpArgs false
namespace Go.Proofs.YteohmbannpbokaaGreatDoor.WordWalk
open Go.RowKit Go.Proofs.YteohmbannpbokaaGreatDoorW.PrintWords Go.Proofs.YteohmbannpbokaaGreatDoorW.PrintLast Go.Proofs.YteohmbannpbokaaGreatDoorW.PrintMore Go.Proofs.YteohmbannpbokaaGreatDoor.SpecWalk Go.Proofs.YteohmbannpbokaaGreatDoor.BigWalk

theorem below_keptP {B : Nat} {w0 w w1 : World} {P : Nat → Prop} (hb : Below B w0 w) (hk : KeptP w w1 P) (hP : ∀ k, P k → B ≤ k) (hB : B ≤ w.heap.size) : Below B w0 w1 :=
  ⟨hk.os.trans hb.os, hk.tape.trans hb.tape, hk.output.trans hb.output, Nat.le_trans hb.size hk.size, fun k h => (hk.block k (by omega) (fun hp => by have := hP k hp; omega)).trans (hb.block k h)⟩
theorem Buf.ne_box {w : World} {g g2 : Nat} {cs : List Int} {l : List Value} {v : Value} (h : Buf w g cs) (hc : 0 < cs.length) (hb : Box w g2 (v :: l)) (hv : ∀ x, v ≠ .int .u64 x) : g ≠ g2 := by
  rintro rfl
  have h1 := h.cell hc
  rw [hb.c0] at h1
  injection h1 with h1
  exact hv _ h1
/-- A stack, made or not. -/
structure StkS (w : World) (gs : Nat) : Prop where
  mk :: (out : Box w gs [.pointer none] ∨ ∃ gi gt G : Nat, gs < gi ∧ (G : Int) ≤ 9223372036854775807 ∧ Box w gs [.pointer (some ⟨gi, 0, none⟩)] ∧ Box w gi [.slice (some ⟨gt, 0, none⟩) 0 G])
theorem StkS.kept {w w1 : World} {g gs : Nat} {cs : List Int} (h : StkS w gs) (hb : Buf w g cs) (hc : 0 < cs.length) (hk : KeptP w w1 (fun k => k = g)) : StkS w1 gs := by
  rcases h.out with h | ⟨gi, gt, G, h0, h1, h2, h3⟩
  · exact ⟨.inl (KeptP.box h hk (fun e => (hb.ne_box hc h (by intro x h; cases h)) e.symm))⟩
  · exact ⟨.inr ⟨gi, gt, G, h0, h1, KeptP.box h2 hk (fun e => (hb.ne_box hc h2 (by intro x h; cases h)) e.symm), KeptP.box h3 hk (fun e => (hb.ne_box hc h3 (by intro x h; cases h)) e.symm)⟩⟩
theorem StkS.keptN {w w1 : World} {gs : Nat} (h : StkS w gs) (hk : KeptP w w1 (fun _ => False)) : StkS w1 gs := by
  rcases h.out with h | ⟨gi, gt, G, h0, h1, h2, h3⟩
  · exact ⟨.inl (KeptP.box h hk id)⟩
  · exact ⟨.inr ⟨gi, gt, G, h0, h1, KeptP.box h2 hk id, KeptP.box h3 hk id⟩⟩
/-- Spare room of one block, and what is kept with it: either there is none, and nothing old is written, or its block is no box. -/
theorem StkS.sp {w w1 : World} {g gs : Nat} {v : Value} (h : StkS w gs) (hs : Spare w (fun k => k = g) v) (hk : KeptP w w1 (fun k => k = g)) (hn : v = .slice none 0 0 → KeptP w w1 (fun _ => False)) : StkS w1 gs := by
  rcases hs.out with hv | ⟨g2, l, cs, rfl, hv, hb, _, hc, _⟩
  · exact h.keptN (hn hv)
  · exact h.kept hb hc hk
theorem ten_sq (e : Nat) : (10 : Nat) ^ e * 10 ^ e = 10 ^ (2 * e) := by rw [← Nat.pow_add]; congr 1; omega
/-- The square of a power of ten that is at most the 400th. -/
theorem sqr_step (B : Nat) (w0 w : World) (zv xv : Value) (gz gq gs e : Nat) (hz : Spare w (fun k => k = gq) zv) (hx : Num w gz (10 ^ e) xv) (hne : gz ≠ gq) (hq3 : 3 ≤ gq) (hqB : B ≤ gq) (hsB : B ≤ gs) (hsz : B ≤ w.heap.size) (hsx : gs ≠ gz) (hsq : gs ≠ gq) (hB : Box w gs [.pointer none]) (hT : Thr w) (he : e ≤ 400) (hbel : Below B w0 w) (hqw : gq < w.heap.size ∨ zv = .slice none 0 0) :
    Calls Tryz.prog 63 #[zv, .pointer (some ⟨gs, 0, none⟩), xv] w fun en w' => ∃ (u : Value) (g : Nat), en = .returned u ∧ (g = gq ∨ w.heap.size ≤ g) ∧ Num w' g (10 ^ (2 * e)) u ∧ Num w' gz (10 ^ e) xv ∧ StkS w' gs ∧ (Box w' gs [.pointer none] ∨ 211 < e) ∧ Thr w' ∧ Below B w0 w' ∧ w.heap.size ≤ w'.heap.size := by
  have hpos := W64.len_pos (ten_ne e)
  have h21 := ten_len he
  have hP3 : ∀ k, (fun k => k = gq) k → 3 ≤ k := fun k hk => by rw [show k = gq from hk]; exact hq3
  have small : ∀ w', KeptP w w' (fun k => k = gq) → Num w' gz (10 ^ e) xv ∧ Box w' gs [.pointer none] ∧ Thr w' ∧ Below B w0 w' ∧ w.heap.size ≤ w'.heap.size := fun w' hk =>
    ⟨hx.kept hk hne, KeptP.box hB hk hsq, hT.kept hk hP3, below_keptP hbel hk (fun k h => by rw [show k = gq from h]; exact hqB) hsz, hk.size⟩
  by_cases h1 : (W64.digs (10 ^ e)).length = 1
  · refine (sqr_small _ zv xv gz gs _ w hz hx hne h1).mono ?_
    rintro en w' ⟨u, g, rfl, hg, hu, hk⟩
    rw [ten_sq] at hu
    obtain ⟨a, b, c, d, f⟩ := small w' hk
    exact ⟨u, g, rfl, hg, hu, a, ⟨.inl b⟩, .inl b, c, d, f⟩
  · by_cases h2 : (W64.digs (10 ^ e)).length < 12
    · refine (sqr_mid _ zv xv gz gs _ w hz hx hne hP3 hT (by omega) h2).mono ?_
      rintro en w' ⟨u, g, rfl, hg, hu, hk⟩
      rw [ten_sq] at hu
      obtain ⟨a, b, c, d, f⟩ := small w' hk
      exact ⟨u, g, rfl, hg, hu, a, ⟨.inl b⟩, .inl b, c, d, f⟩
    · refine (sqr_big _ zv xv gz gs _ w hz hx hne hP3 hsq hsx hB hT (by omega) (by omega)).mono ?_
      rintro en w' ⟨u, g, rfl, hg, hu, hk, hst⟩
      rw [ten_sq] at hu
      obtain ⟨gi, gt, G, s1, s2, s3, s4, s5⟩ := hst.out
      have hslt : gs < w.heap.size := World.block_lt_of_cell? w _ hB.c0
      have h211 : 211 < e := by
        apply Classical.byContradiction
        intro h
        exact h2 (ten_small (by omega))
      have hs3 : 3 ≤ gs ∨ gs < 3 := by omega
      refine ⟨u, g, rfl, hg, hu, hx.kept hk (by rintro (h | h); exact hne h; exact hsx h.symm), ⟨.inr ⟨gi, gt, G, by omega, s3, s4, s5⟩⟩, .inr h211, ?_, below_keptP hbel hk (by rintro k (h | h); rw [show k = gq from h]; exact hqB; rw [h]; exact hsB) hsz, hk.size⟩
      have hb0 := hT.b; have hb1 := hT.k; have hb2 := hT.m
      have hgs : ∀ j, j < 3 → ∀ v, w.cell? ⟨j, 0, none⟩ = some (.int .i64 v) → gs ≠ j := by
        rintro j _ v hc rfl
        rw [hB.c0] at hc
        cases hc
      exact ⟨hk.cell (by rintro (h | h); (have : (0 : Nat) = gq := h; omega); exact hgs 0 (by decide) _ hb0 h.symm) hb0, hk.cell (by rintro (h | h); (have : (1 : Nat) = gq := h; omega); exact hgs 1 (by decide) _ hb1 h.symm) hb1, hk.cell (by rintro (h | h); (have : (2 : Nat) = gq := h; omega); exact hgs 2 (by decide) _ hb2 h.symm) hb2⟩
/-- Ten times a number, into the room of another. -/
theorem mul_step (B : Nat) (w0 w : World) (sv zv xv yv : Value) (gz gq gy gs n m : Nat) (hz : Num w gq m zv) (hx : Num w gz n xv) (hy : Num w gy 10 yv) (hne : gz ≠ gq) (hny : gy ≠ gq) (hq3 : 3 ≤ gq) (hqB : B ≤ gq) (hsz : B ≤ w.heap.size) (hS : StkS w gs) (hT : Thr w) (h0 : n ≠ 0) (hn : (W64.digs n).length ≤ 800) (hbel : Below B w0 w) :
    Calls Tryz.prog 64 #[zv, sv, xv, yv] w fun en w' => ∃ (u : Value) (g : Nat), en = .returned u ∧ (g = gq ∨ w.heap.size ≤ g) ∧ Num w' g (n * 10) u ∧ Num w' gz n xv ∧ StkS w' gs ∧ (Box w gs [.pointer none] → Box w' gs [.pointer none]) ∧ Thr w' ∧ Below B w0 w' ∧ w.heap.size ≤ w'.heap.size := by
  refine (mul1_n (fun k => k = gq) sv zv xv yv gz gy n 10 w (hz.spare rfl) hx hy hne h0 (by decide) (by decide) hn).mono ?_
  rintro en w' ⟨u, g, rfl, hg, hu, hk⟩
  obtain ⟨cs, _, hb, _, hc, _⟩ := hz.out
  refine ⟨u, g, rfl, hg, hu, hx.kept hk hne, hS.kept hb hc hk, fun h => KeptP.box h hk (fun e => (hb.ne_box hc h (by intro x h; cases h)) e.symm), hT.kept hk (fun k hk => by rw [show k = gq from hk]; exact hq3), below_keptP hbel hk (fun k h => by rw [show k = gq from h]; exact hqB) hsz, hk.size⟩
end Go.Proofs.YteohmbannpbokaaGreatDoor.WordWalk

set_option linter.unusedVariables false
set_option linter.unusedSimpArgs false
namespace Go.Proofs.YteohmbannpbokaaGreatDoor.WordWalk
open Go.RowKit Go.Proofs.YteohmbannpbokaaGreatDoorW.PrintWords Go.Proofs.YteohmbannpbokaaGreatDoorW.PrintLast Go.Proofs.YteohmbannpbokaaGreatDoorW.PrintMore Go.Proofs.YteohmbannpbokaaGreatDoor.SpecWalk Go.Proofs.YteohmbannpbokaaGreatDoor.BigWalk

/-- What stands before a round: k bits are left, the power e is reached. -/
structure Round (w0 w : World) (B e : Nat) (zv qv : Value) : Prop where
  mk :: (out : ∃ gz gq : Nat, B < gz ∧ B < gq ∧ gz ≠ gq ∧ Num w gz (10 ^ e) zv ∧ Spare w (fun x => x = gq) qv ∧ (qv = .slice none 0 0 ∨ gq < w.heap.size)) (stk : StkS w B) (fresh : Box w B [.pointer none] ∨ 400 < e) (thr : Thr w) (bel : Below B w0 w) (size : B + 1 ≤ w.heap.size)
theorem Num.belowB {w w1 : World} {B g n : Nat} {v : Value} (h : Num w g n v) (hb : Below B w w1) (hg : g < B) : Num w1 g n v := by
  obtain ⟨cs, h1, h2, h3⟩ := h.out
  exact ⟨cs, h1, h2.below_of (w0 := w) hb hg, h3⟩
theorem norm_self (g n : Nat) (v : Value) (w : World) (h : Num w g n v) (hn : (W64.digs n).length ≤ 800) : Calls Tryz.prog 61 #[v] w fun e w' => ∃ u, e = .returned u ∧ Num w g n u ∧ w = w' := by
  obtain ⟨cs, rfl, h2, h3, h4, h5, h6⟩ := h.out
  exact norm_num g n _ cs _ w h2 h6 h3 h5 h4 (W64.dig_digs n) (W64.val_digs n)
theorem _root_.Go.Proofs.YteohmbannpbokaaGreatDoor.WordWalk.Num.alloc {w : World} {g n : Nat} {v : Value} (h : Num w g n v) (o : Obj) : Num (w.alloc o) g n v :=
  h.kept (P := fun _ => False) (KeptP.ofBelow ((Below.refl _ _).alloc (Nat.le_refl _) _)) id
theorem _root_.Go.RowKit.Below.drew2 {w w1 : World} (h : Below w.drew.drew.heap.size w.drew.drew w1) : Below w.heap.size w w1 :=
  ⟨h.os, h.tape, h.output, h.size, h.block⟩
theorem getStack_o (w : World) : Calls Tryz.prog 86 #[] w fun e w' => e = .returned (.pointer (some ⟨w.heap.size, 0, none⟩)) ∧ Box w' w.heap.size [.pointer none] ∧ Below w.heap.size w w' ∧ w'.heap.size = w.heap.size + 1 := by
  refine (getStack_n w).mono ?_
  rintro e w' ⟨rfl, rfl⟩
  exact ⟨rfl, Box.new1 _ _ _ _ rfl, (Below.refl _ _).alloc (Nat.le_refl _) _, by simp⟩
theorem set_ten (gx c : Nat) (w : World) (hx : Num w gx 10 (.slice (some ⟨gx, 0, none⟩) 1 c)) :
    Calls Tryz.prog 67 #[.slice none 0 0, .slice (some ⟨gx, 0, none⟩) 1 c] w fun e w' => ∃ (u : Value) (g : Nat), e = .returned u ∧ w.heap.size ≤ g ∧ Num w' g 10 u ∧ Below w.heap.size w w' :=
  set_num gx 10 _ w hx (by decide) (Nat.le_trans (W64.len_digs_le (L := 1) (by decide)) (by decide))
set_option maxHeartbeats 8000000 in
set_option maxRecDepth 100000 in
theorem expNN_n (N gx gy : Nat) (xv yv : Value) (w : World) (hx : Num w gx 10 xv) (hy : Num w gy N yv) (hN0 : 2 ≤ N) (hN : N ≤ 800) (hT : Thr w) (h3 : 3 ≤ w.heap.size) :
    Calls Tryz.prog 125 #[.slice none 0 0, .pointer none, xv, yv, .slice none 0 0, .bool false] w fun en w' => ∃ (u : Value) (g : Nat), en = .returned u ∧ w.heap.size < g ∧ Num w' g (10 ^ N) u ∧ Below w.heap.size w w' := by
  have hxlt := hx.lt
  obtain ⟨Lp, hl1, hl2, hl3⟩ : ∃ Lp, Lib.bitLen N = Lp + 1 ∧ 2 ^ Lp ≤ N ∧ N < 2 ^ (Lp + 1) := by
    have hb := Lib.bitLenAux_bounds 64 N (by omega) (by omega)
    exact ⟨Lib.bitLen N - 1, by unfold Lib.bitLen; omega, hb.2.1, by rw [show Lib.bitLen N - 1 + 1 = Lib.bitLen N by unfold Lib.bitLen; omega]; exact hb.2.2⟩
  have hL9 : Lp ≤ 9 := by
    apply Classical.byContradiction
    intro h
    have : 2 ^ 10 ≤ 2 ^ Lp := Nat.pow_le_pow_right (by decide) (by omega)
    omega
  have HZ := Aside0.mk (fun w => (nlz_n N w (by omega) (by omega)).mono (fun e w' h => And.intro h.1 h.2.symm))
  rw [hl1] at HZ
  have e64 : (64 : Int) - ((Lp + 1 : Nat) : Int) = (63 - Lp : Nat) := by omega
  rw [e64] at HZ
  have hs1 : ((63 - Lp : Nat) : Int) ≤ 63 := by omega
  have hs2 : (64 : Int) - (((63 - Lp : Nat) : Int) + 1) = Lp := by omega
  have hs3 : ((63 - Lp : Nat) : Int) + 1 = ((64 - Lp : Nat) : Int) := by omega
  have hs4 : (64 : Int) - ((64 - Lp : Nat) : Int) = Lp := by omega
  clear e64
  obtain ⟨c, rfl, hc1, hc2, hc3, hxc⟩ := hx.words
  obtain ⟨d, rfl, hd1, hd2, hd3, hyc⟩ := hy.words
  have hdx : W64.digs 10 = [(10 : Int)] := W64.digs_one (by decide) (by decide)
  have hdy : W64.digs N = [(N : Int)] := W64.digs_one (by omega) (by omega)
  have hx0 := hxc 0 (by rw [hdx]; decide)
  have hy0 := hyc 0 (by rw [hdy]; exact Nat.zero_lt_one)
  rw [show rd (W64.digs 10) ((0 : Nat) : Int) = 10 by rw [hdx]; rfl] at hx0
  rw [show rd (W64.digs N) ((0 : Nat) : Int) = (N : Int) by rw [hdy]; rfl] at hy0
  have HX := Aside0.mk hx
  rw [hdx, show [(10 : Int)].length = 1 from rfl] at HX ⊢
  rw [hdy, show [(N : Int)].length = 1 from rfl]
  have HA1 := Aside0.mk ((alias_nil 1 (.slice (some ⟨gx, 0, none⟩) 1 c) _ c rfl w).mono (fun e w' h => And.intro h.1 h.2.symm))
  have HA2 := Aside0.mk ((alias_nil 1 (.slice (some ⟨gy, 0, none⟩) 1 d) _ d rfl w.drew).mono (fun e w' h => And.intro h.1 h.2.symm))
  have HGS := Aside0.mk (getStack_o w.drew.drew)
  have hs0 : w.drew.drew.heap.size = w.heap.size := rfl
  rw [hs0] at HGS
  have HN := Aside0.mk (And.intro hN0 hN)
  have nne : ((N : Int) == 1) = false := beq_eq_false_iff_ne.mpr (by omega)
  have HTT := Aside0.mk hT
  have HLP := Aside0.mk (And.intro hl2 (And.intro hl3 hL9))
  clear hx hy hxc hyc hdx hdy hc1 hd1 hl1 hl2 hl3 hT hN0 hN
  go_enter_defers Tryz.func125, Tryz.ntmps125
  go_wp2_with (first | (go_at_call 66; (with_reducible refine HA1.out.mono ?_); rintro e w1 ⟨rfl, hw1⟩; subst hw1) | (go_at_call 66; (with_reducible refine HA2.out.mono ?_); rintro e w1 ⟨rfl, hw1⟩; subst hw1) | (go_at_call 86; (with_reducible refine HGS.out.mono ?_); rintro e w1 ⟨rfl, b1, b2, b3⟩; have hx1 := pw_cell_below (Below.drew2 b2) hx0; have hy1 := pw_cell_below (Below.drew2 b2) hy0; have HXN := Aside0.mk (HX.out.kept (P := fun _ => False) (KeptP.ofBelow (Below.drew2 b2)) id); have HB := Aside0.mk (And.intro b1 (And.intro (Below.drew2 b2) b3)); clear b1 b2 b3) | (go_at_call 67; (with_reducible refine (set_ten gx c _ HXN.out).mono ?_); rintro e w2 ⟨u, g, rfl, h1, h2, h3⟩; have hy2 := pw_cell_below h3 hy1; have HU := Aside0.mk (And.intro h1 (And.intro h2 h3)); clear h1 h2 h3) | (go_at_call 137; (with_reducible refine (HZ.out _).mono ?_); rintro e w1 ⟨rfl, hw1⟩; subst hw1))
  have h2 := HU.out
  have hb1 := HB.out
  have hsz2 := h2.2.2.size
  have hbel2 : Below w.heap.size w w2 := ⟨h2.2.2.os.trans hb1.2.1.os, h2.2.2.tape.trans hb1.2.1.tape, h2.2.2.output.trans hb1.2.1.output, Nat.le_trans hb1.2.1.size h2.2.2.size, fun k hk => (h2.2.2.block k (by omega)).trans (hb1.2.1.block k hk)⟩
  have hbx2 := hb1.1.below h2.2.2
  have HR0 : Round w w2 w.heap.size 1 u (.slice none 0 0) := ⟨⟨g, g + 1, by omega, by omega, by omega, h2.2.1, Spare.nil _ _, .inl rfl⟩, ⟨.inl hbx2⟩, .inl hbx2, HTT.out.kept (P := fun _ => False) (KeptP.ofBelow hbel2) (fun _ h => h.elim), hbel2, by omega⟩
  have HR := Aside0.mk HR0
  have HBS := Aside0.mk (Bits.start HLP.out.1 HLP.out.2.1 (by have := HLP.out.2.2; omega))
  have hv0 : IntKind.u64.wrap ((N : Int) * 2 ^ (64 - Lp)) = ((N * 2 ^ (64 - Lp) % 18446744073709551616 : Nat) : Int) := by
    rw [u64_w]
    simp
  rw [hv0]
  have HX3 := Aside0.mk (And.intro hxlt h3)
  clear h2 hb1 hsz2 hbel2 hbx2 HR0 hy2 hx1 hy1 hx0 hy0 HU HB HXN HA1 HA2 HGS hs0 hs1 hs2 hs3 hs4 hv0 HZ hxlt h3
  generalize N * 2 ^ (64 - Lp) % 18446744073709551616 = vv at *
  go_loopg [0, 15, 19, 21] Lp (fun gg v0 v15 v19 v21 w' => ∃ (k e v : Nat) (j : Int), v15 = .int .u64 (v : Int) ∧ v21 = .int .i64 j ∧ 0 ≤ j ∧ Aside0 (j + (k : Int) = (Lp : Int) ∧ gg = k) ∧ Aside0 (Bits N e k v) ∧ Aside0 (Round w w' w.heap.size e v0 v19))
  case atStart => exact ⟨Lp, 1, vv, 0, rfl, rfl, by decide, ⟨by omega, rfl⟩, HBS, HR⟩
  case round =>
    clear HR HBS
    obtain ⟨k, e, v, j, rfl, rfl, hj0, HJ, HBT, HRD⟩ := hrel
    by_cases hj : j < (Lp : Int)
    · obtain ⟨k', rfl⟩ : ∃ k', k = k' + 1 := ⟨k - 1, by have := HJ.out; omega⟩
      have hbd := HBT.out.bound
      have hand := and_top hbd.1
      have he : e ≤ 400 := by
        have h1 := hbd.2
        rw [Nat.pow_succ] at h1
        have h2 : e * 2 ≤ e * (2 ^ k' * 2) := Nat.mul_le_mul_left _ (by have := Nat.two_pow_pos k'; omega)
        have := HN.out
        omega
      obtain ⟨gz, gq, hz1, hq1, hne, hnz, hsq, hqw⟩ := HRD.out.out
      have hRD := HRD.out
      have hx3 := HX3.out
      have hgzl := hnz.lt
      have HSQ := Aside0.mk (sqr_step w.heap.size w wr u19 u0 gz gq w.heap.size e hsq hnz hne (by omega) (by omega) (Nat.le_refl _) (by have := hRD.size; omega) (by omega) (by omega) (hRD.fresh.resolve_right (by omega)) hRD.thr he hRD.bel hqw.symm)
      have HD := Aside0.mk (And.intro hz1 (And.intro hq1 (And.intro hne (And.intro hgzl (And.intro he hbd)))))
      have hjl : j < 9 := by omega
      by_cases hv : 9223372036854775808 ≤ (v : Int)
      · rw [if_pos hv] at hand
        have HBN := Aside0.mk (HBT.out.one (by omega))
        have hvv : IntKind.u64.wrap ((v : Int) * 2) = ((v * 2 % 18446744073709551616 : Nat) : Int) := by rw [u64_w]; omega
        clear HRD HBT hRD hnz hsq hqw hz1 hq1 hne hgzl hbd he hv
        generalize v * 2 % 18446744073709551616 = vn at *
        go_wp2_with (first | (go_at_call 63; (with_reducible refine HSQ.out.mono ?_); rintro en w3 ⟨u3, g3, rfl, s1, s2, s3, s4, s5, s6, s7, s8⟩; have hd := HD.out; have hs2l := s2.lt; have HS3 := Aside0.mk (And.intro s1 (And.intro s2 (And.intro s3 (And.intro s5 (And.intro s8 s7))))); have HML := Aside0.mk (mul_step w.heap.size w w3 (.pointer (some ⟨w.heap.size, 0, none⟩)) u0 u3 _ g3 gz gx w.heap.size (10 ^ (2 * e)) (10 ^ e) s3 s2 (HX.out.belowB s7 hx3.1) (by rcases s1 with s1 | s1 <;> omega) (by omega) (by omega) (by omega) (by have := s7.size; omega) s4 s6 (ten_ne _) (Nat.le_trans (ten_len2 (by omega)) (by decide)) s7); clear s1 s2 s3 s4 s5 s6 s7 s8) | (go_at_call 64; (with_reducible refine HML.out.mono ?_); rintro en w4 ⟨u4, g4, rfl, t1, t2, t3, t4, t5, t6, t7, t8⟩; have HM4 := Aside0.mk (And.intro t1 (And.intro t2 (And.intro t3 (And.intro t4 (And.intro t5 (And.intro t6 (And.intro t7 t8))))))); clear t1 t2 t3 t4 t5 t6 t7 t8))
        go_roundg (gk - 1)
        case measure => have := HJ.out; omega
        case rel =>
          obtain ⟨s1, s2, s3, s5, s8, s7⟩ := HS3.out
          obtain ⟨t1, t2, t3, t4, t5, t6, t7, t8⟩ := HM4.out
          obtain ⟨hz1, hq1, hne, hgzl, he, hbd⟩ := HD.out
          have e10 : 10 ^ (2 * e) * 10 = 10 ^ (2 * e + 1) := (Nat.pow_succ ..).symm
          rw [e10] at t2
          refine ⟨k', 2 * e + 1, vn, j + 1, rfl, rfl, by omega, ⟨by have := HJ.out; omega, by have := HJ.out; omega⟩, HBN, ⟨⟨⟨g4, g3, ?_, ?_, ?_, t2, t3.spare rfl, .inr t3.lt⟩, t4, ?_, t6, t7, by omega⟩⟩⟩
          · rcases t1 with t1 | t1 <;> omega
          · rcases s1 with s1 | s1 <;> omega
          · rcases t1 with t1 | t1
            · rcases s1 with s1 | s1 <;> omega
            · have := s2.lt; omega
          · rcases s5 with s5 | s5
            · exact .inl (t5 s5)
            · exact .inr (by omega)
      · rw [if_neg hv] at hand
        have HBN := Aside0.mk (HBT.out.zero (by omega))
        have hvv : IntKind.u64.wrap ((v : Int) * 2) = ((v * 2 % 18446744073709551616 : Nat) : Int) := by rw [u64_w]; omega
        clear HRD HBT hRD hnz hsq hqw hz1 hq1 hne hgzl hbd he hv
        generalize v * 2 % 18446744073709551616 = vn at *
        go_wp2_with (go_at_call 63; (with_reducible refine HSQ.out.mono ?_); rintro en w3 ⟨u3, g3, rfl, s1, s2, s3, s4, s5, s6, s7, s8⟩; have HS3 := Aside0.mk (And.intro s1 (And.intro s2 (And.intro s3 (And.intro s4 (And.intro s5 (And.intro s6 (And.intro s7 s8))))))); clear s1 s2 s3 s4 s5 s6 s7 s8)
        go_roundg (gk - 1)
        case measure => have := HJ.out; omega
        case rel =>
          obtain ⟨s1, s2, s3, s4, s5, s6, s7, s8⟩ := HS3.out
          obtain ⟨hz1, hq1, hne, hgzl, he, hbd⟩ := HD.out
          refine ⟨k', 2 * e, vn, j + 1, rfl, rfl, by omega, ⟨by have := HJ.out; omega, by have := HJ.out; omega⟩, HBN, ⟨⟨⟨g3, gz, ?_, hz1, ?_, s2, s3.spare rfl, .inr s3.lt⟩, s4, ?_, s6, s7, by omega⟩⟩⟩
          · rcases s1 with s1 | s1 <;> omega
          · rcases s1 with s1 | s1 <;> omega
          · rcases s5 with s5 | s5
            · exact .inl s5
            · exact .inr (by omega)
    · have hk0 : k = 0 := by have := HJ.out; omega
      subst hk0
      have heN := HBT.out.done
      subst heN
      obtain ⟨gz, gq, hz1, hq1, hne, hnz, hsq, hqw⟩ := HRD.out.out
      have HNS := Aside0.mk (norm_self gz _ u0 wr hnz (Nat.le_trans (ten_len2 HN.out.2) (by decide)))
      have HZ1 := Aside0.mk hz1
      clear hnz hsq hqw hz1 hq1 hne HBT
      have HRR := Aside0.mk HRD.out
      clear HRD
      go_wp2
      go_loopg [0, 22] 0 (fun gg v0 v22 w' => v0 = u0 ∧ v22 = .int .i64 (-1) ∧ w' = wr)
      case atStart => exact ⟨rfl, rfl, rfl⟩
      case round =>
      obtain ⟨rfl, rfl, rfl⟩ := hrel
      have HRD := HRR
      go_wp2_with (go_at_call 61; (with_reducible refine HNS.out.mono ?_); rintro en w3 ⟨u3, rfl, hu3, hw3⟩; subst hw3; have HU3 := Aside0.mk hu3; clear hu3)
      obtain ⟨cs, _, hcb, _, hc0, _⟩ := HU3.out.out
      rcases HRD.out.stk.out with h | ⟨gi, gt, G, h0, h1, h2, h3⟩
      · refine leaves_cons (f := 87) (args := #[.pointer (some ⟨w.heap.size, 0, none⟩)]) (by simp) (by simp [go_sem]) ?_
        refine (free_nil_d w.heap.size .returning wr h).mono ?_
        rintro e u' w'' ⟨rfl, rfl, rfl⟩
        exact ⟨_, results_tmp rfl _ _ _, u3, gz, rfl, HZ1.out, HU3.out, HRD.out.bel⟩
      · refine leaves_cons (f := 87) (args := #[.pointer (some ⟨w.heap.size, 0, none⟩)]) (by simp) (by simp [go_sem]) ?_
        refine (free_d w.heap.size gi 0 G gt .returning wr h2 h3 h1).mono ?_
        rintro e u' w'' ⟨rfl, rfl, rfl⟩
        refine ⟨_, results_tmp rfl _ _ _, u3, gz, rfl, HZ1.out, HU3.out.kept (P := fun k => k = gi) (KeptP.set (P := fun k => k = gi) (KeptP.refl wr _) ⟨gi, 0, none⟩ (.inl rfl) _) (hcb.ne_box hc0 h3 (by intro x h; cases h)), HRD.out.bel.setCell (by show w.heap.size ≤ gi; omega) _⟩
end Go.Proofs.YteohmbannpbokaaGreatDoor.WordWalk
