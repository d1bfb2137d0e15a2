/-
 Numbers in blocks whose room is told: a copy into a block; shifted down where it stands.
 Numbers in blocks whose room is told: shifted down where they stand.
 Numbers in blocks whose room is told: one taken from one where it stands, and one added to one.
-/
import Derived.Test.YteohmbannpbokaaGreatDoorJ24
import Derived.Test.YteohmbannpbokaaGreatDoorJ01
set_option linter.unusedVariables false
set_option linter.unusedSimpArgs false
namespace Go.Proofs.YteohmbannpbokaaGreatDoor.WordWalk
open Go.RowKit Go.Proofs.YteohmbannpbokaaGreatDoorW.PrintWords Go.Proofs.YteohmbannpbokaaGreatDoorW.PrintLast Go.Proofs.YteohmbannpbokaaGreatDoorW.PrintMore Go.Proofs.YteohmbannpbokaaGreatDoor.SpecWalk Go.Proofs.YteohmbannpbokaaGreatDoor.BigWalk
structure Nc (w : World) (g c n : Nat) : Prop where
 mk :: (out : ∃ cs : List Int, Buf w g cs ∧ cs.length = c ∧ cs.take (W64.digs n).length = W64.digs n) (le : (W64.digs n).length ≤ c) (pos : 0 < c) (max : c ≤ 1000)
section
variable {w w1 : World} {P : Nat → Prop} {g c n : Nat}
theorem Nc.num (h : Nc w g c n) : Num w g n (.slice (some ⟨g, 0, none⟩) (W64.digs n).length c) := by
 obtain ⟨cs, h1, h2, h3⟩ := h.out
 subst h2
 exact ⟨cs, rfl, h1, h.le, h.pos, h.max, h3⟩
theorem Num.nc {v : Value} (h : Num w g n v) : ∃ c, v = .slice (some ⟨g, 0, none⟩) (W64.digs n).length c ∧ Nc w g c n := by
 obtain ⟨cs, h1, h2, h3, h4, h5, h6⟩ := h.out
 exact ⟨cs.length, h1, ⟨cs, h2, rfl, h6⟩, h3, h4, h5⟩
theorem Nc.lt (h : Nc w g c n) : g < w.heap.size := by obtain ⟨cs, h, _⟩ := h.out; exact h.lt
theorem Nc.blk (h : Nc w g c n) : Blk w g := by obtain ⟨cs, h, _⟩ := h.out; exact h.blk
theorem Nc.kept (h : Nc w g c n) (hk : KeptP w w1 P) (hg : ¬ P g) : Nc w1 g c n := by
 obtain ⟨cs, h1, h2⟩ := h.out
 exact ⟨⟨cs, KeptP.buf h1 hk hg, h2⟩, h.le, h.pos, h.max⟩
theorem Nc.drew (h : Nc w g c n) : Nc w.drew g c n := by
 obtain ⟨cs, h1, h2⟩ := h.out
 exact ⟨⟨cs, h1.drew, h2⟩, h.le, h.pos, h.max⟩
theorem Nc.of {cs l : List Int} (hb : Buf w g (l ++ cs)) (hl : (W64.digs n).length ≤ l.length) (ht : l.take (W64.digs n).length = W64.digs n) (hc : (l ++ cs).length = c) (h0 : 0 < c) (hm : c ≤ 1000) : Nc w g c n :=
 ⟨⟨l ++ cs, hb, hc, by rw [List.take_append_of_le_length hl]; exact ht⟩, by rw [← hc]; simp; omega, h0, hm⟩
end
theorem KeptB.then {w w1 w2 : World} {g : Nat} (h : KeptB w w1 g) (k : KeptB w1 w2 g) : KeptB w w2 g :=
 ⟨k.os.trans h.os, k.tape.trans h.tape, k.output.trans h.output, Nat.le_trans h.size k.size, fun i hi hp => (k.block i (Nat.lt_of_lt_of_le hi h.size) hp).trans (h.block i hi hp)⟩
theorem norm_nc (g N c : Nat) (cs l : List Int) (L : Nat) (w : World) (hb : Buf w g (l ++ cs)) (hc : (l ++ cs).length = c) (hL : l.length = L) (h0 : 0 < c) (hm : c ≤ 1000) (hd : W64.Dig l) (hv : W64.val l = (N : Int)) :
   Calls Tryz.prog 61 #[.slice (some ⟨g, 0, none⟩) L c] w fun e w' => e = .returned (.slice (some ⟨g, 0, none⟩) (W64.digs N).length c) ∧ w' = w ∧ Nc w g c N := by
 have hLc : L ≤ c := by rw [← hc, ← hL]; simp
 have hC := hb.reads (by omega) (n := L) (by omega)
 have ht : (l ++ cs).take L = l := by rw [List.take_append_of_le_length (by omega), List.take_of_length_le (by omega)]
 rw [ht, ← hL] at hC
 have h := norm_b l N hd (by omega) hv (some ⟨g, 0, none⟩) c w (by omega) (by rw [hL] at hC ⊢; exact hC)
 rw [hL] at h
 refine h.mono ?_
 rintro e w' ⟨rfl, h2, rfl⟩
 have hle : (W64.digs N).length ≤ l.length := by rw [← h2, List.length_take]; omega
 exact ⟨rfl, rfl, Nc.of hb hle h2 hc h0 hm⟩
theorem setRow_buf {w : World} {g : Nat} {cs ds : List Int} (hb : Buf w g cs) (hl : cs.length = ds.length) : Buf (w.setRow g (nums .u64 ds).toArray) g ds ∧ KeptB w (w.setRow g (nums .u64 ds).toArray) g :=
 ⟨⟨setRow_heap w g _ _ _ _ hb.out⟩, rfl, rfl, rfl, by simp [World.setRow], fun k _ hk => setRow_other w g k _ hk⟩
theorem nums_app (a b : List Int) : nums .u64 (a ++ b) = nums .u64 a ++ nums .u64 b := by simp [nums]
theorem wpList_copy_buf {P : Program} {w : World} {ops : Array Oper} {rest : List Oper} {o : Oper} {a : Act} {Q : Exit → Act → World → Prop} (hgd : o.guard = none) (d s : Operand) (dT sT : TypeId)
   (ho : o.op = .call { callee := .builtin .copy, args := #[d, s], argTypes := #[dT, sT] }) (elem : TypeId) (hu : P.underlying dT = some (.slice elem)) (hsz : (P.info? elem).map (·.size) = some 1)
   (g p dLen dCap : Nat) (ad : Addr) (sLen sCap : Nat) (hd : a.eval d = .slice (some ⟨g, p, none⟩) dLen dCap) (hs : a.eval s = .slice (some ad) sLen sCap)
   (pre zs xs post : List Int) (hz : Buf w g (pre ++ (zs ++ post))) (hp : pre.length = p) (hl : zs.length = xs.length) (hdl : dLen = xs.length) (hsl : sLen = xs.length)
   (hsrc : ∀ i : Nat, i < xs.length → w.cell? (ad.add i) = some (.int .u64 (rd xs (i : Int))))
   (h : ∀ w', Aside0 (Buf w' g (pre ++ (xs ++ post)) ∧ KeptB w w' g) → wpList P ops Q rest (a.put o.dst (goInt xs.length)) w') :
   wpList P ops Q (o :: rest) a w := by
 subst hdl; subst hsl
 have hh := hz.out
 refine wpList_copy_own hgd d s dT sT ho elem hu hsz g p _ dCap ad _ sCap hd hs _ _ hh (nums .u64 xs) ?_ ?_ ?_ ?_ ?_
 · rw [nums_length]; simp
 · intro j v hj
   simp only [nums, List.getElem?_map, Option.map_eq_some_iff] at hj
   obtain ⟨x, hx, rfl⟩ := hj
   have hlt : j < xs.length := (List.getElem?_eq_some_iff.1 hx).1
   rw [hsrc j hlt, W64.rd_lt hlt]
   rw [List.getElem?_eq_getElem hlt] at hx
   injection hx with hx
   rw [hx]
 · simp only [nums, List.size_toArray, List.length_map, List.length_append]; omega
 · intro v hv
   simp only [nums, List.mem_map] at hv
   obtain ⟨x, _, rfl⟩ := hv
   rfl
 · have e : (((nums .u64 (pre ++ (zs ++ post))).toArray.toList.take p ++ ((nums .u64 xs) ++ (nums .u64 (pre ++ (zs ++ post))).toArray.toList.drop (p + (nums .u64 xs).length)))) = nums .u64 (pre ++ (xs ++ post)) := by
     have e1 : (nums .u64 pre).length = p := by rw [nums_length]; exact hp
     have e2 : (nums .u64 zs).length = xs.length := by rw [nums_length]; exact hl
     have e3 : (nums .u64 xs).length = xs.length := nums_length _ _
     rw [nums_app, nums_app, nums_app, nums_app]
     show ((nums .u64 pre) ++ ((nums .u64 zs) ++ (nums .u64 post))).take p ++ ((nums .u64 xs) ++ ((nums .u64 pre) ++ ((nums .u64 zs) ++ (nums .u64 post))).drop (p + (nums .u64 xs).length)) = _
     rw [e3, List.take_append_of_le_length (by omega), List.take_of_length_le (by omega), List.drop_append, List.drop_of_length_le (by omega), e1, show p + xs.length - p = xs.length by omega, List.drop_append, List.drop_of_length_le (by omega), e2, Nat.sub_self]
     simp
   rw [nums_length] at e ⊢
   rw [e]
   exact h _ ⟨setRow_buf hz (by simp; omega)⟩
theorem digs_low {n k : Nat} (h : (W64.digs n).length ≤ k) : n < 18446744073709551616 ^ k := Nat.lt_of_lt_of_le (W64.lt_of_len n) (Nat.pow_le_pow_right (by decide) h)
theorem digs_drop_val {n k : Nat} (hk : k ≤ (W64.digs n).length) : W64.val ((W64.digs n).drop k) = ((n / 18446744073709551616 ^ k : Nat) : Int) := by
 have h1 := val_split (xs := W64.digs n) hk
 rw [W64.val_digs] at h1
 have h2 := W64.val_nonneg (W64.Dig.take (W64.dig_digs n) k)
 have h3 := W64.val_lt (W64.Dig.take (W64.dig_digs n) k)
 rw [List.length_take, Nat.min_eq_left hk] at h3
 have h4 : (n : Int) / 18446744073709551616 ^ k = W64.val ((W64.digs n).drop k) := by
   rw [h1, Int.add_mul_ediv_left _ _ (Int.ne_of_gt (W64.pw_pos k)), Int.ediv_eq_zero_of_lt h2 h3]
   simp
 rw [← h4]
 simp
theorem pow64 (k r : Nat) : 18446744073709551616 ^ k * 2 ^ r = 2 ^ (64 * k + r) := by
 rw [show (18446744073709551616 : Nat) = 2 ^ 64 from rfl, ← Nat.pow_mul, ← Nat.pow_add]
set_option maxHeartbeats 4000000 in
set_option maxRecDepth 100000 in
theorem rsh_all (g c n k r : Nat) (w : World) (h : Nc w g c n) (hr : r < 64) (h0 : 0 < 64 * k + r) (hk : k ≤ 1000) (hm : (W64.digs n).length ≤ k) :
   Calls Tryz.prog 102 #[.slice (some ⟨g, 0, none⟩) (W64.digs n).length c, .slice (some ⟨g, 0, none⟩) (W64.digs n).length c, .int .u64 ((64 * k + r : Nat) : Int)] w fun e w' => e = .returned (.slice (some ⟨g, 0, none⟩) 0 c) ∧ w' = w := by
 have hc0 : 0 < (c : Int) := by have := h.pos; omega
 have hcm : (c : Int) ≤ 1000 := by have := h.max; omega
 have s0 : (((64 * k + r : Nat) : Int) == 0) = false := beq_eq_false_iff_ne.mpr (by omega)
 have s1 : ((64 * k + r : Nat) : Int) / 64 = (k : Int) := by omega
 have s2 : ((64 * k + r : Nat) : Int) % 64 = (r : Int) := by omega
 have s3 : ((64 * k + r : Nat) : Int).tdiv 64 = (k : Int) := by rw [Int.tdiv_eq_ediv_of_nonneg (by omega)]; exact s1
 have m0 : ((W64.digs n).length : Int) ≤ k := by omega
 have m1 : wrap64 (((W64.digs n).length : Int) - k) = ((W64.digs n).length : Int) - k := by unfold wrap64; omega
 have m2 : ((W64.digs n).length : Int) - k ≤ 0 := by omega
 have m3 : wrap64 (k : Int) = k := by unfold wrap64; omega
 have hb : ((64 * k + r : Nat) : Int) < 18446744073709551616 := by omega
 clear h h0 hm hr
 generalize ((64 * k + r : Nat) : Int) = S at *
 generalize (W64.digs n).length = M at *
 go_enter Tryz.func102, Tryz.ntmps102
 go_wp2
 go_ret
 exact ⟨rfl, rfl⟩
theorem part_digs {cs : List Int} {n k n1 : Nat} (h : cs.take (W64.digs n).length = W64.digs n) (hL : (W64.digs n).length = k + n1) : (cs.drop k).take n1 = (W64.digs n).drop k := by
 conv => rhs; rw [← h]
 rw [hL, List.drop_take]
 congr 1
 omega
theorem add_at (g k i : Nat) : (⟨g, k, none⟩ : Addr).add i = ⟨g, k + i, none⟩ := by
 unfold Addr.add; split
 · subst i; rfl
 · rfl
set_option maxHeartbeats 4000000 in
set_option maxRecDepth 100000 in
theorem rsh_words (g c n k n1 : Nat) (w : World) (h : Nc w g c n) (h0 : 0 < k) (hk : k ≤ 1000) (hL : (W64.digs n).length = k + n1) (hn1 : 0 < n1) :
   Calls Tryz.prog 102 #[.slice (some ⟨g, 0, none⟩) (W64.digs n).length c, .slice (some ⟨g, 0, none⟩) (W64.digs n).length c, .int .u64 ((64 * k + 0 : Nat) : Int)] w fun e w' => e = .returned (.slice (some ⟨g, 0, none⟩) (W64.digs (n / 2 ^ (64 * k + 0))).length c) ∧ Nc w' g c (n / 2 ^ (64 * k + 0)) ∧ KeptB w w' g := by
 have hc0 : 0 < (c : Int) := by have := h.pos; omega
 have hcm : (c : Int) ≤ 1000 := by have := h.max; omega
 have hle := h.le
 have hkc : (k : Int) ≤ (c : Int) := by omega
 have hkc2 : (k : Int) < (c : Int) := by omega
 have s0 : (((64 * k + 0 : Nat) : Int) == 0) = false := beq_eq_false_iff_ne.mpr (by omega)
 have s1 : ((64 * k + 0 : Nat) : Int) / 64 = (k : Int) := by omega
 have s2 : ((64 * k + 0 : Nat) : Int) % 64 = (0 : Int) := by omega
 have s3 : ((64 * k + 0 : Nat) : Int).tdiv 64 = (k : Int) := by rw [Int.tdiv_eq_ediv_of_nonneg (by omega)]; exact s1
 have s4 : ((64 * k + 0 : Nat) : Int).tmod 64 = (0 : Int) := by rw [Int.tmod_eq_emod_of_nonneg (by omega)]; exact s2
 have m1 : ((W64.digs n).length : Int) - k = (n1 : Int) := by omega
 have m4 : ((W64.digs n).length : Int) - n1 = (k : Int) := by omega
 have m2 : ¬ ((n1 : Int) ≤ 0) := by omega
 have m3 : wrap64 (k : Int) = k := by unfold wrap64; omega
 have m5 : (W64.digs n).length - k = n1 := by omega
 have m6 : (k : Int) ≤ ((W64.digs n).length : Int) := by omega
 have m7 : (k : Int) < ((W64.digs n).length : Int) := by omega
 have m8 : ((W64.digs n).length : Int) ≤ (c : Int) := by omega
 have hb : ((64 * k + 0 : Nat) : Int) < 18446744073709551616 := by omega
 have hMK := Aside0.mk (make_in g (W64.digs n).length n1 c w h.le (by omega) (by have := h.max; omega))
 obtain ⟨cs, hbuf, hcl, htk⟩ := h.out
 have hxp := part_digs htk hL
 obtain ⟨xs, hxs⟩ : ∃ xs, xs = (cs.drop k).take n1 := ⟨_, rfl⟩
 rw [← hxs] at hxp
 have hxl : xs.length = n1 := by rw [hxp]; simp; omega
 have hdx : W64.Dig xs := by rw [hxp]; exact Dig_drop (W64.dig_digs n) k
 have hvx : W64.val xs = ((n / 18446744073709551616 ^ k : Nat) : Int) := by rw [hxp]; exact digs_drop_val (by omega)
 have HC : Aside0 (Buf w g ([] ++ (cs.take n1 ++ cs.drop n1)) ∧ (cs.take n1).length = xs.length ∧ n1 = xs.length ∧ ∀ i : Nat, i < xs.length → w.cell? ((⟨g, k, none⟩ : Addr).add i) = some (.int .u64 (rd xs (i : Int)))) := ⟨by rw [List.nil_append, List.take_append_drop]; exact hbuf, by rw [List.length_take, hxl]; omega, hxl.symm, fun i hi => by
   have e := hbuf.cell (j := k + i) (by omega)
   rw [← rd_part (cs := cs) (n := n1) (by omega) (by omega), ← hxs] at e
   rw [add_at]; exact e⟩
 have HN := Aside0.mk (fun (w1 : World) (hb1 : Buf w1 g (xs ++ cs.drop n1)) => norm_nc g (n / 2 ^ (64 * k + 0)) c (cs.drop n1) (xs) n1 w1 hb1 (by simp; omega) (by exact hxl) h.pos h.max (by exact hdx) (by rw [hvx, ← pow64 k 0, Nat.pow_zero, Nat.mul_one]))
 clear h hk hL hn1 hle hbuf hcl htk hxp hdx hvx h0
 clear hxs hxl
 generalize ((64 * k + 0 : Nat) : Int) = S at *
 generalize (W64.digs n).length = L at *
 go_enter Tryz.func102, Tryz.ntmps102
 go_wp2_with (first | (go_at_call 68; (with_reducible refine hMK.out.mono ?_); rintro e w0 ⟨rfl, hw0⟩; subst w0) | ((with_reducible refine wpList_copy_buf rfl (.tmp 40) (.tmp 45) 57 57 rfl 89 Tryz.underlying57 sizeW g 0 _ _ ⟨g, k, none⟩ _ _ rfl rfl [] (cs.take n1) xs (cs.drop n1) HC.out.1 rfl HC.out.2.1 HC.out.2.2.1 HC.out.2.2.1 HC.out.2.2.2 ?_); intro w1 HB) | (go_at_call 61; (with_reducible refine (HN.out _ HB.out.1).mono ?_); rintro e w2 ⟨rfl, hw2, hn⟩; subst w2; have HNN := Aside0.mk hn; clear hn))
 go_ret
 exact ⟨rfl, HNN.out, HB.out.2⟩
set_option maxHeartbeats 4000000 in
set_option maxRecDepth 100000 in
theorem rsh_bits (g c n k r n1 : Nat) (w : World) (h : Nc w g c n) (hr : r < 64) (hr0 : 0 < r) (hk : k ≤ 1000) (hL : (W64.digs n).length = k + n1) (hn1 : 0 < n1) :
   Calls Tryz.prog 102 #[.slice (some ⟨g, 0, none⟩) (W64.digs n).length c, .slice (some ⟨g, 0, none⟩) (W64.digs n).length c, .int .u64 ((64 * k + r : Nat) : Int)] w fun e w' => e = .returned (.slice (some ⟨g, 0, none⟩) (W64.digs (n / 2 ^ (64 * k + r))).length c) ∧ Nc w' g c (n / 2 ^ (64 * k + r)) ∧ KeptB w w' g := by
 have hc0 : 0 < (c : Int) := by have := h.pos; omega
 have hcm : (c : Int) ≤ 1000 := by have := h.max; omega
 have hle := h.le
 have hkc : (k : Int) ≤ (c : Int) := by omega
 have hkc2 : (k : Int) < (c : Int) := by omega
 have s0 : (((64 * k + r : Nat) : Int) == 0) = false := beq_eq_false_iff_ne.mpr (by omega)
 have s1 : ((64 * k + r : Nat) : Int) / 64 = (k : Int) := by omega
 have s2 : ((64 * k + r : Nat) : Int) % 64 = (r : Int) := by omega
 have s3 : ((64 * k + r : Nat) : Int).tdiv 64 = (k : Int) := by rw [Int.tdiv_eq_ediv_of_nonneg (by omega)]; exact s1
 have s4 : ((64 * k + r : Nat) : Int).tmod 64 = (r : Int) := by rw [Int.tmod_eq_emod_of_nonneg (by omega)]; exact s2
 have m1 : ((W64.digs n).length : Int) - k = (n1 : Int) := by omega
 have m4 : ((W64.digs n).length : Int) - n1 = (k : Int) := by omega
 have s5 : ((r : Int) == 0) = false := beq_eq_false_iff_ne.mpr (by omega)
 have m2 : ¬ ((n1 : Int) ≤ 0) := by omega
 have m3 : wrap64 (k : Int) = k := by unfold wrap64; omega
 have m5 : (W64.digs n).length - k = n1 := by omega
 have m6 : (k : Int) ≤ ((W64.digs n).length : Int) := by omega
 have m7 : (k : Int) < ((W64.digs n).length : Int) := by omega
 have m8 : ((W64.digs n).length : Int) ≤ (c : Int) := by omega
 have hb : ((64 * k + r : Nat) : Int) < 18446744073709551616 := by omega
 have hMK := Aside0.mk (make_in g (W64.digs n).length n1 c w h.le (by omega) (by have := h.max; omega))
 obtain ⟨cs, hbuf, hcl, htk⟩ := h.out
 have hxp := part_digs htk hL
 obtain ⟨xs, hxs⟩ : ∃ xs, xs = (cs.drop k).take n1 := ⟨_, rfl⟩
 rw [← hxs] at hxp
 have hxl : xs.length = n1 := by rw [hxp]; simp; omega
 have hdx : W64.Dig xs := by rw [hxp]; exact Dig_drop (W64.dig_digs n) k
 have hvx : W64.val xs = ((n / 18446744073709551616 ^ k : Nat) : Int) := by rw [hxp]; exact digs_drop_val (by omega)
 have HV := Aside0.mk (rshVU_n g k n1 c (c - k) r (64 - r) cs xs w (by omega) hr0 (by omega) hbuf hxs (by omega) hn1 (by have := h.max; omega) hdx)
 have HN := Aside0.mk (fun (w1 : World) (hb1 : Buf w1 g (shr ((2 : Int) ^ r) ((2 : Int) ^ (64 - r)) xs ++ cs.drop n1)) => norm_nc g (n / 2 ^ (64 * k + r)) c (cs.drop n1) (shr ((2 : Int) ^ r) ((2 : Int) ^ (64 - r)) xs) n1 w1 hb1 (by simp [shr_len]; omega) (by rw [shr_len]; exact hxl) h.pos h.max (by exact shr_dig (halfs_of (by omega)) _ hdx) (by rw [shr_val (halfs_of (by omega)), hvx, ← pow64 k r, ← Nat.div_div_eq_div_mul]; simp))
 clear h hk hL hn1 hle hbuf hcl htk hxp hdx hvx hr hr0
 clear hxs hxl
 generalize ((64 * k + r : Nat) : Int) = S at *
 generalize (W64.digs n).length = L at *
 go_enter Tryz.func102, Tryz.ntmps102
 go_wp2_with (first | (go_at_call 68; (with_reducible refine hMK.out.mono ?_); rintro e w0 ⟨rfl, hw0⟩; subst w0) | (go_at_call 121; (with_reducible refine HV.out.mono ?_); rintro e w1 ⟨cc, rfl, hb, hk⟩; have HB := Aside0.mk (And.intro hb hk); clear hb hk) | (go_at_call 61; (with_reducible refine (HN.out _ HB.out.1).mono ?_); rintro e w2 ⟨rfl, hw2, hn⟩; subst w2; have HNN := Aside0.mk hn; clear hn))
 go_ret
 exact ⟨rfl, HNN.out, HB.out.2⟩
theorem rsh_nc (g c n s : Nat) (w : World) (h : Nc w g c n) (h0 : 0 < s) (hs : s ≤ 1000) :
   Calls Tryz.prog 102 #[.slice (some ⟨g, 0, none⟩) (W64.digs n).length c, .slice (some ⟨g, 0, none⟩) (W64.digs n).length c, .int .u64 (s : Int)] w fun e w' => e = .returned (.slice (some ⟨g, 0, none⟩) (W64.digs (n / 2 ^ s)).length c) ∧ Nc w' g c (n / 2 ^ s) ∧ KeptB w w' g := by
 obtain ⟨k, r, hr, rfl⟩ : ∃ k r, r < 64 ∧ s = 64 * k + r := ⟨s / 64, s % 64, by omega, by omega⟩
 by_cases hm : (W64.digs n).length ≤ k
 · refine (rsh_all g c n k r w h hr h0 (by omega) hm).mono ?_
   rintro e w' ⟨rfl, rfl⟩
   have hz : n / 2 ^ (64 * k + r) = 0 := by
     rw [← pow64 k r, ← Nat.div_div_eq_div_mul, Nat.div_eq_of_lt (digs_low hm), Nat.zero_div]
   rw [hz]
   obtain ⟨cs, h1, h2, _⟩ := h.out
   exact ⟨by rw [W64.digs_zero]; rfl, ⟨⟨cs, h1, h2, by rw [W64.digs_zero]; rfl⟩, by rw [W64.digs_zero]; exact Nat.zero_le _, h.pos, h.max⟩, KeptB.refl _ _⟩
 · by_cases hr0 : r = 0
   · subst hr0
     exact rsh_words g c n k ((W64.digs n).length - k) w h (by omega) (by omega) (by omega) (by omega)
   · exact rsh_bits g c n k r ((W64.digs n).length - k) w h hr (by omega) (by omega) (by omega) (by omega)
theorem sub_carry {n m L : Nat} {out : List Int} {c : Int} (hd : W64.Dig out) (hl : out.length = L) (hv : W64.val out = (n : Int) - m + c * 18446744073709551616 ^ L) (hmn : m ≤ n) (c0 : 0 ≤ c) (c1 : c ≤ 1) : c = 0 ∧ W64.val out = ((n - m : Nat) : Int) := by
 have h1 := W64.val_lt hd
 rw [hl] at h1
 have hz : c = 0 := by
   rcases (show c = 0 ∨ c = 1 by omega) with h | h
   · exact h
   · subst h
     rw [Int.one_mul] at hv
     omega
 subst hz
 rw [Int.zero_mul] at hv
 exact ⟨rfl, by omega⟩
theorem carry_le {out xs ys : List Int} {c : Int} {m : Nat} (hx : W64.Dig xs) (hy : W64.Dig ys) (hxl : xs.length = m) (hyl : ys.length = m) (hd : W64.Dig out) (hv : W64.val out + c * 18446744073709551616 ^ m = W64.val xs + W64.val ys) : c ≤ 1 := by
 have h1 := W64.val_lt hx
 have h2 := W64.val_lt hy
 rw [hxl] at h1
 rw [hyl] at h2
 have h3 := W64.val_nonneg hd
 apply Classical.byContradiction
 intro hc
 have h4 := Int.mul_le_mul_of_nonneg_right (show 2 ≤ c by omega) (Int.le_of_lt (W64.pw_pos m))
 omega
theorem digs_split {cs : List Int} {n L M : Nat} (h : cs.take L = W64.digs n) (hL : (W64.digs n).length = L) (hM : M ≤ L) : cs.drop M = (W64.digs n).drop M ++ cs.drop L ∧ cs.take M = (W64.digs n).take M := by
 constructor
 · conv => lhs; rw [← List.take_append_drop L cs, h]
   rw [List.drop_append_of_le_length (by omega)]
 · rw [← h, List.take_take, Nat.min_eq_left hM]
theorem digs_val_take {n M : Nat} (hM : M ≤ (W64.digs n).length) : W64.val ((W64.digs n).take M) + 18446744073709551616 ^ M * W64.val ((W64.digs n).drop M) = (n : Int) := by
 have h := val_split (xs := W64.digs n) hM
 rw [W64.val_digs] at h
 exact h.symm
theorem Nc.cells {w : World} {g c n : Nat} (h : Nc w g c n) (i : Nat) (hi : i < (W64.digs n).length) : w.cell? ⟨g, i, none⟩ = some (.int .u64 (rd (W64.digs n) (i : Int))) := by
 obtain ⟨c', e, h1, h2, h3, h4⟩ := h.num.words
 exact h4 i hi
set_option maxHeartbeats 4000000 in
set_option maxRecDepth 100000 in
theorem sub_nc (g c n gy cy m : Nat) (w : World) (h : Nc w g c n) (hy : Nc w gy cy m) (hne : gy ≠ g) (hm0 : m ≠ 0) (hmn : m ≤ n) :
   Calls Tryz.prog 100 #[.slice (some ⟨g, 0, none⟩) (W64.digs n).length c, .slice (some ⟨g, 0, none⟩) (W64.digs n).length c, .slice (some ⟨gy, 0, none⟩) (W64.digs m).length cy] w fun e w' => e = .returned (.slice (some ⟨g, 0, none⟩) (W64.digs (n - m)).length c) ∧ Nc w' g c (n - m) ∧ KeptB w w' g := by
 have hLM := W64.len_digs_mono hmn
 have hM0 := W64.len_pos hm0
 have hle := h.le
 have hyle := hy.le
 have hmax := h.max
 have hymax := hy.max
 have hMK := Aside0.mk (make_in g (W64.digs n).length (W64.digs n).length c w h.le h.le (by omega))
 obtain ⟨cs, hbuf, hcl, htk⟩ := h.out
 obtain ⟨hs1, hs2⟩ := digs_split (L := (W64.digs n).length) htk rfl hLM
 have HV := Aside0.mk (fun (w1 : World) (hk : KeptB w w1 g) (hb : Buf w1 g cs) => subVV_n g gy (W64.digs m).length c c cy cs (W64.digs m) w1 hb (by omega) (Nat.le_refl _) (by omega) (by rw [hs2]; exact (W64.dig_digs n).take _) (W64.dig_digs m) hne (fun i hi => KeptB.cell hk hne (hy.cells i hi)))
 simp only [List.take_length, W64.val_digs, hs2] at HV
 have HW := Aside0.mk (fun (w1 : World) (out : List Int) (c1 : Int) (c10 : 0 ≤ c1) (c11 : c1 ≤ 1) (ho : out.length = (W64.digs m).length) (hb : Buf w1 g (out ++ cs.drop (W64.digs m).length)) (hlt : (W64.digs m).length < (W64.digs n).length) =>
   subVW_n g (W64.digs m).length (c - (W64.digs m).length) (c - (W64.digs m).length) out ((W64.digs n).drop (W64.digs m).length) (cs.drop (W64.digs n).length) c1 w1 (by rw [← hs1]; exact hb) ho (by simp; omega) (by simp; omega) (Dig_drop (W64.dig_digs n) _) c10 c11)
 simp only [List.length_drop] at HW
 have HE1 := Aside0.mk (fun (out : List Int) (c1 : Int) (c10 : 0 ≤ c1) (c11 : c1 ≤ 1) (hd : W64.Dig out) (ho : out.length = (W64.digs m).length) (hv : W64.val out + (m : Int) = W64.val ((W64.digs n).take (W64.digs m).length) + c1 * 18446744073709551616 ^ (W64.digs m).length) (he : (W64.digs m).length = (W64.digs n).length) =>
   sub_carry (n := n) (m := m) (c := c1) hd ho (by
     rw [he, List.take_length, W64.val_digs] at hv
     rw [he]; omega) hmn c10 c11)
 have HE2 := Aside0.mk (fun (out out2 : List Int) (c1 c2 : Int) (c20 : 0 ≤ c2) (c21 : c2 ≤ 1) (hd : W64.Dig out) (hd2 : W64.Dig out2) (ho : out.length = (W64.digs m).length) (ho2 : out2.length = (W64.digs n).length - (W64.digs m).length) (hv : W64.val out + (m : Int) = W64.val ((W64.digs n).take (W64.digs m).length) + c1 * 18446744073709551616 ^ (W64.digs m).length) (hv2 : W64.val out2 + c1 = W64.val ((W64.digs n).drop (W64.digs m).length) + c2 * 18446744073709551616 ^ ((W64.digs n).length - (W64.digs m).length)) =>
   sub_carry (n := n) (m := m) (c := c2) (out := out ++ out2) (L := (W64.digs n).length) (hd.append hd2) (by rw [List.length_append, ho, ho2]; omega) (by
     have e := digs_val_take (n := n) (M := (W64.digs m).length) hLM
     have e2 : (18446744073709551616 : Int) ^ (W64.digs n).length = 18446744073709551616 ^ (W64.digs m).length * 18446744073709551616 ^ ((W64.digs n).length - (W64.digs m).length) := by rw [← Int.pow_add]; congr 1; omega
     rw [W64.val_append, ho, e2]
     generalize (18446744073709551616 : Int) ^ (W64.digs m).length = p at *
     generalize (18446744073709551616 : Int) ^ ((W64.digs n).length - (W64.digs m).length) = q at *
     have e3 : W64.val out2 = W64.val ((W64.digs n).drop (W64.digs m).length) + c2 * q - c1 := by omega
     rw [e3, Int.mul_sub, Int.mul_add, Int.mul_comm p c1, Int.mul_left_comm p c2 q]
     omega) hmn c20 c21)
 have HN := Aside0.mk (fun (w1 : World) (l : List Int) (hb1 : Buf w1 g (l ++ cs.drop (W64.digs n).length)) (hl : l.length = (W64.digs n).length) (hd : W64.Dig l) (hv : W64.val l = ((n - m : Nat) : Int)) => norm_nc g (n - m) c (cs.drop (W64.digs n).length) l (W64.digs n).length w1 hb1 (by simp [hl]; omega) hl h.pos h.max hd hv)
 have HD := Aside0.mk (fun (he : (W64.digs m).length = (W64.digs n).length) => (by rw [he] : cs.drop (W64.digs m).length = cs.drop (W64.digs n).length))
 have HB0 := Aside0.mk hbuf
 clear h hy hne hbuf hcl htk hs1 hs2 hm0
 generalize hL : (W64.digs n).length = L at *
 generalize hM : (W64.digs m).length = M at *
 have i1 : (M : Int) ≤ (L : Int) := by omega
 have i2 : 0 < (M : Int) := by omega
 have i3 : (L : Int) ≤ (c : Int) := by omega
 have i4 : (c : Int) ≤ 1000 := by omega
 have i5 : (M : Int) ≤ (cy : Int) := by omega
 have i6 : (cy : Int) ≤ 1000 := by omega
 have i7 : ((L : Int) == 0) = false := beq_eq_false_iff_ne.mpr (by omega)
 have i8 : ((M : Int) == 0) = false := beq_eq_false_iff_ne.mpr (by omega)
 have i9 : ¬ ((L : Int) < (M : Int)) := by omega
 have j1 : (M : Int) ≤ (c : Int) := by omega
 have j2 : 0 ≤ (M : Int) := by omega
 clear hL hM hLM hM0 hle hyle hmax hymax hmn
 by_cases hlt : M < L
 · have hlti : (M : Int) < (L : Int) := by omega
   have j3 : (M : Int) < (c : Int) := by omega
   have hcM : ¬ (c = M) := by omega
   go_enter Tryz.func100, Tryz.ntmps100
   go_wp2_with (go_at_call 68; (with_reducible refine hMK.out.mono ?_); rintro e w0 ⟨rfl, hw0⟩; subst w0)
   refine st (n := 11) (S := fun _ => True) (ds := []) rfl (trivial) (fun hHeld => ?_)
   refine pu 0 (some 33) rfl rfl ?_
   refine pu 1 (some 34) rfl rfl ?_
   refine pu 2 (some 35) rfl rfl ?_
   refine pu 3 (some 36) rfl rfl ?_
   refine pu 4 (some 37) rfl rfl ?_
   refine pu 5 (some 38) rfl rfl ?_
   refine pu 6 (some 39) rfl rfl ?_
   refine pu 7 (some 40) rfl rfl ?_
   refine pu 8 (some 41) rfl rfl ?_
   refine on 9 (some 42) rfl rfl (fun K hK => ?_)
   refine goes_ Tryz.func119 (by kernel_rfl) rfl #[.slice (some ⟨g, 0, none⟩) M c, .slice (some ⟨g, 0, none⟩) M c, .slice (some ⟨gy, 0, none⟩) M cy] (by rfl) rfl rfl (by (try simp only [List.map_toArray, List.map_cons, List.map_nil]); first | done | rfl) ?_
   refine (HV.out _ (KeptB.refl _ _).drew HB0.out.drew).mono ?_
   rintro e w1 ⟨out, c1, rfl, c10, c11, ho, hdo, hvo, hbo, hko⟩
   refine ⟨_, rfl, ?_⟩
   refine hK.out _ _ (trivial) (fun hHeld => ?_)
   clear hK K
   refine nm ?_
   refine pu 10 (some 9) rfl rfl ?_
   refine done_ (by kernel_rfl) ?_
   have HO := Aside0.mk (And.intro ho (And.intro hdo (And.intro hvo (And.intro hbo (And.intro hko (And.intro c10 c11))))))
   clear ho hdo hvo hbo hko c10 c11
   go_wp2
   refine st (n := 9) (S := fun _ => True) (ds := []) rfl (trivial) (fun hHeld => ?_)
   refine pu 0 (some 46) rfl rfl ?_
   refine pu 1 (some 47) rfl rfl ?_
   refine pu 2 (some 48) rfl rfl ?_ (hr := by (intro w'; go_simp; (try simp only [if_neg hcM]); with_reducible rfl))
   refine pu 3 (some 49) rfl rfl ?_
   refine pu 4 (some 50) rfl rfl ?_
   refine pu 5 (some 51) rfl rfl ?_ (hr := by (intro w'; go_simp; (try simp only [if_neg hcM]); with_reducible rfl))
   refine pu 6 (some 52) rfl rfl ?_
   refine on 7 (some 53) rfl rfl (fun K hK => ?_)
   refine goes_ Tryz.func120 (by kernel_rfl) rfl #[.slice (some ⟨g, M, none⟩) (L - M) (c - M), .slice (some ⟨g, M, none⟩) (L - M) (c - M), .int .u64 c1] (by rfl) rfl rfl (by (try simp only [List.map_toArray, List.map_cons, List.map_nil]); first | done | rfl) ?_
   refine (HW.out _ out c1 HO.out.2.2.2.2.2.1 HO.out.2.2.2.2.2.2 HO.out.1 HO.out.2.2.2.1.drew hlt).mono ?_
   rintro e w1 ⟨out2, c2, rfl, c20, c21, ho2, hdo2, hvo2, hbo2, hko2⟩
   refine ⟨_, rfl, ?_⟩
   refine hK.out _ _ (trivial) (fun hHeld => ?_)
   clear hK K
   refine nm ?_
   refine pu 8 (some 9) rfl rfl ?_
   refine done_ (by kernel_rfl) ?_
   have HE := Aside0.mk (HE2.out out out2 c1 c2 c20 c21 HO.out.2.1 hdo2 HO.out.1 ho2 HO.out.2.2.1 hvo2)
   have HP := Aside0.mk (And.intro ho2 (And.intro hdo2 (And.intro hbo2 hko2)))
   have hcz := HE.out.1
   subst hcz
   clear ho2 hdo2 hvo2 hbo2 hko2 c20 c21
   go_wp2_with (go_at_call 61; (with_reducible refine (HN.out _ (out ++ out2) (by rw [List.append_assoc]; exact HP.out.2.2.1) (by rw [List.length_append, HO.out.1, HP.out.1]; omega) (HO.out.2.1.append HP.out.2.1) HE.out.2).mono ?_); rintro e w2 ⟨rfl, hw2, hn⟩; subst w2; have HNN := Aside0.mk hn; clear hn)
   go_ret
   exact ⟨rfl, HNN.out, ((KeptB.refl w g).drew.then HO.out.2.2.2.2.1).drew.then HP.out.2.2.2⟩
 · obtain rfl : M = L := by omega
   go_enter Tryz.func100, Tryz.ntmps100
   go_wp2_with (go_at_call 68; (with_reducible refine hMK.out.mono ?_); rintro e w0 ⟨rfl, hw0⟩; subst w0)
   refine st (n := 11) (S := fun _ => True) (ds := []) rfl (trivial) (fun hHeld => ?_)
   refine pu 0 (some 33) rfl rfl ?_
   refine pu 1 (some 34) rfl rfl ?_
   refine pu 2 (some 35) rfl rfl ?_
   refine pu 3 (some 36) rfl rfl ?_
   refine pu 4 (some 37) rfl rfl ?_
   refine pu 5 (some 38) rfl rfl ?_
   refine pu 6 (some 39) rfl rfl ?_
   refine pu 7 (some 40) rfl rfl ?_
   refine pu 8 (some 41) rfl rfl ?_
   refine on 9 (some 42) rfl rfl (fun K hK => ?_)
   refine goes_ Tryz.func119 (by kernel_rfl) rfl #[.slice (some ⟨g, 0, none⟩) M c, .slice (some ⟨g, 0, none⟩) M c, .slice (some ⟨gy, 0, none⟩) M cy] (by rfl) rfl rfl (by (try simp only [List.map_toArray, List.map_cons, List.map_nil]); first | done | rfl) ?_
   refine (HV.out _ (KeptB.refl _ _).drew HB0.out.drew).mono ?_
   rintro e w1 ⟨out, c1, rfl, c10, c11, ho, hdo, hvo, hbo, hko⟩
   refine ⟨_, rfl, ?_⟩
   refine hK.out _ _ (trivial) (fun hHeld => ?_)
   clear hK K
   refine nm ?_
   refine pu 10 (some 9) rfl rfl ?_
   refine done_ (by kernel_rfl) ?_
   have HE := Aside0.mk (HE1.out out c1 c10 c11 hdo ho hvo (by trivial))
   have HO := Aside0.mk (And.intro ho (And.intro hdo (And.intro hvo (And.intro hbo hko))))
   have hcz := HE.out.1
   subst hcz
   clear ho hdo hvo hbo hko c10 c11
   go_wp2_with (go_at_call 61; (with_reducible refine (HN.out _ out HO.out.2.2.2.1 HO.out.1 HO.out.2.1 HE.out.2).mono ?_); rintro e w2 ⟨rfl, hw2, hn⟩; subst w2; have HNN := Aside0.mk hn; clear hn)
   go_ret
   exact ⟨rfl, HNN.out, (KeptB.refl w g).drew.then HO.out.2.2.2.2⟩
end Go.Proofs.YteohmbannpbokaaGreatDoor.WordWalk
