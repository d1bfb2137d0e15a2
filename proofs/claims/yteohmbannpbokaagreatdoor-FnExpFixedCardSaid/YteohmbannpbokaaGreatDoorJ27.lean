/-
 A number shifted up into a block of its own.
 Numbers in blocks whose room is told: times a word.
-/
import Derived.Test.YteohmbannpbokaaGreatDoorJ26
set_option linter.unusedVariables false
set_option linter.unusedSimpArgs false
namespace Go.Proofs.YteohmbannpbokaaGreatDoor.WordWalk
open Go.RowKit Go.Proofs.YteohmbannpbokaaGreatDoorW.PrintWords Go.Proofs.YteohmbannpbokaaGreatDoorW.PrintLast Go.Proofs.YteohmbannpbokaaGreatDoorW.PrintMore Go.Proofs.YteohmbannpbokaaGreatDoor.SpecWalk Go.Proofs.YteohmbannpbokaaGreatDoor.BigWalk
structure Src (w : World) (ax : Addr) (n : Nat) : Prop where
 mk :: (cells : ∀ w' : World, (∀ k, k < w.heap.size → w'.heap[k]? = w.heap[k]?) → ∀ i : Nat, i < (W64.digs n).length → w'.cell? (ax.add i) = some (.int .u64 (rd (W64.digs n) (i : Int))))
theorem Wdv.src {w : World} {ok : Nat → Prop} {v : Value} {n : Nat} (h : Wdv w ok v n) (h0 : n ≠ 0) : ∃ ax c, v = .slice (some ax) (W64.digs n).length c ∧ (W64.digs n).length ≤ c ∧ Src w ax n := by
 obtain ⟨A, c, e, hl, hf⟩ := h.out
 have hp := W64.len_pos h0
 have hC := Kd.F_now hf
 obtain ⟨ad, rfl, _⟩ := Kd.at_int hC 0 (by omega) (by omega)
 refine ⟨ad, c, e, hl, ⟨fun w' hw i hi => ?_⟩⟩
 obtain ⟨ad', e', hc⟩ := Kd.at_int (hf w' (fun k _ hk => hw k hk)) (i : Int) (by omega) (by omega)
 injection e' with e'
 subst e'
 rw [Int.toNat_natCast] at hc
 exact hc
theorem Nc.src {w : World} {g c n : Nat} (h : Nc w g c n) : Src w ⟨g, 0, none⟩ n :=
 ⟨fun w' hw i hi => by rw [add_at, Nat.zero_add]; exact (World.cell?_of_block (a := ⟨g, i, none⟩) (hw g h.lt)).trans (h.cells i hi)⟩
set_option maxHeartbeats 1000000 in
theorem make4 (n : Nat) (w : World) (h2 : 2 ≤ n) (hn : n ≤ 900) :
   Calls Tryz.prog 68 #[.slice none 0 0, .int .i64 n] w fun e w' => e = .returned (.slice (some ⟨w.heap.size, 0, none⟩) n (n + 4)) ∧ Buf w' w.heap.size (List.replicate (n + 4) 0) ∧ w'.heap.size = w.heap.size + 1 ∧ Below w.heap.size w w' := by
 have hle : ¬ ((n : Int) ≤ 0) := by omega
 have hcn : 0 < (n : Int) := by omega
 have hmk := run_mk n (by omega)
 have hne : ((n : Int) == 1) = false := beq_eq_false_iff_ne.mpr (by omega)
 have HB := Aside0.mk (Buf.new w (n + 4))
 have hni : (n : Int) ≤ 100000 := by omega
 clear h2 hn
 go_enter Tryz.func68, Tryz.ntmps68
 go_wp2
 go_ret
 exact ⟨rfl, HB.out, by simp, (Below.refl _ _).alloc (Nat.le_refl _) _⟩
theorem reps (k m p : Nat) : List.replicate (k + m + p) (0 : Int) = List.replicate k 0 ++ (List.replicate m 0 ++ List.replicate p 0) := by
 rw [List.replicate_append_replicate, List.replicate_append_replicate, Nat.add_assoc]
theorem run_clear0 (w : World) (a : Option Addr) (c : Nat) (ty : TypeId) : (Builtin.clear_ #[57] ty #[.slice a 0 c]).run Tryz.prog w = .ok (.tuple #[]) w := by
 obtain ⟨i0, hi, hzz⟩ := Option.map_eq_some_iff.1 infoW
 simp only [Prod.mk.injEq] at hzz
 cases a <;> simp [Builtin.clear_, run_underlying Tryz.underlying57, zeroValue, typeInfo, hi, hzz.1]
theorem clear_any (w : World) (g n c : Nat) (rest : List Int) (hz : Buf w g (List.replicate n 0 ++ rest)) : ∃ w', (∀ ty, (Builtin.clear_ #[57] ty #[.slice (some ⟨g, 0, none⟩) n c]).run Tryz.prog w = .ok (.tuple #[]) w') ∧ Buf w' g (List.replicate n 0 ++ rest) ∧ KeptB w w' g := by
 by_cases h0 : n = 0
 · subst h0
   exact ⟨w, fun ty => run_clear0 w _ c ty, hz, KeptB.refl _ _⟩
 · have hz2 : Buf w g ([] ++ (List.replicate n 0 ++ rest)) := by rw [List.nil_append]; exact hz
   have h := fun ty => run_clear w g n c [] (List.replicate n 0) rest hz2 (by omega) (by simp) ty
   have hb := Buf.puts (List.replicate n 0) (List.replicate n 0) [] w rfl hz2
   rw [List.nil_append] at hb
   exact ⟨_, h, hb, kept_puts _ _ w (KeptB.refl _ _)⟩
theorem copy_any (w : World) (g p dCap sCap : Nat) (ad : Addr) (pre zs xs post : List Int) (hz : Buf w g (pre ++ (zs ++ post))) (hp : pre.length = p) (hl : zs.length = xs.length)
   (hsrc : ∀ i : Nat, i < xs.length → w.cell? (ad.add i) = some (.int .u64 (rd xs (i : Int)))) :
   ∃ w', (∀ ty, (Builtin.copy_ #[57, 57] ty #[.slice (some ⟨g, p, none⟩) xs.length dCap, .slice (some ad) xs.length sCap]).run Tryz.prog w = .ok (goInt xs.length) w') ∧ Buf w' g (pre ++ (xs ++ post)) ∧ KeptB w w' g := by
 have e : (((nums .u64 (pre ++ (zs ++ post))).toArray.toList.take p ++ (nums .u64 xs) ++ (nums .u64 (pre ++ (zs ++ post))).toArray.toList.drop (p + (nums .u64 xs).length))) = nums .u64 (pre ++ (xs ++ post)) := by
   have e1 : (nums .u64 pre).length = p := by rw [nums_length]; exact hp
   have e2 : (nums .u64 zs).length = xs.length := by rw [nums_length]; exact hl
   have e3 : (nums .u64 xs).length = xs.length := nums_length _ _
   rw [nums_app, nums_app, nums_app, nums_app]
   show ((nums .u64 pre) ++ ((nums .u64 zs) ++ (nums .u64 post))).take p ++ (nums .u64 xs) ++ ((nums .u64 pre) ++ ((nums .u64 zs) ++ (nums .u64 post))).drop (p + (nums .u64 xs).length) = _
   rw [e3, List.take_append_of_le_length (by omega), List.take_of_length_le (by omega), List.drop_append, List.drop_of_length_le (by omega), e1, show p + xs.length - p = xs.length by omega, List.drop_append, List.drop_of_length_le (by omega), e2, Nat.sub_self]
   simp
 have h := fun ty => run_copy_row (P := Tryz.prog) w 57 57 ty 89 g p xs.length dCap ad xs.length sCap _ _ (nums .u64 xs) Tryz.underlying57 sizeW hz.out (by rw [nums_length]; simp) (fun j v hj => by
   simp only [nums, List.getElem?_map, Option.map_eq_some_iff] at hj
   obtain ⟨x, hx, rfl⟩ := hj
   have hlt : j < xs.length := (List.getElem?_eq_some_iff.1 hx).1
   rw [hsrc j hlt, W64.rd_lt hlt]
   rw [List.getElem?_eq_getElem hlt] at hx
   injection hx with hx
   rw [hx]) (by simp only [nums, List.size_toArray, List.length_map, List.length_append]; omega) (fun v hv => by
   simp only [nums, List.mem_map] at hv
   obtain ⟨x, _, rfl⟩ := hv
   rfl)
 rw [e, nums_length] at h
 exact ⟨_, h, setRow_buf hz (by simp; omega)⟩
theorem shl_full {s t : Nat} (h : s + t = 64) {n : Nat} {l : List Int} (hl : W64.val l = (n : Int)) (hd : W64.Dig l) (k : Nat) :
   W64.Dig (List.replicate k 0 ++ (shl ((2 : Int) ^ s) ((2 : Int) ^ t) 0 l ++ [shlTop ((2 : Int) ^ t) 0 l])) ∧ W64.val (List.replicate k 0 ++ (shl ((2 : Int) ^ s) ((2 : Int) ^ t) 0 l ++ [shlTop ((2 : Int) ^ t) 0 l])) = ((n * 2 ^ (64 * k + s) : Nat) : Int) := by
 have hh := halfs_of h
 have ht := shl_top_word hh 0 l (Int.le_refl _) hh.p0 hd
 have hp : (2 : Int) ^ s ≤ 18446744073709551616 := by
   have h1 : (2 : Nat) ^ s ≤ 2 ^ 64 := Nat.pow_le_pow_right (by decide) (by omega)
   have h2 : (2 : Int) ^ s = ((2 ^ s : Nat) : Int) := by simp
   rw [h2]
   have h3 : (2 : Nat) ^ 64 = 18446744073709551616 := by decide
   omega
 refine ⟨(W64.Dig.rep k).append ((shl_dig hh 0 l (Int.le_refl _) hh.p0 hd).append (Dig_one ht.1 (by omega))), ?_⟩
 have hv := shl_val hh 0 l
 rw [hl] at hv
 rw [W64.val_append, W64.val_rep, W64.val_append, val_one, List.length_replicate, shl_len, Int.zero_add]
 have e : W64.val (shl ((2 : Int) ^ s) ((2 : Int) ^ t) 0 l) + 18446744073709551616 ^ l.length * shlTop ((2 : Int) ^ t) 0 l = (2 : Int) ^ s * n := by
   rw [Int.mul_comm (18446744073709551616 ^ l.length)]; omega
 rw [e, ← pow64 k s]
 simp only [Int.natCast_mul, Int.natCast_pow, Int.cast_ofNat_Int]
 rw [Int.mul_comm ((2 : Int) ^ s), Int.mul_left_comm]
theorem zeros_full {n : Nat} {l : List Int} (hl : W64.val l = (n : Int)) (hd : W64.Dig l) (k : Nat) :
   W64.Dig (List.replicate k 0 ++ (l ++ [0])) ∧ W64.val (List.replicate k 0 ++ (l ++ [0])) = ((n * 2 ^ (64 * k + 0) : Nat) : Int) := by
 refine ⟨(W64.Dig.rep k).append (hd.append (Dig_one (by decide) (by decide))), ?_⟩
 rw [W64.val_append, W64.val_rep, W64.val_append, val_one, List.length_replicate, Int.mul_zero, Int.add_zero, Int.zero_add, hl, ← pow64 k 0]
 simp only [Int.natCast_mul, Int.natCast_pow, Int.cast_ofNat_Int]
 rw [Int.mul_comm]
 simp
set_option maxHeartbeats 4000000 in
set_option maxRecDepth 100000 in
theorem lsh_bits (ax : Addr) (cx n k r : Nat) (w : World) (hx : Src w ax n) (hcx : (W64.digs n).length ≤ cx) (hr : r < 64) (hr0 : 0 < r) (hk : k ≤ 100) (h0 : n ≠ 0) (hm : (W64.digs n).length ≤ 100) :
   Calls Tryz.prog 49 #[.slice none 0 0, .slice (some ax) (W64.digs n).length cx, .int .u64 ((64 * k + r : Nat) : Int)] w fun e w' => e = .returned (.slice (some ⟨w.heap.size, 0, none⟩) (W64.digs (n * 2 ^ (64 * k + r))).length ((W64.digs n).length + k + 5)) ∧ Nc w' w.heap.size ((W64.digs n).length + k + 5) (n * 2 ^ (64 * k + r)) ∧ Below w.heap.size w w' := by
 have hpos := W64.len_pos h0
 have s0 : (((64 * k + r : Nat) : Int) == 0) = false := beq_eq_false_iff_ne.mpr (by omega)
 have s1 : ((64 * k + r : Nat) : Int) / 64 = (k : Int) := by omega
 have s2 : ((64 * k + r : Nat) : Int) % 64 = (r : Int) := by omega
 have s3 : ((64 * k + r : Nat) : Int).tdiv 64 = (k : Int) := by rw [Int.tdiv_eq_ediv_of_nonneg (by omega)]; exact s1
 have s4 : ((64 * k + r : Nat) : Int).tmod 64 = (r : Int) := by rw [Int.tmod_eq_emod_of_nonneg (by omega)]; exact s2
 have s5 : ((r : Int) == 0) = false := beq_eq_false_iff_ne.mpr (by omega)
 have hb : ((64 * k + r : Nat) : Int) < 18446744073709551616 := by omega
 have hMK0 := make4 ((W64.digs n).length + k + 1) w (by omega) (by omega)
 rw [show ((((W64.digs n).length + k + 1 : Nat)) : Int) = ((W64.digs n).length : Int) + k + 1 by omega, show (W64.digs n).length + k + 1 + 4 = (W64.digs n).length + k + 5 by omega] at hMK0
 have hMK := Aside0.mk hMK0
 have hsp : List.replicate ((W64.digs n).length + k + 5) (0 : Int) = List.replicate k 0 ++ (List.replicate (W64.digs n).length 0 ++ List.replicate 5 0) := by
   rw [← reps]; congr 1; omega
 have HSP := Aside0.mk hsp
 have HV := Aside0.mk (fun (w1 : World) (hb : Buf w1 w.heap.size (List.replicate ((W64.digs n).length + k + 5) 0)) (hbel : Below w.heap.size w w1) => lshVU_o w.heap.size k ((W64.digs n).length + k + 5 - k) cx r (64 - r) ax (List.replicate k 0) (List.replicate (W64.digs n).length 0) (W64.digs n) (List.replicate 5 0) w1 (by omega) hr0 (by omega) (by rw [hsp] at hb; exact hb) (by simp) (by simp) hpos (by omega) (W64.dig_digs n) (fun w' hk i hi => hx.cells w' (fun q hq => (hk.block q (Nat.lt_of_lt_of_le hq hbel.size) (by omega)).trans (hbel.block q hq)) i hi))
 have HF := Aside0.mk (shl_full (s := r) (t := 64 - r) (by omega) (W64.val_digs n) (W64.dig_digs n) k)
 have HPUT := Aside0.mk (fun (v : Int) => (by
   have e : (List.replicate k (0 : Int) ++ (shl ((2 : Int) ^ r) ((2 : Int) ^ (64 - r)) 0 (W64.digs n) ++ List.replicate 5 0)) = (List.replicate k (0 : Int) ++ shl ((2 : Int) ^ r) ((2 : Int) ^ (64 - r)) 0 (W64.digs n)) ++ List.replicate 5 0 := by rw [List.append_assoc]
   rw [e, List.set_append_right _ _ (by simp [shl_len]; omega)]
   have e2 : (W64.digs n).length + k - (List.replicate k (0 : Int) ++ shl ((2 : Int) ^ r) ((2 : Int) ^ (64 - r)) 0 (W64.digs n)).length = 0 := by simp [shl_len]; omega
   rw [e2]
   simp [List.replicate_succ] : (List.replicate k (0 : Int) ++ (shl ((2 : Int) ^ r) ((2 : Int) ^ (64 - r)) 0 (W64.digs n) ++ List.replicate 5 0)).set ((W64.digs n).length + k) v = List.replicate k 0 ++ ((shl ((2 : Int) ^ r) ((2 : Int) ^ (64 - r)) 0 (W64.digs n) ++ [v]) ++ List.replicate 4 0)))
 have HLEN := Aside0.mk (by simp [shl_len]; omega : (W64.digs n).length + k < (List.replicate k (0 : Int) ++ (shl ((2 : Int) ^ r) ((2 : Int) ^ (64 - r)) 0 (W64.digs n) ++ List.replicate 5 0)).length)
 have HN := Aside0.mk (fun (w1 : World) (v : Int) (hv : v = shlTop ((2 : Int) ^ (64 - r)) 0 (W64.digs n)) (hb1 : Buf w1 w.heap.size (List.replicate k 0 ++ ((shl ((2 : Int) ^ r) ((2 : Int) ^ (64 - r)) 0 (W64.digs n) ++ [v]) ++ List.replicate 4 0))) => norm_nc w.heap.size (n * 2 ^ (64 * k + r)) ((W64.digs n).length + k + 5) (List.replicate 4 0) (List.replicate k 0 ++ (shl ((2 : Int) ^ r) ((2 : Int) ^ (64 - r)) 0 (W64.digs n) ++ [v])) ((W64.digs n).length + k + 1) w1 (by rw [List.append_assoc]; exact hb1) (by simp [shl_len]; omega) (by simp [shl_len]; omega) (by omega) (by omega) (by subst hv; exact HF.out.1) (by subst hv; exact HF.out.2))
 have i1 : ((W64.digs n).length : Int) ≤ 100 := by omega
 have i2 : 0 < ((W64.digs n).length : Int) := by omega
 have i3 : (k : Int) ≤ 100 := by omega
 have i4 : (((W64.digs n).length : Int) == 0) = false := beq_eq_false_iff_ne.mpr (by omega)
 have i5 : ((W64.digs n).length : Int) ≤ (cx : Int) := by omega
 have i7 : ((W64.digs n).length : Int) + k - ((W64.digs n).length : Int) = (k : Int) := by omega
 have i8 : (W64.digs n).length + k - k = (W64.digs n).length := by omega
 have hlenr : (shl ((2 : Int) ^ r) ((2 : Int) ^ (64 - r)) 0 (W64.digs n)).length = (W64.digs n).length := by simp [shl_len]
 have HLR := Aside0.mk hlenr
 clear hx hcx hr hr0 hk h0 hm hpos hMK0 hsp hlenr
 generalize n * 2 ^ (64 * k + r) = NN at *
 generalize ((64 * k + r : Nat) : Int) = S at *
 generalize hys : W64.digs n = ys at *
 generalize hLL : ys.length = L at *
 have HL2 := Aside0.mk hLL
 clear hys hLL
 generalize hRS : shl ((2 : Int) ^ r) ((2 : Int) ^ (64 - r)) 0 ys = RS at *
 generalize hTP : shlTop ((2 : Int) ^ (64 - r)) 0 ys = TP at *
 go_enter Tryz.func49, Tryz.ntmps49
 go_wp2_with (go_at_call 68; (with_reducible refine hMK.out.mono ?_); rintro e w1 ⟨rfl, hb1, hsz1, hbel⟩; have HM1 := Aside0.mk (And.intro hb1 (And.intro hsz1 hbel)); clear hb1 hsz1 hbel)
 go_wp2_with (first | (go_at_call 69; (with_reducible refine (HV.out _ HM1.out.1 HM1.out.2.2).mono ?_); rintro e w2 ⟨rfl, hb2, hk2⟩; have hcz := hb2.cell HLEN.out; have hfz := hb2.frozen (L + k); have hput := hb2.put (L + k) TP; have HP := Aside0.mk (And.intro ((HPUT.out TP) ▸ hput) (hk2.set (.int .u64 TP) : KeptB w1 (w2.setCell ⟨w.heap.size, L + k, none⟩ (.int .u64 TP)) w.heap.size)); obtain ⟨w3, hclr, hb3, hk3⟩ := clear_any _ w.heap.size k (L + k + 5) _ HP.out.1; have H3 := Aside0.mk (And.intro hb3 (HP.out.2.then hk3)); clear hb2 hk2 hput hb3 hk3; generalize rd (List.replicate k 0 ++ (RS ++ List.replicate 5 0)) ((L + k : Nat) : Int) = zz at *) | (go_at_call 61; (with_reducible refine (HN.out _ TP rfl H3.out.1).mono ?_); rintro e w4 ⟨rfl, hw4, hn⟩; subst w4; have HNN := Aside0.mk hn; clear hn))
 go_ret
 exact ⟨rfl, HNN.out, below_trans HM1.out.2.2 (below_kept H3.out.2 (Nat.le_refl _) HM1.out.2.2.size) HM1.out.2.2.size⟩
set_option maxHeartbeats 4000000 in
set_option maxRecDepth 100000 in
theorem lsh_words (ax : Addr) (cx n k : Nat) (w : World) (hx : Src w ax n) (hcx : (W64.digs n).length ≤ cx) (hk0 : 0 < k) (hk : k ≤ 100) (h0 : n ≠ 0) (hm : (W64.digs n).length ≤ 100) :
   Calls Tryz.prog 49 #[.slice none 0 0, .slice (some ax) (W64.digs n).length cx, .int .u64 ((64 * k + 0 : Nat) : Int)] w fun e w' => e = .returned (.slice (some ⟨w.heap.size, 0, none⟩) (W64.digs (n * 2 ^ (64 * k + 0))).length ((W64.digs n).length + k + 5)) ∧ Nc w' w.heap.size ((W64.digs n).length + k + 5) (n * 2 ^ (64 * k + 0)) ∧ Below w.heap.size w w' := by
 have hpos := W64.len_pos h0
 have s0 : (((64 * k + 0 : Nat) : Int) == 0) = false := beq_eq_false_iff_ne.mpr (by omega)
 have s1 : ((64 * k + 0 : Nat) : Int) / 64 = (k : Int) := by omega
 have s2 : ((64 * k + 0 : Nat) : Int) % 64 = (0 : Int) := by omega
 have s3 : ((64 * k + 0 : Nat) : Int).tdiv 64 = (k : Int) := by rw [Int.tdiv_eq_ediv_of_nonneg (by omega)]; exact s1
 have s4 : ((64 * k + 0 : Nat) : Int).tmod 64 = (0 : Int) := by rw [Int.tmod_eq_emod_of_nonneg (by omega)]; exact s2
 have hb : ((64 * k + 0 : Nat) : Int) < 18446744073709551616 := by omega
 have hMK0 := make4 ((W64.digs n).length + k + 1) w (by omega) (by omega)
 rw [show ((((W64.digs n).length + k + 1 : Nat)) : Int) = ((W64.digs n).length : Int) + k + 1 by omega, show (W64.digs n).length + k + 1 + 4 = (W64.digs n).length + k + 5 by omega] at hMK0
 have hMK := Aside0.mk hMK0
 have hsp : List.replicate ((W64.digs n).length + k + 5) (0 : Int) = List.replicate k 0 ++ (List.replicate (W64.digs n).length 0 ++ List.replicate 5 0) := by
   rw [← reps]; congr 1; omega
 have HSP := Aside0.mk hsp
 have HV := Aside0.mk (fun (w1 : World) (hbel : Below w.heap.size w w1) (i : Nat) (hi : i < (W64.digs n).length) => hx.cells w1 (fun q hq => hbel.block q hq) i hi)
 have HF := Aside0.mk (zeros_full (W64.val_digs n) (W64.dig_digs n) k)
 have HPUT := Aside0.mk (fun (v : Int) => (by
   have e : (List.replicate k (0 : Int) ++ (W64.digs n ++ List.replicate 5 0)) = (List.replicate k (0 : Int) ++ W64.digs n) ++ List.replicate 5 0 := by rw [List.append_assoc]
   rw [e, List.set_append_right _ _ (by simp; omega)]
   have e2 : (W64.digs n).length + k - (List.replicate k (0 : Int) ++ W64.digs n).length = 0 := by simp; omega
   rw [e2]
   simp [List.replicate_succ] : (List.replicate k (0 : Int) ++ (W64.digs n ++ List.replicate 5 0)).set ((W64.digs n).length + k) v = List.replicate k 0 ++ ((W64.digs n ++ [v]) ++ List.replicate 4 0)))
 have HLEN := Aside0.mk (by simp; omega : (W64.digs n).length + k < (List.replicate k (0 : Int) ++ (W64.digs n ++ List.replicate 5 0)).length)
 have HN := Aside0.mk (fun (w1 : World) (v : Int) (hv : v = 0) (hb1 : Buf w1 w.heap.size (List.replicate k 0 ++ ((W64.digs n ++ [v]) ++ List.replicate 4 0))) => norm_nc w.heap.size (n * 2 ^ (64 * k + 0)) ((W64.digs n).length + k + 5) (List.replicate 4 0) (List.replicate k 0 ++ (W64.digs n ++ [v])) ((W64.digs n).length + k + 1) w1 (by rw [List.append_assoc]; exact hb1) (by simp; omega) (by simp; omega) (by omega) (by omega) (by subst hv; exact HF.out.1) (by subst hv; exact HF.out.2))
 have i1 : ((W64.digs n).length : Int) ≤ 100 := by omega
 have i2 : 0 < ((W64.digs n).length : Int) := by omega
 have i3 : (k : Int) ≤ 100 := by omega
 have i4 : (((W64.digs n).length : Int) == 0) = false := beq_eq_false_iff_ne.mpr (by omega)
 have i5 : ((W64.digs n).length : Int) ≤ (cx : Int) := by omega
 have i7 : ((W64.digs n).length : Int) + k - ((W64.digs n).length : Int) = (k : Int) := by omega
 have i8 : (W64.digs n).length + k - k = (W64.digs n).length := by omega
 have hlenr : (W64.digs n).length = (W64.digs n).length := by simp
 have HLR := Aside0.mk hlenr
 clear hx hcx hk0 hk h0 hm hpos hMK0 hsp hlenr
 generalize n * 2 ^ (64 * k + 0) = NN at *
 generalize ((64 * k + 0 : Nat) : Int) = S at *
 generalize hys : W64.digs n = ys at *
 generalize hLL : ys.length = L at *
 have HL2 := Aside0.mk hLL
 clear hys hLL
 generalize hRS : ys = RS at *
 go_enter Tryz.func49, Tryz.ntmps49
 go_wp2_with (go_at_call 68; (with_reducible refine hMK.out.mono ?_); rintro e w1 ⟨rfl, hb1, hsz1, hbel⟩; have HM1 := Aside0.mk (And.intro hb1 (And.intro hsz1 hbel)); clear hb1 hsz1 hbel; obtain ⟨w2, hcpy, hb2, hk2⟩ := copy_any w1 w.heap.size k (L + k + 5 - k) cx ax (List.replicate k 0) (List.replicate L 0) RS (List.replicate 5 0) (by rw [← HSP.out]; exact HM1.out.1) (by simp) (by rw [List.length_replicate]; exact HL2.out.symm) (fun i hi => HV.out _ HM1.out.2.2 i (Nat.lt_of_lt_of_eq hi HL2.out)); rw [HL2.out] at hcpy; have hcz := hb2.cell HLEN.out; have hfz := hb2.frozen (L + k); have hput := hb2.put (L + k) (0 : Int); have HP := Aside0.mk (And.intro ((HPUT.out (0 : Int)) ▸ hput) (hk2.set (.int .u64 (0 : Int)) : KeptB w1 (w2.setCell ⟨w.heap.size, L + k, none⟩ (.int .u64 (0 : Int))) w.heap.size)); obtain ⟨w3, hclr, hb3, hk3⟩ := clear_any _ w.heap.size k (L + k + 5) _ HP.out.1; have H3 := Aside0.mk (And.intro hb3 (HP.out.2.then hk3)); clear hb2 hk2 hput hb3 hk3; generalize rd (List.replicate k 0 ++ (RS ++ List.replicate 5 0)) ((L + k : Nat) : Int) = zz at *)
 go_wp2_with (first | (go_at_call 999999; skip) | (go_at_call 61; (with_reducible refine (HN.out _ (0 : Int) rfl H3.out.1).mono ?_); rintro e w4 ⟨rfl, hw4, hn⟩; subst w4; have HNN := Aside0.mk hn; clear hn))
 go_ret
 exact ⟨rfl, HNN.out, below_trans HM1.out.2.2 (below_kept H3.out.2 (Nat.le_refl _) HM1.out.2.2.size) HM1.out.2.2.size⟩
theorem lsh_nc (ax : Addr) (cx n s : Nat) (w : World) (hx : Src w ax n) (hcx : (W64.digs n).length ≤ cx) (hs : 0 < s) (hs2 : s ≤ 1000) (h0 : n ≠ 0) (hm : (W64.digs n).length ≤ 100) :
   Calls Tryz.prog 49 #[.slice none 0 0, .slice (some ax) (W64.digs n).length cx, .int .u64 (s : Int)] w fun e w' => ∃ c, e = .returned (.slice (some ⟨w.heap.size, 0, none⟩) (W64.digs (n * 2 ^ s)).length c) ∧ 6 ≤ c ∧ Nc w' w.heap.size c (n * 2 ^ s) ∧ Below w.heap.size w w' := by
 have hpos := W64.len_pos h0
 obtain ⟨k, r, hr, rfl⟩ : ∃ k r, r < 64 ∧ s = 64 * k + r := ⟨s / 64, s % 64, by omega, by omega⟩
 by_cases hr0 : r = 0
 · subst hr0
   refine (lsh_words ax cx n k w hx hcx (by omega) (by omega) h0 hm).mono ?_
   rintro e w' ⟨h1, h2, h3⟩
   exact ⟨_, h1, by omega, h2, h3⟩
 · refine (lsh_bits ax cx n k r w hx hcx hr (by omega) (by omega) h0 hm).mono ?_
   rintro e w' ⟨h1, h2, h3⟩
   exact ⟨_, h1, by omega, h2, h3⟩
theorem lsh_zero (A : Option Addr) (cx s : Nat) (w : World) (hs : 0 < s) (hs2 : s ≤ 1000) :
   Calls Tryz.prog 49 #[.slice none 0 0, .slice A 0 cx, .int .u64 (s : Int)] w fun e w' => e = .returned (.slice none 0 0) ∧ w' = w := by
 have s0 : ((s : Int) == 0) = false := beq_eq_false_iff_ne.mpr (by omega)
 go_enter Tryz.func49, Tryz.ntmps49
 go_wp2
 go_ret
 exact ⟨rfl, rfl⟩
set_option maxHeartbeats 4000000 in
theorem mulAddVWW_g_s (g cz cx : Nat) (ax : Addr) (cs xs : List Int) (y r : Int) (w : World) (hz : Buf w g cs) (hl : xs.length ≤ cs.length) (hlm : xs.length ≤ 1000000) (hd : W64.Dig xs) (hy : Word y) (hr : Word r)
   (hx : ∀ w', KeptB w w' g → ∀ i : Nat, i < xs.length → w'.cell? (ax.add i) = some (.int .u64 (rd xs (i : Int)))) :
   Calls Tryz.prog 130 #[.slice (some ⟨g, 0, none⟩) xs.length cz, .slice (some ax) xs.length cx, .int .u64 y, .int .u64 r] w fun e w' => ∃ out c, e = .returned (.int .u64 c) ∧ Word c ∧ out.length = xs.length ∧ W64.Dig out ∧ W64.val out + c * 18446744073709551616 ^ xs.length = W64.val xs * y + r ∧ Buf w' g (out ++ cs.drop xs.length) ∧ KeptB w w' g := by
 have HX := Aside0.mk hx
 have HL := Aside0.mk hl
 have HD := Aside0.mk hd
 have HY := Aside0.mk hy
 have HS := Aside0.mk (MulW.start xs y r hr)
 have HZ := Aside0.mk hz
 have hli : (xs.length : Int) ≤ 1000000 := by omega
 clear hx hl hd hy hr hz hlm
 generalize hm : xs.length = m at *
 have HM := Aside0.mk hm
 clear hm
 go_enter Tryz.func130, Tryz.ntmps130
 go_wp2
 go_loopg [8, 19] m (fun gg v8 v19 w' => ∃ (out : List Int) (c i : Int), v8 = .int .u64 c ∧ v19 = .int .i64 i ∧ MulW xs y r out c i ∧ Aside0 (i + (gg : Int) = m) ∧ Aside0 (Buf w' g (out ++ cs.drop i.toNat)) ∧ Aside0 (KeptB w w' g))
 case atStart => exact ⟨[], r, 0, rfl, rfl, HS.out, ⟨by simp⟩, ⟨by simpa using HZ.out⟩, ⟨KeptB.refl _ _⟩⟩
 case round =>
   clear HS
   obtain ⟨out, c, i, rfl, rfl, HI, HG, HB, HK⟩ := hrel
   obtain ⟨i0, i1, hlo, hwc⟩ := HI.bound
   have HML := HM.out
   have HLO := Aside0.mk hlo
   clear hlo
   by_cases hi : i < (m : Int)
   · have hrun := mulAddWWW_n (rd xs i) y c (by obtain ⟨a, b⟩ := W64.dig_rd HD.out i; exact ⟨a, b⟩) HY.out hwc
     have hcell : wr.cell? (ax.add i.toNat) = some (.int .u64 (rd xs i)) := by
       have hin : ((i.toNat : Nat) : Int) = i := by omega
       have := HX.out wr HK.out i.toNat (by omega)
       rwa [hin] at this
     have hst := HI.step HD.out HY.out (by omega)
     obtain ⟨hst0, hst1, hst2, hst3⟩ := hst.bound
     have HST := Aside0.mk hst
     have hput := HB.out.put i.toNat ((rd xs i * y + c) % 18446744073709551616)
     rw [set_mid (by have := HLO.out; omega) (by have := HL.out; omega)] at hput
     have hcz : wr.cell? ⟨g, i.toNat, none⟩ = some (.int .u64 (rd cs i)) := by
       have hin : ((i.toNat : Nat) : Int) = i := by omega
       have h1 := HB.out.cell (j := i.toNat) (by have := HL.out; have := HLO.out; simp; omega)
       have h2 := rd_mid (out := out) (cs := cs) (k := i.toNat) (by have := HLO.out; omega) (by have := HL.out; omega)
       rwa [h2, hin] at h1
     have hfz := HB.out.frozen i.toNat
     have HP := Aside0.mk hput
     have HR := Aside0.mk hrun
     clear HI hst hput hrun hwc hst0 hst1 hst2 hst3 HML
     generalize (rd xs i * y + c) % 18446744073709551616 = z0 at *
     generalize (rd xs i * y + c) / 18446744073709551616 = z1 at *
     generalize rd xs i = x at *
     go_wp2_with (go_at_call 149; refine (HR.out _).mono ?_; rintro e w1 ⟨rfl, rfl⟩)
     go_roundg (gk - 1)
     case measure => have := HG.out; omega
     case rel => exact ⟨_, z1, i + 1, rfl, rfl, HST.out, ⟨by have := HG.out; omega⟩, ⟨by rw [show (i + 1).toNat = i.toNat + 1 by omega]; exact HP.out⟩, ⟨HK.out.set _⟩⟩
   · obtain ⟨e1, e2, e3⟩ := HI.done (by omega)
     have HE := Aside0.mk (And.intro e1 (And.intro e2 e3))
     have HW := Aside0.mk hwc
     clear HI e1 e2 e3 hwc
     go_wp2
     go_ret
     obtain ⟨e1, e2, e3⟩ := HE.out
     refine ⟨out, c, rfl, HW.out, by omega, e2, by rw [← HML]; exact e3, ?_, HK.out⟩
     have := HB.out
     rwa [show i.toNat = m by omega] at this
set_option maxHeartbeats 1000000 in
theorem mulAddVWW_s (g cz cx : Nat) (ax : Addr) (cs xs : List Int) (y r : Int) (w : World) (hz : Buf w g cs) (hl : xs.length ≤ cs.length) (hlm : xs.length ≤ 1000000) (hd : W64.Dig xs) (hy : Word y) (hr : Word r)
   (hx : ∀ w', KeptB w w' g → ∀ i : Nat, i < xs.length → w'.cell? (ax.add i) = some (.int .u64 (rd xs (i : Int)))) :
   Calls Tryz.prog 113 #[.slice (some ⟨g, 0, none⟩) xs.length cz, .slice (some ax) xs.length cx, .int .u64 y, .int .u64 r] w fun e w' => ∃ out c, e = .returned (.int .u64 c) ∧ Word c ∧ out.length = xs.length ∧ W64.Dig out ∧ W64.val out + c * 18446744073709551616 ^ xs.length = W64.val xs * y + r ∧ Buf w' g (out ++ cs.drop xs.length) ∧ KeptB w w' g := by
 have HM := Aside0.mk (mulAddVWW_g_s g cz cx ax cs xs y r w hz hl hlm hd hy hr hx)
 clear hz hl hlm hd hy hr hx
 go_enter Tryz.func113, Tryz.ntmps113
 go_wp2_with (go_at_call 130; (with_reducible refine HM.out.mono ?_); rintro e w1 ⟨out, c, rfl, h⟩; have HH := Aside0.mk h; clear h)
 go_ret
 exact ⟨out, c, rfl, HH.out⟩
set_option maxHeartbeats 4000000 in
set_option maxRecDepth 100000 in
theorem mulAddWW_new (ax : Addr) (cx n y : Nat) (w : World) (hx : Src w ax n) (hcx : (W64.digs n).length ≤ cx) (h0 : n ≠ 0) (hy0 : 0 < y) (hy : y < 18446744073709551616) (hn : (W64.digs n).length ≤ 800) :
   Calls Tryz.prog 90 #[.slice none 0 0, .slice (some ax) (W64.digs n).length cx, .int .u64 y, .int .u64 0] w fun e w' => e = .returned (.slice (some ⟨w.heap.size, 0, none⟩) (W64.digs (n * y)).length ((W64.digs n).length + 1 + 4)) ∧ Nc w' w.heap.size ((W64.digs n).length + 1 + 4) (n * y) ∧ Below w.heap.size w w' := by
 have hpos := W64.len_pos h0
 have hMK0 := make4 ((W64.digs n).length + 1) w (by omega) (by omega)
 rw [show ((((W64.digs n).length + 1 : Nat)) : Int) = ((W64.digs n).length : Int) + 1 by omega] at hMK0
 have hMK := Aside0.mk hMK0
 have hyw : Word (y : Int) := ⟨by omega, by omega⟩
 have hrw : Word (0 : Int) := ⟨by omega, by omega⟩
 have HV := Aside0.mk (fun (w1 : World) (hb : Buf w1 w.heap.size (List.replicate ((W64.digs n).length + 1 + 4) 0)) (hbel : Below w.heap.size w w1) => mulAddVWW_s w.heap.size ((W64.digs n).length + 1 + 4) cx ax _ (W64.digs n) y 0 w1 hb (by simp; omega) (by omega) (W64.dig_digs n) hyw hrw (fun w' hk i hi => hx.cells w' (fun q hq => (hk.block q (Nat.lt_of_lt_of_le hq hbel.size) (by omega)).trans (hbel.block q hq)) i hi))
 simp only [W64.val_digs, Int.add_zero] at HV
 have HVW := Aside0.mk (fun (out : List Int) (cc : Int) (hd : W64.Dig out) (ho : out.length = (W64.digs n).length) (hc : Word cc) (hv : W64.val out + cc * 18446744073709551616 ^ (W64.digs n).length = (n : Int) * y) => val_word (N := n * y) ho hd hc (by rw [Int.natCast_mul]; exact hv))
 have HN := Aside0.mk (fun (w1 : World) (out rest : List Int) (cc : Int) (ho : out.length = (W64.digs n).length) (hb1 : Buf w1 w.heap.size ((out ++ [cc]) ++ rest)) (hcl : ((out ++ [cc]) ++ rest).length = (W64.digs n).length + 1 + 4) (hd : W64.Dig (out ++ [cc])) (hv : W64.val (out ++ [cc]) = ((n * y : Nat) : Int)) => norm_nc w.heap.size (n * y) ((W64.digs n).length + 1 + 4) rest (out ++ [cc]) ((W64.digs n).length + 1) w1 hb1 hcl (by rw [List.length_append, ho]; rfl) (by omega) (by omega) hd hv)
 have n1 : ((W64.digs n).length : Int) ≤ 1000 := by omega
 have n2 : 0 < ((W64.digs n).length : Int) := by omega
 have n4 : (((W64.digs n).length : Int) == 0) = false := beq_eq_false_iff_ne.mpr (by omega)
 have n5 : ((y : Int) == 0) = false := beq_eq_false_iff_ne.mpr (by omega)
 have n6 : ((W64.digs n).length : Int) ≤ (cx : Int) := by omega
 have n8 : ((W64.digs n).length : Int) + 1 ≤ (((W64.digs n).length + 1 + 4 : Nat) : Int) := by omega
 have n9 : (((W64.digs n).length + 1 + 4 : Nat) : Int) ≤ 1000 := by omega
 clear hpos hMK0 hyw hrw hx hcx h0 hy0 hy hn
 generalize n * y = NY at *
 generalize (y : Int) = Y at *
 generalize (W64.digs n).length = L at *
 go_enter Tryz.func90, Tryz.ntmps90
 go_wp2_with (first | (go_at_call 68; (with_reducible refine hMK.out.mono ?_); rintro e w1 ⟨rfl, hb1, hsz1, hbel⟩; have HM1 := Aside0.mk (And.intro hb1 hbel); have HL : Aside0 (L < (List.replicate (L + 1 + 4) (0 : Int)).length) := ⟨by simp; omega⟩; clear hb1 hsz1 hbel) | (go_at_call 113; (with_reducible refine (HV.out _ HM1.out.1 HM1.out.2).mono ?_); rintro e w2 ⟨out, cc, rfl, h1, h2, h3, h4, h5, h6⟩; have hcz := h5.cell (j := L) (by have := HL.out; simp; omega); have hfz := h5.frozen L; have hput := h5.put L cc; rw [set_mid h2 HL.out] at hput; have HVV := Aside0.mk (HVW.out out cc h3 h2 h1 h4); have HO := Aside0.mk (And.intro h2 (And.intro hput (h6.set (.int .u64 cc) : KeptB w1 (w2.setCell ⟨w.heap.size, L, none⟩ (.int .u64 cc)) w.heap.size))); clear h1 h2 h3 h4 h5 h6 hput; generalize rd (out ++ _) ((L : Nat) : Int) = zz at *) | (go_at_call 61; (with_reducible refine (HN.out _ out _ cc HO.out.1 HO.out.2.1 (by have := HL.out; have := HO.out.1; simp; omega) HVV.out.1 HVV.out.2).mono ?_); rintro e w3 ⟨rfl, hw3, hn⟩; subst w3; have HNN := Aside0.mk hn; clear hn))
 go_ret
 exact ⟨rfl, HNN.out, below_trans HM1.out.2 (below_kept HO.out.2.2 (Nat.le_refl _) HM1.out.2.size) HM1.out.2.size⟩
set_option maxHeartbeats 4000000 in
set_option maxRecDepth 100000 in
theorem mulAddWW_to (g c m gx cx n y : Nat) (w : World) (h : Nc w g c m) (hx : Nc w gx cx n) (hne : gx ≠ g) (h0 : n ≠ 0) (hy0 : 0 < y) (hy : y < 18446744073709551616) (hroom : (W64.digs n).length + 1 ≤ c) :
   Calls Tryz.prog 90 #[.slice (some ⟨g, 0, none⟩) (W64.digs m).length c, .slice (some ⟨gx, 0, none⟩) (W64.digs n).length cx, .int .u64 y, .int .u64 0] w fun e w' => e = .returned (.slice (some ⟨g, 0, none⟩) (W64.digs (n * y)).length c) ∧ Nc w' g c (n * y) ∧ KeptB w w' g := by
 have hpos := W64.len_pos h0
 have hMK0 := make_in g (W64.digs m).length ((W64.digs n).length + 1) c w h.le hroom (by have := h.max; omega)
 rw [show ((((W64.digs n).length + 1 : Nat)) : Int) = ((W64.digs n).length : Int) + 1 by omega] at hMK0
 have hMK := Aside0.mk hMK0
 have hyw : Word (y : Int) := ⟨by omega, by omega⟩
 have hrw : Word (0 : Int) := ⟨by omega, by omega⟩
 have hmax := h.max; have hcx := hx.le; have hcx2 := hx.max; obtain ⟨cs, hbuf, hcl, htk⟩ := h.out; have HL := Aside0.mk (show (W64.digs n).length < cs.length by omega); have HV := Aside0.mk (mulAddVWW_n g gx c cx cs (W64.digs n) y 0 w hbuf (by omega) (by omega) (W64.dig_digs n) hyw hrw (.inl ⟨hne, fun i hi => hx.cells i hi⟩)); have HCL := Aside0.mk hcl
 simp only [W64.val_digs, Int.add_zero] at HV
 have HVW := Aside0.mk (fun (out : List Int) (cc : Int) (hd : W64.Dig out) (ho : out.length = (W64.digs n).length) (hc : Word cc) (hv : W64.val out + cc * 18446744073709551616 ^ (W64.digs n).length = (n : Int) * y) => val_word (N := n * y) ho hd hc (by rw [Int.natCast_mul]; exact hv))
 have HN := Aside0.mk (fun (w1 : World) (out rest : List Int) (cc : Int) (ho : out.length = (W64.digs n).length) (hb1 : Buf w1 g ((out ++ [cc]) ++ rest)) (hcl : ((out ++ [cc]) ++ rest).length = c) (hd : W64.Dig (out ++ [cc])) (hv : W64.val (out ++ [cc]) = ((n * y : Nat) : Int)) => norm_nc g (n * y) (c) rest (out ++ [cc]) ((W64.digs n).length + 1) w1 hb1 hcl (by rw [List.length_append, ho]; rfl) (by omega) (by omega) hd hv)
 have n1 : ((W64.digs n).length : Int) ≤ 1000 := by omega
 have n2 : 0 < ((W64.digs n).length : Int) := by omega
 have n4 : (((W64.digs n).length : Int) == 0) = false := beq_eq_false_iff_ne.mpr (by omega)
 have n5 : ((y : Int) == 0) = false := beq_eq_false_iff_ne.mpr (by omega)
 have n6 : ((W64.digs n).length : Int) ≤ (cx : Int) := by omega
 have n8 : ((W64.digs n).length : Int) + 1 ≤ ((c : Nat) : Int) := by omega
 have n9 : ((c : Nat) : Int) ≤ 1000 := by omega
 clear hpos hMK0 hyw hrw h hx hne h0 hy0 hy hroom hmax hcx hcx2 hbuf hcl htk
 generalize n * y = NY at *
 generalize (y : Int) = Y at *
 generalize (W64.digs n).length = L at *
 generalize (W64.digs m).length = LM at *
 go_enter Tryz.func90, Tryz.ntmps90
 go_wp2_with (first | (go_at_call 68; (with_reducible refine hMK.out.mono ?_); rintro e w1 ⟨rfl, hw1⟩; subst w1) | (go_at_call 113; (with_reducible refine (HV.out).mono ?_); rintro e w2 ⟨out, cc, rfl, h1, h2, h3, h4, h5, h6⟩; have hcz := h5.cell (j := L) (by have := HL.out; simp; omega); have hfz := h5.frozen L; have hput := h5.put L cc; rw [set_mid h2 HL.out] at hput; have HVV := Aside0.mk (HVW.out out cc h3 h2 h1 h4); have HO := Aside0.mk (And.intro h2 (And.intro hput (h6.set (.int .u64 cc) : KeptB w (w2.setCell ⟨g, L, none⟩ (.int .u64 cc)) g))); clear h1 h2 h3 h4 h5 h6 hput; generalize rd (out ++ _) ((L : Nat) : Int) = zz at *) | (go_at_call 61; (with_reducible refine (HN.out _ out _ cc HO.out.1 HO.out.2.1 (by have := HL.out; have := HO.out.1; have := HCL.out; simp; omega) HVV.out.1 HVV.out.2).mono ?_); rintro e w3 ⟨rfl, hw3, hn⟩; subst w3; have HNN := Aside0.mk hn; clear hn))
 go_ret
 exact ⟨rfl, HNN.out, HO.out.2.2⟩
set_option maxHeartbeats 4000000 in
set_option maxRecDepth 100000 in
theorem mulAddWW_in (g c n y : Nat) (w : World) (h : Nc w g c n) (h0 : n ≠ 0) (hy0 : 0 < y) (hy : y < 18446744073709551616) (hroom : (W64.digs n).length + 1 ≤ c) :
   Calls Tryz.prog 90 #[.slice (some ⟨g, 0, none⟩) (W64.digs n).length c, .slice (some ⟨g, 0, none⟩) (W64.digs n).length c, .int .u64 y, .int .u64 0] w fun e w' => e = .returned (.slice (some ⟨g, 0, none⟩) (W64.digs (n * y)).length c) ∧ Nc w' g c (n * y) ∧ KeptB w w' g := by
 have hpos := W64.len_pos h0
 have hMK0 := make_in g (W64.digs n).length ((W64.digs n).length + 1) c w h.le hroom (by have := h.max; omega)
 rw [show ((((W64.digs n).length + 1 : Nat)) : Int) = ((W64.digs n).length : Int) + 1 by omega] at hMK0
 have hMK := Aside0.mk hMK0
 have hyw : Word (y : Int) := ⟨by omega, by omega⟩
 have hrw : Word (0 : Int) := ⟨by omega, by omega⟩
 have hmax := h.max; obtain ⟨cs, hbuf, hcl, htk⟩ := h.out; have HL := Aside0.mk (show (W64.digs n).length < cs.length by omega); have HV := Aside0.mk (mulAddVWW_n g g c c cs (W64.digs n) y 0 w hbuf (by omega) (by omega) (W64.dig_digs n) hyw hrw (.inr ⟨rfl, fun i hi => (by have e := rd_take (cs := cs) (m := (W64.digs n).length) (k := i) hi (by omega); rw [htk] at e; exact e)⟩)); have HCL := Aside0.mk hcl
 simp only [W64.val_digs, Int.add_zero] at HV
 have HVW := Aside0.mk (fun (out : List Int) (cc : Int) (hd : W64.Dig out) (ho : out.length = (W64.digs n).length) (hc : Word cc) (hv : W64.val out + cc * 18446744073709551616 ^ (W64.digs n).length = (n : Int) * y) => val_word (N := n * y) ho hd hc (by rw [Int.natCast_mul]; exact hv))
 have HN := Aside0.mk (fun (w1 : World) (out rest : List Int) (cc : Int) (ho : out.length = (W64.digs n).length) (hb1 : Buf w1 g ((out ++ [cc]) ++ rest)) (hcl : ((out ++ [cc]) ++ rest).length = c) (hd : W64.Dig (out ++ [cc])) (hv : W64.val (out ++ [cc]) = ((n * y : Nat) : Int)) => norm_nc g (n * y) (c) rest (out ++ [cc]) ((W64.digs n).length + 1) w1 hb1 hcl (by rw [List.length_append, ho]; rfl) (by omega) (by omega) hd hv)
 have n1 : ((W64.digs n).length : Int) ≤ 1000 := by omega
 have n2 : 0 < ((W64.digs n).length : Int) := by omega
 have n4 : (((W64.digs n).length : Int) == 0) = false := beq_eq_false_iff_ne.mpr (by omega)
 have n5 : ((y : Int) == 0) = false := beq_eq_false_iff_ne.mpr (by omega)
 have n6 : ((W64.digs n).length : Int) ≤ (c : Int) := by omega
 have n8 : ((W64.digs n).length : Int) + 1 ≤ ((c : Nat) : Int) := by omega
 have n9 : ((c : Nat) : Int) ≤ 1000 := by omega
 clear hpos hMK0 hyw hrw h h0 hy0 hy hroom hmax hbuf hcl htk
 generalize n * y = NY at *
 generalize (y : Int) = Y at *
 generalize (W64.digs n).length = L at *
 go_enter Tryz.func90, Tryz.ntmps90
 go_wp2_with (first | (go_at_call 68; (with_reducible refine hMK.out.mono ?_); rintro e w1 ⟨rfl, hw1⟩; subst w1) | (go_at_call 113; (with_reducible refine (HV.out).mono ?_); rintro e w2 ⟨out, cc, rfl, h1, h2, h3, h4, h5, h6⟩; have hcz := h5.cell (j := L) (by have := HL.out; simp; omega); have hfz := h5.frozen L; have hput := h5.put L cc; rw [set_mid h2 HL.out] at hput; have HVV := Aside0.mk (HVW.out out cc h3 h2 h1 h4); have HO := Aside0.mk (And.intro h2 (And.intro hput (h6.set (.int .u64 cc) : KeptB w (w2.setCell ⟨g, L, none⟩ (.int .u64 cc)) g))); clear h1 h2 h3 h4 h5 h6 hput; generalize rd (out ++ _) ((L : Nat) : Int) = zz at *) | (go_at_call 61; (with_reducible refine (HN.out _ out _ cc HO.out.1 HO.out.2.1 (by have := HL.out; have := HO.out.1; have := HCL.out; simp; omega) HVV.out.1 HVV.out.2).mono ?_); rintro e w3 ⟨rfl, hw3, hn⟩; subst w3; have HNN := Aside0.mk hn; clear hn))
 go_ret
 exact ⟨rfl, HNN.out, HO.out.2.2⟩
end Go.Proofs.YteohmbannpbokaaGreatDoor.WordWalk
