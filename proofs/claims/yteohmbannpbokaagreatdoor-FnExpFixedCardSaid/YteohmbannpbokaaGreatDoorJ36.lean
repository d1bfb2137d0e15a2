/-
 Numbers in words and in halves of words: a plain law, with no program in sight.
 The thin package's digits of a whole number of any length.
-/
import Derived.Test.YteohmbannpbokaaGreatDoorJ20
import Derived.Test.YteohmbannpbokaaGreatDoorJ35
import Derived.Test.YteohmbannpbokaaGreatDoorJ03
import Derived.Lib.VarintBits
import Derived.Test.YteohmbannpbokaaGreatDoorJ08
import Derived.RegionTactic
import Derived.BigRegion
import Derived.ChangeAlike
set_option linter.unusedVariables false
set_option linter.unusedSimpArgs false
namespace Go.Proofs.YteohmbannpbokaaGreatDoor.BigLaw
open Go.RowKit Go.Proofs.YteohmbannpbokaaGreatDoorW.PrintWords Go.Proofs.YteohmbannpbokaaGreatDoor.StrLaw Go.Proofs.YteohmbannpbokaaGreatDoor.TextLaw
theorem and32 (x : Int) (h0 : 0 ≤ x) (h1 : x ≤ 18446744073709551615) : bits .and .u64 x 4294967295 = x % 4294967296 := by
 have h := bits_mask .u64 64 (by decide) wraps_u64 32 (by decide) x h0 (by omega)
 simpa using h
theorem or_lo (y x : Int) (h0 : 0 ≤ y) (h1 : y < 4294967296) (h2 : 0 ≤ x) (h3 : x % 4294967296 = 0) (h4 : x < 18446744073709551616) : bits .or .u64 y x = y + x :=
 bits_join_low .u64 64 (by decide) wraps_u64 32 y x h0 (by omega) (by omega) h2 (by omega) (by omega)
theorem or_hi (x y : Int) (h0 : 0 ≤ y) (h1 : y < 4294967296) (h2 : 0 ≤ x) (h3 : x % 4294967296 = 0) (h4 : x < 18446744073709551616) : bits .or .u64 x y = x + y :=
 bits_join .u64 64 (by decide) wraps_u64 32 x y h2 (by omega) (by omega) h0 (by omega) (by omega)
theorem w2 : (18446744073709551616 : Int) = 4294967296 * 4294967296 := by decide
theorem pw2 (i : Nat) : (18446744073709551616 : Int) ^ i = 4294967296 ^ (2 * i) := by rw [w2, Int.pow_mul]; congr 1
structure Halves (ws : List Int) (x : List Int) (i : Int) : Prop where
 mk :: (out : ∃ k : Nat, i = k ∧ k ≤ ws.length ∧ H32.Dig x ∧ x.length = 2 * k ∧ H32.val x = W64.val (ws.take k))
theorem Halves.start (ws : List Int) : Halves ws [] 0 := ⟨0, rfl, Nat.zero_le _, H32.Dig.nil, rfl, by simp [H32.val, W64.val]⟩
theorem Halves.bound {ws x : List Int} {i : Int} (h : Halves ws x i) : 0 ≤ i ∧ i ≤ ws.length ∧ (x.length : Int) = 2 * i := by
 obtain ⟨k, rfl, h1, _, h3, _⟩ := h
 omega
theorem Halves.step {ws x : List Int} {i : Int} (h : Halves ws x i) (hd : W64.Dig ws) (hi : i < ws.length) : Halves ws (x ++ [rd ws i % 4294967296, rd ws i / 4294967296]) (i + 1) := by
 obtain ⟨k, rfl, h1, h2, h3, h4⟩ := h
 have hw := W64.dig_rd hd (k : Int)
 refine ⟨k + 1, by omega, by omega, h2.append (H32.Dig.cons ⟨by omega, by omega⟩ (H32.Dig.cons ⟨by omega, by omega⟩ H32.Dig.nil)), by simp [h3]; omega, ?_⟩
 rw [W64.val_take_succ (by omega), H32.val_append, h4, h3, pw2]
 simp only [H32.val]
 generalize rd ws (k : Int) = w at *
 generalize (4294967296 : Int) ^ (2 * k) = P at *
 have : w % 4294967296 + 4294967296 * (w / 4294967296 + 4294967296 * 0) = w := by omega
 rw [this, Int.mul_comm]
theorem Halves.done {ws x : List Int} {i : Int} (h : Halves ws x i) (hi : ¬ i < ws.length) : H32.Dig x ∧ H32.val x = W64.val ws ∧ x.length = 2 * ws.length := by
 obtain ⟨k, rfl, h1, h2, h3, h4⟩ := h
 obtain rfl : k = ws.length := by omega
 rw [List.take_length] at h4
 exact ⟨h2, h4, h3⟩
theorem val_drop {l : List Int} {s : Nat} (h : s < l.length) : H32.val (l.drop s) = rd l s + 4294967296 * H32.val (l.drop (s + 1)) := by
 rw [List.drop_eq_getElem_cons h, H32.val, H32.rd_lt h]
structure DivK (x y : List Int) (r t : Int) : Prop where
 mk :: (out : ∃ k : Nat, t = (k : Int) - 1 ∧ k ≤ x.length ∧ y.length = x.length ∧ H32.Dig y ∧ (∀ j : Nat, j < k → rd y j = rd x j) ∧ 0 ≤ r ∧ r < 1000000000 ∧ H32.val (y.drop k) * 1000000000 + r = H32.val (x.drop k))
theorem DivK.start {x : List Int} (hd : H32.Dig x) : DivK x x 0 ((x.length : Int) - 1) :=
 ⟨x.length, rfl, Nat.le_refl _, rfl, hd, fun _ _ => rfl, by omega, by omega, by simp [H32.val]⟩
theorem DivK.bound {x y : List Int} {r t : Int} (h : DivK x y r t) : -1 ≤ t ∧ t < x.length ∧ y.length = x.length ∧ 0 ≤ r ∧ r ≤ 999999999 := by
 obtain ⟨k, rfl, h1, h2, _, _, h5, h6, _⟩ := h
 omega
theorem DivK.step {x y : List Int} {r t : Int} (h : DivK x y r t) (hx : H32.Dig x) (ht : 0 ≤ t) {c : Int} (hc : c = rd y t + r * 4294967296) :
   DivK x (y.set t.toNat (c / 1000000000)) (c % 1000000000) (t - 1) ∧ 0 ≤ c ∧ c ≤ 4294967296000000000 := by
 obtain ⟨k, rfl, h1, h2, h3, h4, h5, h6, h7⟩ := h
 obtain ⟨s, rfl⟩ : ∃ s, k = s + 1 := ⟨k - 1, by omega⟩
 have e : ((s + 1 : Nat) : Int) - 1 = (s : Int) := by omega
 rw [e] at hc ⊢
 have hxs := H32.dig_rd hx (s : Int)
 have hys := h4 s (by omega)
 have hcb : 0 ≤ c ∧ c ≤ 4294967296000000000 := by rw [hc, hys]; omega
 refine ⟨⟨s, rfl, by omega, by simpa using h2, h3.set _ (by omega), fun j hj => ?_, by omega, by omega, ?_⟩, hcb⟩
 · rw [show ((s : Int)).toNat = s by omega, H32.rd_set_ne (by omega)]
   exact h4 j (by omega)
 · rw [show ((s : Int)).toNat = s by omega]
   have hlen : s < (y.set s (c / 1000000000)).length := by simp; omega
   rw [val_drop hlen, val_drop (l := x) (by omega), H32.rd_set_self (by omega)]
   have hds : (y.set s (c / 1000000000)).drop (s + 1) = y.drop (s + 1) := by
     rw [List.drop_set]; simp
   rw [hds, ← h7, ← hys]
   generalize H32.val (y.drop (s + 1)) = V at *
   omega
theorem DivK.done {x y : List Int} {r t : Int} (h : DivK x y r t) (ht : ¬ 0 ≤ t) : H32.Dig y ∧ y.length = x.length ∧ H32.val y = H32.val x / 1000000000 ∧ r = H32.val x % 1000000000 := by
 obtain ⟨k, rfl, h1, h2, h3, h4, h5, h6, h7⟩ := h
 obtain rfl : k = 0 := by omega
 simp only [List.drop_zero] at h7
 refine ⟨h3, h2, by omega, by omega⟩
theorem take_zero {l : List Int} (hp : 0 < l.length) (hz : rd l ((l.length : Int) - 1) = 0) : H32.val (l.take (l.length - 1)) = H32.val l := by
 obtain ⟨m, hm⟩ : ∃ m, l.length = m + 1 := ⟨l.length - 1, by omega⟩
 rw [hm, show ((m + 1 : Nat) : Int) - 1 = (m : Int) by omega] at hz
 have h := H32.val_take_succ (l := l) (i := m) (by omega)
 rw [hz, ← hm, List.take_length] at h
 rw [hm, Nat.add_sub_cancel]
 omega
theorem top_pos {l : List Int} (hd : H32.Dig l) (hp : 0 < l.length) (hz : ¬ rd l ((l.length : Int) - 1) = 0) : 0 < H32.val l := by
 obtain ⟨m, hm⟩ : ∃ m, l.length = m + 1 := ⟨l.length - 1, by omega⟩
 rw [hm, show ((m + 1 : Nat) : Int) - 1 = (m : Int) by omega] at hz
 have h := H32.val_take_succ (l := l) (i := m) (by omega)
 rw [← hm, List.take_length] at h
 have h0 := H32.val_nonneg (hd.take m)
 have h1 := H32.dig_rd hd (m : Int)
 have h2 : 0 < rd l (m : Int) * 4294967296 ^ m := Int.mul_pos (by omega) (H32.pw_pos m)
 omega
structure Outl (N : Nat) (i : Int) (x l : List Int) : Prop where
 mk :: (out : Out N i x) (dig : H32.Dig l) (val : H32.val l = ((N / 1000000000 ^ i.toNat : Nat) : Int)) (pos : 0 < l.length ↔ i < (Digs.digs N).length)
structure Trimd (M : Nat) (l : List Int) : Prop where
 mk :: (dig : H32.Dig l) (val : H32.val l = (M : Int))
theorem Trimd.of_div {N : Nat} {i : Int} {x l y : List Int} {r t : Int} (h : Outl N i x l) (hi : 0 ≤ i) (hd : DivK l y r t) (ht : ¬ 0 ≤ t) : Trimd (N / 1000000000 ^ (i.toNat + 1)) y ∧ r = rd (Digs.digs N) i := by
 obtain ⟨h1, h2, h3, h4⟩ := hd.done ht
 rw [h.val] at h3 h4
 obtain ⟨a, rfl⟩ := Int.eq_ofNat_of_zero_le hi
 rw [Int.toNat_natCast] at h3 h4 ⊢
 refine ⟨⟨h1, ?_⟩, ?_⟩
 · rw [h3, Nat.pow_succ, ← Nat.div_div_eq_div_mul]; rfl
 · rw [h4, StrLaw.rd_digs]; rfl
theorem Trimd.step {M : Nat} {l : List Int} (h : Trimd M l) (hp : 0 < l.length) (hz : rd l ((l.length : Int) - 1) = 0) : Trimd M (l.take (l.length - 1)) := ⟨h.dig.take _, by rw [take_zero hp hz]; exact h.val⟩
theorem Trimd.done {M : Nat} {l : List Int} (h : Trimd M l) (hz : ¬ (0 < l.length ∧ rd l ((l.length : Int) - 1) = 0)) : 0 < l.length ↔ 0 < M := by
 constructor
 · intro hp
   have := top_pos h.dig hp (fun h0 => hz ⟨hp, h0⟩)
   have := h.val
   omega
 · intro hM
   apply Classical.byContradiction
   intro hp
   have : l = [] := List.eq_nil_of_length_eq_zero (by omega)
   subst this
   have := h.val
   simp [H32.val] at this
   omega
theorem Outl.next {N : Nat} {i : Int} {x l : List Int} (hi : 0 ≤ i) (ho : Out N (i + 1) x) (h : Trimd (N / 1000000000 ^ (i.toNat + 1)) l) (hp : 0 < l.length ↔ 0 < N / 1000000000 ^ (i.toNat + 1)) : Outl N (i + 1) x l := by
 obtain ⟨a, rfl⟩ := Int.eq_ofNat_of_zero_le hi
 rw [Int.toNat_natCast] at h hp
 refine ⟨ho, h.dig, ?_, ?_⟩
 · rw [h.val, show ((a : Int) + 1).toNat = a + 1 by omega]
 · rw [hp, ← len_digs_iff]; omega
end Go.Proofs.YteohmbannpbokaaGreatDoor.BigLaw
namespace Go.Proofs.YteohmbannpbokaaGreatDoor.BigWalk
open Go.RowKit Go.Proofs.YteohmbannpbokaaGreatDoorW.PrintWords Go.Proofs.YteohmbannpbokaaGreatDoorW.PrintLast Go.Proofs.YteohmbannpbokaaGreatDoorW.PrintMore Go.Proofs.YteohmbannpbokaaGreatDoor.SpecWalk Go.Proofs.YteohmbannpbokaaGreatDoor.StrLaw Go.Proofs.YteohmbannpbokaaGreatDoor.TextLaw Go.Proofs.YteohmbannpbokaaGreatDoor.BigLaw
theorem R_other {k k' : IntKind} {e e' base base' : Nat} {w w1 : World} {ok ok' : Nat → Prop} {v v' : Value} {xs ys : List Int} (h : (Kd.int k).R e w base ok v xs) (h' : (Kd.int k').R e' w base' ok' v' ys) (hne : e ≠ e') (hg : w.grownBy w1 v'.ownBlock) : (Kd.int k).R e w1 base (fun _ => True) v xs := by
 have ho := Kd.own_of_R h
 have ho' := Kd.own_of_R h'
 exact Kd.R_of_own (ho.kept hg (own_type_ne ho ho' hne)) (fun _ _ => trivial)
theorem infoH : (Tryz.prog.info? 79).map (fun i => (i.zero, i.size, i.bytes)) = some (some (.int .u64 0), 1, 8) := by kernel_rfl
theorem infoB : (Tryz.prog.info? 5).map (fun i => (i.zero, i.size, i.bytes)) = some (some (.int .u8 0), 1, 1) := by kernel_rfl
theorem minus_top {n : Nat} (h : n ≠ 0) : stext true n = strOfNums ([45].reverse ++ (dbyt n (nd n)).reverse) := by
 show minus (text n) = _
 rw [← text_top h]
 rfl
theorem len_words (N : Nat) : (Digs.digs N).length ≤ 3 * (W64.digs N).length := by
 have h1 := W64.lt_of_len N
 generalize (W64.digs N).length = L at *
 refine Digs.len_digs_le (Nat.lt_of_lt_of_le h1 ?_)
 rw [Nat.pow_mul]
 exact Nat.pow_le_pow_left (by decide) L
set_option maxHeartbeats 8000000 in
set_option maxRecDepth 100000 in
theorem digits_n (g : Nat) (b : Bool) (N : Nat) (ok : Nat → Prop) (w : World) (h : Big w ok g b N) (hsg : sgn b N = b) (hN : (W64.digs N).length ≤ 10000) :
   Calls Tryz.prog 27 #[.pointer (some ⟨g, 0, none⟩)] w fun e w' => e = .returned (.string (stext b N)) ∧ Below w.heap.size w w' := by
 have HBG := Aside0.mk h
 have HSG := Aside0.mk (fun w h => (ISign_n g b N ok w h).mono (fun e w' h => And.intro h.1 h.2.symm))
 obtain ⟨v, hB, hv⟩ := h.out
 obtain ⟨A, c, rfl, _, hC⟩ := hv.form
 have HBT := Aside0.mk ((Bits_n g b _ w hB A _ c rfl).mono (fun e w' h => And.intro h.1 h.2.symm))
 have HC := Aside0.mk hC
 have HD := Aside0.mk (W64.dig_digs N)
 have HV := Aside0.mk (W64.val_digs N)
 have hl0 : ((W64.digs N).length : Int) ≤ 10000 := by omega
 have HN := Aside0.mk hN
 have HSB := Aside0.mk hsg
 have HDL := Aside0.mk (show (Digs.digs N).length ≤ 30000 by have := len_words N; omega)
 have HB := Aside0.mk (Below.refl w.heap.size w)
 clear h hB hv hC hN hsg
 go_enter Tryz.func27, Tryz.ntmps27
 go_wp2_with (go_at_call 51; refine HBT.out.mono ?_; rintro e w1 ⟨rfl, rfl⟩)
 go_loopg [3, 15] (W64.digs N).length (fun gg v3 v15 w' => ∃ (x : List Int) (i : Int), v15 = .int .i64 i ∧ Halves (W64.digs N) x i ∧ Aside0 (i + (gg : Int) = ((W64.digs N).length : Int)) ∧ Aside0 (Kd.R (Kd.int .u64) 79 w' w.heap.size (fun _ => True) v3 x) ∧ Aside0 (Below w.heap.size w w'))
 case atStart => exact ⟨[], 0, rfl, Halves.start _, ⟨by simp⟩, ⟨Kd.R_nil _ _ _ _ _⟩, HB⟩
 case round =>
   clear HB
   obtain ⟨x, i, rfl, HI, HG, HO, HB⟩ := hrel
   obtain ⟨i0, i1, hlx⟩ := HI.bound
   by_cases hi : i < ((W64.digs N).length : Int)
   · obtain ⟨ad, e0, hx⟩ := Kd.at_int HC.out i i0 hi
     cases e0
     replace hx := (HB.out.cell (World.block_lt_of_cell? w _ hx)).trans hx
     have HST := Aside0.mk (HI.step HD.out hi)
     obtain ⟨y0, y1⟩ := W64.dig_rd HD.out i
     generalize rd (W64.digs N) i = y at *
     have hand := and32 y y0 (by omega)
     have HX := Aside0.mk hlx
     have HBr := Aside0.mk (Below.refl wr.heap.size wr)
     clear HI hlx
     go_wp2_with (first | ((with_reducible refine gate_dst (N := 24) rfl ?_); refine Kd.R_lit (Kd.int .u64) (w0 := wr) wr.heap.size 79 ?hg (N := 24) ?hd (xs := [y % 4294967296, y / 4294967296]) (inner := [.int .u64 (y % 4294967296), .int .u64 (y / 4294967296)]) (ok := fun _ => True) (okp := fun _ => False) ?hr ?hp (fun _ hk => hk.elim) trivial HBr.out (Nat.le_refl _) (by simp) ?_; (case hd => rfl); (case hg => rfl); (case hr => first | (go_simp; done) | (go_simp; rfl)); (case hp => exact (Reps.one (show Kd.M (Kd.int .u64) _ _ _ (y % 4294967296) [.int .u64 (y % 4294967296)] from rfl) (Reps.one (show Kd.M (Kd.int .u64) _ _ _ (y / 4294967296) [.int .u64 (y / 4294967296)] from rfl) (Reps.none _ _)))); intro v6 w6 ho hb hg_ hnew_; have HL := Aside0.mk ho; have HO6 := Aside0.mk (Kd.R_below HO.out hb); have HB6 := Aside0.mk (below_step HB.out hb); clear hg_ hnew_ ho hb; obtain ⟨A6, c6, rfl⟩ := Kd.R_slice HL.out) | ((with_reducible refine gate_builtin (b := .append) (xs := #[.tmp 19, .tmp 24]) rfl ?_); at_builtin; refine Kd.R_append_rows (Kd.int .u64) (w0 := w) w.heap.size rfl (.tmp 19) (.tmp 24) 88 79 (.int .u64 0) 8 rfl Tryz.underlying88 infoH rfl (by decide) (by omega) u3 x [y % 4294967296, y / 4294967296] _ _ _ (fun _ => True) (fun _ => False) rfl rfl HO6.out (Kd.R_reads' HL.out).2.2 (fun _ _ h => h) (fun _ h => h.elim) (fun _ _ => trivial) HB6.out (below_size HB6.out) (by have := HX.out; simp; omega) ?_; intro v8 w8 ho hb hg hat; have HO8 := Aside0.mk ho; have HB8 := Aside0.mk hb; clear ho hb hg hat))
     go_roundg (gk - 1)
     case measure => have := HG.out; omega
     case rel => exact ⟨_, i + 1, rfl, HST.out, ⟨by have := HG.out; omega⟩, HO8, HB8⟩
   · obtain ⟨hdx, hvx, hlx2⟩ := HI.done hi
     rw [W64.val_digs] at hvx
     have hpos : 0 < x.length ↔ (0 : Int) < (Digs.digs N).length := by
       rw [hlx2]
       by_cases h0 : N = 0
       · subst h0; rw [W64.digs_zero, Digs.digs_zero]; simp
       · have h1 := W64.len_pos h0
         have h2 := Digs.len_pos h0
         omega
     have HOL := Outl.mk (Out.start N) hdx (by simpa using hvx) hpos
     have HXL := Aside0.mk hlx2
     clear HI hdx hvx hpos i0 i1 hlx hlx2 HC HD HV
     go_wp2
     have HBo := HB
     have HOo := HO
     clear HB HO HG
     go_loopg [3, 6] (Digs.digs N).length (fun gg v3 v6 w' => ∃ (x l : List Int) (i : Int), Outl N i x l ∧ Aside0 (i + (gg : Int) = ((Digs.digs N).length : Int) ∧ l.length ≤ 20000) ∧ Aside0 (Kd.R (Kd.int .u64) 79 w' w.heap.size (fun _ => True) v3 l) ∧ Aside0 (Kd.R (Kd.int .u8) 5 w' w.heap.size (fun _ => True) v6 x) ∧ Aside0 (Below w.heap.size w w'))
     case atStart => exact ⟨[], x, 0, HOL, ⟨by simp, by have := HN.out; have := HXL.out; omega⟩, HOo, ⟨Kd.R_nil _ _ _ _ _⟩, HBo⟩
     case round =>
       clear HOL HBo HOo HXL hi
       obtain ⟨x, l, i, HI, HG, HL, HO, HB⟩ := hrel
       obtain ⟨i0, i1, hxl⟩ := HI.out.bound
       have HXB := Aside0.mk hxl
       clear hxl
       obtain ⟨Al, cl, el⟩ := Kd.R_slice HL.out
       subst el
       by_cases hp : 0 < l.length
       · have hi := HI.pos.1 hp
         obtain ⟨gl, cl', el, hgl, hgl2, cells, hcells⟩ := Kd.R_form HL.out hp
         injection el with ea en ec
         subst ea ec
         clear en
         have HGL := Aside0.mk (And.intro hgl hgl2)
         have HCE := Aside0.mk hcells
         have HPI := Aside0.mk (And.intro hp hi)
         have hll : (l.length : Int) ≤ 20000 := by have := HG.out.2; omega
         have hdl : decide (0 < l.length) = true := decide_eq_true hp
         obtain ⟨wo, rfl⟩ : ∃ wo : World, wo = wr := ⟨_, rfl⟩
         obtain ⟨G0, rfl⟩ : ∃ G0, G0 = gk := ⟨_, rfl⟩
         clear hgl hgl2 hcells
         go_wp2
         have HLo := HL
         have HOo := HO
         have HBo := HB
         clear HL HO HB
         go_loopg [7, 8] l.length (fun gg v7 v8 w' => ∃ (y : List Int) (r t : Int), v7 = .int .u64 r ∧ v8 = .int .i64 t ∧ DivK l y r t ∧ Aside0 (t + 1 = (gg : Int)) ∧ Aside0 (Kd.R (Kd.int .u64) 79 w' w.heap.size (fun _ => True) (.slice (some ⟨gl, 0, none⟩) l.length cl) y) ∧ Aside0 (Kd.R (Kd.int .u8) 5 w' w.heap.size (fun _ => True) u6 x) ∧ Aside0 (Below w.heap.size w w'))
         case atStart => exact ⟨l, 0, (l.length : Int) - 1, rfl, rfl, DivK.start HI.dig, ⟨by simp⟩, HLo, HOo, HBo⟩
         case round =>
           clear HLo HOo HBo
           obtain ⟨y, r, t, rfl, rfl, HJ, HK, HL, HO, HB⟩ := hrel
           obtain ⟨t0, t1, hyl, r0, r1⟩ := HJ.bound
           by_cases ht : 0 ≤ t
           · obtain ⟨hcy, hfy⟩ := Kd.R_celln 0 HL.out t ht t1
             have hyd := HJ.bound
             obtain ⟨C, hC⟩ : ∃ C : Int, C = rd y t + r * 4294967296 := ⟨_, rfl⟩
             obtain ⟨HJ2, hC0, hC1⟩ := HJ.step HI.dig ht hC
             have hz : 0 ≤ rd y t ∧ rd y t < 4294967296 := by
               obtain ⟨k, _, _, _, hdy, _⟩ := HJ.out
               exact H32.dig_rd hdy t
             obtain ⟨z0, z1⟩ := hz
             have hor : bits .or .u64 (r * 4294967296) (rd y t) = C := by rw [or_hi _ _ z0 z1 (by omega) (by omega) (by omega), hC]; omega
             have HPU := Kd.R_putg HL.out t (C / 1000000000)
             have HJJ := Aside0.mk HJ2
             have HP1 := Aside0.mk HPU.1
             have HO2 := Aside0.mk (R_other HO.out HL.out (by decide) HPU.2)
             change _ = some (Value.int .u64 (rd y t)) at hcy
             clear HJ HJ2 HPU hC hyd
             generalize rd y t = z at *
             go_wp2
             go_roundg (gk - 1)
             case measure => have := HK.out; omega
             case rel => exact ⟨_, C % 1000000000, t - 1, rfl, rfl, HJJ.out, ⟨by have := HK.out; omega⟩, HP1, HO2, ⟨HB.out.setCell HGL.out.1 _⟩⟩
           · obtain ⟨HTD, hr⟩ := Trimd.of_div HI i0 HJ ht
             have HTD0 := Aside0.mk HTD
             have HR := Aside0.mk hr
             have HYL := Aside0.mk hyl
             have HLo := Aside0.mk (show Kd.R (Kd.int .u64) 79 wr w.heap.size (fun _ => True) (.slice (some ⟨gl, 0, none⟩) y.length cl) y by rw [hyl]; exact HL.out)
             have HOo := HO
             have HBo := HB
             have htl : (y.length : Int) ≤ 20000 := by omega
             clear HJ HTD hr hyl HL HO HB
             rw [← HYL.out] at *
             go_wp2
             go_loopg [3] y.length (fun gg v3 w' => ∃ l2 : List Int, v3 = .slice (some ⟨gl, 0, none⟩) l2.length cl ∧ Trimd (N / 1000000000 ^ (i.toNat + 1)) l2 ∧ Aside0 (l2.length = gg ∧ l2.length ≤ 20000) ∧ Aside0 (Kd.R (Kd.int .u64) 79 w' w.heap.size (fun _ => True) (.slice (some ⟨gl, 0, none⟩) l2.length cl) l2) ∧ Aside0 (Kd.R (Kd.int .u8) 5 w' w.heap.size (fun _ => True) u6 x) ∧ Aside0 (Below w.heap.size w w'))
             case atStart => exact ⟨y, rfl, HTD0.out, ⟨rfl, by omega⟩, HLo, HOo, HBo⟩
             case round =>
               clear HLo HOo HBo HTD0
               obtain ⟨l2, rfl, HT, HM, HL, HO, HB⟩ := hrel
               have hl2 : (l2.length : Int) ≤ 20000 := by have := HM.out.2; omega
               by_cases hz2 : 0 < l2.length ∧ rd l2 ((l2.length : Int) - 1) = 0
               · obtain ⟨hp2, hz⟩ := hz2
                 obtain ⟨hcz, hfz⟩ := Kd.R_celln 0 HL.out ((l2.length : Int) - 1) (by omega) (by omega)
                 change _ = some (Value.int .u64 (rd l2 ((l2.length : Int) - 1))) at hcz
                 rw [hz] at hcz
                 have HT2 := Aside0.mk (HT.step hp2 hz)
                 have HL2 := Aside0.mk (Kd.R_take HL.out (Nat.sub_le l2.length 1))
                 have htk : (l2.take (l2.length - 1)).length = l2.length - 1 := by rw [List.length_take]; omega
                 have HTK := Aside0.mk htk
                 have e1 : ((l2.length : Int) - 1).toNat = l2.length - 1 := by omega
                 rw [e1] at hcz hfz
                 have hp3 : 1 ≤ l2.length := hp2
                 have hdp : decide (0 < l2.length) = true := decide_eq_true hp2
                 have hcap : (l2.length : Int) - 1 ≤ (cl : Int) := by have := (Kd.R_reads' HL.out).2.1; omega
                 clear HT hz htk e1
                 go_wp2
                 go_roundg (gk - 1)
                 case measure => have := HM.out.1; omega
                 case rel => exact ⟨l2.take (l2.length - 1), by rw [HTK.out], HT2.out, ⟨by rw [HTK.out]; have := HM.out.1; omega, by rw [HTK.out]; omega⟩, ⟨by rw [HTK.out]; exact HL2.out⟩, HO, HB⟩
               · have HPN := Aside0.mk (HT.done hz2)
                 have HTT := Aside0.mk HT
                 have hguard : Aside0 (0 < l2.length → ∃ X : Int, rd l2 ((l2.length : Int) - 1) = X ∧ ¬ X = 0) := ⟨fun h => ⟨_, rfl, fun h0 => hz2 ⟨h, h0⟩⟩⟩
                 have HLo := HL
                 have HOo := HO
                 have HBo := HB
                 clear HT hz2 HL HO HB
                 by_cases hp2 : 0 < l2.length
                 · obtain ⟨X, hX, hX0⟩ := hguard.out hp2
                   obtain ⟨hcz, hfz⟩ := Kd.R_celln 0 HLo.out ((l2.length : Int) - 1) (by omega) (by omega)
                   change _ = some (Value.int .u64 (rd l2 ((l2.length : Int) - 1))) at hcz
                   rw [hX] at hcz
                   have e1 : ((l2.length : Int) - 1).toNat = l2.length - 1 := by omega
                   rw [e1] at hcz hfz
                   have hdp : decide (0 < l2.length) = true := decide_eq_true hp2
                   have hXb : (X == 0) = false := beq_eq_false_iff_ne.mpr hX0
                   clear e1 hX hX0 hguard
                   go_wp2
                   clear hcz hfz
                   have HIN := Aside0.mk (HI.out.inn HPI.out.2)
                   rw [← HR.out] at HIN
                   have hlast := HPN.out
                   go_loopg [6, 7, 9] 9 (fun gg v6 v7 v9 w' => ∃ (x2 : List Int) (c k : Int), v7 = .int .u64 c ∧ v9 = .int .i64 k ∧ Inn N i k c x2 ∧ Aside0 (k + (gg : Int) = 9) ∧ Aside0 (Kd.R (Kd.int .u64) 79 w' w.heap.size (fun _ => True) (.slice (some ⟨gl, 0, none⟩) l2.length cl) l2) ∧ Aside0 (Kd.R (Kd.int .u8) 5 w' w.heap.size (fun _ => True) v6 x2) ∧ Aside0 (Below w.heap.size w w'))
                   case atStart => exact ⟨x, r, 0, rfl, rfl, HIN.out, ⟨by simp⟩, HLo, HOo, HBo⟩
                   case round =>
                     clear HLo HOo HBo HIN hlast
                     obtain ⟨x2, c, k, rfl, rfl, HJ, HG2, HL, HO, HB⟩ := hrel
                     obtain ⟨q1, q2', k1, k2, c1, c2, q3⟩ := HJ.bound
                     have HX2 := Aside0.mk q3
                     clear q1 q2' q3
                     by_cases hk : k < 9
                     · by_cases hc : 0 < c
                       · have HST := Aside0.mk (HJ.step hk (.inl hc))
                         have hcb : (c != 0) = true := bne_iff_ne.mpr (by omega)
                         clear HJ
                         go_wp2_with (first | ((with_reducible refine gate_builtin (b := .append) (xs := #[.tmp 81, .tmp 86]) rfl ?_); at_builtin; refine Kd.R_append (Kd.int .u8) (w0 := w) w.heap.size rfl (.tmp 81) (.tmp 86) 77 5 (.int .u8 0) 1 rfl Tryz.underlying77 infoB rfl (by decide) (by omega) u6 x2 (48 + c % 10) [.int .u8 (48 + c % 10)] (fun _ => True) (fun _ => False) rfl rfl ?aP (fun _ hk => hk.elim) ?aF ?aO ?aB ?aS ?aL ?_; (case aP => exact rfl); (case aB => exact HB.out); (case aF => exact (fun _ _ => trivial)); (case aO => exact HO.out); (case aS => exact below_size HB.out); (case aL => (have := HX2.out; have := HDL.out; omega)); intro v1 w1 ho hb hg hat; have HO1 := Aside0.mk ho; have HB1 := Aside0.mk hb; have HL1 := Aside0.mk (R_other HL.out HO.out (by decide) hg); clear HB HO HL ho hb hg hat))
                         go_roundg (gk - 1)
                         case measure => have := HG2.out; omega
                         case rel => exact ⟨_, _, k + 1, rfl, rfl, HST.out, ⟨by have := HG2.out; omega⟩, HL1, HO1, HB1⟩
                       · have hcb : (c != 0) = false := bne_eq_false_iff_eq.mpr (by omega)
                         have HST := Aside0.mk (HJ.step hk (.inr (by have h := HPN.out.1 hp2; have h2 := (len_digs_iff N (i.toNat + 1)).2 h; omega)))
                         clear HJ
                         go_wp2_with (first | ((with_reducible refine gate_builtin (b := .append) (xs := #[.tmp 81, .tmp 86]) rfl ?_); at_builtin; refine Kd.R_append (Kd.int .u8) (w0 := w) w.heap.size rfl (.tmp 81) (.tmp 86) 77 5 (.int .u8 0) 1 rfl Tryz.underlying77 infoB rfl (by decide) (by omega) u6 x2 (48 + c % 10) [.int .u8 (48 + c % 10)] (fun _ => True) (fun _ => False) rfl rfl ?aP (fun _ hk => hk.elim) ?aF ?aO ?aB ?aS ?aL ?_; (case aP => exact rfl); (case aB => exact HB.out); (case aF => exact (fun _ _ => trivial)); (case aO => exact HO.out); (case aS => exact below_size HB.out); (case aL => (have := HX2.out; have := HDL.out; omega)); intro v1 w1 ho hb hg hat; have HO1 := Aside0.mk ho; have HB1 := Aside0.mk hb; have HL1 := Aside0.mk (R_other HL.out HO.out (by decide) hg); clear HB HO HL ho hb hg hat))
                         go_roundg (gk - 1)
                         case measure => have := HG2.out; omega
                         case rel => exact ⟨_, _, k + 1, rfl, rfl, HST.out, ⟨by have := HG2.out; omega⟩, HL1, HO1, HB1⟩
                     · have HE := Aside0.mk (HJ.stop9 hk)
                       clear HJ
                       go_wp2
                       go_roundg (G0 - 1)
                       case measure => have := HG.out.1; have := HPI.out.2; omega
                       case rel => exact ⟨x2, l2, i + 1, Outl.next i0 HE.out HTT.out HPN.out, ⟨by have := HG.out.1; omega, by have := HM.out.2; omega⟩, ⟨HL.out⟩, HO, HB⟩
                 · have hnl : l2.length = 0 := by omega
                   have HNL := Aside0.mk hnl
                   generalize hq2 : l2.length = q2 at *
                   subst hnl
                   have HQ2 := Aside0.mk hq2
                   clear hguard hp2 hq2
                   go_wp2
                   have HIN := Aside0.mk (HI.out.inn HPI.out.2)
                   rw [← HR.out] at HIN
                   have hlast := HPN.out
                   go_loopg [6, 7, 9] 9 (fun gg v6 v7 v9 w' => ∃ (x2 : List Int) (c k : Int), v7 = .int .u64 c ∧ v9 = .int .i64 k ∧ Inn N i k c x2 ∧ Aside0 (k + (gg : Int) = 9) ∧ Aside0 (Kd.R (Kd.int .u64) 79 w' w.heap.size (fun _ => True) (.slice (some ⟨gl, 0, none⟩) 0 cl) l2) ∧ Aside0 (Kd.R (Kd.int .u8) 5 w' w.heap.size (fun _ => True) v6 x2) ∧ Aside0 (Below w.heap.size w w'))
                   case atStart => exact ⟨x, r, 0, rfl, rfl, HIN.out, ⟨by simp⟩, HLo, HOo, HBo⟩
                   case round =>
                     clear HLo HOo HBo HIN hlast
                     obtain ⟨x2, c, k, rfl, rfl, HJ, HG2, HL, HO, HB⟩ := hrel
                     obtain ⟨q1, q2', k1, k2, c1, c2, q3⟩ := HJ.bound
                     have HX2 := Aside0.mk q3
                     clear q1 q2' q3
                     by_cases hk : k < 9
                     · by_cases hc : 0 < c
                       · have HST := Aside0.mk (HJ.step hk (.inl hc))
                         have hcb : (c != 0) = true := bne_iff_ne.mpr (by omega)
                         clear HJ
                         go_wp2_with (first | ((with_reducible refine gate_builtin (b := .append) (xs := #[.tmp 81, .tmp 86]) rfl ?_); at_builtin; refine Kd.R_append (Kd.int .u8) (w0 := w) w.heap.size rfl (.tmp 81) (.tmp 86) 77 5 (.int .u8 0) 1 rfl Tryz.underlying77 infoB rfl (by decide) (by omega) u6 x2 (48 + c % 10) [.int .u8 (48 + c % 10)] (fun _ => True) (fun _ => False) rfl rfl ?aP (fun _ hk => hk.elim) ?aF ?aO ?aB ?aS ?aL ?_; (case aP => exact rfl); (case aB => exact HB.out); (case aF => exact (fun _ _ => trivial)); (case aO => exact HO.out); (case aS => exact below_size HB.out); (case aL => (have := HX2.out; have := HDL.out; omega)); intro v1 w1 ho hb hg hat; have HO1 := Aside0.mk ho; have HB1 := Aside0.mk hb; have HL1 := Aside0.mk (R_other HL.out HO.out (by decide) hg); clear HB HO HL ho hb hg hat))
                         go_roundg (gk - 1)
                         case measure => have := HG2.out; omega
                         case rel => exact ⟨_, _, k + 1, rfl, rfl, HST.out, ⟨by have := HG2.out; omega⟩, HL1, HO1, HB1⟩
                       · have hcb : (c != 0) = false := bne_eq_false_iff_eq.mpr (by omega)
                         have HE := Aside0.mk (HJ.stop0 hk hc (by intro h; have h2 := (len_digs_iff N (i.toNat + 1)).1 (by omega); have := HPN.out.2 h2; omega))
                         clear HJ
                         go_wp2
                         go_roundg (G0 - 1)
                         case measure => have := HG.out.1; have := HPI.out.2; omega
                         case rel => exact ⟨x2, l2, i + 1, Outl.next i0 HE.out HTT.out (by rw [HQ2.out]; exact HPN.out), ⟨by have := HG.out.1; omega, by have := HM.out.2; have := HQ2.out; omega⟩, ⟨HL.out⟩, HO, HB⟩
                     · have HE := Aside0.mk (HJ.stop9 hk)
                       clear HJ
                       go_wp2
                       go_roundg (G0 - 1)
                       case measure => have := HG.out.1; have := HPI.out.2; omega
                       case rel => exact ⟨x2, l2, i + 1, Outl.next i0 HE.out HTT.out (by rw [HQ2.out]; exact HPN.out), ⟨by have := HG.out.1; omega, by have := HM.out.2; have := HQ2.out; omega⟩, ⟨HL.out⟩, HO, HB⟩
       · have HXE := Aside0.mk (HI.out.done (fun h => hp (HI.pos.2 h)))
         have hl00 : l.length = 0 := by omega
         have hxb : x.length ≤ 270000 := by have := HXB.out; have := HDL.out; omega
         clear HI HG HXB i0 i1 hp
         generalize hl01 : l.length = l0 at *
         subst hl00
         clear hl01
         by_cases hN0 : N = 0
         · have hx0 : x.length = 0 := by rw [HXE.out, dbyt_len, hN0, nd_zero]
           have hbf : b = false := by have := HSB.out; rw [hN0] at this; rw [← this]; cases b <;> rfl
           have HRES : Aside0 (stext b N = ⟨#[48]⟩) := ⟨by rw [hN0, hbf]; rfl⟩
           obtain ⟨Ao, co, eo⟩ := Kd.R_slice HO.out
           subst eo
           clear hxb hN0 hbf
           generalize hx01 : x.length = x0 at *
           subst hx0
           clear hx01
           go_wp2
           go_ret
           exact ⟨by rw [HRES.out]; rfl, HB.out⟩
         · have hx0 : 0 < x.length := by rw [HXE.out, dbyt_len]; have := nd_zero_iff (n := N); omega
           have hxe : ((x.length : Int) == 0) = false := beq_eq_false_iff_ne.mpr (by omega)
           have hxi : (x.length : Int) ≤ 270000 := by omega
           have HSN := Aside0.mk (HSG.out wr (HBG.out.below HB.out))
           rw [if_neg hN0] at HSN
           have HX0 := Aside0.mk hx0
           have HXB := Aside0.mk hxb
           obtain ⟨Ao, co, eo⟩ := Kd.R_slice HO.out
           subst eo
           have hn0 := Aside0.mk hN0
           clear hxb hN0
           cases b
           · have HRES : Aside0 (stext false N = strOfNums x.reverse) := ⟨by rw [HXE.out]; exact (text_top hn0.out).symm⟩
             go_wp2_with (go_at_call 52; refine HSN.out.mono ?_; rintro e w1 ⟨rfl, rfl⟩)
             go_loopg [10, 11] x.length (fun gg v10 v11 w' => ∃ (y : List Int) (p q : Int), v10 = .int .i64 p ∧ v11 = .int .i64 q ∧ Aside0 (Rev x y p q) ∧ Aside0 (q - p < (gg : Int)) ∧ Aside0 (Kd.R (Kd.int .u8) 5 w' w.heap.size (fun _ => True) (.slice Ao x.length co) y) ∧ Aside0 (Below w.heap.size w w'))
             case atStart => exact ⟨x, 0, (x.length : Int) - 1, rfl, rfl, ⟨Rev.start x⟩, ⟨by  omega⟩, HO, HB⟩
             case round =>
               clear HO HB
               obtain ⟨y, p, q, rfl, rfl, HI, HG, HO, HB⟩ := hrel
               obtain ⟨hl, a0, b1, b2⟩ := HI.out.bound
               have HL := Aside0.mk hl
               clear hl
               by_cases hab : p < q
               · have hab2 := b2 hab
                 clear b2
                 have b0 : 0 ≤ q := by omega
                 have a1 : p < (x.length : Int) := by omega
                 obtain ⟨g0, c1, e1, gb, gl, cl, HC⟩ := Kd.R_form HO.out (by have := HL.out; omega)
                 injection e1 with ea en ec
                 subst ea
                 subst ec
                 clear en
                 have GB := Aside0.mk gb
                 clear HC cl gl gb
                 have hca := Kd.R_celln 0 HO.out p a0 a1
                 have hcb := Kd.R_celln 0 HO.out q b0 b1
                 obtain ⟨hca1, hca2⟩ := hca
                 obtain ⟨hcb1, hcb2⟩ := hcb
                 change _ = some (Value.int .u8 (rd y p)) at hca1
                 change _ = some (Value.int .u8 (rd y q)) at hcb1
                 go_wp2
                 go_region
                 go_wp2
                 go_roundg (gk - 1)
                 case measure => have := HG.out; omega
                 case rel => exact ⟨_, _, _, rfl, rfl, ⟨HI.out.step hab⟩, ⟨by have := HG.out; omega⟩, ⟨Kd.R_putn (Kd.R_putn (Kd.R_drew HO.out) p (rd y q)) q (rd y p)⟩, ⟨((HB.out.setCell GB.out _).setCell GB.out _).drew⟩⟩
               · have HE := HI.out.done hab
                 clear b2
                 subst HE
                 have hrd := (Kd.R_reads' HO.out).2.2
                 rw [← (Kd.R_reads' HO.out).1] at hrd
                 have hcv := Kd.C_string (P := Tryz.prog) (src := 77) (dst := 9) (c := co) Tryz.underlying77 Tryz.underlying5 Tryz.underlying9 hrd
                 have HRD := Aside0.mk hrd
                 clear hrd
                 go_wp2
                 go_ret
                 exact ⟨by rw [HRES.out]; rfl, HB.out⟩
           · have HRES : Aside0 (stext true N = strOfNums (x ++ [45]).reverse) := ⟨by rw [HXE.out, List.reverse_append]; exact minus_top hn0.out⟩
             go_wp2_with (first | (go_at_call 52; refine HSN.out.mono ?_; rintro e w1 ⟨rfl, rfl⟩) | ((with_reducible refine gate_builtin (b := .append) (xs := #[.tmp 96, .tmp 97]) rfl ?_); at_builtin; refine Kd.R_append (Kd.int .u8) (w0 := w) w.heap.size rfl (.tmp 96) (.tmp 97) 77 5 (.int .u8 0) 1 rfl Tryz.underlying77 infoB rfl (by decide) (by omega) _ x 45 [.int .u8 45] (fun _ => True) (fun _ => False) rfl rfl ?aP (fun _ hk => hk.elim) ?aF ?aO ?aB ?aS ?aL ?_; (case aP => exact rfl); (case aB => exact HB.out); (case aF => exact (fun _ _ => trivial)); (case aO => exact HO.out); (case aS => exact below_size HB.out); (case aL => (have := HXB.out; omega)); intro v1 w1 ho hb hg hat; have HO1 := Aside0.mk ho; have HB1 := Aside0.mk hb; obtain ⟨A2, c2, rfl⟩ := Kd.R_slice ho; clear HB HO ho hb hg hat))
             have HB := HB1
             have hxx : (x ++ [(45 : Int)]).length = x.length + 1 := by simp
             have HO := Aside0.mk (by have h := HO1.out; rw [hxx] at h; exact h)
             generalize x ++ [(45 : Int)] = X9 at *
             generalize hn9 : x.length + 1 = n9 at *
             have H9 := Aside0.mk hxx
             have HN9 := Aside0.mk hn9
             have hxi9 : (n9 : Int) ≤ 270001 := by omega
             have hx91 : 1 ≤ n9 := by omega
             clear HO1 HB1 hxx hn9
             go_loopg [10, 11] n9 (fun gg v10 v11 w' => ∃ (y : List Int) (p q : Int), v10 = .int .i64 p ∧ v11 = .int .i64 q ∧ Aside0 (Rev X9 y p q) ∧ Aside0 (q - p < (gg : Int)) ∧ Aside0 (Kd.R (Kd.int .u8) 5 w' w.heap.size (fun _ => True) (.slice A2 n9 c2) y) ∧ Aside0 (Below w.heap.size w w'))
             case atStart => exact ⟨X9, 0, x.length, rfl, rfl, ⟨by have h := Rev.start X9; rw [H9.out, show (n9 : Int) - 1 = (x.length : Int) by have := HN9.out; omega] at h; exact h⟩, ⟨by have := HN9.out; omega⟩, HO, HB⟩
             case round =>
               clear HO HB
               obtain ⟨y, p, q, rfl, rfl, HI, HG, HO, HB⟩ := hrel
               obtain ⟨hl, a0, b1, b2⟩ := HI.out.bound
               rw [H9.out] at hl b1 b2
               have HL := Aside0.mk hl
               clear hl
               by_cases hab : p < q
               · have hab2 := b2 hab
                 clear b2
                 have b0 : 0 ≤ q := by omega
                 have a1 : p < (n9 : Int) := by omega
                 obtain ⟨g0, c1, e1, gb, gl, cl, HC⟩ := Kd.R_form HO.out (by have := HL.out; omega)
                 injection e1 with ea en ec
                 subst ea
                 subst ec
                 clear en
                 have GB := Aside0.mk gb
                 clear HC cl gl gb
                 have hca := Kd.R_celln 0 HO.out p a0 a1
                 have hcb := Kd.R_celln 0 HO.out q b0 b1
                 obtain ⟨hca1, hca2⟩ := hca
                 obtain ⟨hcb1, hcb2⟩ := hcb
                 change _ = some (Value.int .u8 (rd y p)) at hca1
                 change _ = some (Value.int .u8 (rd y q)) at hcb1
                 go_wp2
                 go_region
                 go_wp2
                 go_roundg (gk - 1)
                 case measure => have := HG.out; omega
                 case rel => exact ⟨_, _, _, rfl, rfl, ⟨HI.out.step hab⟩, ⟨by have := HG.out; omega⟩, ⟨Kd.R_putn (Kd.R_putn (Kd.R_drew HO.out) p (rd y q)) q (rd y p)⟩, ⟨((HB.out.setCell GB.out _).setCell GB.out _).drew⟩⟩
               · have HE := HI.out.done hab
                 clear b2
                 subst HE
                 have hrd := (Kd.R_reads' HO.out).2.2
                 rw [← (Kd.R_reads' HO.out).1] at hrd
                 have hcv := Kd.C_string (P := Tryz.prog) (src := 77) (dst := 9) (c := c2) Tryz.underlying77 Tryz.underlying5 Tryz.underlying9 hrd
                 have HRD := Aside0.mk hrd
                 clear hrd
                 go_wp2
                 go_ret
                 exact ⟨by rw [HRES.out]; rfl, HB.out⟩
end Go.Proofs.YteohmbannpbokaaGreatDoor.BigWalk
