/-
 The reference's quotient and remainder of two numbers.
 The reference's quotient and remainder of two numbers, the divisor of several limbs.
 Words for this claim.
-/
import Derived.Test.YteohmbannpbokaaGreatDoorJ12
import Derived.Test.YteohmbannpbokaaGreatDoorProg
import Derived.Below
import Derived.Deep.Draws
import Derived.Deep.AppendLies
import Derived.Maps.AppendAt
import Derived.OwnWalk
import Derived.Laws.BytesArg
import Derived.Laws.MakeOwn
import Derived.Laws.OwnMore
import Derived.Deep.OwnRows
import Derived.Tactics
import Derived.Lib.ConvBytes
import Derived.Laws.Slices
import Derived.WalkKit
import Derived.KernelRfl
import Derived.RowKit3
import Derived.Deep.LoopGhost
import Derived.Deep.QuietTactic
import Derived.BigQuiet
import Derived.WideLaws
import Derived.Deep.DeepCutAuto
import Derived.Deep.CutBlock
import Derived.Deep.RegionHeld3
import Derived.Laws.Rows
import Derived.Lib.AppendStr
import Derived.ArgAppend
import Derived.Laws.IdiomCopy
import Derived.OrdersHeld
import Derived.Laws.BitsLemmas
import Derived.RowKit
import Derived.Test.YteohmbannpbokaaGreatDoorJ02
import Derived.Test.YteohmbannpbokaaGreatDoorJ01
import Derived.Test.YteohmbannpbokaaGreatDoorJ03
import Derived.Test.YteohmbannpbokaaGreatDoorJ04
set_option linter.unusedVariables false
set_option linter.unusedSimpArgs false
namespace Go.Proofs.YteohmbannpbokaaGreatDoor.NatWalk
open Go.RowKit Go.Proofs.YteohmbannpbokaaGreatDoorW.PrintWords Go.Proofs.YteohmbannpbokaaGreatDoorW.PrintLast Go.Proofs.YteohmbannpbokaaGreatDoorW.PrintMore Go.Proofs.YteohmbannpbokaaGreatDoor.Digs Go.Proofs.YteohmbannpbokaaGreatDoor.StrLaw Go.Proofs.YteohmbannpbokaaGreatDoor.NatLaw
structure Quo (w : World) (base : Nat) (q r : Nat) (v : Value) : Prop where
 mk :: (out : ∃ x y, v = .tuple #[x, y] ∧ Rdv w (fun k => base ≤ k) x q ∧ Rdv w (fun k => base ≤ k) y r)
set_option maxHeartbeats 4000000 in
theorem div_less (a b : Nat) (oa ob : Nat → Prop) (v u : Value) (w : World) (hv : Rdv w oa v a) (hu : Rdv w ob u b) (hab : a < b) (hl : (digs a).length ≤ 4000000000) :
   Calls Tryz.prog 16 #[v, u] w fun e w' => ∃ z, e = .returned z ∧ Quo w' w.heap.size 0 a z ∧ Below w.heap.size w w' := by
 obtain ⟨A0, c0, rfl, hl0, hC0⟩ := hv.form
 obtain ⟨A1, c1, rfl, hl1, hC1⟩ := hu.form
 have hc := fun w hv hu => cmp_n a b oa ob (.slice A0 (digs a).length c0) (.slice A1 (digs b).length c1) w hv hu hl
 rw [show cmpN a b = -1 by unfold cmpN; rw [if_pos hab]] at hc
 have HC := Aside0.mk hc
 have HR0 := Aside0.mk hC0
 have hC9 := hC0
 have HL := Aside0.mk hl
 have HB := Aside0.mk (Below.refl w.heap.size w)
 clear hC0 hC1 hl0 hl1 hl hab hc
 go_enter Tryz.func16, Tryz.ntmps16
 go_wp2_with (first | (go_at_call 38; refine (HC.out _ hv hu).mono ?_; rintro e w1 ⟨rfl, ⟨nd, rfl⟩⟩; replace HB := Aside0.mk (pw_below_drewN HB.out (n := nd)); replace HR0 := Aside0.mk (Kd.C_below HR0.out HB.out)) | ((with_reducible refine gate_dst (N := 18) rfl ?_); refine Kd.R_lit (Kd.int .u32) (w0 := w) w.heap.size 44 ?hg (N := 18) ?hd (xs := ([] : List Int)) (inner := []) (ok := fun _ => True) (okp := fun _ => True) ?hr ?hp (fun _ hk => hk) trivial HB.out (below_size HB.out) (by simp) ?_; (case hd => rfl); (case hg => rfl); (case hr => first | (go_simp; done) | (go_simp; rfl)); (case hp => exact (Reps.none _ _)); intro v6 w6 ho hb hg_ hnew_; have HO := Aside0.mk ho; clear hg_ hnew_ ho; have HR6 := Aside0.mk (Kd.C_below hC9 hb); replace HB := Aside0.mk hb; clear hb) | ((with_reducible refine gate_builtin (b := .append) (xs := #[.tmp 18, .tmp 19]) rfl ?_); at_builtin; refine Kd.R_append_rows (Kd.int .u32) (w0 := w) w.heap.size rfl (.tmp 18) (.tmp 19) 24 44 (.int .u32 0) 4 rfl Tryz.underlying24 infoU rfl (by decide) (by omega) v6 [] (digs a) _ _ _ (fun _ => True) (fun _ => False) rfl rfl HO.out HR6.out (fun _ _ h => h) (fun _ h => h.elim) (fun _ _ => trivial) HB.out (below_size HB.out) (by have := HL.out; simp; omega) ?_; intro v8 w8 ho hb hg hat; have HO8 := Aside0.mk ho; have HB8 := Aside0.mk hb; clear ho hb hg hat))
 refine bodyPost_ret (v := .tuple #[.slice none 0 0, v8]) (by simp [results, Tryz.results16, go_sem]) rfl ⟨_, rfl, ⟨_, _, rfl, (Rdv.nil _).mono (fun _ h => h.elim), Rdv.of_R HO8.out⟩, HB8.out⟩
theorem cmpN_ge {a b : Nat} (h : b ≤ a) : 0 ≤ cmpN a b ∧ ¬ cmpN a b < 0 := by
 unfold cmpN
 rw [if_neg (by omega)]
 split <;> simp
set_option maxHeartbeats 4000000 in
theorem div_one (a b : Nat) (oa ob : Nat → Prop) (v u : Value) (w : World) (hv : Rdv w oa v a) (hu : Rdv w ob u b) (hab : b ≤ a) (hb1 : 0 < b) (hb2 : b < 1000000000) (hl : (digs a).length ≤ 4000000000) :
   Calls Tryz.prog 16 #[v, u] w fun e w' => ∃ z, e = .returned z ∧ Quo w' w.heap.size (a / b) (a % b) z ∧ Below w.heap.size w w' := by
 have hd := digs_one (n := b) (by omega) hb2
 obtain ⟨A0, c0, rfl, hl0, hC0⟩ := hv.form
 obtain ⟨A1, c1, rfl, hl1, hC1⟩ := hu.form
 obtain ⟨hc1, hc2⟩ := cmpN_ge hab
 have hc := fun w hv hu => cmp_n a b oa ob (.slice A0 (digs a).length c0) (.slice A1 (digs b).length c1) w hv hu hl
 have hs := fun w hv => short_n a b oa (.slice A0 (digs a).length c0) w hv hb1 (by omega) hl
 have hf := fun w => from_n (a % b) w (by have := Nat.mod_lt a hb1; omega)
 have hlb : ((digs b).length : Int) = 1 := by rw [hd]; rfl
 obtain ⟨ad, e0, hx⟩ := Kd.at_int hC1 0 (by omega) (by omega)
 rw [hd] at hx
 have hx' : w.cell? ad = some (.int .u32 b) := by have h : w.cell? (ad.add 0) = some (.int .u32 b) := hx; simpa [Addr.add] using h
 have hm : ((a % b : Nat) : Int) < 1000000000 := by have := Nat.mod_lt a hb1; omega
 have hwm : IntKind.u64.wrap ((a % b : Nat) : Int) = ((a % b : Nat) : Int) := wu64 _ (by omega) (by omega)
 generalize hR : ((a % b : Nat) : Int) = R at *
 generalize hK : cmpN a b = K at *
 have HC := Aside0.mk hc
 have HS := Aside0.mk hs
 have HF := Aside0.mk hf
 clear hc hs hf hC0 hC1 hl0 hl1 hl hab hx hd hR hK hm
 cases e0
 go_enter Tryz.func16, Tryz.ntmps16
 go_wp2_with (first | (go_at_call 38; refine (HC.out _ hv hu).mono ?_; rintro e w1 ⟨rfl, ⟨nd, rfl⟩⟩) | (go_at_call 39; (try rw [show ((b : Nat) : Int) = (b : Int) from rfl]); refine (HS.out _ (hv.below (pw_below_drewN (Below.refl w.heap.size w) (n := nd)))).mono ?_; rintro e w2 ⟨q, rfl, hq, hb2⟩; obtain ⟨A2, c2, rfl, _, _⟩ := hq.form) | (go_at_call 36; refine (HF.out _).mono ?_; rintro e w3 ⟨r, rfl, hr, hb3⟩))
 have hdn : Below w.heap.size w (w.drewN nd) := pw_below_drewN (Below.refl w.heap.size w) (n := nd)
 have hsz := hb2.size
 refine bodyPost_ret (v := .tuple #[.slice A2 (digs (a / b)).length c2, r]) (by simp [results, Tryz.results16, go_sem]) rfl ⟨_, rfl, ⟨_, _, rfl, (hq.below hb3).mono (fun k hk => hk), hr.mono (fun k hk => Nat.le_trans hsz hk)⟩, below_step (below_step hdn hb2) hb3⟩
theorem guess_n (r y : Nat) (oa ob : Nat → Prop) (v u : Value) (w : World) (hv : Rdv w oa v r) (hu : Rdv w ob u y) (hy : 0 < y) (hr : r < y * 1000000000) (hl : (digs y).length ≤ 4000000000) :
   Calls Tryz.prog 41 #[v, u] w fun e w' => ∃ g : Nat, e = .returned (.int .u64 g) ∧ (r / y ≤ g ∧ g ≤ 999999999) ∧ Below w.heap.size w w' := by
 obtain ⟨A0, c0, rfl, hl0, hC0⟩ := hv.form
 obtain ⟨A1, c1, rfl, hl1, hC1⟩ := hu.form
 obtain ⟨g, hg, h1, h2⟩ := guess_ev r y hy hr hl
 have h0 : (0 : Int) ≤ ((r / y : Nat) : Int) := Int.natCast_nonneg _
 obtain ⟨G, rfl⟩ := Int.eq_ofNat_of_zero_le (show 0 ≤ g by omega)
 refine (Go.Proofs.YteohmbannpbokaaGreatDoor.PnatGuess.spec_natGuess.calls A0 c0 (digs r) A1 c1 (digs y) G w hC0 hl0 hC1 hl1 hg).mono ?_
 rintro e w' ⟨he, hd⟩
 exact ⟨G, he, ⟨Int.ofNat_le.mp h1, by omega⟩, hd⟩
theorem top_limb (b : Nat) (hb : 0 < b) : ∃ T : Nat, 0 < T ∧ T ≤ 999999999 ∧ rd (digs b) (((digs b).length : Int) - 1) = T := by
 obtain ⟨L, hL⟩ : ∃ L, (digs b).length = L + 1 := ⟨(digs b).length - 1, by have := len_pos (n := b) (by omega); omega⟩
 have h1 := NatLaw.rd_digs L b
 have h2 : b / 1000000000 ^ L < 1000000000 := div_pow_lt (by omega)
 have h3 : 0 < b / 1000000000 ^ L := by
   refine Nat.div_pos ?_ (Nat.pow_pos (by decide))
   apply Classical.byContradiction
   intro h
   have := len_digs_le (Nat.not_le.mp h)
   omega
 refine ⟨b / 1000000000 ^ L, h3, by omega, ?_⟩
 rw [hL, show ((L + 1 : Nat) : Int) - 1 = (L : Int) by omega, h1, Nat.mod_eq_of_lt h2]
theorem len_mul_limb (a M : Nat) (h : M < 1000000000) : (digs (a * M)).length ≤ (digs a).length + 1 := by
 have h1 := lt_of_len a
 generalize (digs a).length = L at *
 refine len_digs_le ?_
 rw [Nat.pow_succ]
 exact Nat.mul_lt_mul_of_lt_of_le h1 (Nat.le_of_lt h) (by omega)
theorem len_lt_limb (R Y : Nat) (h : R < Y * 1000000000) : (digs R).length ≤ (digs Y).length + 1 := by
 have h1 := lt_of_len Y
 generalize (digs Y).length = L at *
 refine len_digs_le (Nat.lt_of_lt_of_le h ?_)
 rw [Nat.pow_succ]
 exact Nat.mul_le_mul_right _ (Nat.le_of_lt h1)
theorem Rdv.lit1 (w : World) (n : Nat) (h0 : 0 < n) (h1 : n < 1000000000) : Rdv (w.alloc (Obj.cells #[.int .u32 (n : Int)] 44)) (fun k => k = w.heap.size) (.slice (some ⟨w.heap.size, 0, none⟩) 1 1) n := by
 have ho := own_lit w w.heap.size 44 .u32 [(n : Int)] (Nat.le_refl _) (by simp)
 have hR : Kd.R (Kd.int .u32) 44 (w.alloc (Obj.cells #[.int .u32 (n : Int)] 44)) w.heap.size (fun k => k = w.heap.size) (.slice (some ⟨w.heap.size, 0, none⟩) 1 1) [(n : Int)] :=
   Kd.R_of_own ho (fun k hk => by simpa [Value.ownBlock] using hk.symm)
 rw [← digs_one (by omega) h1] at hR
 have hV : Kd.V (Kd.int .u32) 44 (w.alloc (Obj.cells #[.int .u32 (n : Int)] 44)) 0 (fun k => k = w.heap.size) (.slice (some ⟨w.heap.size, 0, none⟩) 1 1) (digs n) := Kd.R_V hR
 exact ⟨hV⟩
structure Still (w : World) (B : Nat) (x y by_ : Value) (X Y M : Nat) : Prop where
 mk :: (x : Rdv w (fun k => k ≠ B) x X) (y : Rdv w (fun k => k ≠ B) y Y) (m : Rdv w (fun k => k ≠ B) by_ M)
theorem Still.below {w w1 : World} {B : Nat} {x y z : Value} {X Y M : Nat} (h : Still w B x y z X Y M) (hb : Below w.heap.size w w1) : Still w1 B x y z X Y M := ⟨h.x.below hb, h.y.below hb, h.m.below hb⟩
theorem Still.set {w : World} {B j : Nat} {x y z v : Value} {X Y M : Nat} (h : Still w B x y z X Y M) : Still (w.setCell ⟨B, j, none⟩ v) B x y z X Y M :=
 ⟨h.x.far (fun k hk => hk) _, h.y.far (fun k hk => hk) _, h.m.far (fun k hk => hk) _⟩
set_option maxHeartbeats 4000000 in
set_option maxRecDepth 100000 in
theorem div_many (a b : Nat) (oa ob : Nat → Prop) (v u : Value) (w : World) (hv : Rdv w oa v a) (hu : Rdv w ob u b) (hab : b ≤ a) (hb1 : 1000000000 ≤ b) (hl : (digs a).length ≤ 1000000000) :
   Calls Tryz.prog 16 #[v, u] w fun e w' => ∃ z, e = .returned z ∧ Quo w' w.heap.size (a / b) (a % b) z ∧ Below w.heap.size w w' := by
 obtain ⟨T, hT0, hT1, hT⟩ := top_limb b (by omega)
 have hlb := len_digs_mono hab
 have hlb2 : 2 ≤ (digs b).length := by
   apply Classical.byContradiction
   intro h
   have h1 := lt_of_len b
   have h2 : 1000000000 ^ (digs b).length ≤ 1000000000 ^ 1 := Nat.pow_le_pow_right (by decide) (by omega)
   omega
 obtain ⟨M, hM⟩ : ∃ M : Nat, M = 1000000000 / (T + 1) := ⟨_, rfl⟩
 have hM0 : 0 < M := by rw [hM]; exact Nat.div_pos (by omega) (by omega)
 have hM1 : M < 1000000000 := by rw [hM]; exact Nat.div_lt_self (by decide) (by omega)
 have hMi : (1000000000 : Int) / ((T : Int) + 1) % 4294967296 = (M : Int) := by
   have : ((M : Nat) : Int) = (1000000000 : Int) / ((T : Int) + 1) := by rw [hM, Int.natCast_ediv, Int.natCast_add]; rfl
   rw [← this]; omega
 have hdM := digs_one (n := M) (by omega) hM1
 obtain ⟨A0, c0, rfl, hl0, hC0⟩ := hv.form
 obtain ⟨A1, c1, rfl, hl1, hC1⟩ := hu.form
 obtain ⟨hc1, hc2⟩ := cmpN_ge hab
 have hc := fun w hv hu => cmp_n a b oa ob (.slice A0 (digs a).length c0) (.slice A1 (digs b).length c1) w hv hu (by omega)
 have hx := fun oa ob v u w hv hu => mul_n a M oa ob v u w hv hu (by rw [hdM]; simp; omega)
 have hy := fun oa ob v u w hv hu => mul_n b M oa ob v u w hv hu (by rw [hdM]; simp; omega)
 have hXl : (digs (a * M)).length ≤ 1000000001 := Nat.le_trans (len_mul_limb a M hM1) (by omega)
 have hX0 : 0 < (digs (a * M)).length := len_pos (Nat.ne_of_gt (Nat.mul_pos (by omega) hM0))
 have hY0 : 0 < b * M := Nat.mul_pos (by omega) hM0
 have hYX : b * M ≤ a * M := Nat.mul_le_mul_right _ hab
 have hYl := len_digs_mono hYX
 have hQ : a / b = (a * M) / (b * M) := (Nat.mul_div_mul_right a b hM0).symm
 have hR : a % b = (a * M) % (b * M) / M := by rw [Nat.mul_mod_mul_right, Nat.mul_div_cancel _ hM0]
 rw [hQ, hR]
 obtain ⟨ad, e0, ht⟩ := Kd.at_int hC1 (((digs b).length : Int) - 1) (by omega) (by omega)
 rw [hT] at ht
 have hne : (((digs b).length : Int) == 1) = false := beq_eq_false_iff_ne.mpr (by omega)
 clear hQ hR hT
 generalize hK : cmpN a b = K at *
 generalize hlb0 : (digs b).length = m at *
 generalize hla0 : (digs a).length = n at *
 generalize hX : a * M = X at *
 generalize hY : b * M = Y at *
 have HC := Aside0.mk hc
 have HX := Aside0.mk hx
 have HY := Aside0.mk hy
 have HB := Aside0.mk (Below.refl w.heap.size w)
 have HM := Aside0.mk (And.intro hM0 hM1)
 have HXL := Aside0.mk (And.intro hX0 hXl)
 have HYY := Aside0.mk (And.intro hY0 hYl)
 have hm1 : (m : Int) ≤ 1000000000 := by omega
 have hm2 : 2 ≤ (m : Int) := by omega
 have hTi : 1 ≤ (T : Int) := by omega
 have hTi2 : (T : Int) ≤ 999999999 := by omega
 clear hc hx hy hC0 hC1 hl0 hl1 hl hab hK hb1 hlb hlb0 hlb2 hT0 hT1 hM hdM hM0 hM1 hla0 hX hY hX0 hXl hYX hYl hY0
 rw [show ((m : Int) - 1).toNat = m - 1 by omega] at ht
 cases e0
 go_enter Tryz.func16, Tryz.ntmps16
 go_wp2_with (first | (go_at_call 38; refine (HC.out _ hv hu).mono ?_; rintro e w1 ⟨rfl, ⟨nd, rfl⟩⟩) | (go_at_call_of 37 (Value.slice A0 n c0); have HB1 := Aside0.mk (((pw_below_drewN (Below.refl w.heap.size w) nd).alloc (Nat.le_refl _) (Obj.cells #[.int .u32 (M : Int)] 44))); have HL1 := Aside0.mk (Rdv.lit1 (w.drewN nd) M HM.out.1 HM.out.2); refine (HX.out _ _ _ _ _ (hv.below HB1.out) HL1.out).mono ?_; rintro e w2 ⟨x, rfl, hxv, hb2⟩; have HX2 := Aside0.mk hxv; have HB2 := Aside0.mk hb2; clear hxv hb2) | (go_at_call_of 37 (Value.slice (some ad) m c1); refine (HY.out _ _ _ _ _ ((hu.below HB1.out).below HB2.out) (HL1.out.below HB2.out)).mono ?_; rintro e w3 ⟨y, rfl, hyv, hb3⟩; have HY3 := Aside0.mk hyv; have HX3 := Aside0.mk (HX2.out.below hb3); have HB3 := Aside0.mk hb3; clear hyv hb3; obtain ⟨A2, c2, rfl, _, _⟩ := HX3.out.form; obtain ⟨A3, c3, rfl, _, _⟩ := HY3.out.form) | ((with_reducible refine gate_dst (N := 55) rfl ?_); refine Kd.R_make (Kd.int .u32) (w0 := w3) w3.heap.size 44 rfl (N := 55) rfl 24 _ _ rfl ((digs X).length : Int) rfl rfl Tryz.underlying24 (.int .u32 0) 4 infoU rfl (by decide) (by omega) 0 (ok := fun _ => True) (okp := fun _ => True) rfl (fun _ hk => hk) trivial (Int.natCast_nonneg _) (by have := HXL.out; simp; omega) (Below.refl _ _) (Nat.le_refl _) ?_; intro v4 w4 ho hb hg hnew; have HO := Aside0.mk ho; have HB4 := Aside0.mk hb; clear ho hb hg hnew))
 have HTI := Aside0.mk (Kd.R_tight rfl HO.out)
 obtain ⟨B, cB, eB, hB1, hB2, _⟩ := Kd.R_form HTI.out (by have := HXL.out; simp; omega)
 rw [List.length_replicate, Int.toNat_natCast] at eB
 subst eB
 rw [Int.toNat_natCast] at HTI
 have HQ0 := Aside0.mk (Kd.R_lower (Kd.R_mono HTI.out (ok' := fun k => k = B) (fun k hk => by simpa [Value.ownBlock] using hk)) (Nat.zero_le _))
 have HS0 := Aside0.mk (Still.mk (HX3.out.bound.mono (ok' := fun k => k ≠ B) (fun k hk => by have := hk.2; omega)) (HY3.out.bound.mono (ok' := fun k => k ≠ B) (fun k hk => by have := hk.2; omega)) ((HL1.out.below HB2.out).below HB3.out |>.bound.mono (ok' := fun k => k ≠ B) (fun k hk => by have := hk.2; omega)) |>.below HB4.out)
 have HBB := Aside0.mk (below_step (below_step (below_step HB1.out HB2.out) HB3.out) HB4.out)
 have HBw := Aside0.mk (And.intro (Nat.le_trans (below_step (below_step HB1.out HB2.out) HB3.out).size hB1) hB2)
 have hw64 : wrap64 (((digs X).length : Int) - 1) = ((digs X).length : Int) - 1 := w64 _ (by omega) (by have := HXL.out; omega)
 clear HTI HO HX3 HY3 HL1 HB1 HB2 HB3 HB4 HX2 HC HX HY hB1 hB2 hv hu ht
 go_loopg [5, 11] (digs X).length (fun g v5 v11 w' => ∃ (q : List Int) (R : Nat) (i : Int), v11 = .int .i64 i ∧ DivInv (digs X) X Y q R i ∧ Aside0 (i + 1 = (g : Int)) ∧ Aside0 (Kd.R (Kd.int .u32) 44 w' 0 (fun k => k = B) (.slice (some ⟨B, 0, none⟩) (digs X).length cB) q) ∧ Aside0 (Rdv w' (fun k => k ≠ B) v5 R) ∧ Aside0 (Still w' B (.slice A2 (digs X).length c2) (.slice A3 (digs Y).length c3) (.slice (some ⟨w.heap.size, 0, none⟩) 1 1) X Y M) ∧ Aside0 (Below w.heap.size w w') ∧ Aside0 (B < w'.heap.size))
 case atStart => exact ⟨_, 0, _, by rw [hw64], DivInv.start (val_digs X) HYY.out.1, ⟨by simp⟩, HQ0, ⟨(Rdv.nil _).mono (fun _ h => h.elim)⟩, HS0, HBB, ⟨HBw.out.2⟩⟩
 case round =>
   clear HQ0 HS0 HBB hw64
   obtain ⟨q, R, i, rfl, HI, HG, HQ, HR, HS, HB4, HBl⟩ := hrel
   obtain ⟨b1, b2, b3, b4⟩ := HI.bound
   by_cases hi : 0 ≤ i
   · obtain ⟨ad2, e2, hx⟩ := Kd.at_int (Kd.V_reads' HS.out.x.out).2.2 i hi b2
     cases e2
     obtain ⟨x1, x2⟩ := dig_rd (dig_digs X) i
     obtain ⟨xi, hxi⟩ : ∃ xi, xi = rd (digs X) i := ⟨_, rfl⟩
     rw [← hxi] at hx x1 x2
     obtain ⟨R1, hR1⟩ := Int.eq_ofNat_of_zero_le (show 0 ≤ xi + R * 1000000000 by omega)
     obtain ⟨HI2, hlim⟩ := HI.step hi (dig_digs X) (R1 := R1) (by rw [← hR1, hxi])
     have hRl : (digs R).length ≤ 1000000001 := Nat.le_trans (len_digs_mono (Nat.le_of_lt b4)) (Nat.le_trans HYY.out.2 HXL.out.2)
     have HT := Aside0.mk (fun ok v w hv => trim_n ([xi] ++ digs R) (Dig.append (Dig.cons ⟨x1, x2⟩ Dig.nil) (dig_digs R)) (by simp; omega) R1 (by rw [val_append]; simp only [val, val_digs]; rw [← hR1]; simp; omega) ok v w hv)
     have HGU := Aside0.mk (fun oa ob v u w hv hu => guess_n R1 Y oa ob v u w hv hu HYY.out.1 hlim (by have := HYY.out.2; have := HXL.out.2; omega))
     have HRL := Aside0.mk hRl
     have HII := Aside0.mk HI2
     have HIB := Aside0.mk (And.intro hi b2)
     have HR1L := Aside0.mk (len_lt_limb R1 Y hlim)
     clear HI HI2 hlim hRl hR1 hxi
     obtain ⟨wo, rfl⟩ : ∃ wo : World, wo = wr := ⟨_, rfl⟩
     obtain ⟨G0, rfl⟩ : ∃ G0, G0 = gk := ⟨_, rfl⟩
     have HB := Aside0.mk (Below.refl wo.heap.size wo)
     obtain ⟨AR, cR, rfl, _, _⟩ := HR.out.form
     go_wp2_with (first | ((with_reducible refine gate_dst (N := 67) rfl ?_); refine Kd.R_lit (Kd.int .u32) (w0 := wo) wo.heap.size 44 ?hg (N := 67) ?hd (xs := [xi]) (inner := [.int .u32 xi]) (ok := fun k => k ≠ B) (okp := fun _ => False) ?hr ?hp (fun _ hk => hk.elim) (Nat.ne_of_gt HBl.out) HB.out (below_size HB.out) (by simp) ?_; (case hd => rfl); (case hg => rfl); (case hr => first | (go_simp; done) | (go_simp; rfl)); (case hp => exact (Reps.one (show Kd.M (Kd.int .u32) _ _ _ xi [.int .u32 xi] from rfl) (Reps.none _ _))); intro v6 w6 ho hb hg_ hnew_; have HO := Aside0.mk ho; clear hg_ hnew_ ho; have HR6 := Aside0.mk (HR.out.below hb); replace HB := Aside0.mk hb; clear hb) | ((with_reducible refine gate_builtin (b := .append) (xs := #[.tmp 67, .tmp 68]) rfl ?_); at_builtin; refine Kd.R_append_rows (Kd.int .u32) (w0 := wo) wo.heap.size rfl (.tmp 67) (.tmp 68) 24 44 (.int .u32 0) 4 rfl Tryz.underlying24 infoU rfl (by decide) (by omega) v6 [xi] (digs R) _ _ _ (fun k => k ≠ B) (fun _ => False) rfl rfl HO.out (Kd.V_reads' HR6.out.out).2.2 (fun _ _ h => h) (fun _ h => h.elim) (fun k hk => by have := HBl.out; have := below_size HB.out; omega) HB.out (below_size HB.out) (by have := HRL.out; simp; omega) ?_; intro v8 w8 ho hb hg hat; have HO8 := Aside0.mk ho; have HB8 := Aside0.mk hb; have HS8 := Aside0.mk (HS.out.below hb); clear ho hb hg hat) | (go_at_call 40; have hV : Kd.V (Kd.int .u32) 44 w8 0 (fun k => k ≠ B) v8 ([xi] ++ digs R) := Kd.R_V HO8.out; refine (HT.out (fun k => k ≠ B) _ _ hV).mono ?_; clear hV; rintro e w9 ⟨z, rfl, hz, hb9⟩; have HZ9 := Aside0.mk (hz.mono (ok' := fun k => k ≠ B) (fun k hk => by have := HBl.out; have := below_size HB8.out; rcases hk with hk | hk <;> omega)); have HS9 := Aside0.mk (HS8.out.below hb9); have HB9 := Aside0.mk (below_step HB8.out hb9); clear hz hb9) | (go_at_call 41; refine (HGU.out _ _ _ _ _ HZ9.out HS9.out.y).mono ?_; rintro e w10 ⟨g, rfl, hgg, hb⟩; have HGG := Aside0.mk hgg; have HZ10 := Aside0.mk (HZ9.out.below hb); have HS10 := Aside0.mk (HS9.out.below hb); have HB10 := Aside0.mk (below_step HB9.out hb); clear hgg hb; have hg1 : (g : Int) ≤ 999999999 := (by have := HGG.out.2; omega)) | (go_at_call 36; refine (from_n g _ (by omega)).mono ?_; rintro e w11 ⟨p, rfl, hp, hb⟩; have HP11 := Aside0.mk hp; have HZ11 := Aside0.mk (HZ10.out.below hb); have HS11 := Aside0.mk (HS10.out.below hb); have HB11 := Aside0.mk (below_step HB10.out hb); clear hp hb) | (go_at_call 37; refine (mul_n Y g _ _ _ _ _ HS11.out.y HP11.out (by have := HYY.out.2; have := HXL.out.2; have := len_digs_le (n := g) (L := 1) (by omega); omega)).mono ?_; rintro e w12 ⟨p2, rfl, hp, hb⟩; have HP12 := Aside0.mk (hp.mono (ok' := fun k => k ≠ B) (fun k hk => by have := HBl.out; have := below_size HB11.out; omega)); have HZ12 := Aside0.mk (HZ11.out.below hb); have HS12 := Aside0.mk (HS11.out.below hb); have HB12 := Aside0.mk (below_step HB11.out hb); clear hp hb))
     obtain ⟨AZ, cZ, rfl, _, _⟩ := HZ12.out.form
     clear HO HR6 HO8 HB8 HS8 HZ9 HS9 HB9 HZ10 HS10 HB10 HP11 HZ11 HS11 HB11 HT HGU HRL hx HR HS HB
     have HBB0 := HB4
     clear HB4
     have HQl := Aside0.mk b3
     clear b3 b2 b4
     go_loopg [12, 13] g (fun gg v12 v13 w' => ∃ (D : Int) (d : Nat), v12 = .int .u64 D ∧ Aside0 (D = (d : Int)) ∧ Aside0 (R1 / Y ≤ d ∧ d ≤ 999999999 ∧ d = gg) ∧ Aside0 (Rdv w' (fun k => k ≠ B) v13 (Y * d)) ∧ Aside0 (Rdv w' (fun k => k ≠ B) (.slice AZ (digs R1).length cZ) R1) ∧ Aside0 (Still w' B (.slice (some ad2) (digs X).length c2) (.slice A3 (digs Y).length c3) (.slice (some ⟨w.heap.size, 0, none⟩) 1 1) X Y M) ∧ Aside0 (Below wo.heap.size wo w'))
     case atStart => exact ⟨_, g, rfl, ⟨rfl⟩, ⟨HGG.out.1, HGG.out.2, rfl⟩, HP12, HZ12, HS12, HB12⟩
     case round =>
       clear HGG HP12 HZ12 HS12 HB12 hg1
       obtain ⟨D, d, rfl, HD, HDD, HP, HZ, HS, HB⟩ := hrel
       have hd1 : 0 ≤ D := by rw [HD.out]; exact Int.natCast_nonneg _
       have hd2 : D ≤ 999999999 := by have := HD.out; have := HDD.out; omega
       have hYl := HYY.out.2
       have hXl := HXL.out.2
       have hc := fun w hv hu => cmp_n (Y * d) R1 (fun k => k ≠ B) (fun k => k ≠ B) u13 (.slice AZ (digs R1).length cZ) w hv hu (Nat.le_trans (len_mul_limb Y d (by have := HDD.out; omega)) (by omega))
       by_cases hgt : R1 < Y * d
       · have hpos : 0 < d := by
           rcases Nat.eq_zero_or_pos d with h | h
           · rw [h] at hgt; omega
           · exact h
         have hlow : R1 / Y < d := by rw [Nat.div_lt_iff_lt_mul HYY.out.1, Nat.mul_comm]; exact hgt
         rw [show cmpN (Y * d) R1 = 1 by unfold cmpN; rw [if_neg (by omega), if_neg (by omega)]] at hc
         have HC := Aside0.mk hc
         have hsub := fun w hv hu => sub_n (Y * d) Y (fun k => k ≠ B) (fun k => k ≠ B) u13 (.slice A3 (digs Y).length c3) w hv hu (Nat.le_mul_of_pos_right Y hpos) (Nat.le_trans (len_mul_limb Y d (by have := HDD.out; omega)) (by omega))
         rw [show Y * d - Y = Y * (d - 1) by rw [Nat.mul_sub, Nat.mul_one]] at hsub
         have HSU := Aside0.mk hsub
         have HLO := Aside0.mk hlow
         have hd3 : 1 ≤ D := by have := HD.out; omega
         clear hc hsub hgt hlow hpos hYl hXl
         go_wp2_with (first | (go_at_call 38; refine (HC.out _ HP.out HZ.out).mono ?_; rintro e w1 ⟨rfl, ⟨nd, rfl⟩⟩; have HDN := Aside0.mk (pw_below_drewN (Below.refl wr.heap.size wr) nd)) | (go_at_call 42; refine (HSU.out _ (HP.out.below HDN.out) (HS.out.y.below HDN.out)).mono ?_; rintro e w2 ⟨p3, rfl, hp, hb⟩; have HP3 := Aside0.mk hp; have HB3 := Aside0.mk hb; clear hp hb))
         go_roundg (gk - 1)
         case measure => have := HDD.out.2.2; have := HD.out; omega
         case rel => exact ⟨D - 1, d - 1, rfl, ⟨by have := HD.out; omega⟩, ⟨Nat.le_sub_one_of_lt HLO.out, by have := HDD.out; omega, by have := HDD.out; omega⟩, ⟨HP3.out.mono (fun k hk => by have := HBl.out; have := HB.out.size; have hk' : wr.heap.size ≤ k := hk; omega)⟩, ⟨(HZ.out.below HDN.out).below HB3.out⟩, ⟨(HS.out.below HDN.out).below HB3.out⟩, ⟨below_step (below_step HB.out HDN.out) HB3.out⟩⟩
       · have hdv : d = R1 / Y := by
           refine Nat.le_antisymm ?_ HDD.out.1
           rw [Nat.le_div_iff_mul_le HYY.out.1, Nat.mul_comm]
           exact Nat.not_lt.mp hgt
         have hle : Y * d ≤ R1 := Nat.not_lt.mp hgt
         have hcn : cmpN (Y * d) R1 ≤ 0 := by unfold cmpN; split; · omega
                                              · split <;> omega
         have hsub := fun w hv hu => sub_n R1 (Y * d) (fun k => k ≠ B) (fun k => k ≠ B) (.slice AZ (digs R1).length cZ) u13 w hv hu hle (by have := HR1L.out; omega)
         rw [show R1 - Y * d = R1 % Y by rw [hdv]; have := Nat.div_add_mod R1 Y; omega] at hsub
         generalize cmpN (Y * d) R1 = K2 at *
         have HC := Aside0.mk hc
         have HSU := Aside0.mk hsub
         have HDV := Aside0.mk hdv
         clear hc hsub hgt hle hdv hYl hXl
         obtain ⟨hi, hiX⟩ := HIB.out
         go_wp2_with (first | (go_at_call 38; refine (HC.out _ HP.out HZ.out).mono ?_; rintro e w1 ⟨rfl, ⟨nd, rfl⟩⟩; have HDN := Aside0.mk (pw_below_drewN (Below.refl wr.heap.size wr) nd)) | (go_at_call 42; refine (HSU.out _ (HZ.out.below HDN.out) (HP.out.below HDN.out)).mono ?_; rintro e w2 ⟨p3, rfl, hp, hb⟩; have HP3 := Aside0.mk hp; have HB3 := Aside0.mk (below_step (below_step HB.out HDN.out) hb); have HS3 := Aside0.mk ((HS.out.below HDN.out).below hb); clear hp hb; have HQ3 := Aside0.mk (Kd.R_below HQ.out HB3.out); obtain ⟨hcq, hfq⟩ := Kd.R_celln 0 HQ3.out i hi hiX))
         have hw1 : wrap64 (i - 1) = i - 1 := w64 _ (by omega) (by have := HXL.out; omega)
         have hDv : D = ((R1 / Y : Nat) : Int) := by rw [HD.out, HDV.out]
         have HPU := (Kd.R_putg HQ3.out i D).1
         go_roundg (G0 - 1)
         case measure => have := HG.out; omega
         case rel =>
           refine ⟨q.set i.toNat ((R1 / Y : Nat) : Int), R1 % Y, i - 1, by rw [hw1], HII.out, ⟨by have := HG.out; omega⟩, ⟨?_⟩, ⟨?_⟩, ⟨HS3.out.set⟩, ⟨?_⟩, ⟨?_⟩⟩
           · rw [← hDv]; exact HPU
           · exact (HP3.out.mono (ok' := fun k => k ≠ B) (fun k hk => by have := HBl.out; have := HB.out.size; have hk' : wr.heap.size ≤ k := hk; omega)).far (fun k hk => hk) _
           · exact (below_step HBB0.out HB3.out).setCell HBw.out.1 _
           · have := HBl.out; have := HB3.out.size; simp; omega
   · obtain ⟨hd, hval, hRR⟩ := HI.done hi
     rw [hRR] at HR
     have hRl : (digs (X % Y)).length ≤ 1000000001 := Nat.le_trans (len_digs_mono (Nat.le_trans (Nat.mod_le _ _) (Nat.le_refl X))) HXL.out.2
     have hs := fun oa v w hv => short_n (X % Y) M oa v w hv HM.out.1 (by have := HM.out.2; omega) (by omega)
     have ht := fun ok v w hv => trim_n q hd (by have := HXL.out; omega) (X / Y) hval ok v w hv
     have HSH := Aside0.mk hs
     have HTR := Aside0.mk ht
     obtain ⟨ad3, e3, hm⟩ := Kd.at_int (Kd.V_reads' HS.out.m.out).2.2 0 (by omega) (by rw [digs_one (by have := HM.out; omega) HM.out.2]; simp)
     cases e3
     rw [digs_one (by have := HM.out; omega) HM.out.2] at hm
     replace hm : wr.cell? ⟨w.heap.size, 0, none⟩ = some (.int .u32 (M : Int)) := hm
     clear hs ht hd hval hRR hRl HI b1 b2 b3 b4
     go_wp2_with (first | (go_at_call 39; refine (HSH.out _ _ _ HR.out).mono ?_; rintro e w2 ⟨z, rfl, hz, hb⟩; have HZ := Aside0.mk hz; have HB2 := Aside0.mk hb; have HQ2 := Aside0.mk (Kd.R_below HQ.out hb); clear hz hb) | (go_at_call 40; have hV : Kd.V (Kd.int .u32) 44 w2 0 (fun k => k = B) (.slice (some ⟨B, 0, none⟩) (digs X).length cB) q := Kd.R_V HQ2.out; refine (HTR.out (fun k => k = B) _ _ hV).mono ?_; rintro e w3 ⟨z2, rfl, hz, hb⟩; have HZ3 := Aside0.mk hz; have HB3 := Aside0.mk hb; clear hz hb hV))
     have hle := HB4.out.size
     have hle2 := (below_step HB4.out HB2.out).size
     refine bodyPost_ret (v := .tuple #[z2, z]) (by simp [results, Tryz.results16, go_sem]) rfl ⟨_, rfl, ⟨_, _, rfl, HZ3.out.mono (fun k hk => ?_), (HZ.out.below HB3.out).mono (fun k hk => Nat.le_trans hle hk)⟩, below_step (below_step HB4.out HB2.out) HB3.out⟩
     have := HBw.out.1
     rcases hk with hk | hk <;> omega
theorem div_n (a b : Nat) (oa ob : Nat → Prop) (v u : Value) (w : World) (hv : Rdv w oa v a) (hu : Rdv w ob u b) (hb : 0 < b) (hl : (digs a).length ≤ 1000000000) :
   Calls Tryz.prog 16 #[v, u] w fun e w' => ∃ z, e = .returned z ∧ Quo w' w.heap.size (a / b) (a % b) z ∧ Below w.heap.size w w' := by
 by_cases hab : a < b
 · rw [Nat.div_eq_of_lt hab, Nat.mod_eq_of_lt hab]
   exact div_less a b oa ob v u w hv hu hab (by omega)
 · by_cases h1 : b < 1000000000
   · exact div_one a b oa ob v u w hv hu (by omega) hb h1 (by omega)
   · exact div_many a b oa ob v u w hv hu (by omega) (by omega) hl
end Go.Proofs.YteohmbannpbokaaGreatDoor.NatWalk
namespace Go.Proofs.YteohmbannpbokaaGreatDoor.Prounds
open Go.RowKit Go.Proofs.YteohmbannpbokaaGreatDoorW.PrintWords Go.Proofs.YteohmbannpbokaaGreatDoorW.PrintLast Go.Proofs.YteohmbannpbokaaGreatDoorW.PrintMore
attribute [local go_sem] max2_int min2_int max_two min_two max_three min_three max_four min_four
set_option linter.unusedVariables false
set_option linter.unusedSimpArgs false
def errW : Option Int → Value
 | none => .nilIface
 | some c => .iface 0 (.int .i64 c)
theorem errW_none : errW none = .nilIface := rfl
theorem errW_some (c : Int) : errW (some c) = .iface 0 (.int .i64 c) := rfl
attribute [local go_sem] max2_int min2_int max_two min_two max_three min_three max_four min_four
set_option linter.unusedVariables false
set_option linter.unusedSimpArgs false
def spec_rounds.f (a0 : Int) (a1 : Bool) (a2 : Int) (a3 : Bool) : Option (Bool) := if a0 = 1 then (some true) else (if a0 = 2 then (some a1) else (if a0 = 3 then (some (!a1)) else (if a0 = 4 then (some (decide (a2 ≥ 0))) else (if a0 = 5 then (if a2 > 0 then (some true) else (if a2 = 0 then (some a3) else (some false))) else (if a0 = 6 then (some (decide (a2 > 0))) else (some false))))))
set_option maxHeartbeats 8000000 in
set_option maxRecDepth 100000 in
theorem spec_rounds.calls (a0 : Int) (a1 : Bool) (a2 : Int) (a3 : Bool) (r : Bool) (w : World) (h : spec_rounds.f a0 a1 a2 a3 = some r) :
   Calls Tryz.prog 79 #[.int .i64 a0, .bool a1, .int .i64 a2, .bool a3] w fun e w' => e = .returned (.bool r) ∧ Drawn0 w w' := by
 have H : (if a0 = 1 then (some true) else (if a0 = 2 then (some a1) else (if a0 = 3 then (some (!a1)) else (if a0 = 4 then (some (decide (a2 ≥ 0))) else (if a0 = 5 then (if a2 > 0 then (some true) else (if a2 = 0 then (some a3) else (some false))) else (if a0 = 6 then (some (decide (a2 > 0))) else (some false))))))) = some r := h
 clear h
 by_cases c5 : a0 = 1
 · rw [if_pos c5] at H
   have c5b0 : (a0 == 1) = true := beq_iff_eq.mpr c5
   have c5b1 : (a0 != 1) = false := bne_eq_false_iff_eq.mpr c5
   clear c5
   obtain rfl := Option.some.inj H
   go_enter Tryz.func79, Tryz.ntmps79
   go_wp2
   go_ret
   exact ⟨by first | rfl | (simp; done) | (simp [*]; done), by repeat (first | exact Drawn0.refl _ | apply Drawn0.step)⟩
 · rw [if_neg c5] at H
   have c5b0 : (a0 == 1) = false := beq_eq_false_iff_ne.mpr c5
   have c5b1 : (a0 != 1) = true := bne_iff_ne.mpr c5
   by_cases c6 : a0 = 2
   · rw [if_pos c6] at H
     have c6b0 : (a0 == 2) = true := beq_iff_eq.mpr c6
     have c6b1 : (a0 != 2) = false := bne_eq_false_iff_eq.mpr c6
     clear c6
     obtain rfl := Option.some.inj H
     go_enter Tryz.func79, Tryz.ntmps79
     go_wp2
     go_ret
     exact ⟨by first | rfl | (simp; done) | (simp [*]; done), by repeat (first | exact Drawn0.refl _ | apply Drawn0.step)⟩
   · rw [if_neg c6] at H
     have c6b0 : (a0 == 2) = false := beq_eq_false_iff_ne.mpr c6
     have c6b1 : (a0 != 2) = true := bne_iff_ne.mpr c6
     by_cases c7 : a0 = 3
     · rw [if_pos c7] at H
       have c7b0 : (a0 == 3) = true := beq_iff_eq.mpr c7
       have c7b1 : (a0 != 3) = false := bne_eq_false_iff_eq.mpr c7
       clear c7
       obtain rfl := Option.some.inj H
       go_enter Tryz.func79, Tryz.ntmps79
       go_wp2
       go_ret
       exact ⟨by first | rfl | (simp; done) | (simp [*]; done), by repeat (first | exact Drawn0.refl _ | apply Drawn0.step)⟩
     · rw [if_neg c7] at H
       have c7b0 : (a0 == 3) = false := beq_eq_false_iff_ne.mpr c7
       have c7b1 : (a0 != 3) = true := bne_iff_ne.mpr c7
       by_cases c8 : a0 = 4
       · rw [if_pos c8] at H
         have c8b0 : (a0 == 4) = true := beq_iff_eq.mpr c8
         have c8b1 : (a0 != 4) = false := bne_eq_false_iff_eq.mpr c8
         clear c8
         obtain rfl := Option.some.inj H
         go_enter Tryz.func79, Tryz.ntmps79
         go_wp2
         go_ret
         exact ⟨by first | rfl | (simp; done) | (simp [*]; done), by repeat (first | exact Drawn0.refl _ | apply Drawn0.step)⟩
       · rw [if_neg c8] at H
         have c8b0 : (a0 == 4) = false := beq_eq_false_iff_ne.mpr c8
         have c8b1 : (a0 != 4) = true := bne_iff_ne.mpr c8
         by_cases c9 : a0 = 5
         · rw [if_pos c9] at H
           have c9b0 : (a0 == 5) = true := beq_iff_eq.mpr c9
           have c9b1 : (a0 != 5) = false := bne_eq_false_iff_eq.mpr c9
           clear c9
           by_cases c10 : a2 > 0
           · rw [if_pos c10] at H
             have c10b0 : decide (0 < a2) = true := decide_eq_true c10
             clear c10
             obtain rfl := Option.some.inj H
             go_enter Tryz.func79, Tryz.ntmps79
             go_wp2
             go_ret
             exact ⟨by first | rfl | (simp; done) | (simp [*]; done), by repeat (first | exact Drawn0.refl _ | apply Drawn0.step)⟩
           · rw [if_neg c10] at H
             have c10b0 : decide (0 < a2) = false := decide_eq_false c10
             clear c10
             by_cases c11 : a2 = 0
             · rw [if_pos c11] at H
               have c11b0 : (a2 == 0) = true := beq_iff_eq.mpr c11
               have c11b1 : (a2 != 0) = false := bne_eq_false_iff_eq.mpr c11
               clear c11
               obtain rfl := Option.some.inj H
               go_enter Tryz.func79, Tryz.ntmps79
               go_wp2
               go_ret
               exact ⟨by first | rfl | (simp; done) | (simp [*]; done), by repeat (first | exact Drawn0.refl _ | apply Drawn0.step)⟩
             · rw [if_neg c11] at H
               have c11b0 : (a2 == 0) = false := beq_eq_false_iff_ne.mpr c11
               have c11b1 : (a2 != 0) = true := bne_iff_ne.mpr c11
               obtain rfl := Option.some.inj H
               go_enter Tryz.func79, Tryz.ntmps79
               go_wp2
               go_ret
               exact ⟨by first | rfl | (simp; done) | (simp [*]; done), by repeat (first | exact Drawn0.refl _ | apply Drawn0.step)⟩
         · rw [if_neg c9] at H
           have c9b0 : (a0 == 5) = false := beq_eq_false_iff_ne.mpr c9
           have c9b1 : (a0 != 5) = true := bne_iff_ne.mpr c9
           by_cases c12 : a0 = 6
           · rw [if_pos c12] at H
             have c12b0 : (a0 == 6) = true := beq_iff_eq.mpr c12
             have c12b1 : (a0 != 6) = false := bne_eq_false_iff_eq.mpr c12
             clear c12
             obtain rfl := Option.some.inj H
             go_enter Tryz.func79, Tryz.ntmps79
             go_wp2
             go_ret
             exact ⟨by first | rfl | (simp; done) | (simp [*]; done), by repeat (first | exact Drawn0.refl _ | apply Drawn0.step)⟩
           · rw [if_neg c12] at H
             have c12b0 : (a0 == 6) = false := beq_eq_false_iff_ne.mpr c12
             have c12b1 : (a0 != 6) = true := bne_iff_ne.mpr c12
             obtain rfl := Option.some.inj H
             go_enter Tryz.func79, Tryz.ntmps79
             go_wp2
             go_ret
             exact ⟨by first | rfl | (simp; done) | (simp [*]; done), by repeat (first | exact Drawn0.refl _ | apply Drawn0.step)⟩
end Go.Proofs.YteohmbannpbokaaGreatDoor.Prounds
