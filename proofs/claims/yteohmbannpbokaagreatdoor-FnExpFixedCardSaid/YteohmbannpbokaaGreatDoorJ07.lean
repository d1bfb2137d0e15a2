/-
 Words for this claim.
 What the reference's loops over limbs come to (zeros cut off, from a machine number, comparison, product): a plain law over the functions that the print wrote.
-/
import Derived.Test.YteohmbannpbokaaGreatDoorJ06
import Derived.Test.YteohmbannpbokaaGreatDoorJ05
import Derived.Test.YteohmbannpbokaaGreatDoorJ03
namespace Go.Proofs.YteohmbannpbokaaGreatDoor.PnatShort
open Go.RowKit Go.Proofs.YteohmbannpbokaaGreatDoorW.PrintWords Go.Proofs.YteohmbannpbokaaGreatDoorW.PrintLast Go.Proofs.YteohmbannpbokaaGreatDoorW.PrintMore
attribute [local go_sem] max2_int min2_int max_two min_two max_three min_three max_four min_four
set_option linter.unusedVariables false
set_option linter.unusedSimpArgs false
def spec_natTrim.l0 : Nat → List Int → Option (List Int)
 | 0, _ => none
 | k + 1, x0 => if (x0.length : Int) > 0 then (if 0 ≤ (wrap64 ((x0.length : Int) - 1)) then (if (wrap64 ((x0.length : Int) - 1)) < (x0.length : Int) then (if (rd x0 (wrap64 ((x0.length : Int) - 1))) = 0 then (if (wrap64 ((x0.length : Int) - 1)) ≤ (x0.length : Int) then (spec_natTrim.l0 k (x0.take ((wrap64 ((x0.length : Int) - 1)) : Int).toNat)) else (none)) else (some x0)) else (none)) else (none)) else (some x0)
def spec_natTrim.f (k : Nat) (l0 : List Int) : Option (List Int) := spec_natTrim.l0 k l0
theorem spec_natTrim.mono_l : ∀ k, (∀ y0, LeO (spec_natTrim.l0 k y0) (spec_natTrim.l0 (k + 1) y0))
 | 0 => fun _ r h => by simp [spec_natTrim.l0] at h
 | k + 1 => by
   have ih0 := spec_natTrim.mono_l k
   · intro y0
     unfold spec_natTrim.l0
     repeat' first
     | (with_reducible exact ih0 _)
     | (with_reducible exact LeO.refl _)
     | (with_reducible exact LeO.none _)
     | (with_reducible refine LeO.ite ?_ ?_)
     | (with_reducible refine LeO.bind ?_ (fun _ => ?_))
     | exact ih0 _
     | exact LeO.none _
     | refine LeO.ite ?_ ?_
     | refine LeO.bind ?_ (fun _ => ?_)
theorem spec_natTrim.mono : ∀ a0 k, LeO (spec_natTrim.f k a0) (spec_natTrim.f (k + 1) a0) := by
 intro a0 k
 have ih0 := spec_natTrim.mono_l k
 unfold spec_natTrim.f
 repeat' first
     | (with_reducible exact ih0 _)
     | (with_reducible exact LeO.refl _)
     | (with_reducible exact LeO.none _)
     | (with_reducible refine LeO.ite ?_ ?_)
     | (with_reducible refine LeO.bind ?_ (fun _ => ?_))
     | exact ih0 _
     | exact LeO.none _
     | refine LeO.ite ?_ ?_
     | refine LeO.bind ?_ (fun _ => ?_)
set_option maxHeartbeats 8000000 in
set_option maxRecDepth 100000 in
theorem spec_natTrim.calls (k : Nat) (P0_ : Nat → Prop) (A0 : Option Addr) (c0 : Nat) (l0 : List Int) (r : List Int) (w : World) (hs0 : Kd.V (Kd.int .u32) 44 w w.heap.size (fun k_ => P0_ k_) (.slice A0 l0.length c0) l0) (h : spec_natTrim.f k l0 = some r) :
   Calls Tryz.prog 40 #[.slice A0 l0.length c0] w fun e w' => ∃ v0_ : Value, e = .returned (v0_) ∧ Kd.V (Kd.int .u32) 44 w' w.heap.size (fun k_ => (P0_ k_ ∨ w.heap.size ≤ k_)) v0_ r ∧ Below w.heap.size w w' := by
 have HO0 := Aside0.mk (show Kd.V (Kd.int .u32) 44 w w.heap.size (fun k_ => (P0_ k_ ∨ w.heap.size ≤ k_)) (.slice A0 l0.length c0) l0 from Kd.V_mono hs0 (fun k_ hk => .inl hk))
 have HB := Aside0.mk (Below.refl w.heap.size w)
 have H : (spec_natTrim.l0 k l0) = some r := h
 clear h
 have H' := Aside0.mk H
 clear H
 go_enter Tryz.func40, Tryz.ntmps40
 go_wp2
 go_loopg [0] k (fun kq v0 w' => ∃ (x0_1 : List Int), Aside0 (spec_natTrim.l0 kq x0_1 = some r) ∧ Aside0 (kq ≤ k) ∧ Aside0 (Kd.V (Kd.int .u32) 44 w' w.heap.size (fun k_ => (P0_ k_ ∨ w.heap.size ≤ k_)) v0 x0_1) ∧ Aside0 (Below w.heap.size w w'))
 case atStart => exact ⟨(l0), H', ⟨Nat.le_refl _⟩, ⟨by (with_reducible repeat (first | apply Kd.V_alloc | apply Kd.V_drewN | apply Kd.V_drew)); exact HO0.out⟩, ⟨by repeat (first | (with_reducible first | exact HB.out | apply below_alloc | apply pw_below_drewN | apply below_drew1) | exact HB.out)⟩⟩
 case round =>
   clear H'
   obtain ⟨x0_1, HA, HK1, HO_0, HB⟩ := hrel
   cases gk with
   | zero => exact absurd HA.out (by simp [spec_natTrim.l0])
   | succ k1 =>
     have H := HA.out
     clear HA
     simp only [spec_natTrim.l0] at H
     by_cases c2 : (x0_1.length : Int) > 0
     · rw [if_pos c2] at H
       have c2b0 : decide (0 < (x0_1.length : Int)) = true := decide_eq_true c2
       have c2b1 : decide (0 < x0_1.length) = true := decide_eq_true (by omega)
       clear c2
       obtain ⟨ji3, hji3⟩ : ∃ j_ : Int, (wrap64 ((x0_1.length : Int) - 1)) = j_ := ⟨_, rfl⟩
       replace H : (if 0 ≤ (ji3) then (if (ji3) < (x0_1.length : Int) then (if (rd x0_1 (ji3)) = 0 then (if (ji3) ≤ (x0_1.length : Int) then (spec_natTrim.l0 k1 (x0_1.take ((ji3) : Int).toNat)) else (none)) else (some x0_1)) else (none)) else (none)) = some r := by first | (rw [hji3] at H; exact H) | (simp only [hji3] at H ⊢; exact H)
       have hji3w : (IntKind.i64.wrap ((x0_1.length : Int) - 1)) = ji3 := (i64_w _).trans hji3
       by_cases c4 : 0 ≤ (ji3)
       · rw [if_pos c4] at H
         have c4b0 : decide (0 ≤ (ji3)) = true := decide_eq_true c4
         clear c4
         by_cases c5 : (ji3) < (x0_1.length : Int)
         · rw [if_pos c5] at H
           have c5b0 : decide ((ji3) < (x0_1.length : Int)) = true := decide_eq_true c5
           clear c5
           by_cases c6 : (rd x0_1 (ji3)) = 0
           · rw [if_pos c6] at H
             have c6b0 : ((rd x0_1 (ji3)) == 0) = true := beq_iff_eq.mpr c6
             have c6b1 : ((rd x0_1 (ji3)) != 0) = false := bne_eq_false_iff_eq.mpr c6
             clear c6
             have c7b0 := eq_true (of_decide_eq_true (by first | (with_reducible assumption) | assumption) : 0 ≤ (ji3))
             by_cases c8 : (ji3) ≤ (x0_1.length : Int)
             · rw [if_pos c8] at H
               have c8b0 := eq_true c8
               have c8b1 : decide ((ji3) ≤ (x0_1.length : Int)) = true := decide_eq_true c8
               clear c8
               obtain ⟨y102, hy102⟩ : ∃ y_ : List Int, y_ = (x0_1.take ((ji3) : Int).toNat) := ⟨_, rfl⟩
               replace H : (spec_natTrim.l0 k1 y102) = some r := by first | (rw [hy102]; with_reducible exact H) | (have H2_ := (Option.bind_some _ _).symm.trans H; rw [hy102]; with_reducible exact H2_) | (have H2_ := (Option.bind_some _ _).symm.trans H; with_reducible exact H2_) | with_reducible exact H | (rw [hy102]; exact H) | exact H
               have Ny102 := Aside0.mk hy102
               clear hy102
               have H' := Aside0.mk H
               clear H
               obtain ⟨Ao9, co9, eo9⟩ := Kd.V_slice HO_0.out
               subst eo9
               have p101 : 0 ≤ ((ji3) : Int) := of_decide_eq_true (by first | (with_reducible assumption) | assumption)
               have q101 : (ji3) < (x0_1.length : Int) := of_decide_eq_true (by first | (with_reducible assumption) | assumption)
               obtain ⟨ad101, e101, hx101_0⟩ := Kd.at_int (Kd.V_reads' HO_0.out).2.2 (ji3) p101 q101
               cases e101
               replace p101 := eq_true p101
               replace q101 := eq_true q101
               have q10 : ((ji3) : Int) ≤ ((x0_1.length : Int) : Int) := of_decide_eq_true (by first | (with_reducible assumption) | assumption)
               obtain ⟨i010, hi010, _, hsz10, _⟩ := info_parts info44
               have hroom10 : x0_1.length ≤ co9 := (Kd.V_reads' HO_0.out).2.1
               have hC10 : Kd.F (Kd.int .u32) _ _ (some ad101) x0_1.length x0_1 := (Kd.V_at (base := w.heap.size) HO_0.out).2.2
               have hcut10 := cut_to (P := Tryz.prog) 24 44 .i64 Tryz.underlying24 hi010 (some ad101) x0_1.length co9 (ji3) (of_decide_eq_true (by first | (with_reducible assumption) | assumption)) q10 hroom10
               have hr10 := Kd.F_take (m := ((ji3) : Int).toNat) hC10 (by omega)
               have hy10 : y102.length = ((ji3) : Int).toNat := (by rw [Ny102.out, List.length_take]; omega)
               rw [← Ny102.out] at hr10
               rw [← hy10] at hcut10
               have HO106 := Aside0.mk (show Kd.V (Kd.int .u32) 44 _ w.heap.size _ (.slice (some ad101) y102.length co9) y102 from Kd.V_mk (by omega) hr10)
               have HC106 := Aside0.mk (show y102.length ≤ co9 from by omega)
               clear hr10 hC10 hroom10 hi010 hsz10
               have KY10 := Aside0.mk hy10
               clear hy10
               replace q10 := eq_true q10
               go_wp2
               go_roundg k1
               case measure => have := HK1.out; omega
               case rel => exact ⟨(y102), H', ⟨by have := HK1.out; omega⟩, ⟨by (with_reducible repeat (first | apply Kd.V_alloc | apply Kd.V_drewN | apply Kd.V_drew)); exact HO106.out⟩, ⟨by repeat (first | (with_reducible first | exact HB.out | apply below_alloc | apply pw_below_drewN | apply below_drew1) | exact HB.out)⟩⟩
             · rw [if_neg c8] at H
               exact absurd H (by simp)
           · rw [if_neg c6] at H
             have c6b0 : ((rd x0_1 (ji3)) == 0) = false := beq_eq_false_iff_ne.mpr c6
             have c6b1 : ((rd x0_1 (ji3)) != 0) = true := bne_iff_ne.mpr c6
             obtain rfl := Option.some.inj H
             obtain ⟨Ao11, co11, eo11⟩ := Kd.V_slice HO_0.out
             subst eo11
             have p101 : 0 ≤ ((ji3) : Int) := of_decide_eq_true (by first | (with_reducible assumption) | assumption)
             have q101 : (ji3) < (x0_1.length : Int) := of_decide_eq_true (by first | (with_reducible assumption) | assumption)
             obtain ⟨ad101, e101, hx101_0⟩ := Kd.at_int (Kd.V_reads' HO_0.out).2.2 (ji3) p101 q101
             cases e101
             replace p101 := eq_true p101
             replace q101 := eq_true q101
             go_wp2
             go_ret
             exact ⟨_, by first | rfl | (simp [errW_none, errW_some] <;> rfl) | (simp only [← hji3]; first | rfl | (simp [errW_none, errW_some] <;> rfl)) | (simp [*, errW_none, errW_some] <;> rfl), by (with_reducible repeat (first | apply Kd.V_alloc | apply Kd.V_drewN | apply Kd.V_drew)); exact HO_0.out, by repeat (first | (with_reducible first | exact HB.out | apply below_alloc | apply pw_below_drewN | apply below_drew1) | exact HB.out)⟩
         · rw [if_neg c5] at H
           exact absurd H (by simp)
       · rw [if_neg c4] at H
         exact absurd H (by simp)
     · rw [if_neg c2] at H
       have c2b0 : decide (0 < (x0_1.length : Int)) = false := decide_eq_false c2
       have c2b1 : decide (0 < x0_1.length) = false := decide_eq_false (by omega)
       clear c2
       obtain rfl := Option.some.inj H
       obtain ⟨Ao12, co12, eo12⟩ := Kd.V_slice HO_0.out
       subst eo12
       go_wp2
       go_ret
       exact ⟨_, by first | rfl | (simp [errW_none, errW_some] <;> rfl) | (simp [*, errW_none, errW_some] <;> rfl), by (with_reducible repeat (first | apply Kd.V_alloc | apply Kd.V_drewN | apply Kd.V_drew)); exact HO_0.out, by repeat (first | (with_reducible first | exact HB.out | apply below_alloc | apply pw_below_drewN | apply below_drew1) | exact HB.out)⟩
def spec_natShort.l0 : Nat → List Int → Int → List Int → Int → Int → Option (List Int × Int)
 | 0, _, _, _, _, _ => none
 | k + 1, x0, x1, x6, x7, x8 => if x8 ≥ 0 then (if 0 ≤ x8 then (if x8 < (x0.length : Int) then (if (IntKind.u64.wrap (x1)) = 0 then (none) else (if x8 < (x6.length : Int) then (spec_natShort.l0 k x0 x1 (x6.set (x8 : Int).toNat ((IntKind.u64.wrap (Int.tdiv (IntKind.u64.wrap ((IntKind.u64.wrap (x7 * 1000000000)) + (IntKind.u64.wrap (rd x0 x8)))) (IntKind.u64.wrap (x1)))) % 4294967296)) (Int.tmod (IntKind.u64.wrap ((IntKind.u64.wrap (x7 * 1000000000)) + (IntKind.u64.wrap (rd x0 x8)))) (IntKind.u64.wrap (x1))) (wrap64 (x8 - 1))) else (none))) else (none)) else (none)) else ((spec_natTrim.f k x6).bind fun t112 => (some (t112, (x7) % 4294967296)))
def spec_natShort.f (k : Nat) (l0 : List Int) (a1 : Int) : Option (List Int × Int) := if 0 ≤ (l0.length : Int) then (if ((l0.length : Int) : Int).toNat ≤ 70368744177664 then (spec_natShort.l0 k l0 a1 (List.replicate ((l0.length : Int) : Int).toNat 0) 0 (wrap64 ((l0.length : Int) - 1))) else (none)) else (none)
theorem spec_natShort.mono_l : ∀ k, (∀ y0 y1 y2 y3 y4, LeO (spec_natShort.l0 k y0 y1 y2 y3 y4) (spec_natShort.l0 (k + 1) y0 y1 y2 y3 y4))
 | 0 => fun _ _ _ _ _ r h => by simp [spec_natShort.l0] at h
 | k + 1 => by
   have ih0 := spec_natShort.mono_l k
   · intro y0 y1 y2 y3 y4
     unfold spec_natShort.l0
     repeat' first
     | (with_reducible exact ih0 _ _ _ _ _)
     | (with_reducible exact spec_natTrim.mono _ _)
     | (with_reducible exact LeO.refl _)
     | (with_reducible exact LeO.none _)
     | (with_reducible refine LeO.ite ?_ ?_)
     | (with_reducible refine LeO.bind ?_ (fun _ => ?_))
     | exact ih0 _ _ _ _ _
     | exact spec_natTrim.mono _ _
     | exact LeO.none _
     | refine LeO.ite ?_ ?_
     | refine LeO.bind ?_ (fun _ => ?_)
theorem spec_natShort.mono : ∀ a0 a1 k, LeO (spec_natShort.f k a0 a1) (spec_natShort.f (k + 1) a0 a1) := by
 intro a0 a1 k
 have ih0 := spec_natShort.mono_l k
 unfold spec_natShort.f
 repeat' first
     | (with_reducible exact ih0 _ _ _ _ _)
     | (with_reducible exact spec_natTrim.mono _ _)
     | (with_reducible exact LeO.refl _)
     | (with_reducible exact LeO.none _)
     | (with_reducible refine LeO.ite ?_ ?_)
     | (with_reducible refine LeO.bind ?_ (fun _ => ?_))
     | exact ih0 _ _ _ _ _
     | exact spec_natTrim.mono _ _
     | exact LeO.none _
     | refine LeO.ite ?_ ?_
     | refine LeO.bind ?_ (fun _ => ?_)
set_option maxHeartbeats 8000000 in
set_option maxRecDepth 100000 in
theorem spec_natShort.calls (k : Nat) (A0 : Option Addr) (c0 : Nat) (l0 : List Int) (a1 : Int) (r1 : List Int) (r2 : Int) (w : World) (hr0 : Kd.C (Kd.int .u32) w A0 l0.length l0) (hc0 : l0.length ≤ c0) (h : spec_natShort.f k l0 a1 = some (r1, r2)) :
   Calls Tryz.prog 39 #[.slice A0 l0.length c0, .int .u32 a1] w fun e w' => ∃ v0_ : Value, e = .returned (.tuple #[v0_, .int .u32 r2]) ∧ Kd.V (Kd.int .u32) 44 w' w.heap.size (fun k_ => (w.heap.size ≤ k_)) v0_ r1 ∧ Below w.heap.size w w' := by
 have HR0 := Aside0.mk hr0
 have HC0 := Aside0.mk hc0
 clear hr0 hc0
 have HB := Aside0.mk (Below.refl w.heap.size w)
 have H : (if 0 ≤ (l0.length : Int) then (if ((l0.length : Int) : Int).toNat ≤ 70368744177664 then (spec_natShort.l0 k l0 a1 (List.replicate ((l0.length : Int) : Int).toNat 0) 0 (wrap64 ((l0.length : Int) - 1))) else (none)) else (none)) = some (r1, r2) := h
 clear h
 by_cases c3 : 0 ≤ (l0.length : Int)
 · rw [if_pos c3] at H
   have c3b0 := eq_true c3
   have c3b1 : decide (0 ≤ (l0.length : Int)) = true := decide_eq_true c3
   clear c3
   by_cases c4 : ((l0.length : Int) : Int).toNat ≤ 70368744177664
   · rw [if_pos c4] at H
     have c4b0 := eq_true c4
     have c4b1 : decide (((l0.length : Int) : Int).toNat ≤ 70368744177664) = true := decide_eq_true c4
     clear c4
     obtain ⟨y107, hy107⟩ : ∃ y_ : List Int, y_ = (List.replicate ((l0.length : Int) : Int).toNat 0) := ⟨_, rfl⟩
     replace H : (spec_natShort.l0 k l0 a1 y107 0 (wrap64 ((l0.length : Int) - 1))) = some (r1, r2) := by first | (rw [hy107]; with_reducible exact H) | (have H2_ := (Option.bind_some _ _).symm.trans H; rw [hy107]; with_reducible exact H2_) | (have H2_ := (Option.bind_some _ _).symm.trans H; with_reducible exact H2_) | with_reducible exact H | (rw [hy107]; exact H) | exact H
     have Ny107 := Aside0.mk hy107
     clear hy107
     have H' := Aside0.mk H
     clear H
     go_enter Tryz.func39, Tryz.ntmps39
     go_wp2_with (first | ((with_reducible refine gate_dst (N := 11) rfl ?_); refine Kd.R_make (Kd.int .u32) _ 44 rfl (N := 11) rfl 24 _ _ rfl (l0.length : Int) rfl rfl Tryz.underlying24 (.int .u32 0) 4 info44 rfl (by decide) (by omega) 0 (ok := fun _ => True) (okp := fun _ => True) rfl (fun _ hk => hk) trivial (of_decide_eq_true (by first | (with_reducible assumption) | assumption)) (Nat.le_trans (Nat.mul_le_mul_right _ (of_decide_eq_true (by first | (with_reducible assumption) | assumption) : (l0.length : Int).toNat ≤ 70368744177664)) (by omega)) (Below.refl _ _) (Nat.le_refl _) ?_; intro v108 w5 ho6 hb hg_ hnew_; clear hg_ hnew_; (first | rw [← Ny107.out] at ho6 | (simp only [Int.reduceToNat] at ho6; rw [← Ny107.out] at ho6)); have n0_ := Aside0.mk (Kd.R_lower (Kd.R_newM (M := fun k_ => (w.heap.size ≤ k_)) ho6 (below_size (by repeat (first | (with_reducible first | exact HB.out | apply below_alloc | apply pw_below_drewN | apply below_drew1) | exact HB.out))) (fun k_ h_ => h_)) (below_size (by repeat (first | (with_reducible first | exact HB.out | apply below_alloc | apply pw_below_drewN | apply below_drew1) | exact HB.out)))); have n1_ := Aside0.mk (below_step (by repeat (first | (with_reducible first | exact HB.out | apply below_alloc | apply pw_below_drewN | apply below_drew1) | exact HB.out)) hb); clear HB; have HO109 := n0_; have HB := n1_; clear n0_ n1_; clear hb ho6))
     go_loopg [7, 8] k (fun kq v7 v8 w' => ∃ (x6_1 : List Int) (x7_1 : Int) (x8_1 : Int), v7 = .int .u64 x7_1 ∧ v8 = .int .i64 x8_1 ∧ Aside0 (spec_natShort.l0 kq l0 a1 x6_1 x7_1 x8_1 = some (r1, r2)) ∧ Aside0 (kq ≤ k) ∧ Aside0 (Kd.R (Kd.int .u32) 44 w' w.heap.size (fun k_ => (w.heap.size ≤ k_)) v108 x6_1) ∧ Aside0 (Below w.heap.size w w'))
     case atStart => exact ⟨(y107), (0), (wrap64 ((l0.length : Int) - 1)), (by first | rfl | (simp; done) | (simp [*]; done)), (by first | rfl | (simp; done) | (simp [*]; done)), H', ⟨Nat.le_refl _⟩, ⟨by (with_reducible repeat (first | apply Kd.R_alloc | apply Kd.R_drewN | apply Kd.R_drew)); exact Kd.R_mono HO109.out (fun _ hk => hk.1)⟩, ⟨by repeat (first | (with_reducible first | exact HB.out | apply below_alloc | apply pw_below_drewN | apply below_drew1) | exact HB.out)⟩⟩
     case round =>
       clear H'
       try clear p2
       try clear c3
       try clear c3b0
       try clear c3b1
       try clear c4
       try clear c4b0
       try clear c4b1
       try clear p6
       obtain ⟨x6_1, x7_1, x8_1, rfl, rfl, HA, HK1, HO_6, HB⟩ := hrel
       cases gk with
       | zero => exact absurd HA.out (by simp [spec_natShort.l0])
       | succ k1 =>
         have H := HA.out
         clear HA
         simp only [spec_natShort.l0] at H
         by_cases c7 : x8_1 ≥ 0
         · rw [if_pos c7] at H
           have c7b0 : decide (0 ≤ x8_1) = true := decide_eq_true c7
           clear c7
           by_cases c8 : 0 ≤ x8_1
           · rw [if_pos c8] at H
             have c8b0 : decide (0 ≤ x8_1) = true := decide_eq_true c8
             clear c8
             by_cases c9 : x8_1 < (l0.length : Int)
             · rw [if_pos c9] at H
               have c9b0 : decide (x8_1 < (l0.length : Int)) = true := decide_eq_true c9
               clear c9
               by_cases c10 : (IntKind.u64.wrap (a1)) = 0
               · rw [if_pos c10] at H
                 exact absurd H (by simp)
               · rw [if_neg c10] at H
                 have c10b0 : ((IntKind.u64.wrap (a1)) == 0) = false := beq_eq_false_iff_ne.mpr c10
                 have c10b1 : ((IntKind.u64.wrap (a1)) != 0) = true := bne_iff_ne.mpr c10
                 by_cases c11 : x8_1 < (x6_1.length : Int)
                 · rw [if_pos c11] at H
                   have c11b0 : decide (x8_1 < (x6_1.length : Int)) = true := decide_eq_true c11
                   clear c11
                   obtain ⟨y111, hy111⟩ : ∃ y_ : List Int, y_ = (x6_1.set (x8_1 : Int).toNat ((IntKind.u64.wrap (Int.tdiv (IntKind.u64.wrap ((IntKind.u64.wrap (x7_1 * 1000000000)) + (IntKind.u64.wrap (rd l0 x8_1)))) (IntKind.u64.wrap (a1)))) % 4294967296)) := ⟨_, rfl⟩
                   replace H : (spec_natShort.l0 k1 l0 a1 y111 (Int.tmod (IntKind.u64.wrap ((IntKind.u64.wrap (x7_1 * 1000000000)) + (IntKind.u64.wrap (rd l0 x8_1)))) (IntKind.u64.wrap (a1))) (wrap64 (x8_1 - 1))) = some (r1, r2) := by first | (rw [hy111]; with_reducible exact H) | (have H2_ := (Option.bind_some _ _).symm.trans H; rw [hy111]; with_reducible exact H2_) | (have H2_ := (Option.bind_some _ _).symm.trans H; with_reducible exact H2_) | with_reducible exact H | (rw [hy111]; exact H) | exact H
                   have Ny111 := Aside0.mk hy111
                   clear hy111
                   have H' := Aside0.mk H
                   clear H
                   have p110 : 0 ≤ (x8_1 : Int) := of_decide_eq_true (by first | (with_reducible assumption) | assumption)
                   have q110 : x8_1 < (l0.length : Int) := of_decide_eq_true (by first | (with_reducible assumption) | assumption)
                   obtain ⟨ad110, e110, hx110_0⟩ := Kd.at_int HR0.out x8_1 p110 q110
                   cases e110
                   replace hx110_0 := (HB.out.cell (World.block_lt_of_cell? w _ hx110_0)).trans hx110_0
                   replace p110 := eq_true p110
                   replace q110 := eq_true q110
                   have p12 : 0 ≤ (x8_1 : Int) := of_decide_eq_true (by first | (with_reducible assumption) | assumption)
                   have q12 : (x8_1 : Int) < ((x6_1.length : Int) : Int) := of_decide_eq_true (by first | (with_reducible assumption) | assumption)
                   obtain ⟨go12, co12, eo12, gb12, gl12, cl12, HG12⟩ := Kd.R_form HO_6.out (by omega)
                   (first | cases eo12 | (injection eo12 with ea_ en_ ec_; (first | subst ea_ | (injection ea_ with ea_; subst ea_)); subst ec_; clear en_))
                   have GB12 := Aside0.mk gb12
                   have GG12 := Aside0.mk HG12
                   clear gb12 gl12 HG12
                   obtain ⟨hx12_0, hf12_0⟩ := Kd.R_celln 0 HO_6.out (x8_1 : Int) p12 q12
                   replace p12 := eq_true p12
                   replace q12 := eq_true q12
                   have HP13 := Kd.R_putg HO_6.out (x8_1 : Int) ((IntKind.u64.wrap (Int.tdiv (IntKind.u64.wrap ((IntKind.u64.wrap (x7_1 * 1000000000)) + (IntKind.u64.wrap (rd l0 x8_1)))) (IntKind.u64.wrap (a1)))) % 4294967296)
                   go_wp2_with (first | ((with_reducible refine gate_store (t := 44) (p := 34) rfl ?_); refine store_event (t := 44) (p := 34) (v := ?vo_w14) (w1 := (wr.setCell ⟨go12, (x8_1 : Int).toNat, none⟩ (.int .u32 ((IntKind.u64.wrap (Int.tdiv (IntKind.u64.wrap ((IntKind.u64.wrap (x7_1 * 1000000000)) + (IntKind.u64.wrap (rd l0 x8_1)))) (IntKind.u64.wrap (a1)))) % 4294967296)))) ?hg ?ho ?hn ?hr ?_; (case ho => rfl); (case hg => rfl); (case hn => rfl); (case hr => first | (go_simp; done) | (go_simp; rfl)); intro w14 hw; have hg : wr.grownBy w14 (some go12) := (by rw [hw]; exact HP13.2); have hp_ : Kd.R (Kd.int .u32) 44 w14 w.heap.size (fun k_ => (w.heap.size ≤ k_)) (.slice (some ⟨go12, 0, none⟩) x6_1.length co12) y111 := (by rw [hw, Ny111.out]; exact HP13.1); clear HP13; have n0_ := Aside0.mk (hp_); have n1_ := Aside0.mk ((by rw [hw]; exact below_set (HB.out) GB12.out : Below w.heap.size w w14)); clear HO_6; clear HB; have HO_6 := n0_; have HB := n1_; clear n0_ n1_; clear hg hw hp_))
                   go_roundg k1
                   case measure => have := HK1.out; omega
                   case rel => exact ⟨(y111), (Int.tmod (IntKind.u64.wrap ((IntKind.u64.wrap (x7_1 * 1000000000)) + (IntKind.u64.wrap (rd l0 x8_1)))) (IntKind.u64.wrap (a1))), (wrap64 (x8_1 - 1)), (by first | rfl | (simp; done) | (simp [*]; done)), (by first | rfl | (simp; done) | (simp [*]; done)), H', ⟨by have := HK1.out; omega⟩, ⟨by (with_reducible repeat (first | apply Kd.R_alloc | apply Kd.R_drewN | apply Kd.R_drew)); exact HO_6.out⟩, ⟨by repeat (first | (with_reducible first | exact HB.out | apply below_alloc | apply pw_below_drewN | apply below_drew1) | exact HB.out)⟩⟩
                 · rw [if_neg c11] at H
                   exact absurd H (by simp)
             · rw [if_neg c9] at H
               exact absurd H (by simp)
           · rw [if_neg c8] at H
             exact absurd H (by simp)
         · rw [if_neg c7] at H
           have c7b0 : decide (0 ≤ x8_1) = false := decide_eq_false c7
           clear c7
           replace H := Option.bind_eq_some_iff.mp H
           obtain ⟨t112, A150, H⟩ := H
           replace H : (some (t112, (x7_1) % 4294967296)) = some (r1, r2) := H
           have A15 := Aside0.mk A150
           clear A150
           simp only [Option.some.injEq, Prod.mk.injEq] at H
           obtain ⟨rfl, rfl⟩ := H
           obtain ⟨Ao16, co16, eo16⟩ := Kd.R_slice HO_6.out
           subst eo16
           go_wp2_with (first | ((with_reducible refine gate_callee (f := 40) rfl ?_); refine goesL_ (some 40) rfl rfl Tryz.func40 (by kernel_rfl) rfl #[.slice Ao16 x6_1.length co16] rfl (by (try simp only [List.map_toArray, List.map_cons, List.map_nil]); first | done | rfl | (simp only [List.length_drop, List.length_take]; rfl)) ?_; (with_reducible refine (spec_natTrim.calls k1 (fun k_ => some k_ = (.slice Ao16 x6_1.length co16 : Value).ownBlock) _ _ x6_1 t112 _ ?side1 A15.out).mono ?_); (case side1 => exact Kd.R_V (Kd.R_tight rfl (HO_6.out))); rintro e w17 ⟨v113, rfl, ho0, hb⟩; refine ⟨_, rfl, ?_⟩; have n0_ := Aside0.mk (Kd.R_below (by (with_reducible repeat (first | apply Kd.R_alloc | apply Kd.R_drewN | apply Kd.R_drew)); exact HO_6.out) hb); have n1_ := Aside0.mk (Kd.V_lower (Kd.V_mono (ok' := fun k_ => (w.heap.size ≤ k_)) ho0 (fun k_ hk_ => Or.elim hk_ (fun hs_ => ((HO_6.out).1 k_ hs_.symm)) (fun hn_ => (Nat.le_trans (below_size (by repeat (first | (with_reducible first | exact HB.out | apply below_alloc | apply pw_below_drewN | apply below_drew1) | exact HB.out))) hn_)))) (below_size (by repeat (first | (with_reducible first | exact HB.out | apply below_alloc | apply pw_below_drewN | apply below_drew1) | exact HB.out)))); have n2_ := Aside0.mk (below_step (by repeat (first | (with_reducible first | exact HB.out | apply below_alloc | apply pw_below_drewN | apply below_drew1) | exact HB.out)) hb); clear HO_6; clear HB; have HO_6 := n0_; have HO114 := n1_; have HB := n2_; clear n0_ n1_ n2_; (try clear hb); (try clear hb2); (try clear hk); (try clear hi); (try clear ho0)))
           go_ret2
           exact ⟨_, by first | rfl | (simp [errW_none, errW_some] <;> rfl) | (simp [*, errW_none, errW_some] <;> rfl), by (with_reducible repeat (first | apply Kd.V_alloc | apply Kd.V_drewN | apply Kd.V_drew)); exact HO114.out, by repeat (first | (with_reducible first | exact HB.out | apply below_alloc | apply pw_below_drewN | apply below_drew1) | exact HB.out)⟩
   · rw [if_neg c4] at H
     exact absurd H (by simp)
 · rw [if_neg c3] at H
   exact absurd H (by simp)
end Go.Proofs.YteohmbannpbokaaGreatDoor.PnatShort
set_option linter.unusedVariables false
set_option linter.unusedSimpArgs false
namespace Go.Proofs.YteohmbannpbokaaGreatDoor.NatLaw
open Go.RowKit Go.Proofs.YteohmbannpbokaaGreatDoorW.PrintWords Go.Proofs.YteohmbannpbokaaGreatDoor.Digs
open Go.Proofs.YteohmbannpbokaaGreatDoor.PNatMul Go.Proofs.YteohmbannpbokaaGreatDoor.PNatCmp Go.Proofs.YteohmbannpbokaaGreatDoor.PPow10 Go.Proofs.YteohmbannpbokaaGreatDoor.PNatFrom
theorem ev_eq {α : Type} {g : Nat → Option α} {r r' : α} (e : r = r') (h : Ev g r) : Ev g r' := e ▸ h
theorem trim_ev : ∀ (m : Nat) (l : List Int), l.length = m → m ≤ 4000000000 → Dig l → ∀ n : Nat, val l = n → Ev (fun k => spec_natTrim.f k l) (digs n) := by
 intro m
 induction m with
 | zero =>
   intro l hl hm hd n hv
   obtain rfl := List.length_eq_zero_iff.1 hl
   have : n = 0 := by simp only [val] at hv; omega
   subst this
   rw [digs_zero]
   exact Ev.step (f := fun _ => some []) (fun k => by simp [spec_natTrim.f, spec_natTrim.l0]) (Ev.now _)
 | succ m ih =>
   intro l hl hm hd n hv
   have e : wrap64 ((l.length : Int) - 1) = (m : Int) := by rw [w64 _ (by omega) (by omega)]; omega
   have hne : l ≠ [] := fun h => by subst h; simp at hl
   by_cases hz : rd l (m : Int) = 0
   · refine Ev.step (f := fun k => spec_natTrim.f k (l.take m)) (fun k => ?_) (ih (l.take m) (by simp; omega) (by omega) (hd.take _) n ?_)
     · simp only [spec_natTrim.f, spec_natTrim.l0, e]
       rw [if_pos (by omega), if_pos (by omega), if_pos (by omega), if_pos hz, if_pos (by omega)]
       rfl
     · have := val_take_succ (l := l) (i := m) (by omega)
       rw [hz, Int.zero_mul, Int.add_zero, ← hl, List.take_length] at this
       rw [← this, hv]
   · refine Ev.step (f := fun _ => some l) (fun k => ?_) (ev_eq (canon hd (fun _ => ?_) hv) (Ev.now _))
     · simp only [spec_natTrim.f, spec_natTrim.l0, e]
       rw [if_pos (by omega), if_pos (by omega), if_pos (by omega), if_neg hz]
     · rw [rd_lt (by omega)] at hz
       rw [List.getLast_eq_getElem]
       simpa [hl] using hz
theorem from_ev_l : ∀ (n : Nat) (acc : List Int), n < 18446744073709551616 → acc.length + (digs n).length ≤ 1000 → Ev (fun k => spec_NatFrom.l0 k n acc) (acc ++ digs n) := by
 intro n
 induction n using Nat.strongRecOn with
 | _ n ih =>
   intro acc hn hl
   by_cases h : n = 0
   · subst h
     rw [digs_zero, List.append_nil]
     exact Ev.step (f := fun _ => some acc) (fun k => by simp [spec_NatFrom.l0]) (Ev.now _)
   · have e1 : IntKind.u64.wrap (Int.tdiv (n : Int) 1000000000) = ((n / 1000000000 : Nat) : Int) := by
       rw [Int.tdiv_eq_ediv_of_nonneg (by omega), wu64 _ (by omega) (by omega)]
       omega
     have e2 : Int.tmod (n : Int) 1000000000 % 4294967296 = ((n % 1000000000 : Nat) : Int) := by
       rw [Int.tmod_eq_emod_of_nonneg (by omega)]
       omega
     have hp := digs_pos h
     rw [hp] at hl ⊢
     simp only [List.length_cons] at hl
     refine Ev.step (f := fun k => spec_NatFrom.l0 k ((n / 1000000000 : Nat) : Int) (acc ++ [((n % 1000000000 : Nat) : Int)])) (fun k => ?_) (ev_eq (by simp) (ih (n / 1000000000) (by omega) _ (by omega) (by simp; omega)))
     simp only [spec_NatFrom.l0, e1, e2]
     rw [if_pos (by omega), if_pos (by omega)]
theorem from_ev (n : Nat) (h : n < 18446744073709551616) : Ev (fun k => spec_NatFrom.f k n) (digs n) := by
 have := from_ev_l n [] h (by have := len_digs_le (n := n) (L := 3) (by omega); simp; omega)
 exact this
def cmpN (a b : Nat) : Int := if a < b then -1 else if a = b then 0 else 1
def cmpI (a b : Int) : Int := if a < b then -1 else if a = b then 0 else 1
theorem cmp_ev_l (a b : List Int) (ha : Dig a) (hb : Dig b) (hl : a.length = b.length) (hm : a.length ≤ 4000000000) : ∀ t : Nat, t ≤ a.length →
   Ev (fun k => spec_NatCmp.l0 k a b ((t : Int) - 1)) (cmpI (val (a.take t)) (val (b.take t))) := by
 intro t
 induction t with
 | zero => intro _; exact Ev.step (f := fun _ => some 0) (fun k => by simp [spec_NatCmp.l0]) (ev_eq (by simp [cmpI, val]) (Ev.now _))
 | succ t ih =>
   intro ht
   have e : ((t + 1 : Nat) : Int) - 1 = (t : Int) := by omega
   have e1 : wrap64 ((t : Int) - 1) = (t : Int) - 1 := w64 _ (by omega) (by omega)
   have va := val_take_succ (l := a) (i := t) (by omega)
   have vb := val_take_succ (l := b) (i := t) (by omega)
   have la := val_lt (ha.take t)
   have lb := val_lt (hb.take t)
   have na := val_nonneg (ha.take t)
   have nb := val_nonneg (hb.take t)
   rw [List.length_take, Nat.min_eq_left (by omega)] at la lb
   have hP := pw_pos t
   rw [e]
   by_cases h : rd a (t : Int) = rd b (t : Int)
   · refine Ev.step (f := fun k => spec_NatCmp.l0 k a b ((t : Int) - 1)) (fun k => ?_) (ev_eq ?_ (ih (by omega)))
     · simp only [spec_NatCmp.l0, e1]
       rw [if_pos (by omega), if_pos (by omega), if_pos (by omega), if_pos (by omega), if_pos h]
     · rw [va, vb, h]
       generalize rd b (t : Int) * 1000000000 ^ t = q
       simp only [cmpI]
       split <;> split <;> (try split) <;> (try split) <;> omega
   · by_cases h2 : rd a (t : Int) < rd b (t : Int)
     · refine Ev.step (f := fun _ => some (-1)) (fun k => ?_) (ev_eq ?_ (Ev.now _))
       · simp only [spec_NatCmp.l0, e1]
         rw [if_pos (by omega), if_pos (by omega), if_pos (by omega), if_pos (by omega), if_neg h, if_pos h2]
       · have := Int.mul_le_mul_of_nonneg_right (show rd a (t : Int) + 1 ≤ rd b (t : Int) from h2) (Int.le_of_lt hP)
         rw [Int.add_mul] at this
         rw [va, vb, cmpI, if_pos (by omega)]
     · refine Ev.step (f := fun _ => some 1) (fun k => ?_) (ev_eq ?_ (Ev.now _))
       · simp only [spec_NatCmp.l0, e1]
         rw [if_pos (by omega), if_pos (by omega), if_pos (by omega), if_pos (by omega), if_neg h, if_neg h2]
       · have := Int.mul_le_mul_of_nonneg_right (show rd b (t : Int) + 1 ≤ rd a (t : Int) by omega) (Int.le_of_lt hP)
         rw [Int.add_mul] at this
         rw [va, vb, cmpI, if_neg (by omega), if_neg (by omega)]
theorem cmp_ev (a b : Nat) (h : (digs a).length ≤ 4000000000) : Ev (fun k => spec_NatCmp.f k (digs a) (digs b)) (cmpN a b) := by
 by_cases hl : (digs a).length = (digs b).length
 · have := cmp_ev_l (digs a) (digs b) (dig_digs a) (dig_digs b) hl h (digs a).length (Nat.le_refl _)
   rw [List.take_length, hl, List.take_length, val_digs, val_digs] at this
   refine Ev.congr (f := fun k => spec_NatCmp.l0 k (digs a) (digs b) (((digs b).length : Int) - 1)) (fun k => ?_) (ev_eq ?_ this)
   · simp only [spec_NatCmp.f]
     rw [if_pos (by omega), w64 _ (by omega) (by omega), hl]
   · simp only [cmpI, cmpN]
     split <;> split <;> (try split) <;> (try split) <;> omega
 · by_cases h2 : (digs a).length < (digs b).length
   · have := len_digs_lt h2
     refine Ev.congr (f := fun k => some (-1)) (fun k => ?_) (ev_eq ?_ (Ev.now _))
     · simp only [spec_NatCmp.f]
       rw [if_neg (by omega), if_pos (by omega)]
     · simp only [cmpN]; rw [if_pos this]
   · have := len_digs_lt (a := b) (b := a) (by omega)
     refine Ev.congr (f := fun k => some 1) (fun k => ?_) (ev_eq ?_ (Ev.now _))
     · simp only [spec_NatCmp.f]
       rw [if_neg (by omega), if_neg (by omega)]
     · simp only [cmpN]; rw [if_neg (by omega), if_neg (by omega)]
theorem wsum (c o x y : Int) (c0 : 0 ≤ c) (c1 : c < 1000000000) (o0 : 0 ≤ o) (o1 : o < 1000000000) (x0 : 0 ≤ x) (x1 : x < 1000000000) (y0 : 0 ≤ y) (y1 : y < 1000000000) (p0 : 0 ≤ x * y) (p1 : x * y ≤ 999999998000000001) :
   IntKind.u64.wrap (c + IntKind.u64.wrap (IntKind.u64.wrap o + IntKind.u64.wrap (IntKind.u64.wrap x * IntKind.u64.wrap y))) = c + (o + x * y) := by
 rw [wu64 o o0 (by omega), wu64 x x0 (by omega), wu64 y y0 (by omega)]
 generalize x * y = p at *
 rw [wu64 p p0 (by omega), wu64 (o + p) (by omega) (by omega), wu64 (c + (o + p)) (by omega) (by omega)]
theorem mul_ev_l1 (a b : List Int) (ha : Dig a) (hb : Dig b) (hm : a.length + b.length ≤ 4000000000) (i : Nat) (hi : i < a.length) : ∀ (d j : Nat) (out : List Int) (c : Int), b.length - j = d → j ≤ b.length → Dig out → out.length = a.length + b.length → 0 ≤ c → c < 1000000000 →
   ∃ (out' : List Int) (c' : Int), Dig out' ∧ out'.length = out.length ∧ 0 ≤ c' ∧ c' < 1000000000 ∧ val out' + c' * 1000000000 ^ (i + b.length) = val out + c * 1000000000 ^ (i + j) + rd a i * (val b - val (b.take j)) * 1000000000 ^ i ∧ (∀ m : Nat, i + b.length ≤ m → rd out' m = rd out m) ∧
     ∀ r, Ev (fun k => spec_NatMul.l0 k b (out'.set (i + b.length) c') a (a.length : Int) ((i : Int) + 1)) r → Ev (fun k => spec_NatMul.l1 k b out (i : Int) (rd a i) c a (a.length : Int) (i : Int) b (b.length : Int) (j : Int)) r := by
 intro d
 induction d with
 | zero =>
   intro j out c hd hj hD hl h0 h1
   obtain rfl : j = b.length := by omega
   refine ⟨out, c, hD, rfl, h0, h1, ?_, fun m _ => rfl, fun r hr => Ev.step (f := fun k => spec_NatMul.l0 k b (out.set (i + b.length) c) a (a.length : Int) ((i : Int) + 1)) (fun k => ?_) hr⟩
   · rw [List.take_length, Int.sub_self, Int.mul_zero, Int.zero_mul, Int.add_zero]
   · have e1 : wrap64 ((i : Int) + (b.length : Int)) = ((i + b.length : Nat) : Int) := by rw [w64 _ (by omega) (by omega)]; omega
     have e2 : wrap64 ((i : Int) + 1) = (i : Int) + 1 := w64 _ (by omega) (by omega)
     simp only [spec_NatMul.l1, e1, e2]
     rw [if_neg (by omega), if_pos (by omega), if_pos (by omega), Int.emod_eq_of_lt h0 (by omega), Int.toNat_natCast]
 | succ d ih =>
   intro j out c hd hj hD hl h0 h1
   have hij : i + j < out.length := by omega
   have ra := dig_rd ha (i : Int)
   have rb := dig_rd hb (j : Int)
   have ro := dig_rd hD ((i + j : Nat) : Int)
   have hp0 : 0 ≤ rd a i * rd b j := Int.mul_nonneg ra.1 rb.1
   have hp1 : rd a i * rd b j ≤ 999999998000000001 := Int.le_trans (Int.mul_le_mul (show rd a i ≤ 999999999 by omega) (show rd b j ≤ 999999999 by omega) rb.1 (by decide)) (by decide)
   obtain ⟨s, hs⟩ : ∃ s, s = c + (rd out ((i + j : Nat) : Int) + rd a i * rd b j) := ⟨_, rfl⟩
   have hs0 : 0 ≤ s := by omega
   have hs1 : s < 1000000000000000000 := by omega
   have hq : 1000000000 * (s / 1000000000) + s % 1000000000 = s := Int.mul_ediv_add_emod s 1000000000
   have hr0 : 0 ≤ s % 1000000000 := Int.emod_nonneg _ (by decide)
   have hr1 : s % 1000000000 < 1000000000 := Int.emod_lt_of_pos _ (by decide)
   obtain ⟨out', c', g1, g2, g3, g4, g5, g6, g7⟩ := ih (j + 1) (out.set (i + j) (s % 1000000000)) (s / 1000000000) (by omega) (by omega) (hD.set _ ⟨hr0, hr1⟩) (by rw [List.length_set, hl]) (by omega) (by omega)
   refine ⟨out', c', g1, by rw [g2, List.length_set], g3, g4, ?_, fun m hm => ?_, fun r hr => Ev.step (f := fun k => spec_NatMul.l1 k b (out.set (i + j) (s % 1000000000)) (i : Int) (rd a i) (s / 1000000000) a (a.length : Int) (i : Int) b (b.length : Int) ((j + 1 : Nat) : Int)) (fun k => ?_) (g7 r hr)⟩
   · rw [g5, val_set _ _ _ hij, val_take_succ (l := b) (by omega)]
     have e3 : (1000000000 : Int) ^ (i + (j + 1)) = 1000000000 * 1000000000 ^ (i + j) := by rw [← Nat.add_assoc, pw_succ]
     have e4 : (1000000000 : Int) ^ (i + j) = 1000000000 ^ i * 1000000000 ^ j := Int.pow_add _ _ _
     rw [e3, e4]
     have hq2 : s % 1000000000 = s - 1000000000 * (s / 1000000000) := by omega
     rw [hq2, hs]
     grind
   · rw [g6 m hm, rd_set_ne (by omega)]
   · have e1 : wrap64 ((i : Int) + (j : Int)) = ((i + j : Nat) : Int) := by rw [w64 _ (by omega) (by omega)]; omega
     have e2 : wrap64 ((j : Int) + 1) = ((j + 1 : Nat) : Int) := by rw [w64 _ (by omega) (by omega)]; omega
     have hw : IntKind.u64.wrap (s / 1000000000) = s / 1000000000 := wu64 _ (by omega) (by omega)
     have hr2 : s % 1000000000 < 4294967296 := by omega
     have q1 : (j : Int) < (b.length : Int) := by clear e1 e2 hw g5; omega
     have q4 : ((i + j : Nat) : Int) < (out.length : Int) := by clear e1 e2 hw g5; omega
     have e5 : IntKind.u64.wrap (c + IntKind.u64.wrap (IntKind.u64.wrap (rd out ((i + j : Nat) : Int)) + IntKind.u64.wrap (IntKind.u64.wrap (rd a i) * IntKind.u64.wrap (rd b j)))) = s := by
       rw [hs]
       exact wsum c (rd out ((i + j : Nat) : Int)) (rd a i) (rd b j) h0 h1 ro.1 ro.2 ra.1 ra.2 rb.1 rb.2 hp0 hp1
     simp only [spec_NatMul.l1, e1, e2, e5]
     rw [if_pos q1, if_pos (Int.natCast_nonneg _), if_pos q1, if_pos (Int.natCast_nonneg _), if_pos q4, Int.tmod_eq_emod_of_nonneg hs0, Int.tdiv_eq_ediv_of_nonneg hs0, hw, Int.emod_eq_of_lt hr0 hr2, Int.toNat_natCast]
theorem mul_ev_l0 (a b : List Int) (ha : Dig a) (hb : Dig b) (hm : a.length + b.length ≤ 4000000000) (n : Nat) (hn : val a * val b = n) : ∀ (d i : Nat) (out : List Int), a.length - i = d → i ≤ a.length → Dig out → out.length = a.length + b.length → val out = val (a.take i) * val b →
   (∀ m : Nat, i + b.length ≤ m → rd out m = 0) → Ev (fun k => spec_NatMul.l0 k b out a (a.length : Int) (i : Int)) (digs n) := by
 intro d
 induction d with
 | zero =>
   intro i out hd hi hD hl hv hz
   obtain rfl : i = a.length := by omega
   rw [List.take_length, hn] at hv
   refine Ev.step (f := fun k => (spec_natTrim.f k out).bind fun t => some t) (fun k => ?_) (Ev.bind (f := fun _ t => some t) (trim_ev _ out rfl (by omega) hD n hv) (Ev.now _))
   simp only [spec_NatMul.l0]
   rw [if_neg (by omega)]
 | succ d ih =>
   intro i out hd hi hD hl hv hz
   obtain ⟨out', c', g1, g2, g3, g4, g5, g6, g7⟩ := mul_ev_l1 a b ha hb hm i (by omega) _ 0 out 0 rfl (by omega) hD hl (by omega) (by omega)
   have hlt : i + b.length < out'.length := by omega
   refine Ev.step (f := fun k => spec_NatMul.l1 k b out (i : Int) (rd a i) 0 a (a.length : Int) (i : Int) b (b.length : Int) ((0 : Nat) : Int)) (fun k => ?_) (g7 _ (ih (i + 1) (out'.set (i + b.length) c') (by omega) (by omega) (g1.set _ ⟨g3, g4⟩) (by rw [List.length_set, g2, hl]) ?_ fun m hm => ?_))
   · simp only [spec_NatMul.l0]
     rw [if_pos (by omega), if_pos (by omega), if_pos (by omega)]
     rfl
   · rw [val_set _ _ _ hlt, g6 _ (Nat.le_refl _), hz _ (Nat.le_refl _), val_take_succ (l := a) (by omega)]
     rw [List.take_zero, hv] at g5
     simp only [val] at g5
     grind
   · rw [rd_set_ne (by omega), g6 _ (by omega), hz _ (by omega)]
theorem mul_ev (a b : Nat) (h : (digs a).length + (digs b).length ≤ 4000000000) : Ev (fun k => spec_NatMul.f k (digs a) (digs b)) (digs (a * b)) := by
 have e : wrap64 (((digs a).length : Int) + ((digs b).length : Int)) = (((digs a).length + (digs b).length : Nat) : Int) := by rw [w64 _ (by omega) (by omega)]; omega
 refine Ev.congr (f := fun k => spec_NatMul.l0 k (digs b) (List.replicate ((digs a).length + (digs b).length) 0) (digs a) ((digs a).length : Int) ((0 : Nat) : Int)) (fun k => ?_) (mul_ev_l0 (digs a) (digs b) (dig_digs a) (dig_digs b) h (a * b) (by rw [val_digs, val_digs]; exact (Int.natCast_mul a b).symm) _ 0 _ rfl (by omega) (Dig.rep _) (by simp) (by simp [val_rep, val]) (fun m _ => rd_rep _ m))
 simp only [spec_NatMul.f, e]
 rw [if_pos (by omega), if_pos (by rw [Int.toNat_natCast]; omega), Int.toNat_natCast]
 rfl
end Go.Proofs.YteohmbannpbokaaGreatDoor.NatLaw
