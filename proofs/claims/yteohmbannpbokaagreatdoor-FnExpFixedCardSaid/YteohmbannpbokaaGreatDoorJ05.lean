/-
 Words for this claim.
-/
import Derived.Test.YteohmbannpbokaaGreatDoorJ04
import Derived.Test.YteohmbannpbokaaGreatDoorProg
import Derived.Below
import Derived.Deep.Draws
import Derived.Deep.AppendLies
import Derived.Maps.AppendAt
import Derived.OwnWalk
import Derived.Laws.BytesArg
import Derived.Laws.MakeOwn
import Derived.Laws.OwnMore
import Derived.Deep.OwnRows
import Derived.Tactics
import Derived.Lib.ConvBytes
import Derived.Laws.Slices
import Derived.WalkKit
import Derived.KernelRfl
import Derived.RowKit3
import Derived.Deep.LoopGhost
import Derived.Deep.QuietTactic
import Derived.BigQuiet
import Derived.WideLaws
import Derived.Deep.DeepCutAuto
import Derived.Deep.CutBlock
import Derived.Deep.RegionHeld3
import Derived.Laws.Rows
import Derived.Lib.AppendStr
import Derived.ArgAppend
import Derived.Laws.IdiomCopy
import Derived.OrdersHeld
import Derived.Laws.BitsLemmas
import Derived.RowKit
import Derived.Test.YteohmbannpbokaaGreatDoorJ02
import Derived.Test.YteohmbannpbokaaGreatDoorJ01
import Derived.Test.YteohmbannpbokaaGreatDoorJ03
namespace Go.Proofs.YteohmbannpbokaaGreatDoor.PNatMul
open Go.RowKit Go.Proofs.YteohmbannpbokaaGreatDoorW.PrintWords Go.Proofs.YteohmbannpbokaaGreatDoorW.PrintLast Go.Proofs.YteohmbannpbokaaGreatDoorW.PrintMore
attribute [local go_sem] max2_int min2_int max_two min_two max_three min_three max_four min_four
set_option linter.unusedVariables false
set_option linter.unusedSimpArgs false
def spec_natTrim.l0 : Nat → List Int → Option (List Int)
 | 0, _ => none
 | k + 1, x0 => if (x0.length : Int) > 0 then (if 0 ≤ (wrap64 ((x0.length : Int) - 1)) then (if (wrap64 ((x0.length : Int) - 1)) < (x0.length : Int) then (if (rd x0 (wrap64 ((x0.length : Int) - 1))) = 0 then (if (wrap64 ((x0.length : Int) - 1)) ≤ (x0.length : Int) then (spec_natTrim.l0 k (x0.take ((wrap64 ((x0.length : Int) - 1)) : Int).toNat)) else (none)) else (some x0)) else (none)) else (none)) else (some x0)
def spec_natTrim.f (k : Nat) (l0 : List Int) : Option (List Int) := spec_natTrim.l0 k l0
theorem spec_natTrim.mono_l : ∀ k, (∀ y0, LeO (spec_natTrim.l0 k y0) (spec_natTrim.l0 (k + 1) y0))
 | 0 => fun _ r h => by simp [spec_natTrim.l0] at h
 | k + 1 => by
   have ih0 := spec_natTrim.mono_l k
   · intro y0
     unfold spec_natTrim.l0
     repeat' first
     | (with_reducible exact ih0 _)
     | (with_reducible exact LeO.refl _)
     | (with_reducible exact LeO.none _)
     | (with_reducible refine LeO.ite ?_ ?_)
     | (with_reducible refine LeO.bind ?_ (fun _ => ?_))
     | exact ih0 _
     | exact LeO.none _
     | refine LeO.ite ?_ ?_
     | refine LeO.bind ?_ (fun _ => ?_)
theorem spec_natTrim.mono : ∀ a0 k, LeO (spec_natTrim.f k a0) (spec_natTrim.f (k + 1) a0) := by
 intro a0 k
 have ih0 := spec_natTrim.mono_l k
 unfold spec_natTrim.f
 repeat' first
     | (with_reducible exact ih0 _)
     | (with_reducible exact LeO.refl _)
     | (with_reducible exact LeO.none _)
     | (with_reducible refine LeO.ite ?_ ?_)
     | (with_reducible refine LeO.bind ?_ (fun _ => ?_))
     | exact ih0 _
     | exact LeO.none _
     | refine LeO.ite ?_ ?_
     | refine LeO.bind ?_ (fun _ => ?_)
set_option maxHeartbeats 8000000 in
set_option maxRecDepth 100000 in
theorem spec_natTrim.calls (k : Nat) (P0_ : Nat → Prop) (A0 : Option Addr) (c0 : Nat) (l0 : List Int) (r : List Int) (w : World) (hs0 : Kd.V (Kd.int .u32) 44 w w.heap.size (fun k_ => P0_ k_) (.slice A0 l0.length c0) l0) (h : spec_natTrim.f k l0 = some r) :
   Calls Tryz.prog 40 #[.slice A0 l0.length c0] w fun e w' => ∃ v0_ : Value, e = .returned (v0_) ∧ Kd.V (Kd.int .u32) 44 w' w.heap.size (fun k_ => (P0_ k_ ∨ w.heap.size ≤ k_)) v0_ r ∧ Below w.heap.size w w' := by
 have HO0 := Aside0.mk (show Kd.V (Kd.int .u32) 44 w w.heap.size (fun k_ => (P0_ k_ ∨ w.heap.size ≤ k_)) (.slice A0 l0.length c0) l0 from Kd.V_mono hs0 (fun k_ hk => .inl hk))
 have HB := Aside0.mk (Below.refl w.heap.size w)
 have H : (spec_natTrim.l0 k l0) = some r := h
 clear h
 have H' := Aside0.mk H
 clear H
 go_enter Tryz.func40, Tryz.ntmps40
 go_wp2
 go_loopg [0] k (fun kq v0 w' => ∃ (x0_1 : List Int), Aside0 (spec_natTrim.l0 kq x0_1 = some r) ∧ Aside0 (kq ≤ k) ∧ Aside0 (Kd.V (Kd.int .u32) 44 w' w.heap.size (fun k_ => (P0_ k_ ∨ w.heap.size ≤ k_)) v0 x0_1) ∧ Aside0 (Below w.heap.size w w'))
 case atStart => exact ⟨(l0), H', ⟨Nat.le_refl _⟩, ⟨by (with_reducible repeat (first | apply Kd.V_alloc | apply Kd.V_drewN | apply Kd.V_drew)); exact HO0.out⟩, ⟨by repeat (first | (with_reducible first | exact HB.out | apply below_alloc | apply pw_below_drewN | apply below_drew1) | exact HB.out)⟩⟩
 case round =>
   clear H'
   obtain ⟨x0_1, HA, HK1, HO_0, HB⟩ := hrel
   cases gk with
   | zero => exact absurd HA.out (by simp [spec_natTrim.l0])
   | succ k1 =>
     have H := HA.out
     clear HA
     simp only [spec_natTrim.l0] at H
     by_cases c2 : (x0_1.length : Int) > 0
     · rw [if_pos c2] at H
       have c2b0 : decide (0 < (x0_1.length : Int)) = true := decide_eq_true c2
       have c2b1 : decide (0 < x0_1.length) = true := decide_eq_true (by omega)
       clear c2
       obtain ⟨ji3, hji3⟩ : ∃ j_ : Int, (wrap64 ((x0_1.length : Int) - 1)) = j_ := ⟨_, rfl⟩
       replace H : (if 0 ≤ (ji3) then (if (ji3) < (x0_1.length : Int) then (if (rd x0_1 (ji3)) = 0 then (if (ji3) ≤ (x0_1.length : Int) then (spec_natTrim.l0 k1 (x0_1.take ((ji3) : Int).toNat)) else (none)) else (some x0_1)) else (none)) else (none)) = some r := by first | (rw [hji3] at H; exact H) | (simp only [hji3] at H ⊢; exact H)
       have hji3w : (IntKind.i64.wrap ((x0_1.length : Int) - 1)) = ji3 := (i64_w _).trans hji3
       by_cases c4 : 0 ≤ (ji3)
       · rw [if_pos c4] at H
         have c4b0 : decide (0 ≤ (ji3)) = true := decide_eq_true c4
         clear c4
         by_cases c5 : (ji3) < (x0_1.length : Int)
         · rw [if_pos c5] at H
           have c5b0 : decide ((ji3) < (x0_1.length : Int)) = true := decide_eq_true c5
           clear c5
           by_cases c6 : (rd x0_1 (ji3)) = 0
           · rw [if_pos c6] at H
             have c6b0 : ((rd x0_1 (ji3)) == 0) = true := beq_iff_eq.mpr c6
             have c6b1 : ((rd x0_1 (ji3)) != 0) = false := bne_eq_false_iff_eq.mpr c6
             clear c6
             have c7b0 := eq_true (of_decide_eq_true (by first | (with_reducible assumption) | assumption) : 0 ≤ (ji3))
             by_cases c8 : (ji3) ≤ (x0_1.length : Int)
             · rw [if_pos c8] at H
               have c8b0 := eq_true c8
               have c8b1 : decide ((ji3) ≤ (x0_1.length : Int)) = true := decide_eq_true c8
               clear c8
               obtain ⟨y102, hy102⟩ : ∃ y_ : List Int, y_ = (x0_1.take ((ji3) : Int).toNat) := ⟨_, rfl⟩
               replace H : (spec_natTrim.l0 k1 y102) = some r := by first | (rw [hy102]; with_reducible exact H) | (have H2_ := (Option.bind_some _ _).symm.trans H; rw [hy102]; with_reducible exact H2_) | (have H2_ := (Option.bind_some _ _).symm.trans H; with_reducible exact H2_) | with_reducible exact H | (rw [hy102]; exact H) | exact H
               have Ny102 := Aside0.mk hy102
               clear hy102
               have H' := Aside0.mk H
               clear H
               obtain ⟨Ao9, co9, eo9⟩ := Kd.V_slice HO_0.out
               subst eo9
               have p101 : 0 ≤ ((ji3) : Int) := of_decide_eq_true (by first | (with_reducible assumption) | assumption)
               have q101 : (ji3) < (x0_1.length : Int) := of_decide_eq_true (by first | (with_reducible assumption) | assumption)
               obtain ⟨ad101, e101, hx101_0⟩ := Kd.at_int (Kd.V_reads' HO_0.out).2.2 (ji3) p101 q101
               cases e101
               replace p101 := eq_true p101
               replace q101 := eq_true q101
               have q10 : ((ji3) : Int) ≤ ((x0_1.length : Int) : Int) := of_decide_eq_true (by first | (with_reducible assumption) | assumption)
               obtain ⟨i010, hi010, _, hsz10, _⟩ := info_parts info44
               have hroom10 : x0_1.length ≤ co9 := (Kd.V_reads' HO_0.out).2.1
               have hC10 : Kd.F (Kd.int .u32) _ _ (some ad101) x0_1.length x0_1 := (Kd.V_at (base := w.heap.size) HO_0.out).2.2
               have hcut10 := cut_to (P := Tryz.prog) 24 44 .i64 Tryz.underlying24 hi010 (some ad101) x0_1.length co9 (ji3) (of_decide_eq_true (by first | (with_reducible assumption) | assumption)) q10 hroom10
               have hr10 := Kd.F_take (m := ((ji3) : Int).toNat) hC10 (by omega)
               have hy10 : y102.length = ((ji3) : Int).toNat := (by rw [Ny102.out, List.length_take]; omega)
               rw [← Ny102.out] at hr10
               rw [← hy10] at hcut10
               have HO106 := Aside0.mk (show Kd.V (Kd.int .u32) 44 _ w.heap.size _ (.slice (some ad101) y102.length co9) y102 from Kd.V_mk (by omega) hr10)
               have HC106 := Aside0.mk (show y102.length ≤ co9 from by omega)
               clear hr10 hC10 hroom10 hi010 hsz10
               have KY10 := Aside0.mk hy10
               clear hy10
               replace q10 := eq_true q10
               go_wp2
               go_roundg k1
               case measure => have := HK1.out; omega
               case rel => exact ⟨(y102), H', ⟨by have := HK1.out; omega⟩, ⟨by (with_reducible repeat (first | apply Kd.V_alloc | apply Kd.V_drewN | apply Kd.V_drew)); exact HO106.out⟩, ⟨by repeat (first | (with_reducible first | exact HB.out | apply below_alloc | apply pw_below_drewN | apply below_drew1) | exact HB.out)⟩⟩
             · rw [if_neg c8] at H
               exact absurd H (by simp)
           · rw [if_neg c6] at H
             have c6b0 : ((rd x0_1 (ji3)) == 0) = false := beq_eq_false_iff_ne.mpr c6
             have c6b1 : ((rd x0_1 (ji3)) != 0) = true := bne_iff_ne.mpr c6
             obtain rfl := Option.some.inj H
             obtain ⟨Ao11, co11, eo11⟩ := Kd.V_slice HO_0.out
             subst eo11
             have p101 : 0 ≤ ((ji3) : Int) := of_decide_eq_true (by first | (with_reducible assumption) | assumption)
             have q101 : (ji3) < (x0_1.length : Int) := of_decide_eq_true (by first | (with_reducible assumption) | assumption)
             obtain ⟨ad101, e101, hx101_0⟩ := Kd.at_int (Kd.V_reads' HO_0.out).2.2 (ji3) p101 q101
             cases e101
             replace p101 := eq_true p101
             replace q101 := eq_true q101
             go_wp2
             go_ret
             exact ⟨_, by first | rfl | (simp [errW_none, errW_some] <;> rfl) | (simp only [← hji3]; first | rfl | (simp [errW_none, errW_some] <;> rfl)) | (simp [*, errW_none, errW_some] <;> rfl), by (with_reducible repeat (first | apply Kd.V_alloc | apply Kd.V_drewN | apply Kd.V_drew)); exact HO_0.out, by repeat (first | (with_reducible first | exact HB.out | apply below_alloc | apply pw_below_drewN | apply below_drew1) | exact HB.out)⟩
         · rw [if_neg c5] at H
           exact absurd H (by simp)
       · rw [if_neg c4] at H
         exact absurd H (by simp)
     · rw [if_neg c2] at H
       have c2b0 : decide (0 < (x0_1.length : Int)) = false := decide_eq_false c2
       have c2b1 : decide (0 < x0_1.length) = false := decide_eq_false (by omega)
       clear c2
       obtain rfl := Option.some.inj H
       obtain ⟨Ao12, co12, eo12⟩ := Kd.V_slice HO_0.out
       subst eo12
       go_wp2
       go_ret
       exact ⟨_, by first | rfl | (simp [errW_none, errW_some] <;> rfl) | (simp [*, errW_none, errW_some] <;> rfl), by (with_reducible repeat (first | apply Kd.V_alloc | apply Kd.V_drewN | apply Kd.V_drew)); exact HO_0.out, by repeat (first | (with_reducible first | exact HB.out | apply below_alloc | apply pw_below_drewN | apply below_drew1) | exact HB.out)⟩
mutual
def spec_NatMul.l0 : Nat → List Int → List Int → List Int → Int → Int → Option (List Int)
 | 0, _, _, _, _, _ => none
 | k + 1, x1, x5, x17, x18, x19 => if x19 < x18 then (if 0 ≤ x19 then (if x19 < (x17.length : Int) then (spec_NatMul.l1 k x1 x5 x19 (rd x17 x19) 0 x17 x18 x19 x1 (x1.length : Int) 0) else (none)) else (none)) else ((spec_natTrim.f k x5).bind fun t110 => (some t110))
def spec_NatMul.l1 : Nat → List Int → List Int → Int → Int → Int → List Int → Int → Int → List Int → Int → Int → Option (List Int)
 | 0, _, _, _, _, _, _, _, _, _, _, _ => none
 | k + 1, x1, x5, x6, x7, x8, x17, x18, x19, x24, x25, x26 => if x26 < x25 then (if 0 ≤ x26 then (if x26 < (x24.length : Int) then (if 0 ≤ (wrap64 (x6 + x26)) then (if (wrap64 (x6 + x26)) < (x5.length : Int) then (spec_NatMul.l1 k x1 (x5.set ((wrap64 (x6 + x26)) : Int).toNat ((Int.tmod (IntKind.u64.wrap (x8 + (IntKind.u64.wrap ((IntKind.u64.wrap (rd x5 (wrap64 (x6 + x26)))) + (IntKind.u64.wrap ((IntKind.u64.wrap (x7)) * (IntKind.u64.wrap (rd x24 x26)))))))) 1000000000) % 4294967296)) x6 x7 (IntKind.u64.wrap (Int.tdiv (IntKind.u64.wrap (x8 + (IntKind.u64.wrap ((IntKind.u64.wrap (rd x5 (wrap64 (x6 + x26)))) + (IntKind.u64.wrap ((IntKind.u64.wrap (x7)) * (IntKind.u64.wrap (rd x24 x26)))))))) 1000000000)) x17 x18 x19 x24 x25 (wrap64 (x26 + 1))) else (none)) else (none)) else (none)) else (none)) else (if 0 ≤ (wrap64 (x6 + (x1.length : Int))) then (if (wrap64 (x6 + (x1.length : Int))) < (x5.length : Int) then (spec_NatMul.l0 k x1 (x5.set ((wrap64 (x6 + (x1.length : Int))) : Int).toNat ((x8) % 4294967296)) x17 x18 (wrap64 (x19 + 1))) else (none)) else (none))
end
def spec_NatMul.f (k : Nat) (l0 : List Int) (l1 : List Int) : Option (List Int) := if 0 ≤ (wrap64 ((l0.length : Int) + (l1.length : Int))) then (if (wrap64 ((l0.length : Int) + (l1.length : Int)) : Int).toNat ≤ 70368744177664 then (spec_NatMul.l0 k l1 (List.replicate (wrap64 ((l0.length : Int) + (l1.length : Int)) : Int).toNat 0) l0 (l0.length : Int) 0) else (none)) else (none)
theorem spec_NatMul.mono_l : ∀ k, (∀ y0 y1 y2 y3 y4, LeO (spec_NatMul.l0 k y0 y1 y2 y3 y4) (spec_NatMul.l0 (k + 1) y0 y1 y2 y3 y4)) ∧ (∀ y0 y1 y2 y3 y4 y5 y6 y7 y8 y9 y10, LeO (spec_NatMul.l1 k y0 y1 y2 y3 y4 y5 y6 y7 y8 y9 y10) (spec_NatMul.l1 (k + 1) y0 y1 y2 y3 y4 y5 y6 y7 y8 y9 y10))
 | 0 => ⟨fun _ _ _ _ _ r h => by simp [spec_NatMul.l0] at h, fun _ _ _ _ _ _ _ _ _ _ _ r h => by simp [spec_NatMul.l1] at h⟩
 | k + 1 => by
   obtain ⟨ih0, ih1⟩ := spec_NatMul.mono_l k
   refine ⟨?_, ?_⟩
   · intro y0 y1 y2 y3 y4
     unfold spec_NatMul.l0
     repeat' first
     | (with_reducible exact ih0 _ _ _ _ _)
     | (with_reducible exact ih1 _ _ _ _ _ _ _ _ _ _ _)
     | (with_reducible exact spec_natTrim.mono _ _)
     | (with_reducible exact LeO.refl _)
     | (with_reducible exact LeO.none _)
     | (with_reducible refine LeO.ite ?_ ?_)
     | (with_reducible refine LeO.bind ?_ (fun _ => ?_))
     | exact ih0 _ _ _ _ _
     | exact ih1 _ _ _ _ _ _ _ _ _ _ _
     | exact spec_natTrim.mono _ _
     | exact LeO.none _
     | refine LeO.ite ?_ ?_
     | refine LeO.bind ?_ (fun _ => ?_)
   · intro y0 y1 y2 y3 y4 y5 y6 y7 y8 y9 y10
     unfold spec_NatMul.l1
     repeat' first
     | (with_reducible exact ih0 _ _ _ _ _)
     | (with_reducible exact ih1 _ _ _ _ _ _ _ _ _ _ _)
     | (with_reducible exact spec_natTrim.mono _ _)
     | (with_reducible exact LeO.refl _)
     | (with_reducible exact LeO.none _)
     | (with_reducible refine LeO.ite ?_ ?_)
     | (with_reducible refine LeO.bind ?_ (fun _ => ?_))
     | exact ih0 _ _ _ _ _
     | exact ih1 _ _ _ _ _ _ _ _ _ _ _
     | exact spec_natTrim.mono _ _
     | exact LeO.none _
     | refine LeO.ite ?_ ?_
     | refine LeO.bind ?_ (fun _ => ?_)
theorem spec_NatMul.mono : ∀ a0 a1 k, LeO (spec_NatMul.f k a0 a1) (spec_NatMul.f (k + 1) a0 a1) := by
 intro a0 a1 k
 obtain ⟨ih0, ih1⟩ := spec_NatMul.mono_l k
 unfold spec_NatMul.f
 repeat' first
     | (with_reducible exact ih0 _ _ _ _ _)
     | (with_reducible exact ih1 _ _ _ _ _ _ _ _ _ _ _)
     | (with_reducible exact spec_natTrim.mono _ _)
     | (with_reducible exact LeO.refl _)
     | (with_reducible exact LeO.none _)
     | (with_reducible refine LeO.ite ?_ ?_)
     | (with_reducible refine LeO.bind ?_ (fun _ => ?_))
     | exact ih0 _ _ _ _ _
     | exact ih1 _ _ _ _ _ _ _ _ _ _ _
     | exact spec_natTrim.mono _ _
     | exact LeO.none _
     | refine LeO.ite ?_ ?_
     | refine LeO.bind ?_ (fun _ => ?_)
set_option maxHeartbeats 8000000 in
set_option maxRecDepth 100000 in
theorem spec_NatMul.calls (k : Nat) (A0 : Option Addr) (c0 : Nat) (l0 : List Int) (A1 : Option Addr) (c1 : Nat) (l1 : List Int) (r : List Int) (w : World) (hr0 : Kd.C (Kd.int .u32) w A0 l0.length l0) (hc0 : l0.length ≤ c0) (hr1 : Kd.C (Kd.int .u32) w A1 l1.length l1) (hc1 : l1.length ≤ c1) (h : spec_NatMul.f k l0 l1 = some r) :
   Calls Tryz.prog 37 #[.slice A0 l0.length c0, .slice A1 l1.length c1] w fun e w' => ∃ v0_ : Value, e = .returned (v0_) ∧ Kd.V (Kd.int .u32) 44 w' w.heap.size (fun k_ => (w.heap.size ≤ k_)) v0_ r ∧ Below w.heap.size w w' := by
 have HR0 := Aside0.mk hr0
 have HC0 := Aside0.mk hc0
 clear hr0 hc0
 have HR1 := Aside0.mk hr1
 have HC1 := Aside0.mk hc1
 clear hr1 hc1
 have HB := Aside0.mk (Below.refl w.heap.size w)
 have H : (if 0 ≤ (wrap64 ((l0.length : Int) + (l1.length : Int))) then (if (wrap64 ((l0.length : Int) + (l1.length : Int)) : Int).toNat ≤ 70368744177664 then (spec_NatMul.l0 k l1 (List.replicate (wrap64 ((l0.length : Int) + (l1.length : Int)) : Int).toNat 0) l0 (l0.length : Int) 0) else (none)) else (none)) = some r := h
 clear h
 obtain ⟨ji3, hji3⟩ : ∃ j_ : Int, (wrap64 ((l0.length : Int) + (l1.length : Int))) = j_ := ⟨_, rfl⟩
 replace H : (if 0 ≤ (ji3) then (if (ji3 : Int).toNat ≤ 70368744177664 then (spec_NatMul.l0 k l1 (List.replicate (ji3 : Int).toNat 0) l0 (l0.length : Int) 0) else (none)) else (none)) = some r := by first | (rw [hji3] at H; exact H) | (simp only [hji3] at H ⊢; exact H)
 have hji3w : (IntKind.i64.wrap ((l0.length : Int) + (l1.length : Int))) = ji3 := (i64_w _).trans hji3
 by_cases c4 : 0 ≤ (ji3)
 · rw [if_pos c4] at H
   have c4b0 := eq_true c4
   have c4b1 : decide (0 ≤ (ji3)) = true := decide_eq_true c4
   clear c4
   by_cases c5 : (ji3 : Int).toNat ≤ 70368744177664
   · rw [if_pos c5] at H
     have c5b0 := eq_true c5
     have c5b1 : decide ((ji3 : Int).toNat ≤ 70368744177664) = true := decide_eq_true c5
     clear c5
     obtain ⟨y107, hy107⟩ : ∃ y_ : List Int, y_ = (List.replicate (ji3 : Int).toNat 0) := ⟨_, rfl⟩
     replace H : (spec_NatMul.l0 k l1 y107 l0 (l0.length : Int) 0) = some r := by first | (rw [hy107]; with_reducible exact H) | (have H2_ := (Option.bind_some _ _).symm.trans H; rw [hy107]; with_reducible exact H2_) | (have H2_ := (Option.bind_some _ _).symm.trans H; with_reducible exact H2_) | with_reducible exact H | (rw [hy107]; exact H) | exact H
     have Ny107 := Aside0.mk hy107
     clear hy107
     have H' := Aside0.mk H
     clear H
     go_enter Tryz.func37, Tryz.ntmps37
     go_wp2_with (first | ((with_reducible refine gate_dst (N := 16) rfl ?_); refine Kd.R_make (Kd.int .u32) _ 44 rfl (N := 16) rfl 24 _ _ rfl ji3 rfl rfl Tryz.underlying24 (.int .u32 0) 4 info44 rfl (by decide) (by omega) 0 (ok := fun _ => True) (okp := fun _ => True) rfl (fun _ hk => hk) trivial (of_decide_eq_true (by first | (with_reducible assumption) | assumption)) (Nat.le_trans (Nat.mul_le_mul_right _ (of_decide_eq_true (by first | (with_reducible assumption) | assumption) : ji3.toNat ≤ 70368744177664)) (by omega)) (Below.refl _ _) (Nat.le_refl _) ?_; intro v108 w6 ho7 hb hg_ hnew_; clear hg_ hnew_; (first | rw [← Ny107.out] at ho7 | (simp only [Int.reduceToNat] at ho7; rw [← Ny107.out] at ho7)); have n0_ := Aside0.mk (Kd.R_lower (Kd.R_newM (M := fun k_ => (w.heap.size ≤ k_)) ho7 (below_size (by repeat (first | (with_reducible first | exact HB.out | apply below_alloc | apply pw_below_drewN | apply below_drew1) | exact HB.out))) (fun k_ h_ => h_)) (below_size (by repeat (first | (with_reducible first | exact HB.out | apply below_alloc | apply pw_below_drewN | apply below_drew1) | exact HB.out)))); have n1_ := Aside0.mk (below_step (by repeat (first | (with_reducible first | exact HB.out | apply below_alloc | apply pw_below_drewN | apply below_drew1) | exact HB.out)) hb); clear HB; have HO109 := n0_; have HB := n1_; clear n0_ n1_; clear hb ho7))
     go_loopg [19] k (fun kq v19 w' => ∃ (x5_1 : List Int) (x19_1 : Int), v19 = .int .i64 x19_1 ∧ Aside0 (spec_NatMul.l0 kq l1 x5_1 l0 (l0.length : Int) x19_1 = some r) ∧ Aside0 (kq ≤ k) ∧ Aside0 (Kd.R (Kd.int .u32) 44 w' w.heap.size (fun k_ => (w.heap.size ≤ k_)) v108 x5_1) ∧ Aside0 (Below w.heap.size w w'))
     case atStart => exact ⟨(y107), (0), (by first | rfl | (simp; done) | (simp [*]; done)), H', ⟨Nat.le_refl _⟩, ⟨by (with_reducible repeat (first | apply Kd.R_alloc | apply Kd.R_drewN | apply Kd.R_drew)); exact Kd.R_mono HO109.out (fun _ hk => hk.1)⟩, ⟨by repeat (first | (with_reducible first | exact HB.out | apply below_alloc | apply pw_below_drewN | apply below_drew1) | exact HB.out)⟩⟩
     case round =>
       clear H'
       try clear c1
       try clear p2
       try clear c3
       try clear c4
       try clear c4b0
       try clear c4b1
       try clear c5
       try clear c5b0
       try clear c5b1
       try clear p6
       obtain ⟨x5_1, x19_1, rfl, HA, HK1, HO_5, HB⟩ := hrel
       cases gk with
       | zero => exact absurd HA.out (by simp [spec_NatMul.l0])
       | succ k1 =>
         have H := HA.out
         clear HA
         simp only [spec_NatMul.l0] at H
         by_cases c8 : x19_1 < (l0.length : Int)
         · rw [if_pos c8] at H
           have c8b0 : decide (x19_1 < (l0.length : Int)) = true := decide_eq_true c8
           clear c8
           by_cases c9 : 0 ≤ x19_1
           · rw [if_pos c9] at H
             have c9b0 : decide (0 ≤ x19_1) = true := decide_eq_true c9
             clear c9
             by_cases c10 : x19_1 < (l0.length : Int)
             · rw [if_pos c10] at H
               have c10b0 : decide (x19_1 < (l0.length : Int)) = true := decide_eq_true c10
               clear c10
               have H' := Aside0.mk H
               clear H
               have p113 : 0 ≤ (x19_1 : Int) := of_decide_eq_true (by first | (with_reducible assumption) | assumption)
               have q113 : x19_1 < (l0.length : Int) := of_decide_eq_true (by first | (with_reducible assumption) | assumption)
               obtain ⟨ad113, e113, hx113_0⟩ := Kd.at_int HR0.out x19_1 p113 q113
               cases e113
               replace hx113_0 := (HB.out.cell (World.block_lt_of_cell? w _ hx113_0)).trans hx113_0
               replace p113 := eq_true p113
               replace q113 := eq_true q113
               go_wp2
               go_loopg [8, 26] k1 (fun kq v8 v26 w' => ∃ (x5_2 : List Int) (x8_2 : Int) (x26_2 : Int), v8 = .int .u64 x8_2 ∧ v26 = .int .i64 x26_2 ∧ Aside0 (spec_NatMul.l1 kq l1 x5_2 x19_1 (rd l0 x19_1) x8_2 l0 (l0.length : Int) x19_1 l1 (l1.length : Int) x26_2 = some r) ∧ Aside0 (kq ≤ k1) ∧ Aside0 (Kd.R (Kd.int .u32) 44 w' w.heap.size (fun k_ => (w.heap.size ≤ k_)) v108 x5_2) ∧ Aside0 (Below w.heap.size w w'))
               case atStart => exact ⟨(x5_1), (0), (0), (by first | rfl | (simp; done) | (simp [*]; done)), (by first | rfl | (simp; done) | (simp [*]; done)), H', ⟨Nat.le_refl _⟩, ⟨by (with_reducible repeat (first | apply Kd.R_alloc | apply Kd.R_drewN | apply Kd.R_drew)); exact HO_5.out⟩, ⟨by repeat (first | (with_reducible first | exact HB.out | apply below_alloc | apply pw_below_drewN | apply below_drew1) | exact HB.out)⟩⟩
               case round =>
                 clear H'
                 try clear c1
                 try clear p1
                 try clear q1
                 try clear hx1
                 try clear p2
                 try clear c3
                 try clear c4
                 try clear c4b0
                 try clear c4b1
                 try clear c5
                 try clear c5b0
                 try clear c5b1
                 try clear p6
                 try clear c8
                 try clear c8b0
                 try clear c9
                 try clear c9b0
                 try clear c10
                 try clear c10b0
                 try clear hx113_0
                 try clear p113
                 try clear p2
                 try clear p6
                 try clear q113
                 obtain ⟨x5_2, x8_2, x26_2, rfl, rfl, HA, HK2, HO_5, HB⟩ := hrel
                 cases gk with
                 | zero => exact absurd HA.out (by simp [spec_NatMul.l1])
                 | succ k2 =>
                   have H := HA.out
                   clear HA
                   simp only [spec_NatMul.l1] at H
                   by_cases c11 : x26_2 < (l1.length : Int)
                   · rw [if_pos c11] at H
                     have c11b0 : decide (x26_2 < (l1.length : Int)) = true := decide_eq_true c11
                     clear c11
                     by_cases c12 : 0 ≤ x26_2
                     · rw [if_pos c12] at H
                       have c12b0 : decide (0 ≤ x26_2) = true := decide_eq_true c12
                       clear c12
                       by_cases c13 : x26_2 < (l1.length : Int)
                       · rw [if_pos c13] at H
                         have c13b0 : decide (x26_2 < (l1.length : Int)) = true := decide_eq_true c13
                         clear c13
                         obtain ⟨ji14, hji14⟩ : ∃ j_ : Int, (wrap64 (x19_1 + x26_2)) = j_ := ⟨_, rfl⟩
                         replace H : (if 0 ≤ (ji14) then (if (ji14) < (x5_2.length : Int) then (spec_NatMul.l1 k2 l1 (x5_2.set ((ji14) : Int).toNat ((Int.tmod (IntKind.u64.wrap (x8_2 + (IntKind.u64.wrap ((IntKind.u64.wrap (rd x5_2 (ji14))) + (IntKind.u64.wrap ((IntKind.u64.wrap ((rd l0 x19_1))) * (IntKind.u64.wrap (rd l1 x26_2)))))))) 1000000000) % 4294967296)) x19_1 (rd l0 x19_1) (IntKind.u64.wrap (Int.tdiv (IntKind.u64.wrap (x8_2 + (IntKind.u64.wrap ((IntKind.u64.wrap (rd x5_2 (ji14))) + (IntKind.u64.wrap ((IntKind.u64.wrap ((rd l0 x19_1))) * (IntKind.u64.wrap (rd l1 x26_2)))))))) 1000000000)) l0 (l0.length : Int) x19_1 l1 (l1.length : Int) (wrap64 (x26_2 + 1))) else (none)) else (none)) = some r := by first | (rw [hji14] at H; exact H) | (simp only [hji14] at H ⊢; exact H)
                         have hji14w : (IntKind.i64.wrap (x19_1 + x26_2)) = ji14 := (i64_w _).trans hji14
                         by_cases c15 : 0 ≤ (ji14)
                         · rw [if_pos c15] at H
                           have c15b0 : decide (0 ≤ (ji14)) = true := decide_eq_true c15
                           clear c15
                           by_cases c16 : (ji14) < (x5_2.length : Int)
                           · rw [if_pos c16] at H
                             have c16b0 : decide ((ji14) < (x5_2.length : Int)) = true := decide_eq_true c16
                             clear c16
                             obtain ⟨y116, hy116⟩ : ∃ y_ : List Int, y_ = (x5_2.set ((ji14) : Int).toNat ((Int.tmod (IntKind.u64.wrap (x8_2 + (IntKind.u64.wrap ((IntKind.u64.wrap (rd x5_2 (ji14))) + (IntKind.u64.wrap ((IntKind.u64.wrap ((rd l0 x19_1))) * (IntKind.u64.wrap (rd l1 x26_2)))))))) 1000000000) % 4294967296)) := ⟨_, rfl⟩
                             replace H : (spec_NatMul.l1 k2 l1 y116 x19_1 (rd l0 x19_1) (IntKind.u64.wrap (Int.tdiv (IntKind.u64.wrap (x8_2 + (IntKind.u64.wrap ((IntKind.u64.wrap (rd x5_2 (ji14))) + (IntKind.u64.wrap ((IntKind.u64.wrap ((rd l0 x19_1))) * (IntKind.u64.wrap (rd l1 x26_2)))))))) 1000000000)) l0 (l0.length : Int) x19_1 l1 (l1.length : Int) (wrap64 (x26_2 + 1))) = some r := by first | (rw [hy116]; with_reducible exact H) | (have H2_ := (Option.bind_some _ _).symm.trans H; rw [hy116]; with_reducible exact H2_) | (have H2_ := (Option.bind_some _ _).symm.trans H; with_reducible exact H2_) | with_reducible exact H | (rw [hy116]; exact H) | exact H
                             have Ny116 := Aside0.mk hy116
                             clear hy116
                             have H' := Aside0.mk H
                             clear H
                             have p114 : 0 ≤ (x26_2 : Int) := of_decide_eq_true (by first | (with_reducible assumption) | assumption)
                             have q114 : x26_2 < (l1.length : Int) := of_decide_eq_true (by first | (with_reducible assumption) | assumption)
                             obtain ⟨ad114, e114, hx114_0⟩ := Kd.at_int HR1.out x26_2 p114 q114
                             cases e114
                             replace hx114_0 := (HB.out.cell (World.block_lt_of_cell? w _ hx114_0)).trans hx114_0
                             replace p114 := eq_true p114
                             replace q114 := eq_true q114
                             obtain ⟨Ao18, co18, eo18⟩ := Kd.R_slice HO_5.out
                             subst eo18
                             have p115 : 0 ≤ ((ji14) : Int) := of_decide_eq_true (by first | (with_reducible assumption) | assumption)
                             have q115 : (ji14) < (x5_2.length : Int) := of_decide_eq_true (by first | (with_reducible assumption) | assumption)
                             obtain ⟨ad115, e115, hx115_0⟩ := Kd.at_int (Kd.R_reads' HO_5.out).2.2 (ji14) p115 q115
                             cases e115
                             replace p115 := eq_true p115
                             replace q115 := eq_true q115
                             have p17 : 0 ≤ ((ji14) : Int) := of_decide_eq_true (by first | (with_reducible assumption) | assumption)
                             have q17 : ((ji14) : Int) < ((x5_2.length : Int) : Int) := of_decide_eq_true (by first | (with_reducible assumption) | assumption)
                             obtain ⟨go17, co17, eo17, gb17, gl17, cl17, HG17⟩ := Kd.R_form HO_5.out (by omega)
                             (first | cases eo17 | (injection eo17 with ea_ en_ ec_; (first | subst ea_ | (injection ea_ with ea_; subst ea_)); subst ec_; clear en_))
                             have GB17 := Aside0.mk gb17
                             have GG17 := Aside0.mk HG17
                             clear gb17 gl17 HG17
                             (first | simp only [add_plain] at hx115_0 | skip)
                             obtain ⟨hx17_0, hf17_0⟩ := Kd.R_celln 0 HO_5.out ((ji14) : Int) p17 q17
                             replace p17 := eq_true p17
                             replace q17 := eq_true q17
                             have HP19 := Kd.R_putg HO_5.out ((ji14) : Int) ((Int.tmod (IntKind.u64.wrap (x8_2 + (IntKind.u64.wrap ((IntKind.u64.wrap (rd x5_2 (ji14))) + (IntKind.u64.wrap ((IntKind.u64.wrap ((rd l0 x19_1))) * (IntKind.u64.wrap (rd l1 x26_2)))))))) 1000000000) % 4294967296)
                             go_wp2_with (first | ((with_reducible refine gate_store (t := 44) (p := 53) rfl ?_); refine store_event (t := 44) (p := 53) (v := ?vo_w20) (w1 := (wr.setCell ⟨go17, ((ji14) : Int).toNat, none⟩ (.int .u32 ((Int.tmod (IntKind.u64.wrap (x8_2 + (IntKind.u64.wrap ((IntKind.u64.wrap (rd x5_2 (ji14))) + (IntKind.u64.wrap ((IntKind.u64.wrap ((rd l0 x19_1))) * (IntKind.u64.wrap (rd l1 x26_2)))))))) 1000000000) % 4294967296)))) ?hg ?ho ?hn ?hr ?_; (case ho => rfl); (case hg => rfl); (case hn => rfl); (case hr => first | (go_simp; done) | (go_simp; rfl)); intro w20 hw; have hg : wr.grownBy w20 (some go17) := (by rw [hw]; exact HP19.2); have hp_ : Kd.R (Kd.int .u32) 44 w20 w.heap.size (fun k_ => (w.heap.size ≤ k_)) (.slice (some ⟨go17, 0, none⟩) x5_2.length co18) y116 := (by rw [hw, Ny116.out]; exact HP19.1); clear HP19; have n0_ := Aside0.mk (hp_); have n1_ := Aside0.mk ((by rw [hw]; exact below_set (HB.out) GB17.out : Below w.heap.size w w20)); clear HO_5; clear HB; have HO_5 := n0_; have HB := n1_; clear n0_ n1_; clear hg hw hp_))
                             go_roundg k2
                             case measure => have := HK1.out; have := HK2.out; omega
                             case rel => exact ⟨(y116), (IntKind.u64.wrap (Int.tdiv (IntKind.u64.wrap (x8_2 + (IntKind.u64.wrap ((IntKind.u64.wrap (rd x5_2 (ji14))) + (IntKind.u64.wrap ((IntKind.u64.wrap ((rd l0 x19_1))) * (IntKind.u64.wrap (rd l1 x26_2)))))))) 1000000000)), (wrap64 (x26_2 + 1)), (by first | rfl | (simp; done) | (simp only [← hji14] <;> (first | rfl | simp)) | (simp [*]; done)), (by first | rfl | (simp; done) | (simp [*]; done)), H', ⟨by have := HK1.out; have := HK2.out; omega⟩, ⟨by (with_reducible repeat (first | apply Kd.R_alloc | apply Kd.R_drewN | apply Kd.R_drew)); exact HO_5.out⟩, ⟨by repeat (first | (with_reducible first | exact HB.out | apply below_alloc | apply pw_below_drewN | apply below_drew1) | exact HB.out)⟩⟩
                           · rw [if_neg c16] at H
                             exact absurd H (by simp)
                         · rw [if_neg c15] at H
                           exact absurd H (by simp)
                       · rw [if_neg c13] at H
                         exact absurd H (by simp)
                     · rw [if_neg c12] at H
                       exact absurd H (by simp)
                   · rw [if_neg c11] at H
                     have c11b0 : decide (x26_2 < (l1.length : Int)) = false := decide_eq_false c11
                     clear c11
                     obtain ⟨ji21, hji21⟩ : ∃ j_ : Int, (wrap64 (x19_1 + (l1.length : Int))) = j_ := ⟨_, rfl⟩
                     replace H : (if 0 ≤ (ji21) then (if (ji21) < (x5_2.length : Int) then (spec_NatMul.l0 k2 l1 (x5_2.set ((ji21) : Int).toNat ((x8_2) % 4294967296)) l0 (l0.length : Int) (wrap64 (x19_1 + 1))) else (none)) else (none)) = some r := by first | (rw [hji21] at H; exact H) | (simp only [hji21] at H ⊢; exact H)
                     have hji21w : (IntKind.i64.wrap (x19_1 + (l1.length : Int))) = ji21 := (i64_w _).trans hji21
                     by_cases c22 : 0 ≤ (ji21)
                     · rw [if_pos c22] at H
                       have c22b0 : decide (0 ≤ (ji21)) = true := decide_eq_true c22
                       clear c22
                       by_cases c23 : (ji21) < (x5_2.length : Int)
                       · rw [if_pos c23] at H
                         have c23b0 : decide ((ji21) < (x5_2.length : Int)) = true := decide_eq_true c23
                         clear c23
                         obtain ⟨y117, hy117⟩ : ∃ y_ : List Int, y_ = (x5_2.set ((ji21) : Int).toNat ((x8_2) % 4294967296)) := ⟨_, rfl⟩
                         replace H : (spec_NatMul.l0 k2 l1 y117 l0 (l0.length : Int) (wrap64 (x19_1 + 1))) = some r := by first | (rw [hy117]; with_reducible exact H) | (have H2_ := (Option.bind_some _ _).symm.trans H; rw [hy117]; with_reducible exact H2_) | (have H2_ := (Option.bind_some _ _).symm.trans H; with_reducible exact H2_) | with_reducible exact H | (rw [hy117]; exact H) | exact H
                         have Ny117 := Aside0.mk hy117
                         clear hy117
                         have H' := Aside0.mk H
                         clear H
                         have p24 : 0 ≤ ((ji21) : Int) := of_decide_eq_true (by first | (with_reducible assumption) | assumption)
                         have q24 : ((ji21) : Int) < ((x5_2.length : Int) : Int) := of_decide_eq_true (by first | (with_reducible assumption) | assumption)
                         obtain ⟨go24, co24, eo24, gb24, gl24, cl24, HG24⟩ := Kd.R_form HO_5.out (by omega)
                         (first | cases eo24 | (injection eo24 with ea_ en_ ec_; (first | subst ea_ | (injection ea_ with ea_; subst ea_)); subst ec_; clear en_))
                         have GB24 := Aside0.mk gb24
                         have GG24 := Aside0.mk HG24
                         clear gb24 gl24 HG24
                         obtain ⟨hx24_0, hf24_0⟩ := Kd.R_celln 0 HO_5.out ((ji21) : Int) p24 q24
                         replace p24 := eq_true p24
                         replace q24 := eq_true q24
                         have HP25 := Kd.R_putg HO_5.out ((ji21) : Int) ((x8_2) % 4294967296)
                         go_wp2_with (first | ((with_reducible refine gate_store (t := 44) (p := 64) rfl ?_); refine store_event (t := 44) (p := 64) (v := ?vo_w26) (w1 := (wr.setCell ⟨go24, ((ji21) : Int).toNat, none⟩ (.int .u32 ((x8_2) % 4294967296)))) ?hg ?ho ?hn ?hr ?_; (case ho => rfl); (case hg => rfl); (case hn => rfl); (case hr => first | (go_simp; done) | (go_simp; rfl)); intro w26 hw; have hg : wr.grownBy w26 (some go24) := (by rw [hw]; exact HP25.2); have hp_ : Kd.R (Kd.int .u32) 44 w26 w.heap.size (fun k_ => (w.heap.size ≤ k_)) (.slice (some ⟨go24, 0, none⟩) x5_2.length co24) y117 := (by rw [hw, Ny117.out]; exact HP25.1); clear HP25; have n0_ := Aside0.mk (hp_); have n1_ := Aside0.mk ((by rw [hw]; exact below_set (HB.out) GB24.out : Below w.heap.size w w26)); clear HO_5; clear HB; have HO_5 := n0_; have HB := n1_; clear n0_ n1_; clear hg hw hp_))
                         go_roundg k2
                         case measure => have := HK1.out; have := HK2.out; omega
                         case rel => exact ⟨(y117), (wrap64 (x19_1 + 1)), (by first | rfl | (simp; done) | (simp [*]; done)), H', ⟨by have := HK1.out; have := HK2.out; omega⟩, ⟨by (with_reducible repeat (first | apply Kd.R_alloc | apply Kd.R_drewN | apply Kd.R_drew)); exact HO_5.out⟩, ⟨by repeat (first | (with_reducible first | exact HB.out | apply below_alloc | apply pw_below_drewN | apply below_drew1) | exact HB.out)⟩⟩
                       · rw [if_neg c23] at H
                         exact absurd H (by simp)
                     · rw [if_neg c22] at H
                       exact absurd H (by simp)
             · rw [if_neg c10] at H
               exact absurd H (by simp)
           · rw [if_neg c9] at H
             exact absurd H (by simp)
         · rw [if_neg c8] at H
           have c8b0 : decide (x19_1 < (l0.length : Int)) = false := decide_eq_false c8
           clear c8
           replace H := Option.bind_eq_some_iff.mp H
           obtain ⟨t110, A270, H⟩ := H
           replace H : (some t110) = some r := H
           have A27 := Aside0.mk A270
           clear A270
           obtain rfl := Option.some.inj H
           obtain ⟨Ao28, co28, eo28⟩ := Kd.R_slice HO_5.out
           subst eo28
           go_wp2_with (first | ((with_reducible refine gate_callee (f := 40) rfl ?_); refine goesL_ (some 67) rfl rfl Tryz.func40 (by kernel_rfl) rfl #[.slice Ao28 x5_1.length co28] rfl (by (try simp only [List.map_toArray, List.map_cons, List.map_nil]); first | done | rfl | (simp only [List.length_drop, List.length_take]; rfl)) ?_; (with_reducible refine (spec_natTrim.calls k1 (fun k_ => some k_ = (.slice Ao28 x5_1.length co28 : Value).ownBlock) _ _ x5_1 t110 _ ?side1 A27.out).mono ?_); (case side1 => exact Kd.R_V (Kd.R_tight rfl (HO_5.out))); rintro e w29 ⟨v111, rfl, ho0, hb⟩; refine ⟨_, rfl, ?_⟩; have n0_ := Aside0.mk (Kd.R_below (by (with_reducible repeat (first | apply Kd.R_alloc | apply Kd.R_drewN | apply Kd.R_drew)); exact HO_5.out) hb); have n1_ := Aside0.mk (Kd.V_lower (Kd.V_mono (ok' := fun k_ => (w.heap.size ≤ k_)) ho0 (fun k_ hk_ => Or.elim hk_ (fun hs_ => ((HO_5.out).1 k_ hs_.symm)) (fun hn_ => (Nat.le_trans (below_size (by repeat (first | (with_reducible first | exact HB.out | apply below_alloc | apply pw_below_drewN | apply below_drew1) | exact HB.out))) hn_)))) (below_size (by repeat (first | (with_reducible first | exact HB.out | apply below_alloc | apply pw_below_drewN | apply below_drew1) | exact HB.out)))); have n2_ := Aside0.mk (below_step (by repeat (first | (with_reducible first | exact HB.out | apply below_alloc | apply pw_below_drewN | apply below_drew1) | exact HB.out)) hb); clear HO_5; clear HB; have HO_5 := n0_; have HO112 := n1_; have HB := n2_; clear n0_ n1_ n2_; (try clear hb); (try clear hb2); (try clear hk); (try clear hi); (try clear ho0)))
           go_ret
           exact ⟨_, by first | rfl | (simp [errW_none, errW_some] <;> rfl) | (simp only [← hji3]; first | rfl | (simp [errW_none, errW_some] <;> rfl)) | (simp [*, errW_none, errW_some] <;> rfl), by (with_reducible repeat (first | apply Kd.V_alloc | apply Kd.V_drewN | apply Kd.V_drew)); exact HO112.out, by repeat (first | (with_reducible first | exact HB.out | apply below_alloc | apply pw_below_drewN | apply below_drew1) | exact HB.out)⟩
   · rw [if_neg c5] at H
     exact absurd H (by simp)
 · rw [if_neg c4] at H
   exact absurd H (by simp)
end Go.Proofs.YteohmbannpbokaaGreatDoor.PNatMul
namespace Go.Proofs.YteohmbannpbokaaGreatDoor.PNatCmp
open Go.RowKit Go.Proofs.YteohmbannpbokaaGreatDoorW.PrintWords Go.Proofs.YteohmbannpbokaaGreatDoorW.PrintLast Go.Proofs.YteohmbannpbokaaGreatDoorW.PrintMore
attribute [local go_sem] max2_int min2_int max_two min_two max_three min_three max_four min_four
set_option linter.unusedVariables false
set_option linter.unusedSimpArgs false
def errW : Option Int → Value
 | none => .nilIface
 | some c => .iface 0 (.int .i64 c)
theorem errW_none : errW none = .nilIface := rfl
theorem errW_some (c : Int) : errW (some c) = .iface 0 (.int .i64 c) := rfl
end Go.Proofs.YteohmbannpbokaaGreatDoor.PNatCmp
