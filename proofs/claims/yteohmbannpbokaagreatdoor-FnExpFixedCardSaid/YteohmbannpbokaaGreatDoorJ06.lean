/-
 Words for this claim.
-/
import Derived.Test.YteohmbannpbokaaGreatDoorJ05
import Derived.Test.YteohmbannpbokaaGreatDoorProg
import Derived.Below
import Derived.Deep.Draws
import Derived.Deep.AppendLies
import Derived.Maps.AppendAt
import Derived.OwnWalk
import Derived.Laws.BytesArg
import Derived.Laws.MakeOwn
import Derived.Laws.OwnMore
import Derived.Deep.OwnRows
import Derived.Tactics
import Derived.Lib.ConvBytes
import Derived.Laws.Slices
import Derived.WalkKit
import Derived.KernelRfl
import Derived.RowKit3
import Derived.Deep.LoopGhost
import Derived.Deep.QuietTactic
import Derived.BigQuiet
import Derived.WideLaws
import Derived.Deep.DeepCutAuto
import Derived.Deep.CutBlock
import Derived.Deep.RegionHeld3
import Derived.Laws.Rows
import Derived.Lib.AppendStr
import Derived.ArgAppend
import Derived.Laws.IdiomCopy
import Derived.OrdersHeld
import Derived.Laws.BitsLemmas
import Derived.RowKit
import Derived.Test.YteohmbannpbokaaGreatDoorJ02
import Derived.Test.YteohmbannpbokaaGreatDoorJ01
import Derived.Test.YteohmbannpbokaaGreatDoorJ03
import Derived.Test.YteohmbannpbokaaGreatDoorJ04
namespace Go.Proofs.YteohmbannpbokaaGreatDoor.PNatCmp
open Go.RowKit Go.Proofs.YteohmbannpbokaaGreatDoorW.PrintWords Go.Proofs.YteohmbannpbokaaGreatDoorW.PrintLast Go.Proofs.YteohmbannpbokaaGreatDoorW.PrintMore
attribute [local go_sem] max2_int min2_int max_two min_two max_three min_three max_four min_four
set_option linter.unusedVariables false
set_option linter.unusedSimpArgs false
def spec_NatCmp.l0 : Nat → List Int → List Int → Int → Option (Int)
 | 0, _, _, _ => none
 | k + 1, x0, x1, x5 => if x5 ≥ 0 then (if 0 ≤ x5 then (if x5 < (x0.length : Int) then (if x5 < (x1.length : Int) then (if (rd x0 x5) = (rd x1 x5) then (spec_NatCmp.l0 k x0 x1 (wrap64 (x5 - 1))) else (if (rd x0 x5) < (rd x1 x5) then (some (-1)) else (some 1))) else (none)) else (none)) else (none)) else (some 0)
def spec_NatCmp.f (k : Nat) (l0 : List Int) (l1 : List Int) : Option (Int) := if (l0.length : Int) = (l1.length : Int) then (spec_NatCmp.l0 k l0 l1 (wrap64 ((l0.length : Int) - 1))) else (if (l0.length : Int) < (l1.length : Int) then (some (-1)) else (some 1))
theorem spec_NatCmp.mono_l : ∀ k, (∀ y0 y1 y2, LeO (spec_NatCmp.l0 k y0 y1 y2) (spec_NatCmp.l0 (k + 1) y0 y1 y2))
 | 0 => fun _ _ _ r h => by simp [spec_NatCmp.l0] at h
 | k + 1 => by
   have ih0 := spec_NatCmp.mono_l k
   · intro y0 y1 y2
     unfold spec_NatCmp.l0
     repeat' first
     | (with_reducible exact ih0 _ _ _)
     | (with_reducible exact LeO.refl _)
     | (with_reducible exact LeO.none _)
     | (with_reducible refine LeO.ite ?_ ?_)
     | (with_reducible refine LeO.bind ?_ (fun _ => ?_))
     | exact ih0 _ _ _
     | exact LeO.none _
     | refine LeO.ite ?_ ?_
     | refine LeO.bind ?_ (fun _ => ?_)
theorem spec_NatCmp.mono : ∀ a0 a1 k, LeO (spec_NatCmp.f k a0 a1) (spec_NatCmp.f (k + 1) a0 a1) := by
 intro a0 a1 k
 have ih0 := spec_NatCmp.mono_l k
 unfold spec_NatCmp.f
 repeat' first
     | (with_reducible exact ih0 _ _ _)
     | (with_reducible exact LeO.refl _)
     | (with_reducible exact LeO.none _)
     | (with_reducible refine LeO.ite ?_ ?_)
     | (with_reducible refine LeO.bind ?_ (fun _ => ?_))
     | exact ih0 _ _ _
     | exact LeO.none _
     | refine LeO.ite ?_ ?_
     | refine LeO.bind ?_ (fun _ => ?_)
set_option maxHeartbeats 8000000 in
set_option maxRecDepth 100000 in
theorem spec_NatCmp.calls (k : Nat) (A0 : Option Addr) (c0 : Nat) (l0 : List Int) (A1 : Option Addr) (c1 : Nat) (l1 : List Int) (r : Int) (w : World) (hr0 : Kd.C (Kd.int .u32) w A0 l0.length l0) (hc0 : l0.length ≤ c0) (hr1 : Kd.C (Kd.int .u32) w A1 l1.length l1) (hc1 : l1.length ≤ c1) (h : spec_NatCmp.f k l0 l1 = some r) :
   Calls Tryz.prog 38 #[.slice A0 l0.length c0, .slice A1 l1.length c1] w fun e w' => e = .returned (.int .i64 r) ∧ Drawn0 w w' := by
 have HR0 := Aside0.mk hr0
 have HC0 := Aside0.mk hc0
 clear hr0 hc0
 have HR1 := Aside0.mk hr1
 have HC1 := Aside0.mk hc1
 clear hr1 hc1
 have H : (if (l0.length : Int) = (l1.length : Int) then (spec_NatCmp.l0 k l0 l1 (wrap64 ((l0.length : Int) - 1))) else (if (l0.length : Int) < (l1.length : Int) then (some (-1)) else (some 1))) = some r := h
 clear h
 by_cases c3 : (l0.length : Int) = (l1.length : Int)
 · rw [if_pos c3] at H
   have c3b0 : ((l0.length : Int) == (l1.length : Int)) = true := beq_iff_eq.mpr c3
   have c3b1 : ((l0.length : Int) != (l1.length : Int)) = false := bne_eq_false_iff_eq.mpr c3
   have c3b2 : (l0.length == l1.length) = true := by first | simpa using c3 | (simp at c3 ⊢; omega)
   clear c3
   have H' := Aside0.mk H
   clear H
   go_enter Tryz.func38, Tryz.ntmps38
   go_wp2
   repeat (go_quiet (fail); try go_wp2)
   go_loopg [5] k (fun kq v5 w' => ∃ (x5_1 : Int), v5 = .int .i64 x5_1 ∧ Aside0 (spec_NatCmp.l0 kq l0 l1 x5_1 = some r) ∧ Aside0 (kq ≤ k) ∧ Drawn0 w w')
   case atStart => exact ⟨(wrap64 ((l0.length : Int) - 1)), (by first | rfl | (simp; done) | (simp [*]; done)), H', ⟨Nat.le_refl _⟩, by repeat (first | exact Drawn0.refl _ | apply Drawn0.step)⟩
   case round =>
     clear H'
     try clear c1
     try clear p2
     try clear c3
     try clear c3b0
     try clear c3b1
     try clear c3b2
     obtain ⟨x5_1, rfl, HA, HK1, ⟨m1, rfl⟩⟩ := hrel
     cases gk with
     | zero => exact absurd HA.out (by simp [spec_NatCmp.l0])
     | succ k1 =>
       have H := HA.out
       clear HA
       simp only [spec_NatCmp.l0] at H
       by_cases c4 : x5_1 ≥ 0
       · rw [if_pos c4] at H
         have c4b0 : decide (0 ≤ x5_1) = true := decide_eq_true c4
         clear c4
         by_cases c5 : 0 ≤ x5_1
         · rw [if_pos c5] at H
           have c5b0 : decide (0 ≤ x5_1) = true := decide_eq_true c5
           clear c5
           by_cases c6 : x5_1 < (l0.length : Int)
           · rw [if_pos c6] at H
             have c6b0 : decide (x5_1 < (l0.length : Int)) = true := decide_eq_true c6
             clear c6
             by_cases c7 : x5_1 < (l1.length : Int)
             · rw [if_pos c7] at H
               have c7b0 : decide (x5_1 < (l1.length : Int)) = true := decide_eq_true c7
               clear c7
               by_cases c8 : (rd l0 x5_1) = (rd l1 x5_1)
               · rw [if_pos c8] at H
                 have c8b0 : ((rd l0 x5_1) == (rd l1 x5_1)) = true := beq_iff_eq.mpr c8
                 have c8b1 : ((rd l0 x5_1) != (rd l1 x5_1)) = false := bne_eq_false_iff_eq.mpr c8
                 clear c8
                 have H' := Aside0.mk H
                 clear H
                 have p101 : 0 ≤ (x5_1 : Int) := of_decide_eq_true (by first | (with_reducible assumption) | assumption)
                 have q101 : x5_1 < (l0.length : Int) := of_decide_eq_true (by first | (with_reducible assumption) | assumption)
                 obtain ⟨ad101, e101, hx101_0⟩ := Kd.at_int HR0.out x5_1 p101 q101
                 cases e101
                 replace p101 := eq_true p101
                 replace q101 := eq_true q101
                 have p102 : 0 ≤ (x5_1 : Int) := of_decide_eq_true (by first | (with_reducible assumption) | assumption)
                 have q102 : x5_1 < (l1.length : Int) := of_decide_eq_true (by first | (with_reducible assumption) | assumption)
                 obtain ⟨ad102, e102, hx102_0⟩ := Kd.at_int HR1.out x5_1 p102 q102
                 cases e102
                 replace p102 := eq_true p102
                 replace q102 := eq_true q102
                 go_wp2
                 repeat (go_quiet (fail); try go_wp2)
                 go_roundg k1
                 case measure => have := HK1.out; omega
                 case rel => exact ⟨(wrap64 (x5_1 - 1)), (by first | rfl | (simp; done) | (simp [*]; done)), H', ⟨by have := HK1.out; omega⟩, by repeat (first | exact Drawn0.refl _ | apply Drawn0.step)⟩
               · rw [if_neg c8] at H
                 have c8b0 : ((rd l0 x5_1) == (rd l1 x5_1)) = false := beq_eq_false_iff_ne.mpr c8
                 have c8b1 : ((rd l0 x5_1) != (rd l1 x5_1)) = true := bne_iff_ne.mpr c8
                 by_cases c9 : (rd l0 x5_1) < (rd l1 x5_1)
                 · rw [if_pos c9] at H
                   have c9b0 : decide ((rd l0 x5_1) < (rd l1 x5_1)) = true := decide_eq_true c9
                   clear c9
                   obtain rfl := Option.some.inj H
                   have p101 : 0 ≤ (x5_1 : Int) := of_decide_eq_true (by first | (with_reducible assumption) | assumption)
                   have q101 : x5_1 < (l0.length : Int) := of_decide_eq_true (by first | (with_reducible assumption) | assumption)
                   obtain ⟨ad101, e101, hx101_0⟩ := Kd.at_int HR0.out x5_1 p101 q101
                   cases e101
                   replace p101 := eq_true p101
                   replace q101 := eq_true q101
                   have p102 : 0 ≤ (x5_1 : Int) := of_decide_eq_true (by first | (with_reducible assumption) | assumption)
                   have q102 : x5_1 < (l1.length : Int) := of_decide_eq_true (by first | (with_reducible assumption) | assumption)
                   obtain ⟨ad102, e102, hx102_0⟩ := Kd.at_int HR1.out x5_1 p102 q102
                   cases e102
                   replace p102 := eq_true p102
                   replace q102 := eq_true q102
                   have p103 : 0 ≤ (x5_1 : Int) := of_decide_eq_true (by first | (with_reducible assumption) | assumption)
                   have q103 : x5_1 < (l0.length : Int) := of_decide_eq_true (by first | (with_reducible assumption) | assumption)
                   obtain ⟨ad103, e103, hx103_0⟩ := Kd.at_int HR0.out x5_1 p103 q103
                   obtain rfl : ad101 = ad103 := (by injection e103)
                   replace p103 := eq_true p103
                   replace q103 := eq_true q103
                   have p104 : 0 ≤ (x5_1 : Int) := of_decide_eq_true (by first | (with_reducible assumption) | assumption)
                   have q104 : x5_1 < (l1.length : Int) := of_decide_eq_true (by first | (with_reducible assumption) | assumption)
                   obtain ⟨ad104, e104, hx104_0⟩ := Kd.at_int HR1.out x5_1 p104 q104
                   obtain rfl : ad102 = ad104 := (by injection e104)
                   replace p104 := eq_true p104
                   replace q104 := eq_true q104
                   go_wp2
                   repeat (go_quiet (fail); try go_wp2)
                   go_ret
                   exact ⟨by first | rfl | (simp; done) | (simp [*]; done), by repeat (first | exact Drawn0.refl _ | apply Drawn0.step)⟩
                 · rw [if_neg c9] at H
                   have c9b0 : decide ((rd l0 x5_1) < (rd l1 x5_1)) = false := decide_eq_false c9
                   clear c9
                   obtain rfl := Option.some.inj H
                   have p101 : 0 ≤ (x5_1 : Int) := of_decide_eq_true (by first | (with_reducible assumption) | assumption)
                   have q101 : x5_1 < (l0.length : Int) := of_decide_eq_true (by first | (with_reducible assumption) | assumption)
                   obtain ⟨ad101, e101, hx101_0⟩ := Kd.at_int HR0.out x5_1 p101 q101
                   cases e101
                   replace p101 := eq_true p101
                   replace q101 := eq_true q101
                   have p102 : 0 ≤ (x5_1 : Int) := of_decide_eq_true (by first | (with_reducible assumption) | assumption)
                   have q102 : x5_1 < (l1.length : Int) := of_decide_eq_true (by first | (with_reducible assumption) | assumption)
                   obtain ⟨ad102, e102, hx102_0⟩ := Kd.at_int HR1.out x5_1 p102 q102
                   cases e102
                   replace p102 := eq_true p102
                   replace q102 := eq_true q102
                   have p103 : 0 ≤ (x5_1 : Int) := of_decide_eq_true (by first | (with_reducible assumption) | assumption)
                   have q103 : x5_1 < (l0.length : Int) := of_decide_eq_true (by first | (with_reducible assumption) | assumption)
                   obtain ⟨ad103, e103, hx103_0⟩ := Kd.at_int HR0.out x5_1 p103 q103
                   obtain rfl : ad101 = ad103 := (by injection e103)
                   replace p103 := eq_true p103
                   replace q103 := eq_true q103
                   have p104 : 0 ≤ (x5_1 : Int) := of_decide_eq_true (by first | (with_reducible assumption) | assumption)
                   have q104 : x5_1 < (l1.length : Int) := of_decide_eq_true (by first | (with_reducible assumption) | assumption)
                   obtain ⟨ad104, e104, hx104_0⟩ := Kd.at_int HR1.out x5_1 p104 q104
                   obtain rfl : ad102 = ad104 := (by injection e104)
                   replace p104 := eq_true p104
                   replace q104 := eq_true q104
                   go_wp2
                   repeat (go_quiet (fail); try go_wp2)
                   go_ret
                   exact ⟨by first | rfl | (simp; done) | (simp [*]; done), by repeat (first | exact Drawn0.refl _ | apply Drawn0.step)⟩
             · rw [if_neg c7] at H
               exact absurd H (by simp)
           · rw [if_neg c6] at H
             exact absurd H (by simp)
         · rw [if_neg c5] at H
           exact absurd H (by simp)
       · rw [if_neg c4] at H
         have c4b0 : decide (0 ≤ x5_1) = false := decide_eq_false c4
         clear c4
         obtain rfl := Option.some.inj H
         go_wp2
         repeat (go_quiet (fail); try go_wp2)
         go_ret
         exact ⟨by first | rfl | (simp; done) | (simp [*]; done), by repeat (first | exact Drawn0.refl _ | apply Drawn0.step)⟩
 · rw [if_neg c3] at H
   have c3b0 : ((l0.length : Int) == (l1.length : Int)) = false := beq_eq_false_iff_ne.mpr c3
   have c3b1 : ((l0.length : Int) != (l1.length : Int)) = true := bne_iff_ne.mpr c3
   have c3b2 : (l0.length == l1.length) = false := by first | simpa using c3 | (simp at c3 ⊢; omega)
   by_cases c10 : (l0.length : Int) < (l1.length : Int)
   · rw [if_pos c10] at H
     have c10b0 : decide ((l0.length : Int) < (l1.length : Int)) = true := decide_eq_true c10
     have c10b1 : decide (l0.length < l1.length) = true := decide_eq_true (Int.ofNat_lt.mp c10)
     clear c10
     obtain rfl := Option.some.inj H
     go_enter Tryz.func38, Tryz.ntmps38
     go_wp2
     repeat (go_quiet (fail); try go_wp2)
     go_ret
     exact ⟨by first | rfl | (simp; done) | (simp [*]; done), by repeat (first | exact Drawn0.refl _ | apply Drawn0.step)⟩
   · rw [if_neg c10] at H
     have c10b0 : decide ((l0.length : Int) < (l1.length : Int)) = false := decide_eq_false c10
     have c10b1 : decide (l0.length < l1.length) = false := decide_eq_false (fun h => c10 (Int.ofNat_lt.mpr h))
     clear c10
     obtain rfl := Option.some.inj H
     go_enter Tryz.func38, Tryz.ntmps38
     go_wp2
     repeat (go_quiet (fail); try go_wp2)
     go_ret
     exact ⟨by first | rfl | (simp; done) | (simp [*]; done), by repeat (first | exact Drawn0.refl _ | apply Drawn0.step)⟩
end Go.Proofs.YteohmbannpbokaaGreatDoor.PNatCmp
namespace Go.Proofs.YteohmbannpbokaaGreatDoor.PPow10
open Go.RowKit Go.Proofs.YteohmbannpbokaaGreatDoorW.PrintWords Go.Proofs.YteohmbannpbokaaGreatDoorW.PrintLast Go.Proofs.YteohmbannpbokaaGreatDoorW.PrintMore
attribute [local go_sem] max2_int min2_int max_two min_two max_three min_three max_four min_four
set_option linter.unusedVariables false
set_option linter.unusedSimpArgs false
def errW : Option Int → Value
 | none => .nilIface
 | some c => .iface 0 (.int .i64 c)
theorem errW_none : errW none = .nilIface := rfl
theorem errW_some (c : Int) : errW (some c) = .iface 0 (.int .i64 c) := rfl
theorem info44 : (Tryz.prog.info? 44).map (fun i => (i.zero, i.size, i.bytes)) = some (some (.int .u32 0), 1, 4) := by kernel_rfl
attribute [local go_sem] max2_int min2_int max_two min_two max_three min_three max_four min_four
set_option linter.unusedVariables false
set_option linter.unusedSimpArgs false
def spec_Pow10.l0 : Nat → Int → List Int → Int → Int → Option (List Int)
 | 0, _, _, _, _ => none
 | k + 1, x0, x3, x4, x5 => if x5 < (Int.tmod x0 9) then (spec_Pow10.l0 k x0 x3 ((x4 * 10) % 4294967296) (wrap64 (x5 + 1))) else (if 0 ≤ (wrap64 (Int.tdiv x0 9)) then (if (wrap64 (Int.tdiv x0 9)) < (x3.length : Int) then (some (x3.set ((wrap64 (Int.tdiv x0 9)) : Int).toNat x4)) else (none)) else (none))
def spec_Pow10.f (k : Nat) (a0 : Int) : Option (List Int) := if a0 < 0 then (some ([] : List Int)) else (if 0 ≤ (wrap64 ((wrap64 (Int.tdiv a0 9)) + 1)) then (if (wrap64 ((wrap64 (Int.tdiv a0 9)) + 1) : Int).toNat ≤ 70368744177664 then (spec_Pow10.l0 k a0 (List.replicate (wrap64 ((wrap64 (Int.tdiv a0 9)) + 1) : Int).toNat 0) 1 0) else (none)) else (none))
theorem spec_Pow10.mono_l : ∀ k, (∀ y0 y1 y2 y3, LeO (spec_Pow10.l0 k y0 y1 y2 y3) (spec_Pow10.l0 (k + 1) y0 y1 y2 y3))
 | 0 => fun _ _ _ _ r h => by simp [spec_Pow10.l0] at h
 | k + 1 => by
   have ih0 := spec_Pow10.mono_l k
   · intro y0 y1 y2 y3
     unfold spec_Pow10.l0
     repeat' first
     | (with_reducible exact ih0 _ _ _ _)
     | (with_reducible exact LeO.refl _)
     | (with_reducible exact LeO.none _)
     | (with_reducible refine LeO.ite ?_ ?_)
     | (with_reducible refine LeO.bind ?_ (fun _ => ?_))
     | exact ih0 _ _ _ _
     | exact LeO.none _
     | refine LeO.ite ?_ ?_
     | refine LeO.bind ?_ (fun _ => ?_)
theorem spec_Pow10.mono : ∀ a0 k, LeO (spec_Pow10.f k a0) (spec_Pow10.f (k + 1) a0) := by
 intro a0 k
 have ih0 := spec_Pow10.mono_l k
 unfold spec_Pow10.f
 repeat' first
     | (with_reducible exact ih0 _ _ _ _)
     | (with_reducible exact LeO.refl _)
     | (with_reducible exact LeO.none _)
     | (with_reducible refine LeO.ite ?_ ?_)
     | (with_reducible refine LeO.bind ?_ (fun _ => ?_))
     | exact ih0 _ _ _ _
     | exact LeO.none _
     | refine LeO.ite ?_ ?_
     | refine LeO.bind ?_ (fun _ => ?_)
set_option maxHeartbeats 8000000 in
set_option maxRecDepth 100000 in
theorem spec_Pow10.calls (k : Nat) (a0 : Int) (r : List Int) (w : World) (h : spec_Pow10.f k a0 = some r) :
   Calls Tryz.prog 13 #[.int .i64 a0] w fun e w' => ∃ v0_ : Value, e = .returned (v0_) ∧ Kd.R (Kd.int .u32) 44 w' w.heap.size (fun _ => True) v0_ r ∧ Below w.heap.size w w' := by
 have HB := Aside0.mk (Below.refl w.heap.size w)
 have H : (if a0 < 0 then (some ([] : List Int)) else (if 0 ≤ (wrap64 ((wrap64 (Int.tdiv a0 9)) + 1)) then (if (wrap64 ((wrap64 (Int.tdiv a0 9)) + 1) : Int).toNat ≤ 70368744177664 then (spec_Pow10.l0 k a0 (List.replicate (wrap64 ((wrap64 (Int.tdiv a0 9)) + 1) : Int).toNat 0) 1 0) else (none)) else (none))) = some r := h
 clear h
 by_cases c2 : a0 < 0
 · rw [if_pos c2] at H
   have c2b0 : decide (a0 < 0) = true := decide_eq_true c2
   clear c2
   obtain rfl := Option.some.inj H
   go_enter Tryz.func13, Tryz.ntmps13
   go_wp2
   go_ret
   exact ⟨_, by first | rfl | (simp [errW_none, errW_some] <;> rfl) | (simp [*, errW_none, errW_some] <;> rfl), by first | exact Kd.R_nil _ _ _ _ _ | exact Kd.N_nil _ _ _ _ _ | exact Kd.V_nil _ _ _ _ _ | exact Kd.Q_nil _ _ _ _ _ | exact Kd.S_nil _ _ _ _ _, by repeat (first | (with_reducible first | exact HB.out | apply below_alloc | apply pw_below_drewN | apply below_drew1) | exact HB.out)⟩
 · rw [if_neg c2] at H
   have c2b0 : decide (a0 < 0) = false := decide_eq_false c2
   clear c2
   obtain ⟨ji3, hji3⟩ : ∃ j_ : Int, (wrap64 ((wrap64 (Int.tdiv a0 9)) + 1)) = j_ := ⟨_, rfl⟩
   replace H : (if 0 ≤ (ji3) then (if (ji3 : Int).toNat ≤ 70368744177664 then (spec_Pow10.l0 k a0 (List.replicate (ji3 : Int).toNat 0) 1 0) else (none)) else (none)) = some r := by first | (rw [hji3] at H; exact H) | (simp only [hji3] at H ⊢; exact H)
   have hji3w : (IntKind.i64.wrap ((wrap64 (Int.tdiv a0 9)) + 1)) = ji3 := (i64_w _).trans hji3
   by_cases c4 : 0 ≤ (ji3)
   · rw [if_pos c4] at H
     have c4b0 := eq_true c4
     have c4b1 : decide (0 ≤ (ji3)) = true := decide_eq_true c4
     clear c4
     by_cases c5 : (ji3 : Int).toNat ≤ 70368744177664
     · rw [if_pos c5] at H
       have c5b0 := eq_true c5
       have c5b1 : decide ((ji3 : Int).toNat ≤ 70368744177664) = true := decide_eq_true c5
       clear c5
       obtain ⟨y101, hy101⟩ : ∃ y_ : List Int, y_ = (List.replicate (ji3 : Int).toNat 0) := ⟨_, rfl⟩
       replace H : (spec_Pow10.l0 k a0 y101 1 0) = some r := by first | (rw [hy101]; with_reducible exact H) | (have H2_ := (Option.bind_some _ _).symm.trans H; rw [hy101]; with_reducible exact H2_) | (have H2_ := (Option.bind_some _ _).symm.trans H; with_reducible exact H2_) | with_reducible exact H | (rw [hy101]; exact H) | exact H
       have Ny101 := Aside0.mk hy101
       clear hy101
       have H' := Aside0.mk H
       clear H
       go_enter Tryz.func13, Tryz.ntmps13
       go_wp2_with (first | ((with_reducible refine gate_dst (N := 11) rfl ?_); refine Kd.R_make (Kd.int .u32) _ 44 rfl (N := 11) rfl 24 _ _ rfl ji3 rfl rfl Tryz.underlying24 (.int .u32 0) 4 info44 rfl (by decide) (by omega) 0 (ok := fun _ => True) (okp := fun _ => True) rfl (fun _ hk => hk) trivial (of_decide_eq_true (by first | (with_reducible assumption) | assumption)) (Nat.le_trans (Nat.mul_le_mul_right _ (of_decide_eq_true (by first | (with_reducible assumption) | assumption) : ji3.toNat ≤ 70368744177664)) (by omega)) (Below.refl _ _) (Nat.le_refl _) ?_; intro v102 w6 ho7 hb hg_ hnew_; clear hg_ hnew_; (first | rw [← Ny101.out] at ho7 | (simp only [Int.reduceToNat] at ho7; rw [← Ny101.out] at ho7)); have n0_ := Aside0.mk (Kd.R_lower ho7 (below_size (by repeat (first | (with_reducible first | exact HB.out | apply below_alloc | apply pw_below_drewN | apply below_drew1) | exact HB.out)))); have n1_ := Aside0.mk (below_step (by repeat (first | (with_reducible first | exact HB.out | apply below_alloc | apply pw_below_drewN | apply below_drew1) | exact HB.out)) hb); clear HB; have HO103 := n0_; have HB := n1_; clear n0_ n1_; clear hb ho7))
       go_loopg [4, 5] k (fun kq v4 v5 w' => ∃ (x4_1 : Int) (x5_1 : Int), v4 = .int .u32 x4_1 ∧ v5 = .int .i64 x5_1 ∧ Aside0 (spec_Pow10.l0 kq a0 y101 x4_1 x5_1 = some r) ∧ Aside0 (kq ≤ k) ∧ Aside0 (Kd.R (Kd.int .u32) 44 w' w.heap.size (fun _ => True) v102 y101) ∧ Aside0 (Below w.heap.size w w'))
       case atStart => exact ⟨(1), (0), (by first | rfl | (simp; done) | (simp [*]; done)), (by first | rfl | (simp; done) | (simp [*]; done)), H', ⟨Nat.le_refl _⟩, ⟨by (with_reducible repeat (first | apply Kd.R_alloc | apply Kd.R_drewN | apply Kd.R_drew)); exact HO103.out⟩, ⟨by repeat (first | (with_reducible first | exact HB.out | apply below_alloc | apply pw_below_drewN | apply below_drew1) | exact HB.out)⟩⟩
       case round =>
         clear H'
         try clear c1
         try clear c2
         try clear c2b0
         try clear p2
         try clear c4
         try clear c4b0
         try clear c4b1
         try clear c5
         try clear c5b0
         try clear c5b1
         try clear p6
         obtain ⟨x4_1, x5_1, rfl, rfl, HA, HK1, HO_3, HB⟩ := hrel
         cases gk with
         | zero => exact absurd HA.out (by simp [spec_Pow10.l0])
         | succ k1 =>
           have H := HA.out
           clear HA
           simp only [spec_Pow10.l0] at H
           by_cases c8 : x5_1 < (Int.tmod a0 9)
           · rw [if_pos c8] at H
             have c8b0 : decide (x5_1 < (Int.tmod a0 9)) = true := decide_eq_true c8
             clear c8
             have H' := Aside0.mk H
             clear H
             go_wp2
             go_roundg k1
             case measure => have := HK1.out; omega
             case rel => exact ⟨((x4_1 * 10) % 4294967296), (wrap64 (x5_1 + 1)), (by first | rfl | (simp; done) | (simp [*]; done)), (by first | rfl | (simp; done) | (simp [*]; done)), H', ⟨by have := HK1.out; omega⟩, ⟨by (with_reducible repeat (first | apply Kd.R_alloc | apply Kd.R_drewN | apply Kd.R_drew)); exact HO_3.out⟩, ⟨by repeat (first | (with_reducible first | exact HB.out | apply below_alloc | apply pw_below_drewN | apply below_drew1) | exact HB.out)⟩⟩
           · rw [if_neg c8] at H
             have c8b0 : decide (x5_1 < (Int.tmod a0 9)) = false := decide_eq_false c8
             clear c8
             obtain ⟨ji9, hji9⟩ : ∃ j_ : Int, (wrap64 (Int.tdiv a0 9)) = j_ := ⟨_, rfl⟩
             replace H : (if 0 ≤ (ji9) then (if (ji9) < (y101.length : Int) then (some (y101.set ((ji9) : Int).toNat x4_1)) else (none)) else (none)) = some r := by first | (rw [hji9] at H; exact H) | (simp only [hji9] at H ⊢; exact H)
             have hji9w : (IntKind.i64.wrap (Int.tdiv a0 9)) = ji9 := (i64_w _).trans hji9
             by_cases c10 : 0 ≤ (ji9)
             · rw [if_pos c10] at H
               have c10b0 : decide (0 ≤ (ji9)) = true := decide_eq_true c10
               clear c10
               by_cases c11 : (ji9) < (y101.length : Int)
               · rw [if_pos c11] at H
                 have c11b0 : decide ((ji9) < (y101.length : Int)) = true := decide_eq_true c11
                 clear c11
                 obtain ⟨y104, hy104⟩ : ∃ y_ : List Int, y_ = (y101.set ((ji9) : Int).toNat x4_1) := ⟨_, rfl⟩
                 replace H : (some y104) = some r := by first | (rw [hy104]; with_reducible exact H) | (have H2_ := (Option.bind_some _ _).symm.trans H; rw [hy104]; with_reducible exact H2_) | (have H2_ := (Option.bind_some _ _).symm.trans H; with_reducible exact H2_) | with_reducible exact H | (rw [hy104]; exact H) | exact H
                 have Ny104 := Aside0.mk hy104
                 clear hy104
                 obtain rfl := Option.some.inj H
                 have p12 : 0 ≤ ((ji9) : Int) := of_decide_eq_true (by first | (with_reducible assumption) | assumption)
                 have q12 : ((ji9) : Int) < ((y101.length : Int) : Int) := of_decide_eq_true (by first | (with_reducible assumption) | assumption)
                 obtain ⟨go12, co12, eo12, gb12, gl12, cl12, HG12⟩ := Kd.R_form HO_3.out (by omega)
                 (first | cases eo12 | (injection eo12 with ea_ en_ ec_; (first | subst ea_ | (injection ea_ with ea_; subst ea_)); subst ec_; clear en_))
                 have GB12 := Aside0.mk gb12
                 have GG12 := Aside0.mk HG12
                 clear gb12 gl12 HG12
                 obtain ⟨hx12_0, hf12_0⟩ := Kd.R_celln 0 HO_3.out ((ji9) : Int) p12 q12
                 replace p12 := eq_true p12
                 replace q12 := eq_true q12
                 have HP13 := Kd.R_putg HO_3.out ((ji9) : Int) x4_1
                 go_wp2_with (first | ((with_reducible refine gate_store (t := 44) (p := 24) rfl ?_); refine store_event (t := 44) (p := 24) (v := ?vo_w14) (w1 := (wr.setCell ⟨go12, ((ji9) : Int).toNat, none⟩ (.int .u32 x4_1))) ?hg ?ho ?hn ?hr ?_; (case ho => rfl); (case hg => rfl); (case hn => rfl); (case hr => first | (go_simp; done) | (go_simp; rfl)); intro w14 hw; have hg : wr.grownBy w14 (some go12) := (by rw [hw]; exact HP13.2); have hp_ : Kd.R (Kd.int .u32) 44 w14 w.heap.size (fun _ => True) (.slice (some ⟨go12, 0, none⟩) y101.length co12) y104 := (by rw [hw, Ny104.out]; exact HP13.1); clear HP13; have n0_ := Aside0.mk (hp_); have n1_ := Aside0.mk ((by rw [hw]; exact below_set (HB.out) GB12.out : Below w.heap.size w w14)); clear HO_3; clear HB; have HO_3 := n0_; have HB := n1_; clear n0_ n1_; clear hg hw hp_))
                 go_ret
                 exact ⟨_, by first | rfl | (simp [errW_none, errW_some] <;> rfl) | (simp only [← hji3, ← hji9]; first | rfl | (simp [errW_none, errW_some] <;> rfl)) | (simp [*, errW_none, errW_some] <;> rfl), by (with_reducible repeat (first | apply Kd.R_alloc | apply Kd.R_drewN | apply Kd.R_drew)); exact HO_3.out, by repeat (first | (with_reducible first | exact HB.out | apply below_alloc | apply pw_below_drewN | apply below_drew1) | exact HB.out)⟩
               · rw [if_neg c11] at H
                 exact absurd H (by simp)
             · rw [if_neg c10] at H
               exact absurd H (by simp)
     · rw [if_neg c5] at H
       exact absurd H (by simp)
   · rw [if_neg c4] at H
     exact absurd H (by simp)
end Go.Proofs.YteohmbannpbokaaGreatDoor.PPow10
namespace Go.Proofs.YteohmbannpbokaaGreatDoor.PNatFrom
open Go.RowKit Go.Proofs.YteohmbannpbokaaGreatDoorW.PrintWords Go.Proofs.YteohmbannpbokaaGreatDoorW.PrintLast Go.Proofs.YteohmbannpbokaaGreatDoorW.PrintMore
attribute [local go_sem] max2_int min2_int max_two min_two max_three min_three max_four min_four
set_option linter.unusedVariables false
set_option linter.unusedSimpArgs false
def errW : Option Int → Value
 | none => .nilIface
 | some c => .iface 0 (.int .i64 c)
theorem errW_none : errW none = .nilIface := rfl
theorem errW_some (c : Int) : errW (some c) = .iface 0 (.int .i64 c) := rfl
theorem info44 : (Tryz.prog.info? 44).map (fun i => (i.zero, i.size, i.bytes)) = some (some (.int .u32 0), 1, 4) := by kernel_rfl
attribute [local go_sem] max2_int min2_int max_two min_two max_three min_three max_four min_four
set_option linter.unusedVariables false
set_option linter.unusedSimpArgs false
def spec_NatFrom.l0 : Nat → Int → List Int → Option (List Int)
 | 0, _, _ => none
 | k + 1, x0, x3 => if x0 > 0 then (if x3.length < 35184372088832 then (spec_NatFrom.l0 k (IntKind.u64.wrap (Int.tdiv x0 1000000000)) (x3 ++ [(Int.tmod x0 1000000000) % 4294967296])) else (none)) else (some x3)
def spec_NatFrom.f (k : Nat) (a0 : Int) : Option (List Int) := spec_NatFrom.l0 k a0 ([] : List Int)
theorem spec_NatFrom.mono_l : ∀ k, (∀ y0 y1, LeO (spec_NatFrom.l0 k y0 y1) (spec_NatFrom.l0 (k + 1) y0 y1))
 | 0 => fun _ _ r h => by simp [spec_NatFrom.l0] at h
 | k + 1 => by
   have ih0 := spec_NatFrom.mono_l k
   · intro y0 y1
     unfold spec_NatFrom.l0
     repeat' first
     | (with_reducible exact ih0 _ _)
     | (with_reducible exact LeO.refl _)
     | (with_reducible exact LeO.none _)
     | (with_reducible refine LeO.ite ?_ ?_)
     | (with_reducible refine LeO.bind ?_ (fun _ => ?_))
     | exact ih0 _ _
     | exact LeO.none _
     | refine LeO.ite ?_ ?_
     | refine LeO.bind ?_ (fun _ => ?_)
theorem spec_NatFrom.mono : ∀ a0 k, LeO (spec_NatFrom.f k a0) (spec_NatFrom.f (k + 1) a0) := by
 intro a0 k
 have ih0 := spec_NatFrom.mono_l k
 unfold spec_NatFrom.f
 repeat' first
     | (with_reducible exact ih0 _ _)
     | (with_reducible exact LeO.refl _)
     | (with_reducible exact LeO.none _)
     | (with_reducible refine LeO.ite ?_ ?_)
     | (with_reducible refine LeO.bind ?_ (fun _ => ?_))
     | exact ih0 _ _
     | exact LeO.none _
     | refine LeO.ite ?_ ?_
     | refine LeO.bind ?_ (fun _ => ?_)
set_option maxHeartbeats 8000000 in
set_option maxRecDepth 100000 in
theorem spec_NatFrom.calls (k : Nat) (a0 : Int) (r : List Int) (w : World) (h : spec_NatFrom.f k a0 = some r) :
   Calls Tryz.prog 36 #[.int .u64 a0] w fun e w' => ∃ v0_ : Value, e = .returned (v0_) ∧ Kd.R (Kd.int .u32) 44 w' w.heap.size (fun _ => True) v0_ r ∧ Below w.heap.size w w' := by
 have HB := Aside0.mk (Below.refl w.heap.size w)
 have H : (spec_NatFrom.l0 k a0 ([] : List Int)) = some r := h
 clear h
 have H' := Aside0.mk H
 clear H
 go_enter Tryz.func36, Tryz.ntmps36
 go_wp2
 go_loopg [0, 3] k (fun kq v0 v3 w' => ∃ (x0_1 : Int) (x3_1 : List Int), v0 = .int .u64 x0_1 ∧ Aside0 (spec_NatFrom.l0 kq x0_1 x3_1 = some r) ∧ Aside0 (kq ≤ k) ∧ Aside0 (Kd.R (Kd.int .u32) 44 w' w.heap.size (fun _ => True) v3 x3_1) ∧ Aside0 (Below w.heap.size w w'))
 case atStart => exact ⟨(a0), (([] : List Int)), (by first | rfl | (simp; done) | (simp [*]; done)), H', ⟨Nat.le_refl _⟩, ⟨by first | exact Kd.R_nil _ _ _ _ _ | exact Kd.N_nil _ _ _ _ _ | exact Kd.V_nil _ _ _ _ _ | exact Kd.Q_nil _ _ _ _ _ | exact Kd.S_nil _ _ _ _ _⟩, ⟨by repeat (first | (with_reducible first | exact HB.out | apply below_alloc | apply pw_below_drewN | apply below_drew1) | exact HB.out)⟩⟩
 case round =>
   clear H'
   obtain ⟨x0_1, x3_1, rfl, HA, HK1, HO_3, HB⟩ := hrel
   cases gk with
   | zero => exact absurd HA.out (by simp [spec_NatFrom.l0])
   | succ k1 =>
     have H := HA.out
     clear HA
     simp only [spec_NatFrom.l0] at H
     by_cases c2 : x0_1 > 0
     · rw [if_pos c2] at H
       have c2b0 : decide (0 < x0_1) = true := decide_eq_true c2
       clear c2
       by_cases c3 : x3_1.length < 35184372088832
       · rw [if_pos c3] at H
         have LMc3 := Aside0.mk c3
         clear c3
         obtain ⟨y101, hy101⟩ : ∃ y_ : List Int, y_ = (x3_1 ++ [(Int.tmod x0_1 1000000000) % 4294967296]) := ⟨_, rfl⟩
         replace H : (spec_NatFrom.l0 k1 (IntKind.u64.wrap (Int.tdiv x0_1 1000000000)) y101) = some r := by first | (rw [hy101]; with_reducible exact H) | (have H2_ := (Option.bind_some _ _).symm.trans H; rw [hy101]; with_reducible exact H2_) | (have H2_ := (Option.bind_some _ _).symm.trans H; with_reducible exact H2_) | with_reducible exact H | (rw [hy101]; exact H) | exact H
         have Ny101 := Aside0.mk hy101
         clear hy101
         have H' := Aside0.mk H
         clear H
         go_wp2_with (first | ((with_reducible refine gate_builtin (b := .append) (xs := #[.tmp 8, .tmp 12]) rfl ?_); at_builtin; refine Kd.R_append (Kd.int .u32) (w0 := w) w.heap.size rfl (.tmp 8) (.tmp 12) 24 44 (.int .u32 0) 4 rfl Tryz.underlying24 info44 rfl (by decide) (by omega) u3 x3_1 ((Int.tmod x0_1 1000000000) % 4294967296) [.int .u32 ((Int.tmod x0_1 1000000000) % 4294967296)] (fun _ => True) (fun _ => False) rfl rfl ?aP (fun _ hk => hk.elim) ?aF ?aO ?aB ?aS ?aL ?_; (case aP => exact rfl); (case aB => exact (by repeat (first | (with_reducible first | exact HB.out | apply below_alloc | apply pw_below_drewN | apply below_drew1) | exact HB.out))); (case aF => exact (fun _ _ => trivial)); (case aO => exact (by (with_reducible repeat (first | apply Kd.R_alloc | apply Kd.R_drewN | apply Kd.R_drew)); exact HO_3.out)); (case aS => exact (below_size (by repeat (first | (with_reducible first | exact HB.out | apply below_alloc | apply pw_below_drewN | apply below_drew1) | exact HB.out)))); (case aL => have := LMc3.out; omega); intro v102 w4 ho hb hg hat; rw [← Ny101.out] at ho; have n0_ := Aside0.mk (hb); have n1_ := Aside0.mk (ho); clear HB; clear HO_3; have HB := n0_; have HO103 := n1_; clear n0_ n1_; clear ho hb hg hat))
         go_roundg k1
         case measure => have := HK1.out; omega
         case rel => exact ⟨(IntKind.u64.wrap (Int.tdiv x0_1 1000000000)), (y101), (by first | rfl | (simp; done) | (simp [*]; done)), H', ⟨by have := HK1.out; omega⟩, ⟨by (with_reducible repeat (first | apply Kd.R_alloc | apply Kd.R_drewN | apply Kd.R_drew)); exact HO103.out⟩, ⟨by repeat (first | (with_reducible first | exact HB.out | apply below_alloc | apply pw_below_drewN | apply below_drew1) | exact HB.out)⟩⟩
       · rw [if_neg c3] at H
         exact absurd H (by simp)
     · rw [if_neg c2] at H
       have c2b0 : decide (0 < x0_1) = false := decide_eq_false c2
       clear c2
       obtain rfl := Option.some.inj H
       go_wp2
       go_ret
       exact ⟨_, by first | rfl | (simp [errW_none, errW_some] <;> rfl) | (simp [*, errW_none, errW_some] <;> rfl), by (with_reducible repeat (first | apply Kd.R_alloc | apply Kd.R_drewN | apply Kd.R_drew)); exact HO_3.out, by repeat (first | (with_reducible first | exact HB.out | apply below_alloc | apply pw_below_drewN | apply below_drew1) | exact HB.out)⟩
end Go.Proofs.YteohmbannpbokaaGreatDoor.PNatFrom
namespace Go.Proofs.YteohmbannpbokaaGreatDoor.PnatShort
open Go.RowKit Go.Proofs.YteohmbannpbokaaGreatDoorW.PrintWords Go.Proofs.YteohmbannpbokaaGreatDoorW.PrintLast Go.Proofs.YteohmbannpbokaaGreatDoorW.PrintMore
attribute [local go_sem] max2_int min2_int max_two min_two max_three min_three max_four min_four
set_option linter.unusedVariables false
set_option linter.unusedSimpArgs false
def errW : Option Int → Value
 | none => .nilIface
 | some c => .iface 0 (.int .i64 c)
theorem errW_none : errW none = .nilIface := rfl
theorem errW_some (c : Int) : errW (some c) = .iface 0 (.int .i64 c) := rfl
theorem info44 : (Tryz.prog.info? 44).map (fun i => (i.zero, i.size, i.bytes)) = some (some (.int .u32 0), 1, 4) := by kernel_rfl
end Go.Proofs.YteohmbannpbokaaGreatDoor.PnatShort
