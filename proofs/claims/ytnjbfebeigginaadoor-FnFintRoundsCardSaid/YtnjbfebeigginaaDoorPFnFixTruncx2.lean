-- PRINTED BY print.sh 35421559b90ae4d0a3588c463048766b98c2df88dd9212a6774a882060cdf62d: not written by this session
import Derived.Test.YtnjbfebeigginaaDoorPFnFixTruncx0
import Derived.Test.YtnjbfebeigginaaDoorPFnFixTruncx1
namespace Go.Proofs.YtnjbfebeigginaaDoor.PFnFixTrunc
open Go.RowKit Go.Proofs.YtnjbfebeigginaaDoorW.PrintWords Go.Proofs.YtnjbfebeigginaaDoorW.PrintLast Go.Proofs.YtnjbfebeigginaaDoorW.PrintMore
attribute [local go_sem] max2_int min2_int max_two min_two max_three min_three max_four min_four   -- for this text's walks alone
set_option linter.unusedVariables false
set_option linter.unusedSimpArgs false

/-! ### spec_NatMul: function 30 -/
mutual
def spec_NatMul.l0 : Nat → List Int → List Int → List Int → Int → Int → Option (List Int)
  | 0, _, _, _, _, _ => none
  | k + 1, x1, x5, x17, x18, x19 => if x19 < x18 then (if 0 ≤ x19 then (if x19 < (x17.length : Int) then (spec_NatMul.l1 k x1 x5 x19 (rd x17 x19) 0 x17 x18 x19 x1 (x1.length : Int) 0) else (none)) else (none)) else ((spec_natTrim.f k x5).bind fun t138 => (some t138))
def spec_NatMul.l1 : Nat → List Int → List Int → Int → Int → Int → List Int → Int → Int → List Int → Int → Int → Option (List Int)
  | 0, _, _, _, _, _, _, _, _, _, _, _ => none
  | k + 1, x1, x5, x6, x7, x8, x17, x18, x19, x24, x25, x26 => if x26 < x25 then (if 0 ≤ x26 then (if x26 < (x24.length : Int) then (if 0 ≤ (wrap64 (x6 + x26)) then (if (wrap64 (x6 + x26)) < (x5.length : Int) then (spec_NatMul.l1 k x1 (x5.set ((wrap64 (x6 + x26)) : Int).toNat ((Int.tmod (IntKind.u64.wrap (x8 + (IntKind.u64.wrap ((IntKind.u64.wrap (rd x5 (wrap64 (x6 + x26)))) + (IntKind.u64.wrap ((IntKind.u64.wrap (x7)) * (IntKind.u64.wrap (rd x24 x26)))))))) 1000000000) % 4294967296)) x6 x7 (IntKind.u64.wrap (Int.tdiv (IntKind.u64.wrap (x8 + (IntKind.u64.wrap ((IntKind.u64.wrap (rd x5 (wrap64 (x6 + x26)))) + (IntKind.u64.wrap ((IntKind.u64.wrap (x7)) * (IntKind.u64.wrap (rd x24 x26)))))))) 1000000000)) x17 x18 x19 x24 x25 (wrap64 (x26 + 1))) else (none)) else (none)) else (none)) else (none)) else (if 0 ≤ (wrap64 (x6 + (x1.length : Int))) then (if (wrap64 (x6 + (x1.length : Int))) < (x5.length : Int) then (spec_NatMul.l0 k x1 (x5.set ((wrap64 (x6 + (x1.length : Int))) : Int).toNat ((x8) % 4294967296)) x17 x18 (wrap64 (x19 + 1))) else (none)) else (none))
end
def spec_NatMul.f (k : Nat) (l0 : List Int) (l1 : List Int) : Option (List Int) := if 0 ≤ (wrap64 ((l0.length : Int) + (l1.length : Int))) then (if (wrap64 ((l0.length : Int) + (l1.length : Int)) : Int).toNat ≤ 70368744177664 then (spec_NatMul.l0 k l1 (List.replicate (wrap64 ((l0.length : Int) + (l1.length : Int)) : Int).toNat 0) l0 (l0.length : Int) 0) else (none)) else (none)
theorem spec_NatMul.mono_l : ∀ k, (∀ y0 y1 y2 y3 y4, LeO (spec_NatMul.l0 k y0 y1 y2 y3 y4) (spec_NatMul.l0 (k + 1) y0 y1 y2 y3 y4)) ∧ (∀ y0 y1 y2 y3 y4 y5 y6 y7 y8 y9 y10, LeO (spec_NatMul.l1 k y0 y1 y2 y3 y4 y5 y6 y7 y8 y9 y10) (spec_NatMul.l1 (k + 1) y0 y1 y2 y3 y4 y5 y6 y7 y8 y9 y10))
  | 0 => ⟨fun _ _ _ _ _ r h => by simp [spec_NatMul.l0] at h, fun _ _ _ _ _ _ _ _ _ _ _ r h => by simp [spec_NatMul.l1] at h⟩
  | k + 1 => by
    obtain ⟨ih0, ih1⟩ := spec_NatMul.mono_l k
    refine ⟨?_, ?_⟩
    · intro y0 y1 y2 y3 y4
      unfold spec_NatMul.l0
      repeat' first
      | (with_reducible exact ih0 _ _ _ _ _)
      | (with_reducible exact ih1 _ _ _ _ _ _ _ _ _ _ _)
      | (with_reducible exact spec_natTrim.mono _ _)
      | (with_reducible exact LeO.refl _)
      | (with_reducible exact LeO.none _)
      | (with_reducible refine LeO.ite ?_ ?_)
      | (with_reducible refine LeO.bind ?_ (fun _ => ?_))
      | exact ih0 _ _ _ _ _
      | exact ih1 _ _ _ _ _ _ _ _ _ _ _
      | exact spec_natTrim.mono _ _
      | exact LeO.none _
      | refine LeO.ite ?_ ?_
      | refine LeO.bind ?_ (fun _ => ?_)
    · intro y0 y1 y2 y3 y4 y5 y6 y7 y8 y9 y10
      unfold spec_NatMul.l1
      repeat' first
      | (with_reducible exact ih0 _ _ _ _ _)
      | (with_reducible exact ih1 _ _ _ _ _ _ _ _ _ _ _)
      | (with_reducible exact spec_natTrim.mono _ _)
      | (with_reducible exact LeO.refl _)
      | (with_reducible exact LeO.none _)
      | (with_reducible refine LeO.ite ?_ ?_)
      | (with_reducible refine LeO.bind ?_ (fun _ => ?_))
      | exact ih0 _ _ _ _ _
      | exact ih1 _ _ _ _ _ _ _ _ _ _ _
      | exact spec_natTrim.mono _ _
      | exact LeO.none _
      | refine LeO.ite ?_ ?_
      | refine LeO.bind ?_ (fun _ => ?_)
theorem spec_NatMul.mono : ∀ a0 a1 k, LeO (spec_NatMul.f k a0 a1) (spec_NatMul.f (k + 1) a0 a1) := by
  intro a0 a1 k
  obtain ⟨ih0, ih1⟩ := spec_NatMul.mono_l k
  unfold spec_NatMul.f
  repeat' first
      | (with_reducible exact ih0 _ _ _ _ _)
      | (with_reducible exact ih1 _ _ _ _ _ _ _ _ _ _ _)
      | (with_reducible exact spec_natTrim.mono _ _)
      | (with_reducible exact LeO.refl _)
      | (with_reducible exact LeO.none _)
      | (with_reducible refine LeO.ite ?_ ?_)
      | (with_reducible refine LeO.bind ?_ (fun _ => ?_))
      | exact ih0 _ _ _ _ _
      | exact ih1 _ _ _ _ _ _ _ _ _ _ _
      | exact spec_natTrim.mono _ _
      | exact LeO.none _
      | refine LeO.ite ?_ ?_
      | refine LeO.bind ?_ (fun _ => ?_)
set_option maxHeartbeats 8000000 in
set_option maxRecDepth 100000 in
theorem spec_NatMul.calls (k : Nat) (A0 : Option Addr) (c0 : Nat) (l0 : List Int) (A1 : Option Addr) (c1 : Nat) (l1 : List Int) (r : List Int) (w : World) (hr0 : Kd.C (Kd.int .u32) w A0 l0.length l0) (hc0 : l0.length ≤ c0) (hr1 : Kd.C (Kd.int .u32) w A1 l1.length l1) (hc1 : l1.length ≤ c1) (h : spec_NatMul.f k l0 l1 = some r) :
    Calls Tryd.prog 30 #[.slice A0 l0.length c0, .slice A1 l1.length c1] w fun e w' => ∃ v0_ : Value, e = .returned (v0_) ∧ Kd.V (Kd.int .u32) 59 w' w.heap.size (fun k_ => (w.heap.size ≤ k_)) v0_ r ∧ Below w.heap.size w w' := by
  have HR0 := Aside0.mk hr0
  have HC0 := Aside0.mk hc0
  clear hr0 hc0
  have HR1 := Aside0.mk hr1
  have HC1 := Aside0.mk hc1
  clear hr1 hc1
  have HB := Aside0.mk (Below.refl w.heap.size w)
  have H : (if 0 ≤ (wrap64 ((l0.length : Int) + (l1.length : Int))) then (if (wrap64 ((l0.length : Int) + (l1.length : Int)) : Int).toNat ≤ 70368744177664 then (spec_NatMul.l0 k l1 (List.replicate (wrap64 ((l0.length : Int) + (l1.length : Int)) : Int).toNat 0) l0 (l0.length : Int) 0) else (none)) else (none)) = some r := h
  clear h
  obtain ⟨ji3, hji3⟩ : ∃ j_ : Int, (wrap64 ((l0.length : Int) + (l1.length : Int))) = j_ := ⟨_, rfl⟩
  replace H : (if 0 ≤ (ji3) then (if (ji3 : Int).toNat ≤ 70368744177664 then (spec_NatMul.l0 k l1 (List.replicate (ji3 : Int).toNat 0) l0 (l0.length : Int) 0) else (none)) else (none)) = some r := by first | (rw [hji3] at H; exact H) | (simp only [hji3] at H ⊢; exact H)
  have hji3w : (IntKind.i64.wrap ((l0.length : Int) + (l1.length : Int))) = ji3 := (i64_w _).trans hji3
  by_cases c4 : 0 ≤ (ji3)
  · rw [if_pos c4] at H
    have c4b0 := eq_true c4
    have c4b1 : decide (0 ≤ (ji3)) = true := decide_eq_true c4
    clear c4
    by_cases c5 : (ji3 : Int).toNat ≤ 70368744177664
    · rw [if_pos c5] at H
      have c5b0 := eq_true c5
      have c5b1 : decide ((ji3 : Int).toNat ≤ 70368744177664) = true := decide_eq_true c5
      clear c5
      obtain ⟨y135, hy135⟩ : ∃ y_ : List Int, y_ = (List.replicate (ji3 : Int).toNat 0) := ⟨_, rfl⟩
      replace H : (spec_NatMul.l0 k l1 y135 l0 (l0.length : Int) 0) = some r := by first | (rw [hy135]; with_reducible exact H) | (have H2_ := (Option.bind_some _ _).symm.trans H; rw [hy135]; with_reducible exact H2_) | (have H2_ := (Option.bind_some _ _).symm.trans H; with_reducible exact H2_) | with_reducible exact H | (rw [hy135]; exact H) | exact H
      have Ny135 := Aside0.mk hy135
      clear hy135
      have H' := Aside0.mk H
      clear H
      go_enter Tryd.func30, Tryd.ntmps30
      go_wp2_with (first | ((with_reducible refine gate_dst (N := 16) rfl ?_); refine Kd.R_make (Kd.int .u32) _ 59 rfl (N := 16) rfl 32 _ _ rfl ji3 rfl rfl Tryd.underlying32 (.int .u32 0) 4 info59 rfl (by decide) (by omega) 0 (ok := fun _ => True) (okp := fun _ => True) rfl (fun _ hk => hk) trivial (of_decide_eq_true (by first | (with_reducible assumption) | assumption)) (Nat.le_trans (Nat.mul_le_mul_right _ (of_decide_eq_true (by first | (with_reducible assumption) | assumption) : ji3.toNat ≤ 70368744177664)) (by omega)) (Below.refl _ _) (Nat.le_refl _) ?_; intro v136 w6 ho7 hb hg_ hnew_; clear hg_ hnew_; (first | rw [← Ny135.out] at ho7 | (simp only [Int.reduceToNat] at ho7; rw [← Ny135.out] at ho7)); have n0_ := Aside0.mk (Kd.R_lower (Kd.R_newM (M := fun k_ => (w.heap.size ≤ k_)) ho7 (below_size (by repeat (first | (with_reducible first | exact HB.out | apply below_alloc | apply pw_below_drewN | apply below_drew1) | exact HB.out))) (fun k_ h_ => h_)) (below_size (by repeat (first | (with_reducible first | exact HB.out | apply below_alloc | apply pw_below_drewN | apply below_drew1) | exact HB.out)))); have n1_ := Aside0.mk (below_step (by repeat (first | (with_reducible first | exact HB.out | apply below_alloc | apply pw_below_drewN | apply below_drew1) | exact HB.out)) hb); clear HB; have HO137 := n0_; have HB := n1_; clear n0_ n1_; clear hb ho7))
      go_loopg [19] k (fun kq v19 w' => ∃ (x5_1 : List Int) (x19_1 : Int), v19 = .int .i64 x19_1 ∧ Aside0 (spec_NatMul.l0 kq l1 x5_1 l0 (l0.length : Int) x19_1 = some r) ∧ Aside0 (kq ≤ k) ∧ Aside0 (Kd.R (Kd.int .u32) 59 w' w.heap.size (fun k_ => (w.heap.size ≤ k_)) v136 x5_1) ∧ Aside0 (Below w.heap.size w w'))
      case atStart => exact ⟨(y135), (0), (by first | rfl | (simp; done) | (simp [*]; done)), H', ⟨Nat.le_refl _⟩, ⟨by (with_reducible repeat (first | apply Kd.R_alloc | apply Kd.R_drewN | apply Kd.R_drew)); exact Kd.R_mono HO137.out (fun _ hk => hk.1)⟩, ⟨by repeat (first | (with_reducible first | exact HB.out | apply below_alloc | apply pw_below_drewN | apply below_drew1) | exact HB.out)⟩⟩
      case round =>
        clear H'
        try clear c1
        try clear p2
        try clear c3
        try clear c4
        try clear c4b0
        try clear c4b1
        try clear c5
        try clear c5b0
        try clear c5b1
        try clear p6
        obtain ⟨x5_1, x19_1, rfl, HA, HK1, HO_5, HB⟩ := hrel
        cases gk with
        | zero => exact absurd HA.out (by simp [spec_NatMul.l0])
        | succ k1 =>
          have H := HA.out
          clear HA
          simp only [spec_NatMul.l0] at H
          by_cases c8 : x19_1 < (l0.length : Int)
          · rw [if_pos c8] at H
            have c8b0 : decide (x19_1 < (l0.length : Int)) = true := decide_eq_true c8
            clear c8
            by_cases c9 : 0 ≤ x19_1
            · rw [if_pos c9] at H
              have c9b0 : decide (0 ≤ x19_1) = true := decide_eq_true c9
              clear c9
              by_cases c10 : x19_1 < (l0.length : Int)
              · rw [if_pos c10] at H
                have c10b0 : decide (x19_1 < (l0.length : Int)) = true := decide_eq_true c10
                clear c10
                have H' := Aside0.mk H
                clear H
                have p141 : 0 ≤ (x19_1 : Int) := of_decide_eq_true (by first | (with_reducible assumption) | assumption)
                have q141 : x19_1 < (l0.length : Int) := of_decide_eq_true (by first | (with_reducible assumption) | assumption)
                obtain ⟨ad141, e141, hx141_0⟩ := Kd.at_int HR0.out x19_1 p141 q141
                cases e141
                replace hx141_0 := (HB.out.cell (World.block_lt_of_cell? w _ hx141_0)).trans hx141_0
                replace p141 := eq_true p141
                replace q141 := eq_true q141
                go_wp2
                go_loopg [8, 26] k1 (fun kq v8 v26 w' => ∃ (x5_2 : List Int) (x8_2 : Int) (x26_2 : Int), v8 = .int .u64 x8_2 ∧ v26 = .int .i64 x26_2 ∧ Aside0 (spec_NatMul.l1 kq l1 x5_2 x19_1 (rd l0 x19_1) x8_2 l0 (l0.length : Int) x19_1 l1 (l1.length : Int) x26_2 = some r) ∧ Aside0 (kq ≤ k1) ∧ Aside0 (Kd.R (Kd.int .u32) 59 w' w.heap.size (fun k_ => (w.heap.size ≤ k_)) v136 x5_2) ∧ Aside0 (Below w.heap.size w w'))
                case atStart => exact ⟨(x5_1), (0), (0), (by first | rfl | (simp; done) | (simp [*]; done)), (by first | rfl | (simp; done) | (simp [*]; done)), H', ⟨Nat.le_refl _⟩, ⟨by (with_reducible repeat (first | apply Kd.R_alloc | apply Kd.R_drewN | apply Kd.R_drew)); exact HO_5.out⟩, ⟨by repeat (first | (with_reducible first | exact HB.out | apply below_alloc | apply pw_below_drewN | apply below_drew1) | exact HB.out)⟩⟩
                case round =>
                  clear H'
                  try clear c1
                  try clear p1
                  try clear q1
                  try clear hx1
                  try clear p2
                  try clear c3
                  try clear c4
                  try clear c4b0
                  try clear c4b1
                  try clear c5
                  try clear c5b0
                  try clear c5b1
                  try clear p6
                  try clear c8
                  try clear c8b0
                  try clear c9
                  try clear c9b0
                  try clear c10
                  try clear c10b0
                  try clear hx141_0
                  try clear p141
                  try clear p2
                  try clear p6
                  try clear q141
                  obtain ⟨x5_2, x8_2, x26_2, rfl, rfl, HA, HK2, HO_5, HB⟩ := hrel
                  cases gk with
                  | zero => exact absurd HA.out (by simp [spec_NatMul.l1])
                  | succ k2 =>
                    have H := HA.out
                    clear HA
                    simp only [spec_NatMul.l1] at H
                    by_cases c11 : x26_2 < (l1.length : Int)
                    · rw [if_pos c11] at H
                      have c11b0 : decide (x26_2 < (l1.length : Int)) = true := decide_eq_true c11
                      clear c11
                      by_cases c12 : 0 ≤ x26_2
                      · rw [if_pos c12] at H
                        have c12b0 : decide (0 ≤ x26_2) = true := decide_eq_true c12
                        clear c12
                        by_cases c13 : x26_2 < (l1.length : Int)
                        · rw [if_pos c13] at H
                          have c13b0 : decide (x26_2 < (l1.length : Int)) = true := decide_eq_true c13
                          clear c13
                          obtain ⟨ji14, hji14⟩ : ∃ j_ : Int, (wrap64 (x19_1 + x26_2)) = j_ := ⟨_, rfl⟩
                          replace H : (if 0 ≤ (ji14) then (if (ji14) < (x5_2.length : Int) then (spec_NatMul.l1 k2 l1 (x5_2.set ((ji14) : Int).toNat ((Int.tmod (IntKind.u64.wrap (x8_2 + (IntKind.u64.wrap ((IntKind.u64.wrap (rd x5_2 (ji14))) + (IntKind.u64.wrap ((IntKind.u64.wrap ((rd l0 x19_1))) * (IntKind.u64.wrap (rd l1 x26_2)))))))) 1000000000) % 4294967296)) x19_1 (rd l0 x19_1) (IntKind.u64.wrap (Int.tdiv (IntKind.u64.wrap (x8_2 + (IntKind.u64.wrap ((IntKind.u64.wrap (rd x5_2 (ji14))) + (IntKind.u64.wrap ((IntKind.u64.wrap ((rd l0 x19_1))) * (IntKind.u64.wrap (rd l1 x26_2)))))))) 1000000000)) l0 (l0.length : Int) x19_1 l1 (l1.length : Int) (wrap64 (x26_2 + 1))) else (none)) else (none)) = some r := by first | (rw [hji14] at H; exact H) | (simp only [hji14] at H ⊢; exact H)
                          have hji14w : (IntKind.i64.wrap (x19_1 + x26_2)) = ji14 := (i64_w _).trans hji14
                          by_cases c15 : 0 ≤ (ji14)
                          · rw [if_pos c15] at H
                            have c15b0 : decide (0 ≤ (ji14)) = true := decide_eq_true c15
                            clear c15
                            by_cases c16 : (ji14) < (x5_2.length : Int)
                            · rw [if_pos c16] at H
                              have c16b0 : decide ((ji14) < (x5_2.length : Int)) = true := decide_eq_true c16
                              clear c16
                              obtain ⟨y144, hy144⟩ : ∃ y_ : List Int, y_ = (x5_2.set ((ji14) : Int).toNat ((Int.tmod (IntKind.u64.wrap (x8_2 + (IntKind.u64.wrap ((IntKind.u64.wrap (rd x5_2 (ji14))) + (IntKind.u64.wrap ((IntKind.u64.wrap ((rd l0 x19_1))) * (IntKind.u64.wrap (rd l1 x26_2)))))))) 1000000000) % 4294967296)) := ⟨_, rfl⟩
                              replace H : (spec_NatMul.l1 k2 l1 y144 x19_1 (rd l0 x19_1) (IntKind.u64.wrap (Int.tdiv (IntKind.u64.wrap (x8_2 + (IntKind.u64.wrap ((IntKind.u64.wrap (rd x5_2 (ji14))) + (IntKind.u64.wrap ((IntKind.u64.wrap ((rd l0 x19_1))) * (IntKind.u64.wrap (rd l1 x26_2)))))))) 1000000000)) l0 (l0.length : Int) x19_1 l1 (l1.length : Int) (wrap64 (x26_2 + 1))) = some r := by first | (rw [hy144]; with_reducible exact H) | (have H2_ := (Option.bind_some _ _).symm.trans H; rw [hy144]; with_reducible exact H2_) | (have H2_ := (Option.bind_some _ _).symm.trans H; with_reducible exact H2_) | with_reducible exact H | (rw [hy144]; exact H) | exact H
                              have Ny144 := Aside0.mk hy144
                              clear hy144
                              have H' := Aside0.mk H
                              clear H
                              have p142 : 0 ≤ (x26_2 : Int) := of_decide_eq_true (by first | (with_reducible assumption) | assumption)
                              have q142 : x26_2 < (l1.length : Int) := of_decide_eq_true (by first | (with_reducible assumption) | assumption)
                              obtain ⟨ad142, e142, hx142_0⟩ := Kd.at_int HR1.out x26_2 p142 q142
                              cases e142
                              replace hx142_0 := (HB.out.cell (World.block_lt_of_cell? w _ hx142_0)).trans hx142_0
                              replace p142 := eq_true p142
                              replace q142 := eq_true q142
                              obtain ⟨Ao18, co18, eo18⟩ := Kd.R_slice HO_5.out
                              subst eo18
                              have p143 : 0 ≤ ((ji14) : Int) := of_decide_eq_true (by first | (with_reducible assumption) | assumption)
                              have q143 : (ji14) < (x5_2.length : Int) := of_decide_eq_true (by first | (with_reducible assumption) | assumption)
                              obtain ⟨ad143, e143, hx143_0⟩ := Kd.at_int (Kd.R_reads' HO_5.out).2.2 (ji14) p143 q143
                              cases e143
                              replace p143 := eq_true p143
                              replace q143 := eq_true q143
                              have p17 : 0 ≤ ((ji14) : Int) := of_decide_eq_true (by first | (with_reducible assumption) | assumption)
                              have q17 : ((ji14) : Int) < ((x5_2.length : Int) : Int) := of_decide_eq_true (by first | (with_reducible assumption) | assumption)
                              obtain ⟨go17, co17, eo17, gb17, gl17, cl17, HG17⟩ := Kd.R_form HO_5.out (by omega)
                              (first | cases eo17 | (injection eo17 with ea_ en_ ec_; (first | subst ea_ | (injection ea_ with ea_; subst ea_)); subst ec_; clear en_))
                              have GB17 := Aside0.mk gb17
                              have GG17 := Aside0.mk HG17
                              clear gb17 gl17 HG17
                              (first | simp only [add_plain] at hx143_0 | skip)
                              obtain ⟨hx17_0, hf17_0⟩ := Kd.R_celln 0 HO_5.out ((ji14) : Int) p17 q17
                              replace p17 := eq_true p17
                              replace q17 := eq_true q17
                              have HP19 := Kd.R_putg HO_5.out ((ji14) : Int) ((Int.tmod (IntKind.u64.wrap (x8_2 + (IntKind.u64.wrap ((IntKind.u64.wrap (rd x5_2 (ji14))) + (IntKind.u64.wrap ((IntKind.u64.wrap ((rd l0 x19_1))) * (IntKind.u64.wrap (rd l1 x26_2)))))))) 1000000000) % 4294967296)
                              go_wp2_with (first | ((with_reducible refine gate_store (t := 59) (p := 53) rfl ?_); refine store_event (t := 59) (p := 53) (v := ?vo_w20) (w1 := (wr.setCell ⟨go17, ((ji14) : Int).toNat, none⟩ (.int .u32 ((Int.tmod (IntKind.u64.wrap (x8_2 + (IntKind.u64.wrap ((IntKind.u64.wrap (rd x5_2 (ji14))) + (IntKind.u64.wrap ((IntKind.u64.wrap ((rd l0 x19_1))) * (IntKind.u64.wrap (rd l1 x26_2)))))))) 1000000000) % 4294967296)))) ?hg ?ho ?hn ?hr ?_; (case ho => rfl); (case hg => rfl); (case hn => rfl); (case hr => first | (go_simp; done) | (go_simp; rfl)); intro w20 hw; have hg : wr.grownBy w20 (some go17) := (by rw [hw]; exact HP19.2); have hp_ : Kd.R (Kd.int .u32) 59 w20 w.heap.size (fun k_ => (w.heap.size ≤ k_)) (.slice (some ⟨go17, 0, none⟩) x5_2.length co18) y144 := (by rw [hw, Ny144.out]; exact HP19.1); clear HP19; have n0_ := Aside0.mk (hp_); have n1_ := Aside0.mk ((by rw [hw]; exact below_set (HB.out) GB17.out : Below w.heap.size w w20)); clear HO_5; clear HB; have HO_5 := n0_; have HB := n1_; clear n0_ n1_; clear hg hw hp_))
                              go_roundg k2
                              case measure => have := HK1.out; have := HK2.out; omega
                              case rel => exact ⟨(y144), (IntKind.u64.wrap (Int.tdiv (IntKind.u64.wrap (x8_2 + (IntKind.u64.wrap ((IntKind.u64.wrap (rd x5_2 (ji14))) + (IntKind.u64.wrap ((IntKind.u64.wrap ((rd l0 x19_1))) * (IntKind.u64.wrap (rd l1 x26_2)))))))) 1000000000)), (wrap64 (x26_2 + 1)), (by first | rfl | (simp; done) | (simp only [← hji14] <;> (first | rfl | simp)) | (simp [*]; done)), (by first | rfl | (simp; done) | (simp [*]; done)), H', ⟨by have := HK1.out; have := HK2.out; omega⟩, ⟨by (with_reducible repeat (first | apply Kd.R_alloc | apply Kd.R_drewN | apply Kd.R_drew)); exact HO_5.out⟩, ⟨by repeat (first | (with_reducible first | exact HB.out | apply below_alloc | apply pw_below_drewN | apply below_drew1) | exact HB.out)⟩⟩
                            · rw [if_neg c16] at H
                              exact absurd H (by simp)
                          · rw [if_neg c15] at H
                            exact absurd H (by simp)
                        · rw [if_neg c13] at H
                          exact absurd H (by simp)
                      · rw [if_neg c12] at H
                        exact absurd H (by simp)
                    · rw [if_neg c11] at H
                      have c11b0 : decide (x26_2 < (l1.length : Int)) = false := decide_eq_false c11
                      clear c11
                      obtain ⟨ji21, hji21⟩ : ∃ j_ : Int, (wrap64 (x19_1 + (l1.length : Int))) = j_ := ⟨_, rfl⟩
                      replace H : (if 0 ≤ (ji21) then (if (ji21) < (x5_2.length : Int) then (spec_NatMul.l0 k2 l1 (x5_2.set ((ji21) : Int).toNat ((x8_2) % 4294967296)) l0 (l0.length : Int) (wrap64 (x19_1 + 1))) else (none)) else (none)) = some r := by first | (rw [hji21] at H; exact H) | (simp only [hji21] at H ⊢; exact H)
                      have hji21w : (IntKind.i64.wrap (x19_1 + (l1.length : Int))) = ji21 := (i64_w _).trans hji21
                      by_cases c22 : 0 ≤ (ji21)
                      · rw [if_pos c22] at H
                        have c22b0 : decide (0 ≤ (ji21)) = true := decide_eq_true c22
                        clear c22
                        by_cases c23 : (ji21) < (x5_2.length : Int)
                        · rw [if_pos c23] at H
                          have c23b0 : decide ((ji21) < (x5_2.length : Int)) = true := decide_eq_true c23
                          clear c23
                          obtain ⟨y145, hy145⟩ : ∃ y_ : List Int, y_ = (x5_2.set ((ji21) : Int).toNat ((x8_2) % 4294967296)) := ⟨_, rfl⟩
                          replace H : (spec_NatMul.l0 k2 l1 y145 l0 (l0.length : Int) (wrap64 (x19_1 + 1))) = some r := by first | (rw [hy145]; with_reducible exact H) | (have H2_ := (Option.bind_some _ _).symm.trans H; rw [hy145]; with_reducible exact H2_) | (have H2_ := (Option.bind_some _ _).symm.trans H; with_reducible exact H2_) | with_reducible exact H | (rw [hy145]; exact H) | exact H
                          have Ny145 := Aside0.mk hy145
                          clear hy145
                          have H' := Aside0.mk H
                          clear H
                          have p24 : 0 ≤ ((ji21) : Int) := of_decide_eq_true (by first | (with_reducible assumption) | assumption)
                          have q24 : ((ji21) : Int) < ((x5_2.length : Int) : Int) := of_decide_eq_true (by first | (with_reducible assumption) | assumption)
                          obtain ⟨go24, co24, eo24, gb24, gl24, cl24, HG24⟩ := Kd.R_form HO_5.out (by omega)
                          (first | cases eo24 | (injection eo24 with ea_ en_ ec_; (first | subst ea_ | (injection ea_ with ea_; subst ea_)); subst ec_; clear en_))
                          have GB24 := Aside0.mk gb24
                          have GG24 := Aside0.mk HG24
                          clear gb24 gl24 HG24
                          obtain ⟨hx24_0, hf24_0⟩ := Kd.R_celln 0 HO_5.out ((ji21) : Int) p24 q24
                          replace p24 := eq_true p24
                          replace q24 := eq_true q24
                          have HP25 := Kd.R_putg HO_5.out ((ji21) : Int) ((x8_2) % 4294967296)
                          go_wp2_with (first | ((with_reducible refine gate_store (t := 59) (p := 64) rfl ?_); refine store_event (t := 59) (p := 64) (v := ?vo_w26) (w1 := (wr.setCell ⟨go24, ((ji21) : Int).toNat, none⟩ (.int .u32 ((x8_2) % 4294967296)))) ?hg ?ho ?hn ?hr ?_; (case ho => rfl); (case hg => rfl); (case hn => rfl); (case hr => first | (go_simp; done) | (go_simp; rfl)); intro w26 hw; have hg : wr.grownBy w26 (some go24) := (by rw [hw]; exact HP25.2); have hp_ : Kd.R (Kd.int .u32) 59 w26 w.heap.size (fun k_ => (w.heap.size ≤ k_)) (.slice (some ⟨go24, 0, none⟩) x5_2.length co24) y145 := (by rw [hw, Ny145.out]; exact HP25.1); clear HP25; have n0_ := Aside0.mk (hp_); have n1_ := Aside0.mk ((by rw [hw]; exact below_set (HB.out) GB24.out : Below w.heap.size w w26)); clear HO_5; clear HB; have HO_5 := n0_; have HB := n1_; clear n0_ n1_; clear hg hw hp_))
                          go_roundg k2
                          case measure => have := HK1.out; have := HK2.out; omega
                          case rel => exact ⟨(y145), (wrap64 (x19_1 + 1)), (by first | rfl | (simp; done) | (simp [*]; done)), H', ⟨by have := HK1.out; have := HK2.out; omega⟩, ⟨by (with_reducible repeat (first | apply Kd.R_alloc | apply Kd.R_drewN | apply Kd.R_drew)); exact HO_5.out⟩, ⟨by repeat (first | (with_reducible first | exact HB.out | apply below_alloc | apply pw_below_drewN | apply below_drew1) | exact HB.out)⟩⟩
                        · rw [if_neg c23] at H
                          exact absurd H (by simp)
                      · rw [if_neg c22] at H
                        exact absurd H (by simp)
              · rw [if_neg c10] at H
                exact absurd H (by simp)
            · rw [if_neg c9] at H
              exact absurd H (by simp)
          · rw [if_neg c8] at H
            have c8b0 : decide (x19_1 < (l0.length : Int)) = false := decide_eq_false c8
            clear c8
            replace H := Option.bind_eq_some_iff.mp H
            obtain ⟨t138, A270, H⟩ := H
            replace H : (some t138) = some r := H
            have A27 := Aside0.mk A270
            clear A270
            obtain rfl := Option.some.inj H
            obtain ⟨Ao28, co28, eo28⟩ := Kd.R_slice HO_5.out
            subst eo28
            go_wp2_with (first | ((with_reducible refine gate_callee (f := 53) rfl ?_); refine goesL_ (some 67) rfl rfl Tryd.func53 (by kernel_rfl) rfl #[.slice Ao28 x5_1.length co28] rfl (by (try simp only [List.map_toArray, List.map_cons, List.map_nil]); first | done | rfl | (simp only [List.length_drop, List.length_take]; rfl)) ?_; (with_reducible refine (spec_natTrim.calls k1 (fun k_ => some k_ = (.slice Ao28 x5_1.length co28 : Value).ownBlock) _ _ x5_1 t138 _ ?side1 A27.out).mono ?_); (case side1 => exact Kd.R_V (Kd.R_tight rfl (HO_5.out))); rintro e w29 ⟨v139, rfl, ho0, hb⟩; refine ⟨_, rfl, ?_⟩; have n0_ := Aside0.mk (Kd.R_below (by (with_reducible repeat (first | apply Kd.R_alloc | apply Kd.R_drewN | apply Kd.R_drew)); exact HO_5.out) hb); have n1_ := Aside0.mk (Kd.V_lower (Kd.V_mono (ok' := fun k_ => (w.heap.size ≤ k_)) ho0 (fun k_ hk_ => Or.elim hk_ (fun hs_ => ((HO_5.out).1 k_ hs_.symm)) (fun hn_ => (Nat.le_trans (below_size (by repeat (first | (with_reducible first | exact HB.out | apply below_alloc | apply pw_below_drewN | apply below_drew1) | exact HB.out))) hn_)))) (below_size (by repeat (first | (with_reducible first | exact HB.out | apply below_alloc | apply pw_below_drewN | apply below_drew1) | exact HB.out)))); have n2_ := Aside0.mk (below_step (by repeat (first | (with_reducible first | exact HB.out | apply below_alloc | apply pw_below_drewN | apply below_drew1) | exact HB.out)) hb); clear HO_5; clear HB; have HO_5 := n0_; have HO140 := n1_; have HB := n2_; clear n0_ n1_ n2_; (try clear hb); (try clear hb2); (try clear hk); (try clear hi); (try clear ho0)))
            go_ret
            exact ⟨_, by first | rfl | (simp [errW_none, errW_some] <;> rfl) | (simp only [← hji3]; first | rfl | (simp [errW_none, errW_some] <;> rfl)) | (simp [*, errW_none, errW_some] <;> rfl), by (with_reducible repeat (first | apply Kd.V_alloc | apply Kd.V_drewN | apply Kd.V_drew)); exact HO140.out, by repeat (first | (with_reducible first | exact HB.out | apply below_alloc | apply pw_below_drewN | apply below_drew1) | exact HB.out)⟩
    · rw [if_neg c5] at H
      exact absurd H (by simp)
  · rw [if_neg c4] at H
    exact absurd H (by simp)

/-! ### spec_NatFrom: function 11 -/
def spec_NatFrom.l0 : Nat → Int → List Int → Option (List Int)
  | 0, _, _ => none
  | k + 1, x0, x3 => if x0 > 0 then (if x3.length < 35184372088832 then (spec_NatFrom.l0 k (IntKind.u64.wrap (Int.tdiv x0 1000000000)) (x3 ++ [(Int.tmod x0 1000000000) % 4294967296])) else (none)) else (some x3)
def spec_NatFrom.f (k : Nat) (a0 : Int) : Option (List Int) := spec_NatFrom.l0 k a0 ([] : List Int)
theorem spec_NatFrom.mono_l : ∀ k, (∀ y0 y1, LeO (spec_NatFrom.l0 k y0 y1) (spec_NatFrom.l0 (k + 1) y0 y1))
  | 0 => fun _ _ r h => by simp [spec_NatFrom.l0] at h
  | k + 1 => by
    have ih0 := spec_NatFrom.mono_l k
    · intro y0 y1
      unfold spec_NatFrom.l0
      repeat' first
      | (with_reducible exact ih0 _ _)
      | (with_reducible exact LeO.refl _)
      | (with_reducible exact LeO.none _)
      | (with_reducible refine LeO.ite ?_ ?_)
      | (with_reducible refine LeO.bind ?_ (fun _ => ?_))
      | exact ih0 _ _
      | exact LeO.none _
      | refine LeO.ite ?_ ?_
      | refine LeO.bind ?_ (fun _ => ?_)
theorem spec_NatFrom.mono : ∀ a0 k, LeO (spec_NatFrom.f k a0) (spec_NatFrom.f (k + 1) a0) := by
  intro a0 k
  have ih0 := spec_NatFrom.mono_l k
  unfold spec_NatFrom.f
  repeat' first
      | (with_reducible exact ih0 _ _)
      | (with_reducible exact LeO.refl _)
      | (with_reducible exact LeO.none _)
      | (with_reducible refine LeO.ite ?_ ?_)
      | (with_reducible refine LeO.bind ?_ (fun _ => ?_))
      | exact ih0 _ _
      | exact LeO.none _
      | refine LeO.ite ?_ ?_
      | refine LeO.bind ?_ (fun _ => ?_)
set_option maxHeartbeats 8000000 in
set_option maxRecDepth 100000 in
theorem spec_NatFrom.calls (k : Nat) (a0 : Int) (r : List Int) (w : World) (h : spec_NatFrom.f k a0 = some r) :
    Calls Tryd.prog 11 #[.int .u64 a0] w fun e w' => ∃ v0_ : Value, e = .returned (v0_) ∧ Kd.R (Kd.int .u32) 59 w' w.heap.size (fun _ => True) v0_ r ∧ Below w.heap.size w w' := by
  have HB := Aside0.mk (Below.refl w.heap.size w)
  have H : (spec_NatFrom.l0 k a0 ([] : List Int)) = some r := h
  clear h
  have H' := Aside0.mk H
  clear H
  go_enter Tryd.func11, Tryd.ntmps11
  go_wp2
  go_loopg [0, 3] k (fun kq v0 v3 w' => ∃ (x0_1 : Int) (x3_1 : List Int), v0 = .int .u64 x0_1 ∧ Aside0 (spec_NatFrom.l0 kq x0_1 x3_1 = some r) ∧ Aside0 (kq ≤ k) ∧ Aside0 (Kd.R (Kd.int .u32) 59 w' w.heap.size (fun _ => True) v3 x3_1) ∧ Aside0 (Below w.heap.size w w'))
  case atStart => exact ⟨(a0), (([] : List Int)), (by first | rfl | (simp; done) | (simp [*]; done)), H', ⟨Nat.le_refl _⟩, ⟨by first | exact Kd.R_nil _ _ _ _ _ | exact Kd.N_nil _ _ _ _ _ | exact Kd.V_nil _ _ _ _ _ | exact Kd.Q_nil _ _ _ _ _ | exact Kd.S_nil _ _ _ _ _⟩, ⟨by repeat (first | (with_reducible first | exact HB.out | apply below_alloc | apply pw_below_drewN | apply below_drew1) | exact HB.out)⟩⟩
  case round =>
    clear H'
    try clear c1
    obtain ⟨x0_1, x3_1, rfl, HA, HK1, HO_3, HB⟩ := hrel
    cases gk with
    | zero => exact absurd HA.out (by simp [spec_NatFrom.l0])
    | succ k1 =>
      have H := HA.out
      clear HA
      simp only [spec_NatFrom.l0] at H
      by_cases c2 : x0_1 > 0
      · rw [if_pos c2] at H
        have c2b0 : decide (0 < x0_1) = true := decide_eq_true c2
        clear c2
        by_cases c3 : x3_1.length < 35184372088832
        · rw [if_pos c3] at H
          have LMc3 := Aside0.mk c3
          clear c3
          obtain ⟨y146, hy146⟩ : ∃ y_ : List Int, y_ = (x3_1 ++ [(Int.tmod x0_1 1000000000) % 4294967296]) := ⟨_, rfl⟩
          replace H : (spec_NatFrom.l0 k1 (IntKind.u64.wrap (Int.tdiv x0_1 1000000000)) y146) = some r := by first | (rw [hy146]; with_reducible exact H) | (have H2_ := (Option.bind_some _ _).symm.trans H; rw [hy146]; with_reducible exact H2_) | (have H2_ := (Option.bind_some _ _).symm.trans H; with_reducible exact H2_) | with_reducible exact H | (rw [hy146]; exact H) | exact H
          have Ny146 := Aside0.mk hy146
          clear hy146
          have H' := Aside0.mk H
          clear H
          go_wp2_with (first | ((with_reducible refine gate_builtin (b := .append) (xs := #[.tmp 8, .tmp 12]) rfl ?_); at_builtin; refine Kd.R_append (Kd.int .u32) (w0 := w) w.heap.size rfl (.tmp 8) (.tmp 12) 32 59 (.int .u32 0) 4 rfl Tryd.underlying32 info59 rfl (by decide) (by omega) u3 x3_1 ((Int.tmod x0_1 1000000000) % 4294967296) [.int .u32 ((Int.tmod x0_1 1000000000) % 4294967296)] (fun _ => True) (fun _ => False) rfl rfl ?aP (fun _ hk => hk.elim) ?aF ?aO ?aB ?aS ?aL ?_; (case aP => exact rfl); (case aB => exact (by repeat (first | (with_reducible first | exact HB.out | apply below_alloc | apply pw_below_drewN | apply below_drew1) | exact HB.out))); (case aF => exact (fun _ _ => trivial)); (case aO => exact (by (with_reducible repeat (first | apply Kd.R_alloc | apply Kd.R_drewN | apply Kd.R_drew)); exact HO_3.out)); (case aS => exact (below_size (by repeat (first | (with_reducible first | exact HB.out | apply below_alloc | apply pw_below_drewN | apply below_drew1) | exact HB.out)))); (case aL => have := LMc3.out; omega); intro v147 w4 ho hb hg hat; rw [← Ny146.out] at ho; have n0_ := Aside0.mk (hb); have n1_ := Aside0.mk (ho); clear HB; clear HO_3; have HB := n0_; have HO148 := n1_; clear n0_ n1_; clear ho hb hg hat))
          go_roundg k1
          case measure => have := HK1.out; omega
          case rel => exact ⟨(IntKind.u64.wrap (Int.tdiv x0_1 1000000000)), (y146), (by first | rfl | (simp; done) | (simp [*]; done)), H', ⟨by have := HK1.out; omega⟩, ⟨by (with_reducible repeat (first | apply Kd.R_alloc | apply Kd.R_drewN | apply Kd.R_drew)); exact HO148.out⟩, ⟨by repeat (first | (with_reducible first | exact HB.out | apply below_alloc | apply pw_below_drewN | apply below_drew1) | exact HB.out)⟩⟩
        · rw [if_neg c3] at H
          exact absurd H (by simp)
      · rw [if_neg c2] at H
        have c2b0 : decide (0 < x0_1) = false := decide_eq_false c2
        clear c2
        obtain rfl := Option.some.inj H
        go_wp2
        go_ret
        exact ⟨_, by first | rfl | (simp [errW_none, errW_some] <;> rfl) | (simp [*, errW_none, errW_some] <;> rfl), by (with_reducible repeat (first | apply Kd.R_alloc | apply Kd.R_drewN | apply Kd.R_drew)); exact HO_3.out, by repeat (first | (with_reducible first | exact HB.out | apply below_alloc | apply pw_below_drewN | apply below_drew1) | exact HB.out)⟩

/-! ### spec_natShort: function 46 -/
def spec_natShort.l0 : Nat → List Int → Int → List Int → Int → Int → Option (List Int × Int)
  | 0, _, _, _, _, _ => none
  | k + 1, x0, x1, x6, x7, x8 => if x8 ≥ 0 then (if 0 ≤ x8 then (if x8 < (x0.length : Int) then (if (IntKind.u64.wrap (x1)) = 0 then (none) else (if x8 < (x6.length : Int) then (spec_natShort.l0 k x0 x1 (x6.set (x8 : Int).toNat ((IntKind.u64.wrap (Int.tdiv (IntKind.u64.wrap ((IntKind.u64.wrap (x7 * 1000000000)) + (IntKind.u64.wrap (rd x0 x8)))) (IntKind.u64.wrap (x1)))) % 4294967296)) (Int.tmod (IntKind.u64.wrap ((IntKind.u64.wrap (x7 * 1000000000)) + (IntKind.u64.wrap (rd x0 x8)))) (IntKind.u64.wrap (x1))) (wrap64 (x8 - 1))) else (none))) else (none)) else (none)) else ((spec_natTrim.f k x6).bind fun t154 => (some (t154, (x7) % 4294967296)))
def spec_natShort.f (k : Nat) (l0 : List Int) (a1 : Int) : Option (List Int × Int) := if 0 ≤ (l0.length : Int) then (if ((l0.length : Int) : Int).toNat ≤ 70368744177664 then (spec_natShort.l0 k l0 a1 (List.replicate ((l0.length : Int) : Int).toNat 0) 0 (wrap64 ((l0.length : Int) - 1))) else (none)) else (none)
theorem spec_natShort.mono_l : ∀ k, (∀ y0 y1 y2 y3 y4, LeO (spec_natShort.l0 k y0 y1 y2 y3 y4) (spec_natShort.l0 (k + 1) y0 y1 y2 y3 y4))
  | 0 => fun _ _ _ _ _ r h => by simp [spec_natShort.l0] at h
  | k + 1 => by
    have ih0 := spec_natShort.mono_l k
    · intro y0 y1 y2 y3 y4
      unfold spec_natShort.l0
      repeat' first
      | (with_reducible exact ih0 _ _ _ _ _)
      | (with_reducible exact spec_natTrim.mono _ _)
      | (with_reducible exact LeO.refl _)
      | (with_reducible exact LeO.none _)
      | (with_reducible refine LeO.ite ?_ ?_)
      | (with_reducible refine LeO.bind ?_ (fun _ => ?_))
      | exact ih0 _ _ _ _ _
      | exact spec_natTrim.mono _ _
      | exact LeO.none _
      | refine LeO.ite ?_ ?_
      | refine LeO.bind ?_ (fun _ => ?_)
theorem spec_natShort.mono : ∀ a0 a1 k, LeO (spec_natShort.f k a0 a1) (spec_natShort.f (k + 1) a0 a1) := by
  intro a0 a1 k
  have ih0 := spec_natShort.mono_l k
  unfold spec_natShort.f
  repeat' first
      | (with_reducible exact ih0 _ _ _ _ _)
      | (with_reducible exact spec_natTrim.mono _ _)
      | (with_reducible exact LeO.refl _)
      | (with_reducible exact LeO.none _)
      | (with_reducible refine LeO.ite ?_ ?_)
      | (with_reducible refine LeO.bind ?_ (fun _ => ?_))
      | exact ih0 _ _ _ _ _
      | exact spec_natTrim.mono _ _
      | exact LeO.none _
      | refine LeO.ite ?_ ?_
      | refine LeO.bind ?_ (fun _ => ?_)
set_option maxHeartbeats 8000000 in
set_option maxRecDepth 100000 in
theorem spec_natShort.calls (k : Nat) (A0 : Option Addr) (c0 : Nat) (l0 : List Int) (a1 : Int) (r1 : List Int) (r2 : Int) (w : World) (hr0 : Kd.C (Kd.int .u32) w A0 l0.length l0) (hc0 : l0.length ≤ c0) (h : spec_natShort.f k l0 a1 = some (r1, r2)) :
    Calls Tryd.prog 46 #[.slice A0 l0.length c0, .int .u32 a1] w fun e w' => ∃ v0_ : Value, e = .returned (.tuple #[v0_, .int .u32 r2]) ∧ Kd.V (Kd.int .u32) 59 w' w.heap.size (fun k_ => (w.heap.size ≤ k_)) v0_ r1 ∧ Below w.heap.size w w' := by
  have HR0 := Aside0.mk hr0
  have HC0 := Aside0.mk hc0
  clear hr0 hc0
  have HB := Aside0.mk (Below.refl w.heap.size w)
  have H : (if 0 ≤ (l0.length : Int) then (if ((l0.length : Int) : Int).toNat ≤ 70368744177664 then (spec_natShort.l0 k l0 a1 (List.replicate ((l0.length : Int) : Int).toNat 0) 0 (wrap64 ((l0.length : Int) - 1))) else (none)) else (none)) = some (r1, r2) := h
  clear h
  by_cases c3 : 0 ≤ (l0.length : Int)
  · rw [if_pos c3] at H
    have c3b0 := eq_true c3
    have c3b1 : decide (0 ≤ (l0.length : Int)) = true := decide_eq_true c3
    clear c3
    by_cases c4 : ((l0.length : Int) : Int).toNat ≤ 70368744177664
    · rw [if_pos c4] at H
      have c4b0 := eq_true c4
      have c4b1 : decide (((l0.length : Int) : Int).toNat ≤ 70368744177664) = true := decide_eq_true c4
      clear c4
      obtain ⟨y149, hy149⟩ : ∃ y_ : List Int, y_ = (List.replicate ((l0.length : Int) : Int).toNat 0) := ⟨_, rfl⟩
      replace H : (spec_natShort.l0 k l0 a1 y149 0 (wrap64 ((l0.length : Int) - 1))) = some (r1, r2) := by first | (rw [hy149]; with_reducible exact H) | (have H2_ := (Option.bind_some _ _).symm.trans H; rw [hy149]; with_reducible exact H2_) | (have H2_ := (Option.bind_some _ _).symm.trans H; with_reducible exact H2_) | with_reducible exact H | (rw [hy149]; exact H) | exact H
      have Ny149 := Aside0.mk hy149
      clear hy149
      have H' := Aside0.mk H
      clear H
      go_enter Tryd.func46, Tryd.ntmps46
      go_wp2_with (first | ((with_reducible refine gate_dst (N := 11) rfl ?_); refine Kd.R_make (Kd.int .u32) _ 59 rfl (N := 11) rfl 32 _ _ rfl (l0.length : Int) rfl rfl Tryd.underlying32 (.int .u32 0) 4 info59 rfl (by decide) (by omega) 0 (ok := fun _ => True) (okp := fun _ => True) rfl (fun _ hk => hk) trivial (of_decide_eq_true (by first | (with_reducible assumption) | assumption)) (Nat.le_trans (Nat.mul_le_mul_right _ (of_decide_eq_true (by first | (with_reducible assumption) | assumption) : (l0.length : Int).toNat ≤ 70368744177664)) (by omega)) (Below.refl _ _) (Nat.le_refl _) ?_; intro v150 w5 ho6 hb hg_ hnew_; clear hg_ hnew_; (first | rw [← Ny149.out] at ho6 | (simp only [Int.reduceToNat] at ho6; rw [← Ny149.out] at ho6)); have n0_ := Aside0.mk (Kd.R_lower (Kd.R_newM (M := fun k_ => (w.heap.size ≤ k_)) ho6 (below_size (by repeat (first | (with_reducible first | exact HB.out | apply below_alloc | apply pw_below_drewN | apply below_drew1) | exact HB.out))) (fun k_ h_ => h_)) (below_size (by repeat (first | (with_reducible first | exact HB.out | apply below_alloc | apply pw_below_drewN | apply below_drew1) | exact HB.out)))); have n1_ := Aside0.mk (below_step (by repeat (first | (with_reducible first | exact HB.out | apply below_alloc | apply pw_below_drewN | apply below_drew1) | exact HB.out)) hb); clear HB; have HO151 := n0_; have HB := n1_; clear n0_ n1_; clear hb ho6))
      go_loopg [7, 8] k (fun kq v7 v8 w' => ∃ (x6_1 : List Int) (x7_1 : Int) (x8_1 : Int), v7 = .int .u64 x7_1 ∧ v8 = .int .i64 x8_1 ∧ Aside0 (spec_natShort.l0 kq l0 a1 x6_1 x7_1 x8_1 = some (r1, r2)) ∧ Aside0 (kq ≤ k) ∧ Aside0 (Kd.R (Kd.int .u32) 59 w' w.heap.size (fun k_ => (w.heap.size ≤ k_)) v150 x6_1) ∧ Aside0 (Below w.heap.size w w'))
      case atStart => exact ⟨(y149), (0), (wrap64 ((l0.length : Int) - 1)), (by first | rfl | (simp; done) | (simp [*]; done)), (by first | rfl | (simp; done) | (simp [*]; done)), H', ⟨Nat.le_refl _⟩, ⟨by (with_reducible repeat (first | apply Kd.R_alloc | apply Kd.R_drewN | apply Kd.R_drew)); exact Kd.R_mono HO151.out (fun _ hk => hk.1)⟩, ⟨by repeat (first | (with_reducible first | exact HB.out | apply below_alloc | apply pw_below_drewN | apply below_drew1) | exact HB.out)⟩⟩
      case round =>
        clear H'
        try clear p2
        try clear c3
        try clear c3b0
        try clear c3b1
        try clear c4
        try clear c4b0
        try clear c4b1
        try clear p6
        obtain ⟨x6_1, x7_1, x8_1, rfl, rfl, HA, HK1, HO_6, HB⟩ := hrel
        cases gk with
        | zero => exact absurd HA.out (by simp [spec_natShort.l0])
        | succ k1 =>
          have H := HA.out
          clear HA
          simp only [spec_natShort.l0] at H
          by_cases c7 : x8_1 ≥ 0
          · rw [if_pos c7] at H
            have c7b0 : decide (0 ≤ x8_1) = true := decide_eq_true c7
            clear c7
            by_cases c8 : 0 ≤ x8_1
            · rw [if_pos c8] at H
              have c8b0 : decide (0 ≤ x8_1) = true := decide_eq_true c8
              clear c8
              by_cases c9 : x8_1 < (l0.length : Int)
              · rw [if_pos c9] at H
                have c9b0 : decide (x8_1 < (l0.length : Int)) = true := decide_eq_true c9
                clear c9
                by_cases c10 : (IntKind.u64.wrap (a1)) = 0
                · rw [if_pos c10] at H
                  exact absurd H (by simp)
                · rw [if_neg c10] at H
                  have c10b0 : ((IntKind.u64.wrap (a1)) == 0) = false := beq_eq_false_iff_ne.mpr c10
                  have c10b1 : ((IntKind.u64.wrap (a1)) != 0) = true := bne_iff_ne.mpr c10
                  by_cases c11 : x8_1 < (x6_1.length : Int)
                  · rw [if_pos c11] at H
                    have c11b0 : decide (x8_1 < (x6_1.length : Int)) = true := decide_eq_true c11
                    clear c11
                    obtain ⟨y153, hy153⟩ : ∃ y_ : List Int, y_ = (x6_1.set (x8_1 : Int).toNat ((IntKind.u64.wrap (Int.tdiv (IntKind.u64.wrap ((IntKind.u64.wrap (x7_1 * 1000000000)) + (IntKind.u64.wrap (rd l0 x8_1)))) (IntKind.u64.wrap (a1)))) % 4294967296)) := ⟨_, rfl⟩
                    replace H : (spec_natShort.l0 k1 l0 a1 y153 (Int.tmod (IntKind.u64.wrap ((IntKind.u64.wrap (x7_1 * 1000000000)) + (IntKind.u64.wrap (rd l0 x8_1)))) (IntKind.u64.wrap (a1))) (wrap64 (x8_1 - 1))) = some (r1, r2) := by first | (rw [hy153]; with_reducible exact H) | (have H2_ := (Option.bind_some _ _).symm.trans H; rw [hy153]; with_reducible exact H2_) | (have H2_ := (Option.bind_some _ _).symm.trans H; with_reducible exact H2_) | with_reducible exact H | (rw [hy153]; exact H) | exact H
                    have Ny153 := Aside0.mk hy153
                    clear hy153
                    have H' := Aside0.mk H
                    clear H
                    have p152 : 0 ≤ (x8_1 : Int) := of_decide_eq_true (by first | (with_reducible assumption) | assumption)
                    have q152 : x8_1 < (l0.length : Int) := of_decide_eq_true (by first | (with_reducible assumption) | assumption)
                    obtain ⟨ad152, e152, hx152_0⟩ := Kd.at_int HR0.out x8_1 p152 q152
                    cases e152
                    replace hx152_0 := (HB.out.cell (World.block_lt_of_cell? w _ hx152_0)).trans hx152_0
                    replace p152 := eq_true p152
                    replace q152 := eq_true q152
                    have p12 : 0 ≤ (x8_1 : Int) := of_decide_eq_true (by first | (with_reducible assumption) | assumption)
                    have q12 : (x8_1 : Int) < ((x6_1.length : Int) : Int) := of_decide_eq_true (by first | (with_reducible assumption) | assumption)
                    obtain ⟨go12, co12, eo12, gb12, gl12, cl12, HG12⟩ := Kd.R_form HO_6.out (by omega)
                    (first | cases eo12 | (injection eo12 with ea_ en_ ec_; (first | subst ea_ | (injection ea_ with ea_; subst ea_)); subst ec_; clear en_))
                    have GB12 := Aside0.mk gb12
                    have GG12 := Aside0.mk HG12
                    clear gb12 gl12 HG12
                    obtain ⟨hx12_0, hf12_0⟩ := Kd.R_celln 0 HO_6.out (x8_1 : Int) p12 q12
                    replace p12 := eq_true p12
                    replace q12 := eq_true q12
                    have HP13 := Kd.R_putg HO_6.out (x8_1 : Int) ((IntKind.u64.wrap (Int.tdiv (IntKind.u64.wrap ((IntKind.u64.wrap (x7_1 * 1000000000)) + (IntKind.u64.wrap (rd l0 x8_1)))) (IntKind.u64.wrap (a1)))) % 4294967296)
                    go_wp2_with (first | ((with_reducible refine gate_store (t := 59) (p := 34) rfl ?_); refine store_event (t := 59) (p := 34) (v := ?vo_w14) (w1 := (wr.setCell ⟨go12, (x8_1 : Int).toNat, none⟩ (.int .u32 ((IntKind.u64.wrap (Int.tdiv (IntKind.u64.wrap ((IntKind.u64.wrap (x7_1 * 1000000000)) + (IntKind.u64.wrap (rd l0 x8_1)))) (IntKind.u64.wrap (a1)))) % 4294967296)))) ?hg ?ho ?hn ?hr ?_; (case ho => rfl); (case hg => rfl); (case hn => rfl); (case hr => first | (go_simp; done) | (go_simp; rfl)); intro w14 hw; have hg : wr.grownBy w14 (some go12) := (by rw [hw]; exact HP13.2); have hp_ : Kd.R (Kd.int .u32) 59 w14 w.heap.size (fun k_ => (w.heap.size ≤ k_)) (.slice (some ⟨go12, 0, none⟩) x6_1.length co12) y153 := (by rw [hw, Ny153.out]; exact HP13.1); clear HP13; have n0_ := Aside0.mk (hp_); have n1_ := Aside0.mk ((by rw [hw]; exact below_set (HB.out) GB12.out : Below w.heap.size w w14)); clear HO_6; clear HB; have HO_6 := n0_; have HB := n1_; clear n0_ n1_; clear hg hw hp_))
                    go_roundg k1
                    case measure => have := HK1.out; omega
                    case rel => exact ⟨(y153), (Int.tmod (IntKind.u64.wrap ((IntKind.u64.wrap (x7_1 * 1000000000)) + (IntKind.u64.wrap (rd l0 x8_1)))) (IntKind.u64.wrap (a1))), (wrap64 (x8_1 - 1)), (by first | rfl | (simp; done) | (simp [*]; done)), (by first | rfl | (simp; done) | (simp [*]; done)), H', ⟨by have := HK1.out; omega⟩, ⟨by (with_reducible repeat (first | apply Kd.R_alloc | apply Kd.R_drewN | apply Kd.R_drew)); exact HO_6.out⟩, ⟨by repeat (first | (with_reducible first | exact HB.out | apply below_alloc | apply pw_below_drewN | apply below_drew1) | exact HB.out)⟩⟩
                  · rw [if_neg c11] at H
                    exact absurd H (by simp)
              · rw [if_neg c9] at H
                exact absurd H (by simp)
            · rw [if_neg c8] at H
              exact absurd H (by simp)
          · rw [if_neg c7] at H
            have c7b0 : decide (0 ≤ x8_1) = false := decide_eq_false c7
            clear c7
            replace H := Option.bind_eq_some_iff.mp H
            obtain ⟨t154, A150, H⟩ := H
            replace H : (some (t154, (x7_1) % 4294967296)) = some (r1, r2) := H
            have A15 := Aside0.mk A150
            clear A150
            simp only [Option.some.injEq, Prod.mk.injEq] at H
            obtain ⟨rfl, rfl⟩ := H
            obtain ⟨Ao16, co16, eo16⟩ := Kd.R_slice HO_6.out
            subst eo16
            go_wp2_with (first | ((with_reducible refine gate_callee (f := 53) rfl ?_); refine goesL_ (some 40) rfl rfl Tryd.func53 (by kernel_rfl) rfl #[.slice Ao16 x6_1.length co16] rfl (by (try simp only [List.map_toArray, List.map_cons, List.map_nil]); first | done | rfl | (simp only [List.length_drop, List.length_take]; rfl)) ?_; (with_reducible refine (spec_natTrim.calls k1 (fun k_ => some k_ = (.slice Ao16 x6_1.length co16 : Value).ownBlock) _ _ x6_1 t154 _ ?side1 A15.out).mono ?_); (case side1 => exact Kd.R_V (Kd.R_tight rfl (HO_6.out))); rintro e w17 ⟨v155, rfl, ho0, hb⟩; refine ⟨_, rfl, ?_⟩; have n0_ := Aside0.mk (Kd.R_below (by (with_reducible repeat (first | apply Kd.R_alloc | apply Kd.R_drewN | apply Kd.R_drew)); exact HO_6.out) hb); have n1_ := Aside0.mk (Kd.V_lower (Kd.V_mono (ok' := fun k_ => (w.heap.size ≤ k_)) ho0 (fun k_ hk_ => Or.elim hk_ (fun hs_ => ((HO_6.out).1 k_ hs_.symm)) (fun hn_ => (Nat.le_trans (below_size (by repeat (first | (with_reducible first | exact HB.out | apply below_alloc | apply pw_below_drewN | apply below_drew1) | exact HB.out))) hn_)))) (below_size (by repeat (first | (with_reducible first | exact HB.out | apply below_alloc | apply pw_below_drewN | apply below_drew1) | exact HB.out)))); have n2_ := Aside0.mk (below_step (by repeat (first | (with_reducible first | exact HB.out | apply below_alloc | apply pw_below_drewN | apply below_drew1) | exact HB.out)) hb); clear HO_6; clear HB; have HO_6 := n0_; have HO156 := n1_; have HB := n2_; clear n0_ n1_ n2_; (try clear hb); (try clear hb2); (try clear hk); (try clear hi); (try clear ho0)))
            go_ret2
            exact ⟨_, by first | rfl | (simp [errW_none, errW_some] <;> rfl) | (simp [*, errW_none, errW_some] <;> rfl), by (with_reducible repeat (first | apply Kd.V_alloc | apply Kd.V_drewN | apply Kd.V_drew)); exact HO156.out, by repeat (first | (with_reducible first | exact HB.out | apply below_alloc | apply pw_below_drewN | apply below_drew1) | exact HB.out)⟩
    · rw [if_neg c4] at H
      exact absurd H (by simp)
  · rw [if_neg c3] at H
    exact absurd H (by simp)

/-! ### spec_natGuess: function 54 -/
def spec_natGuess.f (l0 : List Int) (l1 : List Int) : Option (Int) := if (l0.length : Int) < (l1.length : Int) then (some 0) else (if 0 ≤ (wrap64 ((l1.length : Int) - 1)) then (if (wrap64 ((l1.length : Int) - 1)) < (l0.length : Int) then (if (l0.length : Int) > (l1.length : Int) then (if 0 ≤ (l1.length : Int) then (if (l1.length : Int) < (l0.length : Int) then (if (wrap64 ((l1.length : Int) - 1)) < (l1.length : Int) then (if (IntKind.u64.wrap (rd l1 (wrap64 ((l1.length : Int) - 1)))) = 0 then (none) else (some (mn (IntKind.u64.wrap (Int.tdiv (IntKind.u64.wrap ((IntKind.u64.wrap (rd l0 (wrap64 ((l1.length : Int) - 1)))) + (IntKind.u64.wrap ((IntKind.u64.wrap (rd l0 (l1.length : Int))) * 1000000000)))) (IntKind.u64.wrap (rd l1 (wrap64 ((l1.length : Int) - 1)))))) 999999999))) else (none)) else (none)) else (none)) else (if (wrap64 ((l1.length : Int) - 1)) < (l1.length : Int) then (if (IntKind.u64.wrap (rd l1 (wrap64 ((l1.length : Int) - 1)))) = 0 then (none) else (some (mn (IntKind.u64.wrap (Int.tdiv (IntKind.u64.wrap (rd l0 (wrap64 ((l1.length : Int) - 1)))) (IntKind.u64.wrap (rd l1 (wrap64 ((l1.length : Int) - 1)))))) 999999999))) else (none))) else (none)) else (none))
set_option maxHeartbeats 8000000 in
set_option maxRecDepth 100000 in
theorem spec_natGuess.calls (A0 : Option Addr) (c0 : Nat) (l0 : List Int) (A1 : Option Addr) (c1 : Nat) (l1 : List Int) (r : Int) (w : World) (hr0 : Kd.C (Kd.int .u32) w A0 l0.length l0) (hc0 : l0.length ≤ c0) (hr1 : Kd.C (Kd.int .u32) w A1 l1.length l1) (hc1 : l1.length ≤ c1) (h : spec_natGuess.f l0 l1 = some r) :
    Calls Tryd.prog 54 #[.slice A0 l0.length c0, .slice A1 l1.length c1] w fun e w' => e = .returned (.int .u64 r) ∧ Below w.heap.size w w' := by
  have HR0 := Aside0.mk hr0
  have HC0 := Aside0.mk hc0
  clear hr0 hc0
  have HR1 := Aside0.mk hr1
  have HC1 := Aside0.mk hc1
  clear hr1 hc1
  have HB := Aside0.mk (Below.refl w.heap.size w)
  have H : (if (l0.length : Int) < (l1.length : Int) then (some 0) else (if 0 ≤ (wrap64 ((l1.length : Int) - 1)) then (if (wrap64 ((l1.length : Int) - 1)) < (l0.length : Int) then (if (l0.length : Int) > (l1.length : Int) then (if 0 ≤ (l1.length : Int) then (if (l1.length : Int) < (l0.length : Int) then (if (wrap64 ((l1.length : Int) - 1)) < (l1.length : Int) then (if (IntKind.u64.wrap (rd l1 (wrap64 ((l1.length : Int) - 1)))) = 0 then (none) else (some (mn (IntKind.u64.wrap (Int.tdiv (IntKind.u64.wrap ((IntKind.u64.wrap (rd l0 (wrap64 ((l1.length : Int) - 1)))) + (IntKind.u64.wrap ((IntKind.u64.wrap (rd l0 (l1.length : Int))) * 1000000000)))) (IntKind.u64.wrap (rd l1 (wrap64 ((l1.length : Int) - 1)))))) 999999999))) else (none)) else (none)) else (none)) else (if (wrap64 ((l1.length : Int) - 1)) < (l1.length : Int) then (if (IntKind.u64.wrap (rd l1 (wrap64 ((l1.length : Int) - 1)))) = 0 then (none) else (some (mn (IntKind.u64.wrap (Int.tdiv (IntKind.u64.wrap (rd l0 (wrap64 ((l1.length : Int) - 1)))) (IntKind.u64.wrap (rd l1 (wrap64 ((l1.length : Int) - 1)))))) 999999999))) else (none))) else (none)) else (none))) = some r := h
  clear h
  by_cases c3 : (l0.length : Int) < (l1.length : Int)
  · rw [if_pos c3] at H
    have c3b0 : decide ((l0.length : Int) < (l1.length : Int)) = true := decide_eq_true c3
    have c3b1 : decide (l0.length < l1.length) = true := decide_eq_true (Int.ofNat_lt.mp c3)
    clear c3
    obtain rfl := Option.some.inj H
    go_enter Tryd.func54, Tryd.ntmps54
    go_wp2
    go_ret
    exact ⟨by first | rfl | (simp [errW_none, errW_some] <;> rfl) | (simp [*, errW_none, errW_some] <;> rfl), by repeat (first | (with_reducible first | exact HB.out | apply below_alloc | apply pw_below_drewN | apply below_drew1) | exact HB.out)⟩
  · rw [if_neg c3] at H
    have c3b0 : decide ((l0.length : Int) < (l1.length : Int)) = false := decide_eq_false c3
    have c3b1 : decide (l0.length < l1.length) = false := decide_eq_false (fun h => c3 (Int.ofNat_lt.mpr h))
    clear c3
    obtain ⟨ji4, hji4⟩ : ∃ j_ : Int, (wrap64 ((l1.length : Int) - 1)) = j_ := ⟨_, rfl⟩
    replace H : (if 0 ≤ (ji4) then (if (ji4) < (l0.length : Int) then (if (l0.length : Int) > (l1.length : Int) then (if 0 ≤ (l1.length : Int) then (if (l1.length : Int) < (l0.length : Int) then (if (ji4) < (l1.length : Int) then (if (IntKind.u64.wrap (rd l1 (ji4))) = 0 then (none) else (some (mn (IntKind.u64.wrap (Int.tdiv (IntKind.u64.wrap ((IntKind.u64.wrap (rd l0 (ji4))) + (IntKind.u64.wrap ((IntKind.u64.wrap (rd l0 (l1.length : Int))) * 1000000000)))) (IntKind.u64.wrap (rd l1 (ji4))))) 999999999))) else (none)) else (none)) else (none)) else (if (ji4) < (l1.length : Int) then (if (IntKind.u64.wrap (rd l1 (ji4))) = 0 then (none) else (some (mn (IntKind.u64.wrap (Int.tdiv (IntKind.u64.wrap (rd l0 (ji4))) (IntKind.u64.wrap (rd l1 (ji4))))) 999999999))) else (none))) else (none)) else (none)) = some r := by first | (rw [hji4] at H; exact H) | (simp only [hji4] at H ⊢; exact H)
    have hji4w : (IntKind.i64.wrap ((l1.length : Int) - 1)) = ji4 := (i64_w _).trans hji4
    by_cases c5 : 0 ≤ (ji4)
    · rw [if_pos c5] at H
      have c5b0 : decide (0 ≤ (ji4)) = true := decide_eq_true c5
      clear c5
      by_cases c6 : (ji4) < (l0.length : Int)
      · rw [if_pos c6] at H
        have c6b0 : decide ((ji4) < (l0.length : Int)) = true := decide_eq_true c6
        clear c6
        by_cases c7 : (l0.length : Int) > (l1.length : Int)
        · rw [if_pos c7] at H
          have c7b0 : decide ((l1.length : Int) < (l0.length : Int)) = true := decide_eq_true c7
          have c7b1 : decide (l1.length < l0.length) = true := decide_eq_true (Int.ofNat_lt.mp c7)
          clear c7
          by_cases c8 : 0 ≤ (l1.length : Int)
          · rw [if_pos c8] at H
            have c8b0 : decide (0 ≤ (l1.length : Int)) = true := decide_eq_true c8
            have c8b1 : decide (0 ≤ l1.length) = true := decide_eq_true (by omega)
            clear c8
            by_cases c9 : (l1.length : Int) < (l0.length : Int)
            · rw [if_pos c9] at H
              have c9b0 : decide ((l1.length : Int) < (l0.length : Int)) = true := decide_eq_true c9
              have c9b1 : decide (l1.length < l0.length) = true := decide_eq_true (Int.ofNat_lt.mp c9)
              clear c9
              by_cases c10 : (ji4) < (l1.length : Int)
              · rw [if_pos c10] at H
                have c10b0 : decide ((ji4) < (l1.length : Int)) = true := decide_eq_true c10
                clear c10
                by_cases c11 : (IntKind.u64.wrap (rd l1 (ji4))) = 0
                · rw [if_pos c11] at H
                  exact absurd H (by simp)
                · rw [if_neg c11] at H
                  have c11b0 : ((IntKind.u64.wrap (rd l1 (ji4))) == 0) = false := beq_eq_false_iff_ne.mpr c11
                  have c11b1 : ((IntKind.u64.wrap (rd l1 (ji4))) != 0) = true := bne_iff_ne.mpr c11
                  obtain ⟨ji12, hji12⟩ : ∃ j_ : Int, (mn (IntKind.u64.wrap (Int.tdiv (IntKind.u64.wrap ((IntKind.u64.wrap (rd l0 (ji4))) + (IntKind.u64.wrap ((IntKind.u64.wrap (rd l0 (l1.length : Int))) * 1000000000)))) (IntKind.u64.wrap (rd l1 (ji4))))) 999999999) = j_ := ⟨_, rfl⟩
                  replace H : (some ji12) = some r := by first | (rw [hji12] at H; exact H) | (simp only [hji12] at H ⊢; exact H)
                  have hji12_ : (if 999999999 < (IntKind.u64.wrap (Int.tdiv (IntKind.u64.wrap ((IntKind.u64.wrap (rd l0 (ji4))) + (IntKind.u64.wrap ((IntKind.u64.wrap (rd l0 (l1.length : Int))) * 1000000000)))) (IntKind.u64.wrap (rd l1 (ji4))))) then 999999999 else (IntKind.u64.wrap (Int.tdiv (IntKind.u64.wrap ((IntKind.u64.wrap (rd l0 (ji4))) + (IntKind.u64.wrap ((IntKind.u64.wrap (rd l0 (l1.length : Int))) * 1000000000)))) (IntKind.u64.wrap (rd l1 (ji4)))))) = ji12 := hji12
                  obtain rfl := Option.some.inj H
                  have p157 : 0 ≤ ((ji4) : Int) := of_decide_eq_true (by first | (with_reducible assumption) | assumption)
                  have q157 : (ji4) < (l0.length : Int) := of_decide_eq_true (by first | (with_reducible assumption) | assumption)
                  obtain ⟨ad157, e157, hx157_0⟩ := Kd.at_int HR0.out (ji4) p157 q157
                  cases e157
                  replace p157 := eq_true p157
                  replace q157 := eq_true q157
                  have p158 : 0 ≤ ((l1.length : Int) : Int) := of_decide_eq_true (by first | (with_reducible assumption) | assumption)
                  have q158 : (l1.length : Int) < (l0.length : Int) := of_decide_eq_true (by first | (with_reducible assumption) | assumption)
                  obtain ⟨ad158, e158, hx158_0⟩ := Kd.at_int HR0.out (l1.length : Int) p158 q158
                  obtain rfl : ad157 = ad158 := (by injection e158)
                  (try simp only [Go.IntWalk.toNatUp] at hx158_0)
                  replace p158 := eq_true p158
                  replace q158 := eq_true q158
                  have p159 : 0 ≤ ((ji4) : Int) := of_decide_eq_true (by first | (with_reducible assumption) | assumption)
                  have q159 : (ji4) < (l1.length : Int) := of_decide_eq_true (by first | (with_reducible assumption) | assumption)
                  obtain ⟨ad159, e159, hx159_0⟩ := Kd.at_int HR1.out (ji4) p159 q159
                  cases e159
                  replace p159 := eq_true p159
                  replace q159 := eq_true q159
                  go_enter Tryd.func54, Tryd.ntmps54
                  go_wp2
                  go_ret
                  exact ⟨by first | rfl | (simp [errW_none, errW_some] <;> rfl) | (simp only [← hji4, ← hji12]; first | rfl | (simp [errW_none, errW_some] <;> rfl)) | (simp [*, errW_none, errW_some] <;> rfl), by repeat (first | (with_reducible first | exact HB.out | apply below_alloc | apply pw_below_drewN | apply below_drew1) | exact HB.out)⟩
              · rw [if_neg c10] at H
                exact absurd H (by simp)
            · rw [if_neg c9] at H
              exact absurd H (by simp)
          · rw [if_neg c8] at H
            exact absurd H (by simp)
        · rw [if_neg c7] at H
          have c7b0 : decide ((l1.length : Int) < (l0.length : Int)) = false := decide_eq_false c7
          have c7b1 : decide (l1.length < l0.length) = false := decide_eq_false (fun h => c7 (Int.ofNat_lt.mpr h))
          clear c7
          by_cases c13 : (ji4) < (l1.length : Int)
          · rw [if_pos c13] at H
            have c13b0 : decide ((ji4) < (l1.length : Int)) = true := decide_eq_true c13
            clear c13
            by_cases c14 : (IntKind.u64.wrap (rd l1 (ji4))) = 0
            · rw [if_pos c14] at H
              exact absurd H (by simp)
            · rw [if_neg c14] at H
              have c14b0 : ((IntKind.u64.wrap (rd l1 (ji4))) == 0) = false := beq_eq_false_iff_ne.mpr c14
              have c14b1 : ((IntKind.u64.wrap (rd l1 (ji4))) != 0) = true := bne_iff_ne.mpr c14
              obtain ⟨ji15, hji15⟩ : ∃ j_ : Int, (mn (IntKind.u64.wrap (Int.tdiv (IntKind.u64.wrap (rd l0 (ji4))) (IntKind.u64.wrap (rd l1 (ji4))))) 999999999) = j_ := ⟨_, rfl⟩
              replace H : (some ji15) = some r := by first | (rw [hji15] at H; exact H) | (simp only [hji15] at H ⊢; exact H)
              have hji15_ : (if 999999999 < (IntKind.u64.wrap (Int.tdiv (IntKind.u64.wrap (rd l0 (ji4))) (IntKind.u64.wrap (rd l1 (ji4))))) then 999999999 else (IntKind.u64.wrap (Int.tdiv (IntKind.u64.wrap (rd l0 (ji4))) (IntKind.u64.wrap (rd l1 (ji4)))))) = ji15 := hji15
              obtain rfl := Option.some.inj H
              have p157 : 0 ≤ ((ji4) : Int) := of_decide_eq_true (by first | (with_reducible assumption) | assumption)
              have q157 : (ji4) < (l0.length : Int) := of_decide_eq_true (by first | (with_reducible assumption) | assumption)
              obtain ⟨ad157, e157, hx157_0⟩ := Kd.at_int HR0.out (ji4) p157 q157
              cases e157
              replace p157 := eq_true p157
              replace q157 := eq_true q157
              have p160 : 0 ≤ ((ji4) : Int) := of_decide_eq_true (by first | (with_reducible assumption) | assumption)
              have q160 : (ji4) < (l1.length : Int) := of_decide_eq_true (by first | (with_reducible assumption) | assumption)
              obtain ⟨ad160, e160, hx160_0⟩ := Kd.at_int HR1.out (ji4) p160 q160
              cases e160
              replace p160 := eq_true p160
              replace q160 := eq_true q160
              go_enter Tryd.func54, Tryd.ntmps54
              go_wp2
              go_ret
              exact ⟨by first | rfl | (simp [errW_none, errW_some] <;> rfl) | (simp only [← hji4, ← hji15]; first | rfl | (simp [errW_none, errW_some] <;> rfl)) | (simp [*, errW_none, errW_some] <;> rfl), by repeat (first | (with_reducible first | exact HB.out | apply below_alloc | apply pw_below_drewN | apply below_drew1) | exact HB.out)⟩
          · rw [if_neg c13] at H
            exact absurd H (by simp)
      · rw [if_neg c6] at H
        exact absurd H (by simp)
    · rw [if_neg c5] at H
      exact absurd H (by simp)

end Go.Proofs.YtnjbfebeigginaaDoor.PFnFixTrunc
