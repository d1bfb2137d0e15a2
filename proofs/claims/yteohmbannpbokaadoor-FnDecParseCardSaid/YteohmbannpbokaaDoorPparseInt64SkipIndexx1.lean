-- PRINTED BY print.sh 35421559b90ae4d0a3588c463048766b98c2df88dd9212a6774a882060cdf62d: not written by this session
import Derived.Test.YteohmbannpbokaaDoorPparseInt64SkipIndexx0
namespace Go.Proofs.YteohmbannpbokaaDoor.PparseInt64SkipIndex
open Go.RowKit Go.Proofs.YteohmbannpbokaaDoorW.PrintWords Go.Proofs.YteohmbannpbokaaDoorW.PrintLast Go.Proofs.YteohmbannpbokaaDoorW.PrintMore
attribute [local go_sem] max2_int min2_int max_two min_two max_three min_three max_four min_four   -- for this text's walks alone
set_option linter.unusedVariables false
set_option linter.unusedSimpArgs false

/-! ### shopspring_parseInt64SkipIndex: function 21 -/
mutual
def shopspring_parseInt64SkipIndex.j0 : Nat → ByteArray → Int → Int → Bool → Bool → Option (Int × Bool)
  | 0, _, _, _, _, _ => none
  | k + 1, x0, x1, x6, x7, x27 => if x27 = true then (if 0 < (x0.size : Int) then (shopspring_parseInt64SkipIndex.j1 k x0 x1 1 ((bt x0 0) == 45)) else (none)) else (shopspring_parseInt64SkipIndex.j1 k x0 x1 x6 x7)
def shopspring_parseInt64SkipIndex.j1 : Nat → ByteArray → Int → Int → Bool → Option (Int × Bool)
  | 0, _, _, _, _ => none
  | k + 1, x0, x1, x6, x7 => shopspring_parseInt64SkipIndex.l0 k x0 x1 x6 x7 0 0
def shopspring_parseInt64SkipIndex.l0 : Nat → ByteArray → Int → Int → Bool → Int → Int → Option (Int × Bool)
  | 0, _, _, _, _, _, _ => none
  | k + 1, x0, x1, x6, x7, x8, x9 => if x6 < (x0.size : Int) then (if x6 = x1 then (shopspring_parseInt64SkipIndex.l0 k x0 x1 (wrap64 (x6 + 1)) x7 x8 x9) else (if 0 ≤ x6 then (if (bt x0 x6) < 48 then (some (0, false)) else (if (bt x0 x6) > 57 then (some (0, false)) else (shopspring_parseInt64SkipIndex.l0 k x0 x1 (wrap64 (x6 + 1)) x7 (wrap64 ((wrap64 (x8 * 10)) + (((bt x0 x6) - 48) % 256))) (wrap64 (x9 + 1))))) else (none))) else (if x7 = true then (some (wrap64 (-x8), decide (x9 > 0))) else (some (x8, decide (x9 > 0))))
end
def shopspring_parseInt64SkipIndex.f (k : Nat) (a0 : ByteArray) (a1 : Int) : Option (Int × Bool) := if (a0.size : Int) > 0 then (if a1 = 0 then (shopspring_parseInt64SkipIndex.j0 k a0 a1 0 false false) else (if 0 < (a0.size : Int) then (if (bt a0 0) = 43 then (shopspring_parseInt64SkipIndex.j0 k a0 a1 0 false true) else (shopspring_parseInt64SkipIndex.j0 k a0 a1 0 false ((bt a0 0) == 45))) else (none))) else (shopspring_parseInt64SkipIndex.j0 k a0 a1 0 false false)
theorem shopspring_parseInt64SkipIndex.mono_l : ∀ k, (∀ y0 y1 y2 y3 y4, LeO (shopspring_parseInt64SkipIndex.j0 k y0 y1 y2 y3 y4) (shopspring_parseInt64SkipIndex.j0 (k + 1) y0 y1 y2 y3 y4)) ∧ (∀ y0 y1 y2 y3, LeO (shopspring_parseInt64SkipIndex.j1 k y0 y1 y2 y3) (shopspring_parseInt64SkipIndex.j1 (k + 1) y0 y1 y2 y3)) ∧ (∀ y0 y1 y2 y3 y4 y5, LeO (shopspring_parseInt64SkipIndex.l0 k y0 y1 y2 y3 y4 y5) (shopspring_parseInt64SkipIndex.l0 (k + 1) y0 y1 y2 y3 y4 y5))
  | 0 => ⟨fun _ _ _ _ _ r h => by simp [shopspring_parseInt64SkipIndex.j0] at h, fun _ _ _ _ r h => by simp [shopspring_parseInt64SkipIndex.j1] at h, fun _ _ _ _ _ _ r h => by simp [shopspring_parseInt64SkipIndex.l0] at h⟩
  | k + 1 => by
    obtain ⟨ih0, ih1, ih2⟩ := shopspring_parseInt64SkipIndex.mono_l k
    refine ⟨?_, ?_, ?_⟩
    · intro y0 y1 y2 y3 y4
      unfold shopspring_parseInt64SkipIndex.j0
      repeat' first
      | (with_reducible exact ih0 _ _ _ _ _)
      | (with_reducible exact ih1 _ _ _ _)
      | (with_reducible exact ih2 _ _ _ _ _ _)
      | (with_reducible exact LeO.refl _)
      | (with_reducible exact LeO.none _)
      | (with_reducible refine LeO.ite ?_ ?_)
      | (with_reducible refine LeO.bind ?_ (fun _ => ?_))
      | exact ih0 _ _ _ _ _
      | exact ih1 _ _ _ _
      | exact ih2 _ _ _ _ _ _
      | exact LeO.none _
      | refine LeO.ite ?_ ?_
      | refine LeO.bind ?_ (fun _ => ?_)
    · intro y0 y1 y2 y3
      unfold shopspring_parseInt64SkipIndex.j1
      repeat' first
      | (with_reducible exact ih0 _ _ _ _ _)
      | (with_reducible exact ih1 _ _ _ _)
      | (with_reducible exact ih2 _ _ _ _ _ _)
      | (with_reducible exact LeO.refl _)
      | (with_reducible exact LeO.none _)
      | (with_reducible refine LeO.ite ?_ ?_)
      | (with_reducible refine LeO.bind ?_ (fun _ => ?_))
      | exact ih0 _ _ _ _ _
      | exact ih1 _ _ _ _
      | exact ih2 _ _ _ _ _ _
      | exact LeO.none _
      | refine LeO.ite ?_ ?_
      | refine LeO.bind ?_ (fun _ => ?_)
    · intro y0 y1 y2 y3 y4 y5
      unfold shopspring_parseInt64SkipIndex.l0
      repeat' first
      | (with_reducible exact ih0 _ _ _ _ _)
      | (with_reducible exact ih1 _ _ _ _)
      | (with_reducible exact ih2 _ _ _ _ _ _)
      | (with_reducible exact LeO.refl _)
      | (with_reducible exact LeO.none _)
      | (with_reducible refine LeO.ite ?_ ?_)
      | (with_reducible refine LeO.bind ?_ (fun _ => ?_))
      | exact ih0 _ _ _ _ _
      | exact ih1 _ _ _ _
      | exact ih2 _ _ _ _ _ _
      | exact LeO.none _
      | refine LeO.ite ?_ ?_
      | refine LeO.bind ?_ (fun _ => ?_)
theorem shopspring_parseInt64SkipIndex.mono : ∀ a0 a1 k, LeO (shopspring_parseInt64SkipIndex.f k a0 a1) (shopspring_parseInt64SkipIndex.f (k + 1) a0 a1) := by
  intro a0 a1 k
  obtain ⟨ih0, ih1, ih2⟩ := shopspring_parseInt64SkipIndex.mono_l k
  unfold shopspring_parseInt64SkipIndex.f
  repeat' first
      | (with_reducible exact ih0 _ _ _ _ _)
      | (with_reducible exact ih1 _ _ _ _)
      | (with_reducible exact ih2 _ _ _ _ _ _)
      | (with_reducible exact LeO.refl _)
      | (with_reducible exact LeO.none _)
      | (with_reducible refine LeO.ite ?_ ?_)
      | (with_reducible refine LeO.bind ?_ (fun _ => ?_))
      | exact ih0 _ _ _ _ _
      | exact ih1 _ _ _ _
      | exact ih2 _ _ _ _ _ _
      | exact LeO.none _
      | refine LeO.ite ?_ ?_
      | refine LeO.bind ?_ (fun _ => ?_)
set_option maxHeartbeats 8000000 in
set_option maxRecDepth 100000 in
theorem shopspring_parseInt64SkipIndex.calls (k : Nat) (a0 : ByteArray) (a1 : Int) (r1 : Int) (r2 : Bool) (w : World) (h : shopspring_parseInt64SkipIndex.f k a0 a1 = some (r1, r2)) :
    Calls Tryd.prog 21 #[.string a0, .int .i64 a1] w fun e w' => e = .returned (.tuple #[.int .i64 r1, .bool r2]) ∧ Drawn0 w w' := by
  have H : (if (a0.size : Int) > 0 then (if a1 = 0 then (shopspring_parseInt64SkipIndex.j0 k a0 a1 0 false false) else (if 0 < (a0.size : Int) then (if (bt a0 0) = 43 then (shopspring_parseInt64SkipIndex.j0 k a0 a1 0 false true) else (shopspring_parseInt64SkipIndex.j0 k a0 a1 0 false ((bt a0 0) == 45))) else (none))) else (shopspring_parseInt64SkipIndex.j0 k a0 a1 0 false false)) = some (r1, r2) := h
  clear h
  have HC3 := Aside0.mk H
  clear H
  go_enter Tryd.func21, Tryd.ntmps21
  go_upto_region 2 with (fail)
  repeat (go_quiet (fail); go_upto_region 2 with (fail))
  go_cut [27] (fun v27 wc => ∃ (kq : Nat) (x27_2 : Bool), v27 = .bool x27_2 ∧ Aside0 (shopspring_parseInt64SkipIndex.j0 kq a0 a1 0 false x27_2 = some (r1, r2)) ∧ Aside0 (kq ≤ k) ∧ Drawn0 w wc)
  case first =>
    have H := HC3.out
    clear HC3
    by_cases c4 : (a0.size : Int) > 0
    · rw [if_pos c4] at H
      have c4b0 : decide (0 < (a0.size : Int)) = true := decide_eq_true c4
      have c4b1 : decide (0 < a0.size) = true := decide_eq_true (by omega)
      clear c4
      (first | rw [c4b0] | (simp only [i64_w, i32_w]; rw [c4b0]) | skip)
      by_cases c5 : a1 = 0
      · rw [if_pos c5] at H
        have c5b0 : (a1 == 0) = true := beq_iff_eq.mpr c5
        have c5b1 : (a1 != 0) = false := bne_eq_false_iff_eq.mpr c5
        clear c5
        have H' := Aside0.mk H
        clear H
        go_wp2
        repeat (go_quiet (fail); try go_wp2)
        go_meet
        case rel => exact ⟨_, (false), (by first | rfl | (simp; done) | (simp [*]; done)), H', ⟨by first | omega | exact Nat.le_refl _⟩, by repeat (first | exact Drawn0.refl _ | apply Drawn0.step)⟩
      · rw [if_neg c5] at H
        have c5b0 : (a1 == 0) = false := beq_eq_false_iff_ne.mpr c5
        have c5b1 : (a1 != 0) = true := bne_iff_ne.mpr c5
        by_cases c6 : 0 < (a0.size : Int)
        · rw [if_pos c6] at H
          have c6b0 : decide (0 < (a0.size : Int)) = true := decide_eq_true c6
          have c6b1 : decide (0 < a0.size) = true := decide_eq_true (by omega)
          clear c6
          by_cases c8 : (bt a0 0) = 43
          · rw [if_pos c8] at H
            have c8b0 : ((bt a0 0) == 43) = true := beq_iff_eq.mpr c8
            have c8b1 : ((bt a0 0) != 43) = false := bne_eq_false_iff_eq.mpr c8
            clear c8
            have H' := Aside0.mk H
            clear H
            have p7 : 0 ≤ (0 : Int) := (by omega)
            have q7 : 0 < a0.size := (by have : (0 : Int) < (a0.size : Int) := of_decide_eq_true (by first | (with_reducible assumption) | assumption); omega)
            have hx7 : ∀ h : 0 < a0.size, ((a0[0]'h).toNat : Int) = bt a0 0 := bt_at a0 0
            clear p7
            have qi7 : (0 < (a0.size : Int)) = True := eq_true (of_decide_eq_true (by first | (with_reducible assumption) | assumption))
            replace q7 := eq_true q7
            go_wp2
            repeat (go_quiet (fail); try go_wp2)
            go_meet
            case rel => exact ⟨_, (true), (by first | rfl | (simp; done) | (simp [*]; done)), H', ⟨by first | omega | exact Nat.le_refl _⟩, by repeat (first | exact Drawn0.refl _ | apply Drawn0.step)⟩
          · rw [if_neg c8] at H
            have c8b0 : ((bt a0 0) == 43) = false := beq_eq_false_iff_ne.mpr c8
            have c8b1 : ((bt a0 0) != 43) = true := bne_iff_ne.mpr c8
            have H' := Aside0.mk H
            clear H
            have p7 : 0 ≤ (0 : Int) := (by omega)
            have q7 : 0 < a0.size := (by have : (0 : Int) < (a0.size : Int) := of_decide_eq_true (by first | (with_reducible assumption) | assumption); omega)
            have hx7 : ∀ h : 0 < a0.size, ((a0[0]'h).toNat : Int) = bt a0 0 := bt_at a0 0
            clear p7
            have qi7 : (0 < (a0.size : Int)) = True := eq_true (of_decide_eq_true (by first | (with_reducible assumption) | assumption))
            replace q7 := eq_true q7
            have p9 : 0 ≤ (0 : Int) := (by omega)
            have q9 : 0 < a0.size := (by have : (0 : Int) < (a0.size : Int) := of_decide_eq_true (by first | (with_reducible assumption) | assumption); omega)
            have hx9 : ∀ h : 0 < a0.size, ((a0[0]'h).toNat : Int) = bt a0 0 := bt_at a0 0
            clear p9
            have qi9 : (0 < (a0.size : Int)) = True := eq_true (of_decide_eq_true (by first | (with_reducible assumption) | assumption))
            replace q9 := eq_true q9
            go_wp2
            repeat (go_quiet (fail); try go_wp2)
            go_meet
            case rel => exact ⟨_, (((bt a0 0) == 45)), (by first | rfl | (simp; done) | (simp [*]; done)), H', ⟨by first | omega | exact Nat.le_refl _⟩, by repeat (first | exact Drawn0.refl _ | apply Drawn0.step)⟩
        · rw [if_neg c6] at H
          exact absurd H (by simp)
    · rw [if_neg c4] at H
      have c4b0 : decide (0 < (a0.size : Int)) = false := decide_eq_false c4
      have c4b1 : decide (0 < a0.size) = false := decide_eq_false (by omega)
      clear c4
      (first | rw [c4b0] | (simp only [i64_w, i32_w]; rw [c4b0]) | skip)
      have H' := Aside0.mk H
      clear H
      go_wp2
      repeat (go_quiet (fail); try go_wp2)
      go_meet
      case rel => exact ⟨_, (false), (by first | rfl | (simp; done) | (simp [*]; done)), H', ⟨by first | omega | exact Nat.le_refl _⟩, by repeat (first | exact Drawn0.refl _ | apply Drawn0.step)⟩
  case rest =>
    clear HC3
    try clear c2
    try clear p2
    try clear c4
    try clear c4b0
    try clear c4b1
    try clear c5
    try clear c5b0
    try clear c5b1
    try clear c6
    try clear c6b0
    try clear c6b1
    try clear p7
    try clear q7
    try clear hx7
    try clear qi7
    try clear c8
    try clear c8b0
    try clear c8b1
    try clear p9
    try clear q9
    try clear hx9
    try clear qi9
    try clear p7
    try clear p9
    try clear q7
    try clear q9
    obtain ⟨kq, x27_2, rfl, HA, HJ2, ⟨mc2, rfl⟩⟩ := hcut
    cases kq with
    | zero => exact absurd HA.out (by simp [shopspring_parseInt64SkipIndex.j0])
    | succ kj2 =>
      have H := HA.out
      clear HA
      simp only [shopspring_parseInt64SkipIndex.j0] at H
      have HC10 := Aside0.mk H
      clear H
      go_upto_if 27 with (fail)
      repeat (go_quiet (fail); go_upto_if 27 with (fail))
      go_cut [6, 7] (fun v6 v7 wc => ∃ (kq : Nat) (x6_9 : Int) (x7_9 : Bool), v6 = .int .i64 x6_9 ∧ v7 = .bool x7_9 ∧ Aside0 (shopspring_parseInt64SkipIndex.j1 kq a0 a1 x6_9 x7_9 = some (r1, r2)) ∧ Aside0 (kq ≤ kj2) ∧ Drawn0 w wc)
      case first =>
        have H := HC10.out
        clear HC10
        by_cases c11 : x27_2 = true
        · subst c11
          have H1 : (if 0 < (a0.size : Int) then (shopspring_parseInt64SkipIndex.j1 kj2 a0 a1 1 ((bt a0 0) == 45)) else (none)) = some (r1, r2) := by rw [if_pos rfl] at H; exact H
          clear H
          have H := H1
          clear H1
          by_cases c12 : 0 < (a0.size : Int)
          · rw [if_pos c12] at H
            have c12b0 : decide (0 < (a0.size : Int)) = true := decide_eq_true c12
            have c12b1 : decide (0 < a0.size) = true := decide_eq_true (by omega)
            clear c12
            (first | rw [c12b0] | (simp only [i64_w, i32_w]; rw [c12b0]) | skip)
            have H' := Aside0.mk H
            clear H
            have p13 : 0 ≤ (0 : Int) := (by omega)
            have q13 : 0 < a0.size := (by have : (0 : Int) < (a0.size : Int) := of_decide_eq_true (by first | (with_reducible assumption) | assumption); omega)
            have hx13 : ∀ h : 0 < a0.size, ((a0[0]'h).toNat : Int) = bt a0 0 := bt_at a0 0
            clear p13
            have qi13 : (0 < (a0.size : Int)) = True := eq_true (of_decide_eq_true (by first | (with_reducible assumption) | assumption))
            replace q13 := eq_true q13
            go_wp2
            repeat (go_quiet (fail); try go_wp2)
            go_meet
            case rel => exact ⟨_, (1), (((bt a0 0) == 45)), (by first | rfl | (simp; done) | (simp [*]; done)), (by first | rfl | (simp; done) | (simp [*]; done)), H', ⟨by have := HJ2.out; first | omega | exact Nat.le_refl _⟩, by repeat (first | exact Drawn0.refl _ | apply Drawn0.step)⟩
          · rw [if_neg c12] at H
            exact absurd H (by simp)
        · replace c11 := Bool.eq_false_iff.mpr c11
          subst c11
          have H1 : (shopspring_parseInt64SkipIndex.j1 kj2 a0 a1 0 false) = some (r1, r2) := by rw [if_neg (show ¬ (false = true) by decide)] at H; exact H
          clear H
          have H := H1
          clear H1
          have H' := Aside0.mk H
          clear H
          go_wp2
          repeat (go_quiet (fail); try go_wp2)
          go_meet
          case rel => exact ⟨_, (0), (false), (by first | rfl | (simp; done) | (simp [*]; done)), (by first | rfl | (simp; done) | (simp [*]; done)), H', ⟨by have := HJ2.out; first | omega | exact Nat.le_refl _⟩, by repeat (first | exact Drawn0.refl _ | apply Drawn0.step)⟩
      case rest =>
        clear HC10
        try clear c1
        try clear p1
        try clear q1
        try clear hx1
        try clear qi1
        try clear c2
        try clear p2
        try clear c4
        try clear c4b0
        try clear c4b1
        try clear c5
        try clear c5b0
        try clear c5b1
        try clear c6
        try clear c6b0
        try clear c6b1
        try clear p7
        try clear q7
        try clear hx7
        try clear qi7
        try clear c8
        try clear c8b0
        try clear c8b1
        try clear p9
        try clear q9
        try clear hx9
        try clear qi9
        try clear c11
        try clear c12
        try clear c12b0
        try clear c12b1
        try clear p13
        try clear q13
        try clear hx13
        try clear qi13
        try clear p13
        try clear p2
        try clear p7
        try clear p9
        try clear q13
        try clear q7
        try clear q9
        obtain ⟨kq, x6_9, x7_9, rfl, rfl, HA, HJ9, ⟨mc9, rfl⟩⟩ := hcut
        cases kq with
        | zero => exact absurd HA.out (by simp [shopspring_parseInt64SkipIndex.j1])
        | succ kj9 =>
          have H := HA.out
          clear HA
          simp only [shopspring_parseInt64SkipIndex.j1] at H
          have H' := Aside0.mk H
          clear H
          go_wp2
          repeat (go_quiet (fail); try go_wp2)
          go_loopg [6, 8, 9] kj9 (fun kq v6 v8 v9 w' => ∃ (x6_3 : Int) (x8_3 : Int) (x9_3 : Int), v6 = .int .i64 x6_3 ∧ v8 = .int .i64 x8_3 ∧ v9 = .int .i64 x9_3 ∧ Aside0 (shopspring_parseInt64SkipIndex.l0 kq a0 a1 x6_3 x7_9 x8_3 x9_3 = some (r1, r2)) ∧ Aside0 (kq ≤ kj9) ∧ Drawn0 w w')
          case atStart => exact ⟨(x6_9), (0), (0), (by first | rfl | (simp; done) | (simp [*]; done)), (by first | rfl | (simp; done) | (simp [*]; done)), (by first | rfl | (simp; done) | (simp [*]; done)), H', ⟨Nat.le_refl _⟩, by repeat (first | exact Drawn0.refl _ | apply Drawn0.step)⟩
          case round =>
            clear H'
            try clear c1
            try clear p1
            try clear q1
            try clear hx1
            try clear qi1
            try clear c2
            try clear p2
            try clear c4
            try clear c4b0
            try clear c4b1
            try clear c5
            try clear c5b0
            try clear c5b1
            try clear c6
            try clear c6b0
            try clear c6b1
            try clear p7
            try clear q7
            try clear hx7
            try clear qi7
            try clear c8
            try clear c8b0
            try clear c8b1
            try clear c9
            try clear p9
            try clear q9
            try clear hx9
            try clear qi9
            try clear c11
            try clear c12
            try clear c12b0
            try clear c12b1
            try clear p13
            try clear q13
            try clear hx13
            try clear qi13
            try clear p1
            try clear p13
            try clear p2
            try clear p7
            try clear p9
            try clear q1
            try clear q13
            try clear q7
            try clear q9
            obtain ⟨x6_3, x8_3, x9_3, rfl, rfl, rfl, HA, HK3, ⟨m3, rfl⟩⟩ := hrel
            cases gk with
            | zero => exact absurd HA.out (by simp [shopspring_parseInt64SkipIndex.l0])
            | succ k3 =>
              have H := HA.out
              clear HA
              simp only [shopspring_parseInt64SkipIndex.l0] at H
              by_cases c14 : x6_3 < (a0.size : Int)
              · rw [if_pos c14] at H
                have c14b0 : decide (x6_3 < (a0.size : Int)) = true := decide_eq_true c14
                clear c14
                by_cases c15 : x6_3 = a1
                · rw [if_pos c15] at H
                  have c15b0 : (x6_3 == a1) = true := beq_iff_eq.mpr c15
                  have c15b1 : (x6_3 != a1) = false := bne_eq_false_iff_eq.mpr c15
                  clear c15
                  have H' := Aside0.mk H
                  clear H
                  go_wp2
                  repeat (go_quiet (fail); try go_wp2)
                  go_roundg k3
                  case measure => have := HJ2.out; have := HJ9.out; have := HK3.out; omega
                  case rel => exact ⟨(wrap64 (x6_3 + 1)), (x8_3), (x9_3), (by first | rfl | (simp; done) | (simp [*]; done)), (by first | rfl | (simp; done) | (simp [*]; done)), (by first | rfl | (simp; done) | (simp [*]; done)), H', ⟨by have := HJ2.out; have := HJ9.out; have := HK3.out; omega⟩, by repeat (first | exact Drawn0.refl _ | apply Drawn0.step)⟩
                · rw [if_neg c15] at H
                  have c15b0 : (x6_3 == a1) = false := beq_eq_false_iff_ne.mpr c15
                  have c15b1 : (x6_3 != a1) = true := bne_iff_ne.mpr c15
                  by_cases c16 : 0 ≤ x6_3
                  · rw [if_pos c16] at H
                    have c16b0 : decide (0 ≤ x6_3) = true := decide_eq_true c16
                    clear c16
                    by_cases c18 : (bt a0 x6_3) < 48
                    · rw [if_pos c18] at H
                      have c18b0 : decide ((bt a0 x6_3) < 48) = true := decide_eq_true c18
                      clear c18
                      simp only [Option.some.injEq, Prod.mk.injEq] at H
                      obtain ⟨rfl, rfl⟩ := H
                      have p17 : 0 ≤ (x6_3 : Int) := of_decide_eq_true (by first | (with_reducible assumption) | assumption)
                      have q17 : x6_3 < (a0.size : Int) := of_decide_eq_true (by first | (with_reducible assumption) | assumption)
                      have hx17 := bt_at a0 x6_3
                      replace p17 := eq_true p17
                      replace q17 := eq_true q17
                      go_wp2
                      repeat (go_quiet (fail); try go_wp2)
                      go_ret2
                      exact ⟨by first | rfl | (simp; done) | (simp [*]; done), by repeat (first | exact Drawn0.refl _ | apply Drawn0.step)⟩
                    · rw [if_neg c18] at H
                      have c18b0 : decide ((bt a0 x6_3) < 48) = false := decide_eq_false c18
                      clear c18
                      by_cases c19 : (bt a0 x6_3) > 57
                      · rw [if_pos c19] at H
                        have c19b0 : decide (57 < (bt a0 x6_3)) = true := decide_eq_true c19
                        clear c19
                        simp only [Option.some.injEq, Prod.mk.injEq] at H
                        obtain ⟨rfl, rfl⟩ := H
                        have p17 : 0 ≤ (x6_3 : Int) := of_decide_eq_true (by first | (with_reducible assumption) | assumption)
                        have q17 : x6_3 < (a0.size : Int) := of_decide_eq_true (by first | (with_reducible assumption) | assumption)
                        have hx17 := bt_at a0 x6_3
                        replace p17 := eq_true p17
                        replace q17 := eq_true q17
                        go_wp2
                        repeat (go_quiet (fail); try go_wp2)
                        go_ret2
                        exact ⟨by first | rfl | (simp; done) | (simp [*]; done), by repeat (first | exact Drawn0.refl _ | apply Drawn0.step)⟩
                      · rw [if_neg c19] at H
                        have c19b0 : decide (57 < (bt a0 x6_3)) = false := decide_eq_false c19
                        clear c19
                        have H' := Aside0.mk H
                        clear H
                        have p17 : 0 ≤ (x6_3 : Int) := of_decide_eq_true (by first | (with_reducible assumption) | assumption)
                        have q17 : x6_3 < (a0.size : Int) := of_decide_eq_true (by first | (with_reducible assumption) | assumption)
                        have hx17 := bt_at a0 x6_3
                        replace p17 := eq_true p17
                        replace q17 := eq_true q17
                        go_wp2
                        repeat (go_quiet (fail); try go_wp2)
                        go_roundg k3
                        case measure => have := HJ2.out; have := HJ9.out; have := HK3.out; omega
                        case rel => exact ⟨(wrap64 (x6_3 + 1)), (wrap64 ((wrap64 (x8_3 * 10)) + (((bt a0 x6_3) - 48) % 256))), (wrap64 (x9_3 + 1)), (by first | rfl | (simp; done) | (simp [*]; done)), (by first | rfl | (simp; done) | (simp [*]; done)), (by first | rfl | (simp; done) | (simp [*]; done)), H', ⟨by have := HJ2.out; have := HJ9.out; have := HK3.out; omega⟩, by repeat (first | exact Drawn0.refl _ | apply Drawn0.step)⟩
                  · rw [if_neg c16] at H
                    exact absurd H (by simp)
              · rw [if_neg c14] at H
                have c14b0 : decide (x6_3 < (a0.size : Int)) = false := decide_eq_false c14
                clear c14
                by_cases c20 : x7_9 = true
                · subst c20
                  have H1 : (some (wrap64 (-x8_3), decide (x9_3 > 0))) = some (r1, r2) := by rw [if_pos rfl] at H; exact H
                  clear H
                  have H := H1
                  clear H1
                  simp only [Option.some.injEq, Prod.mk.injEq] at H
                  obtain ⟨rfl, rfl⟩ := H
                  go_wp2
                  repeat (go_quiet (fail); try go_wp2)
                  go_ret2
                  exact ⟨by first | rfl | (simp; done) | (simp [*]; done), by repeat (first | exact Drawn0.refl _ | apply Drawn0.step)⟩
                · replace c20 := Bool.eq_false_iff.mpr c20
                  subst c20
                  have H1 : (some (x8_3, decide (x9_3 > 0))) = some (r1, r2) := by rw [if_neg (show ¬ (false = true) by decide)] at H; exact H
                  clear H
                  have H := H1
                  clear H1
                  simp only [Option.some.injEq, Prod.mk.injEq] at H
                  obtain ⟨rfl, rfl⟩ := H
                  go_wp2
                  repeat (go_quiet (fail); try go_wp2)
                  go_ret2
                  exact ⟨by first | rfl | (simp; done) | (simp [*]; done), by repeat (first | exact Drawn0.refl _ | apply Drawn0.step)⟩

end Go.Proofs.YteohmbannpbokaaDoor.PparseInt64SkipIndex
