/-
 Numbers compared.
 A power's exponent, bit by bit; a stack made; leading zeros.
 The library's contracts that this seat takes, laid at its program.
 Words divided: by a word that is small; the reciprocal of a word of at most six bits.
-/
import Derived.Test.YteohmbannpbokaaGreatDoorJ01
import Derived.Test.YteohmbannpbokaaGreatDoorJ28
import Derived.Test.YteohmbannpbokaaGreatDoorJ25
import Derived.Lib.ItoaNum
import Derived.Shelf.Small.Bits
import Derived.Shelf.Strconv.Itoa0
import Derived.Shelf.Bits.Mul64
import Derived.Test.YteohmbannpbokaaGreatDoorProg
import Derived.Test.YteohmbannpbokaaGreatDoorJ23
import Derived.Lib.EndianBits
set_option linter.unusedVariables false
set_option linter.unusedSimpArgs false
namespace Go.Proofs.YteohmbannpbokaaGreatDoor.WordWalk
open Go.RowKit Go.Proofs.YteohmbannpbokaaGreatDoorW.PrintWords Go.Proofs.YteohmbannpbokaaGreatDoorW.PrintLast Go.Proofs.YteohmbannpbokaaGreatDoorW.PrintMore Go.Proofs.YteohmbannpbokaaGreatDoor.SpecWalk Go.Proofs.YteohmbannpbokaaGreatDoor.BigWalk
structure Cmp (a b : Nat) (r : Int) : Prop where
 mk :: (out : (r = -1 ∧ a < b) ∨ (r = 0 ∧ a = b) ∨ (r = 1 ∧ b < a))
theorem cmp_len_lt (A B : Option Addr) (L M c d : Nat) (w : World) (h : L < M) (hM : M ≤ 1000) :
   Calls Tryz.prog 48 #[.slice A L c, .slice B M d] w fun e w' => e = .returned (.int .i64 (-1)) ∧ w' = w := by
 have i1 : (L : Int) < (M : Int) := by omega
 have i2 : (M : Int) ≤ 1000 := by omega
 have i3 : ((L : Int) == (M : Int)) = false := beq_eq_false_iff_ne.mpr (by omega)
 have i4 : ¬ ((M : Int) < (L : Int)) := by omega
 clear h hM
 go_enter Tryz.func48, Tryz.ntmps48
 go_wp2
 go_ret
 exact ⟨rfl, rfl⟩
theorem cmp_len_gt (A B : Option Addr) (L M c d : Nat) (w : World) (h : M < L) (hM : L ≤ 1000) :
   Calls Tryz.prog 48 #[.slice A L c, .slice B M d] w fun e w' => e = .returned (.int .i64 1) ∧ w' = w := by
 have i1 : (M : Int) < (L : Int) := by omega
 have i2 : (L : Int) ≤ 1000 := by omega
 have i3 : ((L : Int) == (M : Int)) = false := beq_eq_false_iff_ne.mpr (by omega)
 have i4 : ¬ ((L : Int) < (M : Int)) := by omega
 clear h hM
 go_enter Tryz.func48, Tryz.ntmps48
 go_wp2
 go_ret
 exact ⟨rfl, rfl⟩
theorem cmp_top {xs ys : List Int} {i : Nat} (hx : W64.Dig xs) (hy : W64.Dig ys) (hl : xs.length = ys.length) (hi : i < xs.length) (hd : xs.drop (i + 1) = ys.drop (i + 1)) (h : rd xs (i : Int) < rd ys (i : Int)) : W64.val xs < W64.val ys := by
 rw [val_split (xs := xs) (k := i + 1) (by omega), val_split (xs := ys) (k := i + 1) (by omega), hd, W64.val_take_succ hi, W64.val_take_succ (l := ys) (by omega)]
 have h1 := W64.val_lt (W64.Dig.take hx i)
 have h2 := W64.val_nonneg (W64.Dig.take hy i)
 rw [List.length_take, Nat.min_eq_left (by omega)] at h1
 have h3 := Int.mul_le_mul_of_nonneg_right (show rd xs (i : Int) + 1 ≤ rd ys (i : Int) by omega) (Int.le_of_lt (W64.pw_pos i))
 rw [Int.add_mul, Int.one_mul] at h3
 omega
theorem cmp_zero {xs ys : List Int} (hl : xs.length = ys.length) (h0 : 0 < xs.length) (hd : xs.drop 1 = ys.drop 1) (h : rd xs 0 = rd ys 0) : W64.val xs = W64.val ys := by
 rw [first_rest h0, first_rest (xs := ys) (by omega), hd, h]
theorem cmp_step {xs ys : List Int} {i : Nat} (hl : xs.length = ys.length) (hi : i < xs.length) (hd : xs.drop (i + 1) = ys.drop (i + 1)) (h : rd xs (i : Int) = rd ys (i : Int)) : xs.drop i = ys.drop i := by
 rw [List.drop_eq_getElem_cons hi, List.drop_eq_getElem_cons (show i < ys.length by omega), hd, ← W64.rd_lt hi, ← W64.rd_lt (show i < ys.length by omega), h]
set_option maxHeartbeats 4000000 in
set_option maxRecDepth 100000 in
theorem cmp_same (g c n gy d m : Nat) (w : World) (h : Nc w g c n) (hy : Nc w gy d m) (hl : (W64.digs n).length = (W64.digs m).length) (h0 : n ≠ 0) :
   Calls Tryz.prog 48 #[.slice (some ⟨g, 0, none⟩) (W64.digs n).length c, .slice (some ⟨gy, 0, none⟩) (W64.digs m).length d] w fun e w' => ∃ r : Int, e = .returned (.int .i64 r) ∧ Aside0 (Cmp n m r) ∧ KeptP w w' (fun _ => False) := by
 have hpos := W64.len_pos h0
 have hmax := h.max
 have hle := h.le
 have hcx := Aside0.mk (fun i hi => h.cells i hi)
 have hcy := Aside0.mk (fun i hi => hy.cells i hi)
 have HX := Aside0.mk (And.intro (W64.dig_digs n) (And.intro (W64.dig_digs m) (And.intro (W64.val_digs n) (W64.val_digs m))))
 clear h hy h0
 generalize W64.digs n = xs at *
 generalize W64.digs m = ys at *
 rw [← hl]
 have HL := Aside0.mk hl
 clear hl
 generalize hm : xs.length = L at *
 have HM := Aside0.mk hm
 have i1 : 0 < (L : Int) := by omega
 have i2 : (L : Int) ≤ 1000 := by omega
 have i3 : ((L : Int) == 0) = false := beq_eq_false_iff_ne.mpr (by omega)
 clear hm hmax hle hpos
 go_enter Tryz.func48, Tryz.ntmps48
 go_wp2
 go_loopg [7] L (fun gg v7 w' => ∃ (i : Int), v7 = .int .i64 i ∧ (0 ≤ i ∧ i < L) ∧ Aside0 (i + 1 = (gg : Int)) ∧ Aside0 (xs.drop (i.toNat + 1) = ys.drop (i.toNat + 1)) ∧ Aside0 (KeptP w w' (fun _ => False)))
 case atStart => exact ⟨(L : Int) - 1, rfl, (by omega), ⟨by omega⟩, ⟨by have h1 := HM.out; have h2 := HL.out; rw [List.drop_of_length_le (by omega), List.drop_of_length_le (by omega)]⟩, ⟨KeptP.refl _ _⟩⟩
 case round =>
   obtain ⟨i, rfl, ⟨i0, iL⟩, HG, HD, HK⟩ := hrel
   have hin : ((i.toNat : Nat) : Int) = i := by omega
   have hltx : i.toNat < xs.length := by have := HM.out; omega
   have hlty : i.toNat < ys.length := by have := HM.out; have := HL.out; omega
   have hx := HK.out.cell id (hcx.out i.toNat (by rw [← HM.out]; exact hltx))
   have hy := HK.out.cell id (hcy.out i.toNat (by first | exact hlty | (rw [← HL.out]; omega) | omega))
   rw [hin] at hx hy
   have hIn : 0 ≤ i ∧ i < (L : Int) := ⟨i0, iL⟩
   have HXX := HX.out
   by_cases hgt : 0 < i
   · have hdt : decide (0 < i) = true := decide_eq_true hgt
     by_cases heq : rd xs i = rd ys i
     · have hst := Aside0.mk (cmp_step (HM.out.trans HL.out) hltx HD.out (by rw [hin]; exact heq))
       have hbe : (rd xs i == rd ys i) = true := beq_iff_eq.mpr heq
       clear HXX heq
       generalize rd xs i = x at *
       generalize rd ys i = y at *
       go_wp2_with fail
       refine st (n := 13) (S := fun w' => w'.cell? ⟨g, i.toNat, none⟩ = some (.int .u64 x) ∧ w'.cell? ⟨gy, i.toNat, none⟩ = some (.int .u64 y)) (ds := []) rfl (⟨by simpa using hx, by simpa using hy⟩) (fun hHeld => ?_)
       refine pu 0 (some 29) rfl rfl ?_
       refine pu 1 (some 30) rfl rfl ?_ (hr := by (intro w'; go_simp; (try simp only [hdt]); with_reducible rfl))
       refine pu 2 (some 31) rfl rfl ?_
       refine pu 3 (some 32) rfl rfl ?_
       refine pu 4 (some 33) rfl rfl ?_
       refine pu 5 (some 34) rfl rfl ?_ (hr := by (intro w'; go_simp; (try simp only [if_pos hIn]); (try simp only [if_pos i0]); with_reducible rfl))
       refine tk 6 (some 35) rfl rfl hHeld ?_ (by (rintro w' ⟨s0, s1⟩; go_simp; with_reducible rfl))
       refine pu 7 (some 36) rfl rfl ?_
       refine pu 8 (some 37) rfl rfl ?_
       refine pu 9 (some 38) rfl rfl ?_ (hr := by (intro w'; go_simp; (try simp only [if_pos hIn]); (try simp only [if_pos i0]); with_reducible rfl))
       refine tk 10 (some 39) rfl rfl hHeld ?_ (by (rintro w' ⟨s0, s1⟩; go_simp; with_reducible rfl))
       refine pu 11 (some 40) rfl rfl ?_ (hr := by (intro w'; go_simp; (try simp only [hbe]); with_reducible rfl))
       refine pu 12 (some 41) rfl rfl ?_
       refine done_ (by kernel_rfl) ?_
       go_wp2
       go_roundg (gk - 1)
       case measure => have := HG.out; omega
       case rel => exact ⟨i - 1, rfl, (by omega), ⟨by have := HG.out; omega⟩, ⟨by rw [show (i - 1).toNat + 1 = i.toNat by omega]; exact hst.out⟩, ⟨HK.out.drew⟩⟩
     · have hbe : (rd xs i == rd ys i) = false := beq_eq_false_iff_ne.mpr heq
       by_cases hlt : rd xs i < rd ys i
       · have hc := Aside0.mk (show Cmp n m (-1) from ⟨.inl ⟨rfl, (by
           have e := cmp_top HXX.1 HXX.2.1 (HM.out.trans HL.out) hltx HD.out (by rw [hin]; exact hlt)
           rw [HXX.2.2.1, HXX.2.2.2] at e
           omega)⟩⟩)
         have hd1 : decide (rd xs i < rd ys i) = true := decide_eq_true hlt
         clear HXX
         generalize rd xs i = x at *
         generalize rd ys i = y at *
         go_wp2_with fail
         refine st (n := 13) (S := fun w' => w'.cell? ⟨g, i.toNat, none⟩ = some (.int .u64 x) ∧ w'.cell? ⟨gy, i.toNat, none⟩ = some (.int .u64 y)) (ds := []) rfl (⟨by simpa using hx, by simpa using hy⟩) (fun hHeld => ?_)
         refine pu 0 (some 29) rfl rfl ?_
         refine pu 1 (some 30) rfl rfl ?_ (hr := by (intro w'; go_simp; (try simp only [hdt]); with_reducible rfl))
         refine pu 2 (some 31) rfl rfl ?_
         refine pu 3 (some 32) rfl rfl ?_
         refine pu 4 (some 33) rfl rfl ?_
         refine pu 5 (some 34) rfl rfl ?_ (hr := by (intro w'; go_simp; (try simp only [if_pos hIn]); (try simp only [if_pos i0]); with_reducible rfl))
         refine tk 6 (some 35) rfl rfl hHeld ?_ (by (rintro w' ⟨s0, s1⟩; go_simp; with_reducible rfl))
         refine pu 7 (some 36) rfl rfl ?_
         refine pu 8 (some 37) rfl rfl ?_
         refine pu 9 (some 38) rfl rfl ?_ (hr := by (intro w'; go_simp; (try simp only [if_pos hIn]); (try simp only [if_pos i0]); with_reducible rfl))
         refine tk 10 (some 39) rfl rfl hHeld ?_ (by (rintro w' ⟨s0, s1⟩; go_simp; with_reducible rfl))
         refine pu 11 (some 40) rfl rfl ?_ (hr := by (intro w'; go_simp; (try simp only [hbe]); with_reducible rfl))
         refine pu 12 (some 41) rfl rfl ?_
         refine done_ (by kernel_rfl) ?_
         go_wp2
         refine st (n := 10) (S := fun w' => w'.cell? ⟨g, i.toNat, none⟩ = some (.int .u64 x) ∧ w'.cell? ⟨gy, i.toNat, none⟩ = some (.int .u64 y)) (ds := []) rfl (⟨by simpa using hx, by simpa using hy⟩) (fun hHeld => ?_)
         refine pu 0 (some 45) rfl rfl ?_
         refine pu 1 (some 46) rfl rfl ?_
         refine pu 2 (some 47) rfl rfl ?_ (hr := by (intro w'; go_simp; (try simp only [if_pos hIn]); (try simp only [if_pos i0]); with_reducible rfl))
         refine tk 3 (some 48) rfl rfl hHeld ?_ (by (rintro w' ⟨s0, s1⟩; go_simp; with_reducible rfl))
         refine pu 4 (some 49) rfl rfl ?_
         refine pu 5 (some 50) rfl rfl ?_
         refine pu 6 (some 51) rfl rfl ?_ (hr := by (intro w'; go_simp; (try simp only [if_pos hIn]); (try simp only [if_pos i0]); with_reducible rfl))
         refine tk 7 (some 52) rfl rfl hHeld ?_ (by (rintro w' ⟨s0, s1⟩; go_simp; with_reducible rfl))
         refine pu 8 (some 53) rfl rfl ?_ (hr := by (intro w'; go_simp; (try simp only [hd1]); with_reducible rfl))
         refine pu 9 (some 44) rfl rfl ?_
         refine done_ (by kernel_rfl) ?_
         go_wp2
         go_ret
         exact ⟨_, rfl, hc, HK.out.drew.drew⟩
       · have hgt3 : rd ys i < rd xs i := (by omega)
         have hc := Aside0.mk (show Cmp n m 1 from ⟨.inr (.inr ⟨rfl, (by
           have e := cmp_top HXX.2.1 HXX.1 (HM.out.trans HL.out).symm hlty HD.out.symm (by rw [hin]; exact hgt3)
           rw [HXX.2.2.1, HXX.2.2.2] at e
           omega)⟩)⟩)
         have hd1 : decide (rd xs i < rd ys i) = false := decide_eq_false hlt
         have hd2 : decide (rd ys i < rd xs i) = true := decide_eq_true hgt3
         clear HXX
         generalize rd xs i = x at *
         generalize rd ys i = y at *
         go_wp2_with fail
         refine st (n := 13) (S := fun w' => w'.cell? ⟨g, i.toNat, none⟩ = some (.int .u64 x) ∧ w'.cell? ⟨gy, i.toNat, none⟩ = some (.int .u64 y)) (ds := []) rfl (⟨by simpa using hx, by simpa using hy⟩) (fun hHeld => ?_)
         refine pu 0 (some 29) rfl rfl ?_
         refine pu 1 (some 30) rfl rfl ?_ (hr := by (intro w'; go_simp; (try simp only [hdt]); with_reducible rfl))
         refine pu 2 (some 31) rfl rfl ?_
         refine pu 3 (some 32) rfl rfl ?_
         refine pu 4 (some 33) rfl rfl ?_
         refine pu 5 (some 34) rfl rfl ?_ (hr := by (intro w'; go_simp; (try simp only [if_pos hIn]); (try simp only [if_pos i0]); with_reducible rfl))
         refine tk 6 (some 35) rfl rfl hHeld ?_ (by (rintro w' ⟨s0, s1⟩; go_simp; with_reducible rfl))
         refine pu 7 (some 36) rfl rfl ?_
         refine pu 8 (some 37) rfl rfl ?_
         refine pu 9 (some 38) rfl rfl ?_ (hr := by (intro w'; go_simp; (try simp only [if_pos hIn]); (try simp only [if_pos i0]); with_reducible rfl))
         refine tk 10 (some 39) rfl rfl hHeld ?_ (by (rintro w' ⟨s0, s1⟩; go_simp; with_reducible rfl))
         refine pu 11 (some 40) rfl rfl ?_ (hr := by (intro w'; go_simp; (try simp only [hbe]); with_reducible rfl))
         refine pu 12 (some 41) rfl rfl ?_
         refine done_ (by kernel_rfl) ?_
         go_wp2
         refine st (n := 10) (S := fun w' => w'.cell? ⟨g, i.toNat, none⟩ = some (.int .u64 x) ∧ w'.cell? ⟨gy, i.toNat, none⟩ = some (.int .u64 y)) (ds := []) rfl (⟨by simpa using hx, by simpa using hy⟩) (fun hHeld => ?_)
         refine pu 0 (some 45) rfl rfl ?_
         refine pu 1 (some 46) rfl rfl ?_
         refine pu 2 (some 47) rfl rfl ?_ (hr := by (intro w'; go_simp; (try simp only [if_pos hIn]); (try simp only [if_pos i0]); with_reducible rfl))
         refine tk 3 (some 48) rfl rfl hHeld ?_ (by (rintro w' ⟨s0, s1⟩; go_simp; with_reducible rfl))
         refine pu 4 (some 49) rfl rfl ?_
         refine pu 5 (some 50) rfl rfl ?_
         refine pu 6 (some 51) rfl rfl ?_ (hr := by (intro w'; go_simp; (try simp only [if_pos hIn]); (try simp only [if_pos i0]); with_reducible rfl))
         refine tk 7 (some 52) rfl rfl hHeld ?_ (by (rintro w' ⟨s0, s1⟩; go_simp; with_reducible rfl))
         refine pu 8 (some 53) rfl rfl ?_ (hr := by (intro w'; go_simp; (try simp only [hd1]); with_reducible rfl))
         refine pu 9 (some 44) rfl rfl ?_
         refine done_ (by kernel_rfl) ?_
         go_wp2
         refine st (n := 10) (S := fun w' => w'.cell? ⟨g, i.toNat, none⟩ = some (.int .u64 x) ∧ w'.cell? ⟨gy, i.toNat, none⟩ = some (.int .u64 y)) (ds := []) rfl (⟨by simpa using hx, by simpa using hy⟩) (fun hHeld => ?_)
         refine pu 0 (some 55) rfl rfl ?_
         refine pu 1 (some 56) rfl rfl ?_
         refine pu 2 (some 57) rfl rfl ?_ (hr := by (intro w'; go_simp; (try simp only [if_pos hIn]); (try simp only [if_pos i0]); with_reducible rfl))
         refine tk 3 (some 58) rfl rfl hHeld ?_ (by (rintro w' ⟨s0, s1⟩; go_simp; with_reducible rfl))
         refine pu 4 (some 59) rfl rfl ?_
         refine pu 5 (some 60) rfl rfl ?_
         refine pu 6 (some 61) rfl rfl ?_ (hr := by (intro w'; go_simp; (try simp only [if_pos hIn]); (try simp only [if_pos i0]); with_reducible rfl))
         refine tk 7 (some 62) rfl rfl hHeld ?_ (by (rintro w' ⟨s0, s1⟩; go_simp; with_reducible rfl))
         refine pu 8 (some 63) rfl rfl ?_ (hr := by (intro w'; go_simp; (try simp only [hd2]); with_reducible rfl))
         refine pu 9 (some 54) rfl rfl ?_
         refine done_ (by kernel_rfl) ?_
         go_wp2
         go_ret
         exact ⟨_, rfl, hc, HK.out.drew.drew.drew⟩
   · have hdt : decide (0 < i) = false := decide_eq_false hgt
     have HI0 := Aside0.mk (show i = 0 by omega)
     clear hgt
     by_cases hlt : rd xs i < rd ys i
     · have hc := Aside0.mk (show Cmp n m (-1) from ⟨.inl ⟨rfl, (by
         have e := cmp_top HXX.1 HXX.2.1 (HM.out.trans HL.out) hltx HD.out (by rw [hin]; exact hlt)
         rw [HXX.2.2.1, HXX.2.2.2] at e
         omega)⟩⟩)
       have hd1 : decide (rd xs i < rd ys i) = true := decide_eq_true hlt
       clear HXX
       generalize rd xs i = x at *
       generalize rd ys i = y at *
       go_wp2_with fail
       refine st (n := 13) (S := fun w' => w'.cell? ⟨g, i.toNat, none⟩ = some (.int .u64 x) ∧ w'.cell? ⟨gy, i.toNat, none⟩ = some (.int .u64 y)) (ds := []) rfl (⟨by simpa using hx, by simpa using hy⟩) (fun hHeld => ?_)
       refine pu 0 (some 29) rfl rfl ?_
       refine pu 1 (some 30) rfl rfl ?_ (hr := by (intro w'; go_simp; (try simp only [hdt]); with_reducible rfl))
       refine pu 2 (some 31) rfl rfl ?_
       refine po 3 (some 32) rfl rfl ?_
       refine po 4 (some 33) rfl rfl ?_
       refine po 5 (some 34) rfl rfl ?_
       refine po 6 (some 35) rfl rfl ?_
       refine po 7 (some 36) rfl rfl ?_
       refine po 8 (some 37) rfl rfl ?_
       refine po 9 (some 38) rfl rfl ?_
       refine po 10 (some 39) rfl rfl ?_
       refine po 11 (some 40) rfl rfl ?_
       refine pu 12 (some 41) rfl rfl ?_
       refine done_ (by kernel_rfl) ?_
       go_wp2
       refine st (n := 10) (S := fun w' => w'.cell? ⟨g, i.toNat, none⟩ = some (.int .u64 x) ∧ w'.cell? ⟨gy, i.toNat, none⟩ = some (.int .u64 y)) (ds := []) rfl (⟨by simpa using hx, by simpa using hy⟩) (fun hHeld => ?_)
       refine pu 0 (some 45) rfl rfl ?_
       refine pu 1 (some 46) rfl rfl ?_
       refine pu 2 (some 47) rfl rfl ?_ (hr := by (intro w'; go_simp; (try simp only [if_pos hIn]); (try simp only [if_pos i0]); with_reducible rfl))
       refine tk 3 (some 48) rfl rfl hHeld ?_ (by (rintro w' ⟨s0, s1⟩; go_simp; with_reducible rfl))
       refine pu 4 (some 49) rfl rfl ?_
       refine pu 5 (some 50) rfl rfl ?_
       refine pu 6 (some 51) rfl rfl ?_ (hr := by (intro w'; go_simp; (try simp only [if_pos hIn]); (try simp only [if_pos i0]); with_reducible rfl))
       refine tk 7 (some 52) rfl rfl hHeld ?_ (by (rintro w' ⟨s0, s1⟩; go_simp; with_reducible rfl))
       refine pu 8 (some 53) rfl rfl ?_ (hr := by (intro w'; go_simp; (try simp only [hd1]); with_reducible rfl))
       refine pu 9 (some 44) rfl rfl ?_
       refine done_ (by kernel_rfl) ?_
       go_wp2
       go_ret
       exact ⟨_, rfl, hc, HK.out.drew.drew⟩
     · by_cases hgt2 : rd ys i < rd xs i
       · have hgt3 : rd ys i < rd xs i := hgt2
         have hc := Aside0.mk (show Cmp n m 1 from ⟨.inr (.inr ⟨rfl, (by
           have e := cmp_top HXX.2.1 HXX.1 (HM.out.trans HL.out).symm hlty HD.out.symm (by rw [hin]; exact hgt3)
           rw [HXX.2.2.1, HXX.2.2.2] at e
           omega)⟩)⟩)
         have hd1 : decide (rd xs i < rd ys i) = false := decide_eq_false hlt
         have hd2 : decide (rd ys i < rd xs i) = true := decide_eq_true hgt3
         clear HXX
         generalize rd xs i = x at *
         generalize rd ys i = y at *
         go_wp2_with fail
         refine st (n := 13) (S := fun w' => w'.cell? ⟨g, i.toNat, none⟩ = some (.int .u64 x) ∧ w'.cell? ⟨gy, i.toNat, none⟩ = some (.int .u64 y)) (ds := []) rfl (⟨by simpa using hx, by simpa using hy⟩) (fun hHeld => ?_)
         refine pu 0 (some 29) rfl rfl ?_
         refine pu 1 (some 30) rfl rfl ?_ (hr := by (intro w'; go_simp; (try simp only [hdt]); with_reducible rfl))
         refine pu 2 (some 31) rfl rfl ?_
         refine po 3 (some 32) rfl rfl ?_
         refine po 4 (some 33) rfl rfl ?_
         refine po 5 (some 34) rfl rfl ?_
         refine po 6 (some 35) rfl rfl ?_
         refine po 7 (some 36) rfl rfl ?_
         refine po 8 (some 37) rfl rfl ?_
         refine po 9 (some 38) rfl rfl ?_
         refine po 10 (some 39) rfl rfl ?_
         refine po 11 (some 40) rfl rfl ?_
         refine pu 12 (some 41) rfl rfl ?_
         refine done_ (by kernel_rfl) ?_
         go_wp2
         refine st (n := 10) (S := fun w' => w'.cell? ⟨g, i.toNat, none⟩ = some (.int .u64 x) ∧ w'.cell? ⟨gy, i.toNat, none⟩ = some (.int .u64 y)) (ds := []) rfl (⟨by simpa using hx, by simpa using hy⟩) (fun hHeld => ?_)
         refine pu 0 (some 45) rfl rfl ?_
         refine pu 1 (some 46) rfl rfl ?_
         refine pu 2 (some 47) rfl rfl ?_ (hr := by (intro w'; go_simp; (try simp only [if_pos hIn]); (try simp only [if_pos i0]); with_reducible rfl))
         refine tk 3 (some 48) rfl rfl hHeld ?_ (by (rintro w' ⟨s0, s1⟩; go_simp; with_reducible rfl))
         refine pu 4 (some 49) rfl rfl ?_
         refine pu 5 (some 50) rfl rfl ?_
         refine pu 6 (some 51) rfl rfl ?_ (hr := by (intro w'; go_simp; (try simp only [if_pos hIn]); (try simp only [if_pos i0]); with_reducible rfl))
         refine tk 7 (some 52) rfl rfl hHeld ?_ (by (rintro w' ⟨s0, s1⟩; go_simp; with_reducible rfl))
         refine pu 8 (some 53) rfl rfl ?_ (hr := by (intro w'; go_simp; (try simp only [hd1]); with_reducible rfl))
         refine pu 9 (some 44) rfl rfl ?_
         refine done_ (by kernel_rfl) ?_
         go_wp2
         refine st (n := 10) (S := fun w' => w'.cell? ⟨g, i.toNat, none⟩ = some (.int .u64 x) ∧ w'.cell? ⟨gy, i.toNat, none⟩ = some (.int .u64 y)) (ds := []) rfl (⟨by simpa using hx, by simpa using hy⟩) (fun hHeld => ?_)
         refine pu 0 (some 55) rfl rfl ?_
         refine pu 1 (some 56) rfl rfl ?_
         refine pu 2 (some 57) rfl rfl ?_ (hr := by (intro w'; go_simp; (try simp only [if_pos hIn]); (try simp only [if_pos i0]); with_reducible rfl))
         refine tk 3 (some 58) rfl rfl hHeld ?_ (by (rintro w' ⟨s0, s1⟩; go_simp; with_reducible rfl))
         refine pu 4 (some 59) rfl rfl ?_
         refine pu 5 (some 60) rfl rfl ?_
         refine pu 6 (some 61) rfl rfl ?_ (hr := by (intro w'; go_simp; (try simp only [if_pos hIn]); (try simp only [if_pos i0]); with_reducible rfl))
         refine tk 7 (some 62) rfl rfl hHeld ?_ (by (rintro w' ⟨s0, s1⟩; go_simp; with_reducible rfl))
         refine pu 8 (some 63) rfl rfl ?_ (hr := by (intro w'; go_simp; (try simp only [hd2]); with_reducible rfl))
         refine pu 9 (some 54) rfl rfl ?_
         refine done_ (by kernel_rfl) ?_
         go_wp2
         go_ret
         exact ⟨_, rfl, hc, HK.out.drew.drew.drew⟩
       · have hc := Aside0.mk (show Cmp n m 0 from ⟨.inr (.inl ⟨rfl, (by
           have hi0 := HI0.out
           have e0 : i.toNat = 0 := by omega
           have hd1 := HD.out
           rw [e0] at hd1
           have e := cmp_zero (HM.out.trans HL.out) (by have := HM.out; omega) hd1 (by rw [hi0] at hlt hgt2; omega)
           rw [HXX.2.2.1, HXX.2.2.2] at e
           omega)⟩)⟩)
         have hd1 : decide (rd xs i < rd ys i) = false := decide_eq_false hlt
         have hd2 : decide (rd ys i < rd xs i) = false := decide_eq_false hgt2
         clear HXX
         generalize rd xs i = x at *
         generalize rd ys i = y at *
         go_wp2_with fail
         refine st (n := 13) (S := fun w' => w'.cell? ⟨g, i.toNat, none⟩ = some (.int .u64 x) ∧ w'.cell? ⟨gy, i.toNat, none⟩ = some (.int .u64 y)) (ds := []) rfl (⟨by simpa using hx, by simpa using hy⟩) (fun hHeld => ?_)
         refine pu 0 (some 29) rfl rfl ?_
         refine pu 1 (some 30) rfl rfl ?_ (hr := by (intro w'; go_simp; (try simp only [hdt]); with_reducible rfl))
         refine pu 2 (some 31) rfl rfl ?_
         refine po 3 (some 32) rfl rfl ?_
         refine po 4 (some 33) rfl rfl ?_
         refine po 5 (some 34) rfl rfl ?_
         refine po 6 (some 35) rfl rfl ?_
         refine po 7 (some 36) rfl rfl ?_
         refine po 8 (some 37) rfl rfl ?_
         refine po 9 (some 38) rfl rfl ?_
         refine po 10 (some 39) rfl rfl ?_
         refine po 11 (some 40) rfl rfl ?_
         refine pu 12 (some 41) rfl rfl ?_
         refine done_ (by kernel_rfl) ?_
         go_wp2
         refine st (n := 10) (S := fun w' => w'.cell? ⟨g, i.toNat, none⟩ = some (.int .u64 x) ∧ w'.cell? ⟨gy, i.toNat, none⟩ = some (.int .u64 y)) (ds := []) rfl (⟨by simpa using hx, by simpa using hy⟩) (fun hHeld => ?_)
         refine pu 0 (some 45) rfl rfl ?_
         refine pu 1 (some 46) rfl rfl ?_
         refine pu 2 (some 47) rfl rfl ?_ (hr := by (intro w'; go_simp; (try simp only [if_pos hIn]); (try simp only [if_pos i0]); with_reducible rfl))
         refine tk 3 (some 48) rfl rfl hHeld ?_ (by (rintro w' ⟨s0, s1⟩; go_simp; with_reducible rfl))
         refine pu 4 (some 49) rfl rfl ?_
         refine pu 5 (some 50) rfl rfl ?_
         refine pu 6 (some 51) rfl rfl ?_ (hr := by (intro w'; go_simp; (try simp only [if_pos hIn]); (try simp only [if_pos i0]); with_reducible rfl))
         refine tk 7 (some 52) rfl rfl hHeld ?_ (by (rintro w' ⟨s0, s1⟩; go_simp; with_reducible rfl))
         refine pu 8 (some 53) rfl rfl ?_ (hr := by (intro w'; go_simp; (try simp only [hd1]); with_reducible rfl))
         refine pu 9 (some 44) rfl rfl ?_
         refine done_ (by kernel_rfl) ?_
         go_wp2
         refine st (n := 10) (S := fun w' => w'.cell? ⟨g, i.toNat, none⟩ = some (.int .u64 x) ∧ w'.cell? ⟨gy, i.toNat, none⟩ = some (.int .u64 y)) (ds := []) rfl (⟨by simpa using hx, by simpa using hy⟩) (fun hHeld => ?_)
         refine pu 0 (some 55) rfl rfl ?_
         refine pu 1 (some 56) rfl rfl ?_
         refine pu 2 (some 57) rfl rfl ?_ (hr := by (intro w'; go_simp; (try simp only [if_pos hIn]); (try simp only [if_pos i0]); with_reducible rfl))
         refine tk 3 (some 58) rfl rfl hHeld ?_ (by (rintro w' ⟨s0, s1⟩; go_simp; with_reducible rfl))
         refine pu 4 (some 59) rfl rfl ?_
         refine pu 5 (some 60) rfl rfl ?_
         refine pu 6 (some 61) rfl rfl ?_ (hr := by (intro w'; go_simp; (try simp only [if_pos hIn]); (try simp only [if_pos i0]); with_reducible rfl))
         refine tk 7 (some 62) rfl rfl hHeld ?_ (by (rintro w' ⟨s0, s1⟩; go_simp; with_reducible rfl))
         refine pu 8 (some 63) rfl rfl ?_ (hr := by (intro w'; go_simp; (try simp only [hd2]); with_reducible rfl))
         refine pu 9 (some 54) rfl rfl ?_
         refine done_ (by kernel_rfl) ?_
         go_wp2
         go_ret
         exact ⟨_, rfl, hc, HK.out.drew.drew.drew⟩
theorem nlz_n (x : Nat) (w : World) (h : x < 18446744073709551616) (h0 : x ≠ 0) : Calls Tryz.prog 137 #[.int .u64 x] w fun e w' => e = .returned (.int .u64 (64 - (Lib.bitLen x : Int))) ∧ w' = w := by
 have HM := Aside0.mk (Tryz.bits_LeadingZeros (x : Int) w (by omega) (by omega))
 have hb := Lib.bitLenAux_bounds 64 x (by omega) h0
 have hb2 : Lib.bitLen x ≤ 64 := by
   apply Classical.byContradiction
   intro hc
   have : 2 ^ 64 ≤ 2 ^ (Lib.bitLen x - 1) := Nat.pow_le_pow_right (by decide) (by omega)
   have := hb.2.1
   unfold Lib.bitLen at *
   omega
 rw [Int.toNat_natCast] at HM
 have hbi : (Lib.bitLen x : Int) ≤ 64 := by omega
 have hb0 : 0 ≤ (Lib.bitLen x : Int) := by omega
 clear h h0 hb
 generalize (Lib.bitLen x : Int) = L at *
 generalize (x : Int) = X at *
 go_enter Tryz.func137, Tryz.ntmps137
 go_wp2_with (go_at_call 157; refine HM.out.mono ?_; rintro e w1 ⟨rfl, rfl⟩)
 go_ret
 exact ⟨rfl, rfl⟩
end Go.Proofs.YteohmbannpbokaaGreatDoor.WordWalk
namespace Go.Proofs
def Tryz.lays125_ren : Go.Shelf.Ren := ⟨fun | 125 => 71 | 128 => 98 | 129 => 99 | n => n, fun | 46 => 22 | 3 => 3 | 51 => 44 | 53 => 79 | 4 => 4 | 5 => 5 | 9 => 9 | n => n, fun | n => n⟩
theorem Tryz.lays125 : Go.Proofs.Lays.n125 Tryz.prog Tryz.lays125_ren := {
 mixed := by kernel_rfl
 f125 := Tryz.func71.trans (congrArg some (by kernel_rfl))
 f128 := Tryz.func98.trans (congrArg some (by kernel_rfl))
 f129 := Tryz.func99.trans (congrArg some (by kernel_rfl))
 t3 := Tryz.underlying3
 a3 := Tryz.isAgg3
 z3 := Tryz.sizeOf3
 v3 := Tryz.zeroValue3
 t4 := Tryz.underlying4
 a4 := Tryz.isAgg4
 z4 := Tryz.sizeOf4
 v4 := Tryz.zeroValue4
 t5 := Tryz.underlying5
 a5 := Tryz.isAgg5
 z5 := Tryz.sizeOf5
 v5 := Tryz.zeroValue5
 t9 := Tryz.underlying9
 a9 := Tryz.isAgg9
 z9 := Tryz.sizeOf9
 v9 := Tryz.zeroValue9
 t46 := Tryz.underlying22
 a46 := Tryz.isAgg22
 z46 := Tryz.sizeOf22
 v46 := Tryz.zeroValue22
 t51 := Tryz.underlying44
 a51 := Tryz.isAgg44
 z51 := Tryz.sizeOf44
 v51 := Tryz.zeroValue44
 t53 := Tryz.underlying79
 a53 := Tryz.isAgg79
 z53 := Tryz.sizeOf79
 v53 := Tryz.zeroValue79 }
theorem Tryz.bits_Len (x : Int) (w : World) (h0 : 0 ≤ x) (h1 : x ≤ 18446744073709551615) :
   Calls Tryz.prog 71 #[.int .u64 x] w fun e w' => e = .returned (.int .i64 (Lib.bitLen x.toNat)) ∧ w' = w := Any.bits_Len Tryz.lays125 x w h0 h1
def Tryz.lays134_ren : Go.Shelf.Ren := ⟨fun | 134 => 179 | 129 => 99 | n => n, fun | 53 => 79 | 3 => 3 | 4 => 4 | 46 => 22 | 5 => 5 | 9 => 9 | n => n, fun | n => n⟩
theorem Tryz.lays134 : Go.Proofs.Lays.n134 Tryz.prog Tryz.lays134_ren := {
 mixed := by kernel_rfl
 f129 := Tryz.func99.trans (congrArg some (by kernel_rfl))
 f134 := Tryz.func179.trans (congrArg some (by kernel_rfl))
 t3 := Tryz.underlying3
 a3 := Tryz.isAgg3
 z3 := Tryz.sizeOf3
 v3 := Tryz.zeroValue3
 t4 := Tryz.underlying4
 a4 := Tryz.isAgg4
 z4 := Tryz.sizeOf4
 v4 := Tryz.zeroValue4
 t5 := Tryz.underlying5
 a5 := Tryz.isAgg5
 z5 := Tryz.sizeOf5
 v5 := Tryz.zeroValue5
 t9 := Tryz.underlying9
 a9 := Tryz.isAgg9
 z9 := Tryz.sizeOf9
 v9 := Tryz.zeroValue9
 t46 := Tryz.underlying22
 a46 := Tryz.isAgg22
 z46 := Tryz.sizeOf22
 v46 := Tryz.zeroValue22
 t53 := Tryz.underlying79
 a53 := Tryz.isAgg79
 z53 := Tryz.sizeOf79
 v53 := Tryz.zeroValue79 }
theorem Tryz.bits_LeadingZeros64 (x : Int) (w : World) (h0 : 0 ≤ x) (h1 : x ≤ 18446744073709551615) :
   Calls Tryz.prog 179 #[.int .u64 x] w fun e w' => e = .returned (.int .i64 (64 - (Lib.bitLen x.toNat : Int))) ∧ w' = w := Any.bits_LeadingZeros64 Tryz.lays134 x w h0 h1
end Go.Proofs
namespace Go.Proofs.YteohmbannpbokaaGreatDoor.WordWalk
open Go.RowKit Go.Proofs.YteohmbannpbokaaGreatDoorW.PrintWords Go.Proofs.YteohmbannpbokaaGreatDoorW.PrintLast Go.Proofs.YteohmbannpbokaaGreatDoorW.PrintMore Go.Proofs.YteohmbannpbokaaGreatDoor.SpecWalk Go.Proofs.YteohmbannpbokaaGreatDoor.BigWalk
set_option maxHeartbeats 1000000 in
theorem bd64_zero (lo y : Nat) (w : World) (hl : lo < 18446744073709551616) (hy0 : 0 < y) (hy : y < 18446744073709551616) :
   Calls Tryz.prog 169 #[.int .u64 0, .int .u64 lo, .int .u64 y] w fun e w' => e = .returned (.tuple #[.int .u64 ((lo / y : Nat) : Int), .int .u64 ((lo % y : Nat) : Int)]) ∧ w' = w.drew := by
 have h1 : ((y : Int) == 0) = false := beq_eq_false_iff_ne.mpr (by omega)
 have h2 : ¬ ((y : Int) ≤ 0) := by omega
 have h3 : (lo : Int) / (y : Int) = ((lo / y : Nat) : Int) := by simp
 have h4 : (lo : Int) % (y : Int) = ((lo % y : Nat) : Int) := by simp
 have h5 : (lo : Int).tdiv (y : Int) = ((lo / y : Nat) : Int) := by rw [Int.tdiv_eq_ediv_of_nonneg (by omega)]; exact h3
 have h6 : (lo : Int).tmod (y : Int) = ((lo % y : Nat) : Int) := by rw [Int.tmod_eq_emod_of_nonneg (by omega)]; exact h4
 have h7 : 0 ≤ (lo : Int) := by omega
 have h8 : (lo : Int) < 18446744073709551616 := by omega
 have h9 : 0 < (y : Int) := by omega
 have hY : ¬ ((y : Int) = 0) := by omega
 have hwQ : IntKind.u64.wrap ((lo / y : Nat) : Int) = ((lo / y : Nat) : Int) := by
   have h1 := Nat.div_le_self lo y
   have h2 : 0 ≤ ((lo / y : Nat) : Int) := Int.natCast_nonneg _
   have h3 : ((lo / y : Nat) : Int) < 18446744073709551616 := by omega
   rw [u64_w, Int.emod_eq_of_lt h2 h3]
 generalize ((lo / y : Nat) : Int) = Q at *
 generalize ((lo % y : Nat) : Int) = R at *
 generalize (lo : Int) = X at *
 generalize (y : Int) = Y at *
 go_enter Tryz.func169, Tryz.ntmps169
 go_wp2
 refine st (n := 8) (S := fun _ => True) (ds := []) rfl (trivial) (fun hHeld => ?_)
 refine pu 0 (some 28) rfl rfl ?_
 refine pu 1 (some 29) rfl rfl ?_
 refine pu 2 (some 30) rfl rfl ?_ (hr := by (intro w'; go_simp; (try simp only [h3, h5, if_neg hY, hwQ]); with_reducible rfl))
 refine pu 3 (some 31) rfl rfl ?_
 refine pu 4 (some 32) rfl rfl ?_
 refine pu 5 (some 33) rfl rfl ?_ (hr := by (intro w'; go_simp; (try simp only [h4, h6, if_neg hY]); with_reducible rfl))
 refine pu 6 (some 6) rfl rfl ?_
 refine pu 7 (some 7) rfl rfl ?_
 refine done_ (by kernel_rfl) ?_
 go_wp2
 go_ret2
 exact ⟨rfl, rfl⟩
set_option maxHeartbeats 1000000 in
theorem bdiv_of (hi lo y q r : Int) (W : World → World) (w : World) (h : ∀ w, Calls Tryz.prog 169 #[.int .u64 hi, .int .u64 lo, .int .u64 y] w fun e w' => e = .returned (.tuple #[.int .u64 q, .int .u64 r]) ∧ w' = W w) (hhi : Word hi) (hlo : Word lo) (hy : Word y) (hq : Word q) (hr : Word r) :
   Calls Tryz.prog 154 #[.int .u64 hi, .int .u64 lo, .int .u64 y] w fun e w' => e = .returned (.tuple #[.int .u64 q, .int .u64 r]) ∧ w' = W w := by
 have HH := Aside0.mk h
 clear h hhi hlo hy hq hr
 go_enter Tryz.func154, Tryz.ntmps154
 go_wp2_with (go_at_call 169; refine (HH.out _).mono ?_; rintro e w1 ⟨rfl, hw⟩; have HW := Aside0.mk hw; clear hw)
 go_ret2
 exact ⟨rfl, HW.out⟩
theorem wrap_id {x : Int} (h0 : 0 ≤ x) (h1 : x < 18446744073709551616) : IntKind.u64.wrap x = x := by rw [u64_w]; exact Int.emod_eq_of_lt h0 h1
theorem wrap_back {K r : Int} (h0 : 0 ≤ r) (h1 : r < 4294967296) : IntKind.u64.wrap (IntKind.u64.wrap (IntKind.u64.wrap ((K + r) * 4294967296) + 4294967295) - IntKind.u64.wrap (K * 4294967296)) = r * 4294967296 + 4294967295 := by
 rw [u64_w, u64_w, u64_w, u64_w, Int.emod_add_emod, ← Int.sub_emod]
 have e : (K + r) * 4294967296 + 4294967295 - K * 4294967296 = r * 4294967296 + 4294967295 := by omega
 rw [e]
 exact Int.emod_eq_of_lt (by omega) (by omega)
theorem word_two {x y : Int} (h0 : 0 ≤ x) (h1 : x < 4294967296) (h2 : 0 ≤ y) (h3 : y < 4294967296) : Word (x * 4294967296 + y) := ⟨by omega, by omega⟩
theorem recip_facts {v : Nat} (h0 : 2147483648 ≤ v) (h1 : v < 4294967296) : ∃ a r q0 t K : Int, (18446744073709551615 - (v : Int) * 4294967296 = K + r) ∧ 0 ≤ r ∧ r < v ∧ (K + r) / (v : Int) = a - 4294967296 ∧ (a - 4294967296) * v = K ∧ (a - 4294967296) * ((v : Int) * 4294967296) = K * 4294967296 ∧ 0 ≤ K ∧ K < 18446744073709551616 ∧ 4294967296 ≤ a ∧ a < 8589934592 ∧
   (r * 4294967296 + 4294967295) / (v : Int) = q0 ∧ 0 ≤ q0 ∧ q0 < 4294967296 ∧ q0 * v + t = r * 4294967296 + 4294967295 ∧ 0 ≤ t ∧ t < v ∧ ((a - 4294967296) * 4294967296 + q0 + 18446744073709551616) * v = 79228162514264337593543950335 - t := by
 have hv : (0 : Int) < v := by omega
 obtain ⟨a, ha⟩ : ∃ a : Int, a = 18446744073709551615 / (v : Int) := ⟨_, rfl⟩
 obtain ⟨r, hr⟩ : ∃ r : Int, r = 18446744073709551615 % (v : Int) := ⟨_, rfl⟩
 have hr0 : 0 ≤ r := by rw [hr]; exact Int.emod_nonneg _ (by omega)
 have hr1 : r < v := by rw [hr]; exact Int.emod_lt_of_pos _ hv
 have har : r + (v : Int) * a = 18446744073709551615 := by rw [ha, hr]; exact Int.emod_add_mul_ediv _ _
 obtain ⟨q0, hq⟩ : ∃ q : Int, q = (r * 4294967296 + 4294967295) / (v : Int) := ⟨_, rfl⟩
 obtain ⟨t, ht⟩ : ∃ t : Int, t = (r * 4294967296 + 4294967295) % (v : Int) := ⟨_, rfl⟩
 have ht0 : 0 ≤ t := by rw [ht]; exact Int.emod_nonneg _ (by omega)
 have ht1 : t < v := by rw [ht]; exact Int.emod_lt_of_pos _ hv
 have hqt : t + (v : Int) * q0 = r * 4294967296 + 4294967295 := by rw [hq, ht]; exact Int.emod_add_mul_ediv _ _
 have ha1 : 4294967296 ≤ a := by
   rw [ha]; exact (Int.le_ediv_iff_mul_le hv).2 (by omega)
 have ha2 : a < 8589934592 := by
   rw [ha]; exact Int.ediv_lt_of_lt_mul hv (by omega)
 have hq0 : 0 ≤ q0 := by rw [hq]; exact Int.ediv_nonneg (by omega) (by omega)
 have hq1 : q0 < 4294967296 := by
   rw [hq]; exact Int.ediv_lt_of_lt_mul hv (by omega)
 have e1 : (a - 4294967296) * (v : Int) = 18446744073709551615 - r - (v : Int) * 4294967296 := by
   rw [Int.sub_mul, Int.mul_comm a]; omega
 refine ⟨a, r, q0, t, (a - 4294967296) * v, by omega, hr0, hr1, ?_, rfl, by rw [Int.mul_assoc], ?_, ?_, ha1, ha2, hq.symm, hq0, hq1, by rw [Int.mul_comm]; omega, ht0, ht1, ?_⟩
 · rw [Int.add_comm, Int.add_mul_ediv_right _ _ (by omega), Int.ediv_eq_zero_of_lt hr0 hr1]; omega
 · exact Int.mul_nonneg (by omega) (by omega)
 · omega
 · rw [show (a - 4294967296) * 4294967296 + q0 + 18446744073709551616 = a * 4294967296 + q0 by omega, Int.add_mul, Int.mul_right_comm, Int.mul_comm a, Int.mul_comm q0]
   omega
theorem bitLen_norm {v : Nat} (h0 : 2147483648 ≤ v) (h1 : v < 4294967296) : Lib.bitLen (v * 4294967296) = 64 := by
 rw [Lib.bitLen_shift32 _ (by omega) (by omega), Nat.mul_div_cancel _ (by decide), Lib.bitLen_shift 31 v (by omega) (by omega)]
 rw [show v / 2 ^ 31 = 1 by omega]
 decide
theorem and_low {v : Nat} (h0 : 2147483648 ≤ v) (h1 : v < 4294967296) : bits .and .u64 ((v : Int) * 4294967296) 4294967295 = 0 := by
 have h := bits_mask .u64 64 (by decide) wraps_u64 32 (by decide) ((v : Int) * 4294967296) (by omega) (by omega)
 rw [show (2 : Int) ^ 32 - 1 = 4294967295 by decide, show (2 : Int) ^ 32 = 4294967296 by decide] at h
 rw [h]
 exact Int.mul_emod_left _ _
theorem or_zero {x : Int} (h0 : 0 ≤ x) (h1 : x < 18446744073709551616) : bits .or .u64 x 0 = x := by
 obtain ⟨a, rfl⟩ := Int.eq_ofNat_of_zero_le h0
 have h := (bits_nat .u64 64 (by decide) wraps_u64 a 0 (by omega) (by decide)).2
 rw [show ((0 : Nat) : Int) = 0 from rfl] at h
 rw [h, Nat.or_zero]
theorem g_facts {v : Nat} {Q1 K r q0 : Int} (h0 : 2147483648 ≤ v) (h1 : v < 4294967296) (hQ1 : 0 ≤ Q1 ∧ Q1 < 4294967296) (f1 : 18446744073709551615 - (v : Int) * 4294967296 = K + r) (f2 : 0 ≤ r) (f3 : r < v) (f4 : (K + r) / (v : Int) = Q1) (f5 : Q1 * v = K) (f6 : Q1 * ((v : Int) * 4294967296) = K * 4294967296) (f7 : 0 ≤ K) (f8 : K < 18446744073709551616)
   (f11 : (r * 4294967296 + 4294967295) / (v : Int) = q0) (f12 : 0 ≤ q0) (f13 : q0 < 4294967296) :
   (18446744073709551615 - (v : Int) * 4294967296).tdiv v = Q1 ∧ IntKind.u64.wrap Q1 = Q1 ∧ IntKind.u64.wrap (Q1 * v) = K ∧ IntKind.u64.wrap (18446744073709551615 - (v : Int) * 4294967296 - K) = r ∧
   IntKind.u64.wrap (IntKind.u64.wrap (IntKind.u64.wrap ((18446744073709551615 - (v : Int) * 4294967296) * 4294967296) + 4294967295) - IntKind.u64.wrap (Q1 * ((v : Int) * 4294967296))) = r * 4294967296 + 4294967295 ∧
   (r * 4294967296 + 4294967295).tdiv v = q0 ∧ IntKind.u64.wrap q0 = q0 ∧ ¬ (4294967296 ≤ Q1) ∧ ¬ (4294967296 ≤ q0) ∧ IntKind.u64.wrap (IntKind.u64.wrap (Q1 * 4294967296) + q0) = Q1 * 4294967296 + q0 := by
 refine ⟨?_, ?_, ?_, ?_, ?_, ?_, ?_, ?_, ?_, ?_⟩
 · rw [Int.tdiv_eq_ediv_of_nonneg (by omega), f1, f4]
 · exact wrap_id hQ1.1 (by omega)
 · rw [f5]; exact wrap_id f7 f8
 · rw [f1, show K + r - K = r by omega]; exact wrap_id f2 (by omega)
 · rw [f6, f1]; exact wrap_back f2 (by omega)
 · rw [Int.tdiv_eq_ediv_of_nonneg (by omega), f11]
 · exact wrap_id f12 (by omega)
 · omega
 · omega
 · have e : IntKind.u64.wrap (Q1 * 4294967296) = Q1 * 4294967296 := wrap_id (by omega) (by omega)
   rw [e]
   clear e
   exact wrap_id (by omega) (by omega)
set_option maxHeartbeats 4000000 in
set_option maxRecDepth 100000 in
theorem bd64_norm (v : Nat) (w : World) (h0 : 2147483648 ≤ v) (h1 : v < 4294967296) :
   Calls Tryz.prog 169 #[.int .u64 (18446744073709551615 - (v : Int) * 4294967296), .int .u64 18446744073709551615, .int .u64 ((v : Int) * 4294967296)] w fun e w' => ∃ Q R : Int, e = .returned (.tuple #[.int .u64 Q, .int .u64 R]) ∧ w' = w ∧ Word Q ∧ ∃ t : Int, 0 ≤ t ∧ t < v ∧ (Q + 18446744073709551616) * v = 79228162514264337593543950335 - t := by
 have hbl := bitLen_norm h0 h1
 have HLZ0 := fun w => Tryz.bits_LeadingZeros64 ((v : Int) * 4294967296) w (by omega) (by omega)
 have e1 : (64 - (Lib.bitLen ((v : Int) * 4294967296).toNat : Int)) = 0 := by
   rw [show ((v : Int) * 4294967296).toNat = v * 4294967296 by omega, hbl]; rfl
 rw [e1] at HLZ0
 have HLZ := Aside0.mk HLZ0
 have hu0 : (((v : Int) * 4294967296) == 0) = false := beq_eq_false_iff_ne.mpr (by omega)
 have hle : ¬ ((v : Int) * 4294967296 ≤ 18446744073709551615 - (v : Int) * 4294967296) := by omega
 have hhi : ((18446744073709551615 - (v : Int) * 4294967296) == 0) = false := beq_eq_false_iff_ne.mpr (by omega)
 have hwU : IntKind.u64.wrap ((v : Int) * 4294967296) = (v : Int) * 4294967296 := by rw [u64_w]; omega
 have hwH : IntKind.u64.wrap (18446744073709551615 - (v : Int) * 4294967296) = 18446744073709551615 - (v : Int) * 4294967296 := by rw [u64_w]; omega
 have hwM : IntKind.u64.wrap 18446744073709551615 = 18446744073709551615 := by decide
 have hUV : (v : Int) * 4294967296 / 4294967296 = (v : Int) := by omega
 have hand : bits .and .u64 ((v : Int) * 4294967296) 4294967295 = 0 := and_low h0 h1
 have handM : bits .and .u64 18446744073709551615 4294967295 = 4294967295 := by decide
 have horr : bits .or .u64 (18446744073709551615 - (v : Int) * 4294967296) 0 = 18446744073709551615 - (v : Int) * 4294967296 := or_zero (by omega) (by omega)
 have hV0 : ¬ ((v : Int) = 0) := by omega
 clear e1 HLZ0 hbl
 obtain ⟨a, r, q0, t, K, f1, f2, f3, f4, f5, f6, f7, f8, f9, f10, f11, f12, f13, f14, f15, f16, f17⟩ := recip_facts h0 h1
 have HF := Aside0.mk (And.intro f15 (And.intro f16 f17))
 clear f14 f15 f16 f17
 have hQ1 : 0 ≤ a - 4294967296 ∧ a - 4294967296 < 4294967296 := by omega
 clear f9 f10
 generalize a - 4294967296 = Q1 at *
 have HE := Aside0.mk (show Word (Q1 * 4294967296 + q0) ∧ ∃ t : Int, 0 ≤ t ∧ t < v ∧ (Q1 * 4294967296 + q0 + 18446744073709551616) * v = 79228162514264337593543950335 - t from ⟨word_two hQ1.1 hQ1.2 f12 f13, t, HF.out⟩)
 clear HF
 obtain ⟨g1, g2, g3, g4, g5, g6, g7, g8, g9, k2⟩ := g_facts h0 h1 hQ1 f1 f2 f3 f4 f5 f6 f7 f8 f11 f12 f13
 have k1 : ∀ x : Int, 0 ≤ IntKind.u64.wrap x := fun x => by rw [u64_w]; exact Int.emod_nonneg _ (by decide)
 clear f1 f2 f3 f4 f5 f6 f7 f8 f11 f12 f13 h0 h1 hQ1
 generalize (18446744073709551615 - (v : Int) * 4294967296) = H at *
 generalize (v : Int) * 4294967296 = U at *
 generalize (v : Int) = V at *
 generalize hQ : Q1 * 4294967296 + q0 = Q at *
 generalize r * 4294967296 + 4294967295 = U21 at *
 obtain ⟨X1, hX1, hX10⟩ : ∃ X, IntKind.u64.wrap (IntKind.u64.wrap (4294967296 * r) + 4294967295) = X ∧ 0 ≤ X := ⟨_, rfl, k1 _⟩
 obtain ⟨r2, hr2⟩ : ∃ X, IntKind.u64.wrap (U21 - IntKind.u64.wrap (q0 * V)) = X := ⟨_, rfl⟩
 obtain ⟨X2, hX2, hX20⟩ : ∃ X, IntKind.u64.wrap (IntKind.u64.wrap (4294967296 * r2) + 4294967295) = X ∧ 0 ≤ X := ⟨_, rfl, k1 _⟩
 clear k1
 clear hQ
 go_enter Tryz.func169, Tryz.ntmps169
 go_wp2_with (go_at_call 179; refine (HLZ.out _).mono ?_; rintro e w1 ⟨rfl, rfl⟩)
 go_loopg [15, 16] 1 (fun gg v15 v16 w' => v15 = .int .u64 Q1 ∧ v16 = .int .u64 r ∧ w' = w1)
 case atStart => exact ⟨rfl, rfl, rfl⟩
 case round =>
   obtain ⟨rfl, rfl, rfl⟩ := hrel
   go_wp2
   go_loopg [16, 18] 1 (fun gg v16 v18 w' => v18 = .int .u64 q0 ∧ v16 = .int .u64 r2 ∧ w' = wr)
   case atStart => exact ⟨rfl, rfl, rfl⟩
   case round =>
     obtain ⟨rfl, rfl, rfl⟩ := hrel
     go_wp2
     go_ret2
     exact ⟨_, _, rfl, rfl, HE.out⟩
set_option maxHeartbeats 1000000 in
theorem bdiv_norm (v : Nat) (w : World) (h : ∀ w, Calls Tryz.prog 169 #[.int .u64 (18446744073709551615 - (v : Int) * 4294967296), .int .u64 18446744073709551615, .int .u64 ((v : Int) * 4294967296)] w fun e w' => ∃ Q R : Int, e = .returned (.tuple #[.int .u64 Q, .int .u64 R]) ∧ w' = w ∧ Word Q ∧ ∃ t : Int, 0 ≤ t ∧ t < v ∧ (Q + 18446744073709551616) * v = 79228162514264337593543950335 - t) :
   Calls Tryz.prog 154 #[.int .u64 (18446744073709551615 - (v : Int) * 4294967296), .int .u64 18446744073709551615, .int .u64 ((v : Int) * 4294967296)] w fun e w' => ∃ Q R : Int, e = .returned (.tuple #[.int .u64 Q, .int .u64 R]) ∧ w' = w ∧ Word Q ∧ ∃ t : Int, 0 ≤ t ∧ t < v ∧ (Q + 18446744073709551616) * v = 79228162514264337593543950335 - t := by
 have HH := Aside0.mk h
 clear h
 generalize (18446744073709551615 - (v : Int) * 4294967296) = H at *
 generalize (v : Int) * 4294967296 = U at *
 go_enter Tryz.func154, Tryz.ntmps154
 go_wp2_with (go_at_call 169; refine (HH.out _).mono ?_; rintro e w1 ⟨Q, R, rfl, rfl, h⟩; have HX := Aside0.mk h; clear h)
 go_ret2
 exact ⟨Q, R, rfl, rfl, HX.out⟩
end Go.Proofs.YteohmbannpbokaaGreatDoor.WordWalk
