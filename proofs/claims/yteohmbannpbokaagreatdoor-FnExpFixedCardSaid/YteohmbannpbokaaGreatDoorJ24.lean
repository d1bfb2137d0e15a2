/-
 Words: a row shifted down where it stands.
 Words: a row shifted up into another block.
 Two rows of words multiplied.
 Room for a calculation: taken, and given back.
 A row of words squared, with half of the products: the law.
 Numbers in blocks of their own, and spare room for them.
-/
import Derived.Test.YteohmbannpbokaaGreatDoorJ01
import Derived.Test.YteohmbannpbokaaGreatDoorJ23
import Derived.Test.YteohmbannpbokaaGreatDoorJ22
import Derived.Lib.AppendZerosOnto
import Derived.Lib.AppendZeros
import Derived.Defers
set_option linter.unusedVariables false
set_option linter.unusedSimpArgs false
namespace Go.Proofs.YteohmbannpbokaaGreatDoor.WordWalk
open Go.RowKit Go.Proofs.YteohmbannpbokaaGreatDoorW.PrintWords Go.Proofs.YteohmbannpbokaaGreatDoorW.PrintLast Go.Proofs.YteohmbannpbokaaGreatDoorW.PrintMore Go.Proofs.YteohmbannpbokaaGreatDoor.SpecWalk Go.Proofs.YteohmbannpbokaaGreatDoor.BigWalk
def low (p q : Int) (cs xs : List Int) (k : Nat) : List Int := (shr p q xs).take k ++ cs.drop k
theorem low_len {p q : Int} {cs xs : List Int} {k : Nat} (hk : k ≤ xs.length) (hc : xs.length ≤ cs.length) : (low p q cs xs k).length = cs.length := by
 simp [low, shr_len]; omega
theorem low_far {p q : Int} {cs xs : List Int} {k j : Nat} (hk : k ≤ xs.length) (hkj : k ≤ j) (hj : j < cs.length) : rd (low p q cs xs k) (j : Int) = rd cs (j : Int) :=
 rd_far (by simp [shr_len]; omega) hkj hj
theorem low_set {p q : Int} {cs xs : List Int} {k : Nat} (hk : k < xs.length) (hc : xs.length ≤ cs.length) : (low p q cs xs k).set k (rd (shr p q xs) (k : Int)) = low p q cs xs (k + 1) := by
 rw [low, low, set_mid (by simp [shr_len]; omega) (by omega), W64.take_succ_rd (by rw [shr_len]; exact hk)]
set_option maxHeartbeats 4000000 in
set_option maxRecDepth 100000 in
theorem rshVU_g_n (g k n cz cx s t : Nat) (cs xs : List Int) (w : World) (hst : s + t = 64) (hs : 0 < s) (ht : 0 < t) (hz : Buf w g cs) (hxs : xs = (cs.drop k).take n) (hkn : k + n ≤ cs.length) (hn : 0 < n) (hlm : cs.length ≤ 1000000) (hd : W64.Dig xs) :
   Calls Tryz.prog 135 #[.slice (some ⟨g, 0, none⟩) n cz, .slice (some ⟨g, k, none⟩) n cx, .int .u64 s] w fun e w' => ∃ c, e = .returned (.int .u64 c) ∧ Buf w' g (shr ((2 : Int) ^ s) ((2 : Int) ^ t) xs ++ cs.drop n) ∧ KeptB w w' g := by
 have HH := halfs_of hst
 have HOS := Aside0.mk (fun x y h0 h1 => or_sum_low (x := x) (y := y) hst h0 h1)
 have hsb : (s : Int) ≤ 63 := by omega
 have htb : (t : Int) ≤ 63 := by omega
 have hs0 : ((s : Int) == 0) = false := beq_eq_false_iff_ne.mpr (by omega)
 have hts : (64 : Int) - (s : Int) = (t : Int) := by omega
 have ha1 := and_small (x := s) (by omega)
 have ha2 := and_small (x := t) (by omega)
 have hxl : xs.length = n := by rw [hxs]; simp; omega
 have hrx : ∀ i : Nat, i < n → rd xs (i : Int) = rd cs ((k + i : Nat) : Int) := fun i hi => by rw [hxs]; exact rd_part hi hkn
 have hdx : W64.Dig xs := hd
 have hli : (n : Int) ≤ 1000000 := by omega
 have hl0 : 0 < (n : Int) := by omega
 have hl1 : 1 ≤ (n : Int) := by omega
 have hnN : 0 < n := hn
 have hne : ((n : Int) == 0) = false := beq_eq_false_iff_ne.mpr (by omega)
 have hc0 : w.cell? ⟨g, k, none⟩ = some (.int .u64 (rd xs 0)) := by
   have h := hz.cell (j := k) (by omega)
   have e := hrx 0 hn
   rw [Nat.add_zero] at e
   rw [← e] at h
   exact h
 have HC := Aside0.mk (And.intro hxl (And.intro hkn (And.intro hdx hrx)))
 have HZ := Aside0.mk hz
 have HHH := Aside0.mk HH
 clear hz hlm hd HH hst hs ht hxs hxl hkn hdx hrx hn
 generalize hx0 : rd xs 0 = x0 at *
 clear hx0
 generalize hP : (2 : Int) ^ s = P at *
 generalize hQ : (2 : Int) ^ t = Q at *
 go_enter Tryz.func135, Tryz.ntmps135
 go_wp2
 go_loopg [8] n (fun gg v8 w' => ∃ (i : Int), v8 = .int .i64 i ∧ (1 ≤ i ∧ i ≤ n) ∧ Aside0 (i + (gg : Int) = n + 1) ∧ Aside0 (Buf w' g (low P Q cs xs (i.toNat - 1))) ∧ Aside0 (KeptB w w' g))
 case atStart => exact ⟨1, rfl, (by omega), ⟨by omega⟩, ⟨by simpa [low] using HZ.out⟩, ⟨KeptB.refl _ _⟩⟩
 case round =>
   clear hc0
   obtain ⟨i, rfl, ⟨i0, i1⟩, HG, HB, HK⟩ := hrel
   obtain ⟨hxl, hkn, hdx, hrx⟩ := HC.out
   have hll := low_len (p := P) (q := Q) (cs := cs) (xs := xs) (k := i.toNat - 1) (by omega) (by omega)
   by_cases hi : i < (n : Int)
   · have hx := W64.dig_rd hdx (i - 1)
     have hxn := W64.dig_rd hdx i
     have hc1 : wr.cell? ⟨g, k + (i.toNat - 1), none⟩ = some (.int .u64 (rd xs (i - 1))) := by
       have h := HB.out.cell (j := k + (i.toNat - 1)) (by omega)
       rw [low_far (by omega) (by omega) (by omega), ← hrx _ (by omega)] at h
       rwa [show ((i.toNat - 1 : Nat) : Int) = i - 1 by omega] at h
     have hc2 : wr.cell? ⟨g, k + i.toNat, none⟩ = some (.int .u64 (rd xs i)) := by
       have h := HB.out.cell (j := k + i.toNat) (by omega)
       rw [low_far (by omega) (by omega) (by omega), ← hrx _ (by omega)] at h
       rwa [show ((i.toNat : Nat) : Int) = i by omega] at h
     have hcz := HB.out.cell (j := i.toNat - 1) (by omega)
     have hsv : rd (shr P Q xs) (i - 1) = rd xs (i - 1) / P + rd xs i * Q % 18446744073709551616 := by
       have h := shr_succ P Q (i.toNat - 1) xs (by omega)
       rwa [show ((i.toNat - 1 + 1 : Nat) : Int) = i by omega, show ((i.toNat - 1 : Nat) : Int) = i - 1 by omega] at h
     have hput := HB.out.put (i.toNat - 1) (rd (shr P Q xs) (i - 1))
     have hst := low_set (p := P) (q := Q) (cs := cs) (xs := xs) (k := i.toNat - 1) (by omega) (by omega)
     rw [show ((i.toNat - 1 : Nat) : Int) = i - 1 by omega] at hst
     rw [hst] at hput
     have hfz := HB.out.frozen (i.toNat - 1)
     have htw := HHH.out.comm.top hx.1 hx.2
     have hor : bits .or .u64 (rd xs (i - 1) / P) (IntKind.u64.wrap (rd xs i * Q)) = rd (shr P Q xs) (i - 1) := by
       rw [u64_w, HOS.out _ _ htw.1 htw.2, hsv]
     have HP := Aside0.mk hput
     have hwr : wrap64 (i - 1) = i - 1 := by
       unfold wrap64; omega
     have hin : 0 ≤ i - 1 ∧ i - 1 < (n : Int) := by omega
     have h0i : 0 ≤ i := by omega
     clear hput hst hsv htw hxl hkn hdx hrx hll
     generalize rd (shr P Q xs) (i - 1) = z0 at *
     generalize rd (low P Q cs xs (i.toNat - 1)) ((i.toNat - 1 : Nat) : Int) = zz at *
     generalize rd xs i = xn at *
     generalize rd xs (i - 1) = xp at *
     go_wp2_with fail
     refine st (n := 19) (S := fun w' => w'.cell? ⟨g, k + (i.toNat - 1), none⟩ = some (.int .u64 xp) ∧ w'.cell? ⟨g, k + i.toNat, none⟩ = some (.int .u64 xn)) (ds := [18]) rfl (⟨by simpa using hc1, by simpa using hc2⟩) (fun hHeld => ?_)
     refine pu 0 (some 40) rfl rfl ?_
     refine pu 1 (some 41) rfl rfl ?_
     refine pu 2 (some 42) rfl rfl ?_ (hr := by (intro w'; go_simp; (try simp only [hwr]); with_reducible rfl))
     refine pu 3 (some 43) rfl rfl ?_
     refine pu 4 (some 44) rfl rfl ?_
     refine pu 5 (some 45) rfl rfl ?_ (hr := by (intro w'; go_simp; (try simp only [hwr]); with_reducible rfl))
     refine pu 6 (some 46) rfl rfl ?_ (hr := by (intro w'; go_simp; (try simp only [if_pos hin]); with_reducible rfl))
     refine tk 7 (some 47) rfl rfl hHeld ?_ (by (rintro w' ⟨s0, s1⟩; go_simp; with_reducible rfl))
     refine pu 8 (some 48) rfl rfl ?_
     refine pu 9 (some 49) rfl rfl ?_ (hr := by (intro w'; go_simp; (try simp only [hP]); with_reducible rfl))
     refine pu 10 (some 50) rfl rfl ?_
     refine pu 11 (some 51) rfl rfl ?_
     refine pu 12 (some 52) rfl rfl ?_ (hr := by (intro w'; go_simp; (try simp only [if_pos h0i]); with_reducible rfl))
     refine tk 13 (some 53) rfl rfl hHeld ?_ (by (rintro w' ⟨s0, s1⟩; go_simp; with_reducible rfl))
     refine pu 14 (some 54) rfl rfl ?_
     refine pu 15 (some 55) rfl rfl ?_ (hr := by (intro w'; go_simp; (try simp only [hQ]); with_reducible rfl))
     refine pu 16 (some 56) rfl rfl ?_ (hr := by (intro w'; go_simp; (try simp only [hor]); with_reducible rfl))
     refine pu 17 (some 57) rfl rfl ?_ (hr := by (intro w'; go_simp; (try simp only [if_pos hin]); with_reducible rfl))
     refine la 18 none rfl rfl (fun K hK => ?_)
     refine skip_ (w1 := ?_) (by rfl) rfl ?_ ?_
     rotate_left
     · go_simp
       rfl
     refine hK.out _ _ ?_
     clear hK K
     refine done_ (by kernel_rfl) ?_
     go_wp2
     go_roundg (gk - 1)
     case measure => have := HG.out; omega
     case rel => exact ⟨i + 1, rfl, (by omega), ⟨by have := HG.out; omega⟩, ⟨by rw [show (i + 1).toNat - 1 = (i.toNat - 1) + 1 by omega]; exact HP.out.drew⟩, ⟨(HK.out.set _).drew⟩⟩
   · obtain rfl : i = (n : Int) := by omega
     have hx := W64.dig_rd hdx ((n : Int) - 1)
     have hc1 : wr.cell? ⟨g, k + (n - 1), none⟩ = some (.int .u64 (rd xs ((n : Int) - 1))) := by
       have h := HB.out.cell (j := k + (n - 1)) (by omega)
       rw [Int.toNat_natCast] at h
       rw [low_far (by omega) (by omega) (by omega), ← hrx _ (by omega)] at h
       rwa [show ((n - 1 : Nat) : Int) = (n : Int) - 1 by omega] at h
     have hcz := HB.out.cell (j := n - 1) (by omega)
     have hsv : rd (shr P Q xs) ((n : Int) - 1) = rd xs ((n : Int) - 1) / P := by
       have h := shr_last P Q xs (by omega)
       rwa [hxl, show ((n - 1 : Nat) : Int) = (n : Int) - 1 by omega] at h
     have hput := HB.out.put (n - 1) (rd (shr P Q xs) ((n : Int) - 1))
     have hst := low_set (p := P) (q := Q) (cs := cs) (xs := xs) (k := n - 1) (by omega) (by omega)
     rw [show ((n - 1 : Nat) : Int) = (n : Int) - 1 by omega, show n - 1 + 1 = n by omega] at hst
     rw [Int.toNat_natCast, hst, hsv] at hput
     have hend : low P Q cs xs n = shr P Q xs ++ cs.drop n := by rw [low, List.take_of_length_le (by rw [shr_len]; omega)]
     rw [hend] at hput
     have hfz := HB.out.frozen (n - 1)
     have HP := Aside0.mk hput
     have hwr : wrap64 ((n : Int) - 1) = (n : Int) - 1 := by
       unfold wrap64; omega
     have hin : 0 ≤ (n : Int) - 1 ∧ (n : Int) - 1 < (n : Int) := by omega
     clear hput hst hsv hxl hkn hdx hrx hll hend
     generalize rd xs ((n : Int) - 1) = xp at *
     rw [Int.toNat_natCast] at hcz
     generalize rd (low P Q cs xs (n - 1)) ((n - 1 : Nat) : Int) = zz at *
     go_wp2
     go_ret
     exact ⟨⟨_, rfl⟩, HP.out, HK.out.set _⟩
set_option maxHeartbeats 1000000 in
theorem rshVU_n (g k n cz cx s t : Nat) (cs xs : List Int) (w : World) (hst : s + t = 64) (hs : 0 < s) (ht : 0 < t) (hz : Buf w g cs) (hxs : xs = (cs.drop k).take n) (hkn : k + n ≤ cs.length) (hn : 0 < n) (hlm : cs.length ≤ 1000000) (hd : W64.Dig xs) :
   Calls Tryz.prog 121 #[.slice (some ⟨g, 0, none⟩) n cz, .slice (some ⟨g, k, none⟩) n cx, .int .u64 s] w fun e w' => ∃ c, e = .returned (.int .u64 c) ∧ Buf w' g (shr ((2 : Int) ^ s) ((2 : Int) ^ t) xs ++ cs.drop n) ∧ KeptB w w' g := by
 have HM := Aside0.mk (rshVU_g_n g k n cz cx s t cs xs w hst hs ht hz hxs hkn hn hlm hd)
 clear hz hlm hd hn hst hs ht hxs hkn
 go_enter Tryz.func121, Tryz.ntmps121
 go_wp2_with (go_at_call 135; refine HM.out.mono ?_; rintro e w1 ⟨c, rfl, h⟩; have HH := Aside0.mk h; clear h)
 go_ret
 exact ⟨c, rfl, HH.out⟩
def halfo (p q : Int) (zs l : List Int) (k : Nat) : List Int := zs.take k ++ (shl p q 0 l).drop k
theorem halfo_len (p q : Int) (zs l : List Int) (k : Nat) (hk : k ≤ l.length) (hz : zs.length = l.length) : (halfo p q zs l k).length = l.length := by
 simp [halfo, shl_len]; omega
theorem halfo_set (p q : Int) (zs l : List Int) {k : Nat} (hk : k < l.length) (hz : zs.length = l.length) : (halfo p q zs l (k + 1)).set k (rd (shl p q 0 l) (k : Int)) = halfo p q zs l k := by
 have hs : k < (shl p q 0 l).length := by rw [shl_len]; exact hk
 rw [halfo, halfo, List.set_append_left _ _ (by simp; omega), W64.rd_lt hs, List.drop_eq_getElem_cons hs, W64.take_succ_rd (by omega), List.set_append_right _ _ (by simp; omega)]
 simp [Nat.min_eq_left (show k ≤ zs.length by omega)]
theorem halfo_start (p q : Int) (zs l : List Int) (hz : zs.length = l.length) : halfo p q zs l l.length = zs := by
 rw [halfo, List.take_of_length_le (by omega), List.drop_of_length_le (by rw [shl_len]; omega), List.append_nil]
theorem halfo_end (p q : Int) (zs l : List Int) : halfo p q zs l 0 = shl p q 0 l := by simp [halfo]
set_option maxHeartbeats 4000000 in
set_option maxRecDepth 100000 in
theorem lshVU_g_o (g o cz cx s t : Nat) (ax : Addr) (pre zs xs post : List Int) (w : World) (hst : s + t = 64) (hs : 0 < s) (ht : 0 < t) (hz : Buf w g (pre ++ (zs ++ post))) (ho : pre.length = o) (hzl : zs.length = xs.length) (hm0 : 0 < xs.length) (hlm : xs.length ≤ 1000000) (hd : W64.Dig xs)
   (hsrc : ∀ w', KeptB w w' g → ∀ i : Nat, i < xs.length → w'.cell? (ax.add i) = some (.int .u64 (rd xs (i : Int)))) :
   Calls Tryz.prog 96 #[.slice (some ⟨g, o, none⟩) xs.length cz, .slice (some ax) xs.length cx, .int .u64 s] w fun e w' => e = .returned (.int .u64 (shlTop ((2 : Int) ^ t) 0 xs)) ∧ Buf w' g (pre ++ (shl ((2 : Int) ^ s) ((2 : Int) ^ t) 0 xs ++ post)) ∧ KeptB w w' g := by
 have HH := halfs_of hst
 have HOS := Aside0.mk (fun x y h0 h1 => or_sum (x := x) (y := y) hst h0 h1)
 have hsb : (s : Int) ≤ 63 := by omega
 have htb : (t : Int) ≤ 63 := by omega
 have hs0 : ((s : Int) == 0) = false := beq_eq_false_iff_ne.mpr (by omega)
 have hts : (64 : Int) - (s : Int) = (t : Int) := by omega
 have ha1 := and_small (x := s) (by omega)
 have ha2 := and_small (x := t) (by omega)
 have HO := Aside0.mk ho
 have HD := Aside0.mk hd
 have HZ := Aside0.mk hz
 have HZL := Aside0.mk hzl
 have HSRC := Aside0.mk hsrc
 have hli : (xs.length : Int) ≤ 1000000 := by omega
 have hl0 : 0 < (xs.length : Int) := by omega
 have hl1 : 1 ≤ (xs.length : Int) := by omega
 have hne : ((xs.length : Int) == 0) = false := beq_eq_false_iff_ne.mpr (by omega)
 have htop := shlTop_last ((2 : Int) ^ t) 0 xs hm0
 have hlast := hsrc w (KeptB.refl _ _) (xs.length - 1) (by omega)
 have e0 : ((xs.length - 1 : Nat) : Int) = (xs.length : Int) - 1 := by omega
 rw [e0] at hlast htop
 have HT := Aside0.mk htop
 have HHH := Aside0.mk HH
 clear htop hz hlm hd ho HH e0 hst hs ht hzl hsrc
 generalize hm : xs.length = m at *
 have HM := Aside0.mk hm
 clear hm
 generalize rd xs ((m : Int) - 1) = xl at *
 generalize hP : (2 : Int) ^ s = P at *
 generalize hQ : (2 : Int) ^ t = Q at *
 go_enter Tryz.func96, Tryz.ntmps96
 go_wp2
 go_loopg [8] m (fun gg v8 w' => ∃ (i : Int), v8 = .int .i64 i ∧ 0 ≤ i ∧ i < m ∧ Aside0 (i + 1 = (gg : Int)) ∧ Aside0 (Buf w' g (pre ++ (halfo P Q zs xs (i.toNat + 1) ++ post))) ∧ Aside0 (KeptB w w' g))
 case atStart => exact ⟨(m : Int) - 1, rfl, by omega, by omega, ⟨by omega⟩, ⟨by
   have := HZ.out
   rw [show ((m : Int) - 1).toNat + 1 = xs.length by have := HM.out; omega, halfo_start P Q zs xs (HZL.out.trans HM.out.symm)]
   exact this⟩, ⟨KeptB.refl _ _⟩⟩
 case round =>
   obtain ⟨i, rfl, i0, i1, HG, HB, HK⟩ := hrel
   have hlen := halfo_len P Q zs xs (i.toNat + 1) (by have := HM.out; omega) (HZL.out.trans HM.out.symm)
   by_cases hi : 0 < i
   · have hi1 : 1 ≤ i := by omega
     have hx := W64.dig_rd HD.out i
     have hxp := W64.dig_rd HD.out (i - 1)
     have hc1 : wr.cell? (ax.add i.toNat) = some (.int .u64 (rd xs i)) := by
       have h := HSRC.out wr HK.out i.toNat (by omega)
       rwa [show ((i.toNat : Nat) : Int) = i by omega] at h
     have hc2 : wr.cell? (ax.add (i.toNat - 1)) = some (.int .u64 (rd xs (i - 1))) := by
       have h := HSRC.out wr HK.out (i.toNat - 1) (by omega)
       rwa [show ((i.toNat - 1 : Nat) : Int) = i - 1 by omega] at h
     have hcz : wr.cell? ⟨g, o + i.toNat, none⟩ = some (.int .u64 (rd (halfo P Q zs xs (i.toNat + 1)) i)) := by
       have h := HB.out.cell (j := o + i.toNat) (by have := HM.out; have := HO.out; simp [hlen]; omega)
       rw [mid_rd HO.out (by rw [hlen]; have := HM.out; omega)] at h
       rwa [show ((i.toNat : Nat) : Int) = i by omega] at h
     have hsv : rd (shl P Q 0 xs) i = rd xs i * P % 18446744073709551616 + rd xs (i - 1) / Q := by
       have h := shl_succ P Q (i.toNat - 1) 0 xs (by have := HM.out; omega)
       rwa [show ((i.toNat - 1 + 1 : Nat) : Int) = i by omega, show ((i.toNat - 1 : Nat) : Int) = i - 1 by omega] at h
     have hput := HB.out.put (o + i.toNat) (rd (shl P Q 0 xs) i)
     have hst := halfo_set P Q zs xs (k := i.toNat) (by have := HM.out; omega) (HZL.out.trans HM.out.symm)
     rw [show ((i.toNat : Nat) : Int) = i by omega] at hst
     rw [mid_set HO.out (by rw [hlen]; have := HM.out; omega), hst] at hput
     have hfz := HB.out.frozen (o + i.toNat)
     have htw := HHH.out.top hxp.1 hxp.2
     have hor : bits .or .u64 (IntKind.u64.wrap (rd xs i * P)) (rd xs (i - 1) / Q) = rd (shl P Q 0 xs) i := by
       rw [u64_w, HOS.out _ _ htw.1 htw.2, hsv]
     have HP := Aside0.mk hput
     have hwr : wrap64 (i - 1) = i - 1 := by
       unfold wrap64; omega
     have hin : 0 ≤ i - 1 ∧ i - 1 < (m : Int) := by omega
     clear hput hst hsv hlast hlen htw
     generalize rd (shl P Q 0 xs) i = z0 at *
     generalize rd (halfo P Q zs xs (i.toNat + 1)) i = zz at *
     generalize rd xs i = x at *
     generalize rd xs (i - 1) = xp at *
     go_wp2_with fail
     refine st (n := 18) (S := fun w' => w'.cell? (ax.add i.toNat) = some (.int .u64 x) ∧ w'.cell? (ax.add (i.toNat - 1)) = some (.int .u64 xp)) (ds := [17]) rfl (⟨by simpa using hc1, by simpa using hc2⟩) (fun hHeld => ?_)
     refine pu 0 (some 44) rfl rfl ?_
     refine pu 1 (some 45) rfl rfl ?_
     refine pu 2 (some 46) rfl rfl ?_
     refine pu 3 (some 47) rfl rfl ?_
     refine pu 4 (some 48) rfl rfl ?_
     refine tk 5 (some 49) rfl rfl hHeld ?_ (by (rintro w' ⟨s0, s1⟩; go_simp; with_reducible rfl))
     refine pu 6 (some 50) rfl rfl ?_
     refine pu 7 (some 51) rfl rfl ?_ (hr := by (intro w'; go_simp; (try simp only [hP]); with_reducible rfl))
     refine pu 8 (some 52) rfl rfl ?_
     refine pu 9 (some 53) rfl rfl ?_
     refine pu 10 (some 54) rfl rfl ?_ (hr := by (intro w'; go_simp; (try simp only [hwr]); with_reducible rfl))
     refine pu 11 (some 55) rfl rfl ?_ (hr := by (intro w'; go_simp; (try simp only [if_pos hin]); with_reducible rfl))
     refine tk 12 (some 56) rfl rfl hHeld ?_ (by (rintro w' ⟨s0, s1⟩; go_simp; with_reducible rfl))
     refine pu 13 (some 57) rfl rfl ?_
     refine pu 14 (some 58) rfl rfl ?_ (hr := by (intro w'; go_simp; (try simp only [hQ]); with_reducible rfl))
     refine pu 15 (some 59) rfl rfl ?_ (hr := by (intro w'; go_simp; (try simp only [hor]); with_reducible rfl))
     refine pu 16 (some 60) rfl rfl ?_
     refine la 17 none rfl rfl (fun K hK => ?_)
     refine skip_ (w1 := ?_) (by rfl) rfl ?_ ?_
     rotate_left
     · go_simp
       rfl
     refine hK.out _ _ ?_
     clear hK K
     refine done_ (by kernel_rfl) ?_
     go_wp2
     go_roundg (gk - 1)
     case measure => have := HG.out; omega
     case rel => exact ⟨i - 1, rfl, by omega, by omega, ⟨by have := HG.out; omega⟩, ⟨by rw [show (i - 1).toNat + 1 = i.toNat by omega]; exact HP.out.drew⟩, ⟨(HK.out.set _).drew⟩⟩
   · obtain rfl : i = 0 := by omega
     have hput := HB.out.put (o + 0) (rd (shl P Q 0 xs) 0)
     have hst := halfo_set P Q zs xs (k := 0) (by have := HM.out; omega) (HZL.out.trans HM.out.symm)
     rw [mid_set HO.out (by rw [hlen]; have := HM.out; omega)] at hput
     have e0 : ((0 : Nat) : Int) = 0 := rfl
     simp only [Int.toNat_zero, Nat.zero_add, Nat.add_zero, e0] at hput hst
     rw [hst, halfo_end, shl_zero P Q 0 xs (by have := HM.out; omega), Int.add_zero, ← u64_w] at hput
     have hc1 : wr.cell? ax = some (.int .u64 (rd xs 0)) := by
       have h := HSRC.out wr HK.out 0 (by have := HM.out; omega)
       exact h
     have hcz : wr.cell? ⟨g, o, none⟩ = some (.int .u64 (rd (halfo P Q zs xs (0 + 1)) 0)) := by
       have h := HB.out.cell (j := o + 0) (by have := HM.out; have := HO.out; simp only [List.length_append, hlen]; omega)
       rw [mid_rd HO.out (by rw [hlen]; have := HM.out; omega)] at h
       exact h
     have hfz := HB.out.frozen o
     have HP := Aside0.mk hput
     clear hput hst hlast hlen
     generalize rd (halfo P Q zs xs (0 + 1)) 0 = zz at *
     generalize rd xs 0 = x at *
     go_wp2
     go_ret
     exact ⟨by rw [HT.out]; rfl, HP.out, HK.out.set _⟩
set_option maxHeartbeats 1000000 in
theorem lshVU_o (g o cz cx s t : Nat) (ax : Addr) (pre zs xs post : List Int) (w : World) (hst : s + t = 64) (hs : 0 < s) (ht : 0 < t) (hz : Buf w g (pre ++ (zs ++ post))) (ho : pre.length = o) (hzl : zs.length = xs.length) (hm0 : 0 < xs.length) (hlm : xs.length ≤ 1000000) (hd : W64.Dig xs)
   (hsrc : ∀ w', KeptB w w' g → ∀ i : Nat, i < xs.length → w'.cell? (ax.add i) = some (.int .u64 (rd xs (i : Int)))) :
   Calls Tryz.prog 69 #[.slice (some ⟨g, o, none⟩) xs.length cz, .slice (some ax) xs.length cx, .int .u64 s] w fun e w' => e = .returned (.int .u64 (shlTop ((2 : Int) ^ t) 0 xs)) ∧ Buf w' g (pre ++ (shl ((2 : Int) ^ s) ((2 : Int) ^ t) 0 xs ++ post)) ∧ KeptB w w' g := by
 have HM := Aside0.mk (lshVU_g_o g o cz cx s t ax pre zs xs post w hst hs ht hz ho hzl hm0 hlm hd hsrc)
 clear hz hlm hd hm0 ho hst hs ht hzl hsrc
 go_enter Tryz.func69, Tryz.ntmps69
 go_wp2_with (go_at_call 96; refine HM.out.mono ?_; rintro e w1 ⟨rfl, h⟩; have HH := Aside0.mk h; clear h)
 go_ret
 exact ⟨rfl, HH.out⟩
theorem W64.val_zeros (n : Nat) : W64.val (List.replicate n 0) = 0 := by
 induction n with
 | zero => rfl
 | succ n ih => simp [List.replicate_succ, W64.val, ih]
structure Prods (xs ys : List Int) (n : Nat) (i : Int) (zs : List Int) : Prop where
 mk :: (out : ∃ k a, i = ((k : Nat) : Int) ∧ k ≤ n ∧ zs = a ++ List.replicate (n - k) 0 ∧ a.length = xs.length + k ∧ W64.Dig a ∧ W64.val a = W64.val xs * W64.val (ys.take k))
theorem Prods.start (xs ys : List Int) : Prods xs ys ys.length 0 (List.replicate (xs.length + ys.length) 0) :=
 ⟨0, List.replicate xs.length 0, rfl, Nat.zero_le _, by rw [Nat.sub_zero, List.replicate_append_replicate], by simp, by intro z hz; rw [List.eq_of_mem_replicate hz]; decide, by simp [W64.val_zeros, W64.val]⟩
theorem Prods.bound {xs ys : List Int} {n : Nat} {i : Int} {zs : List Int} (h : Prods xs ys n i zs) : 0 ≤ i ∧ i ≤ n ∧ zs.length = xs.length + n := by
 obtain ⟨k, a, rfl, h1, rfl, h2, _⟩ := h
 refine ⟨by omega, by omega, ?_⟩
 simp [h2]; omega
theorem Prods.skip {xs ys : List Int} {i : Int} {zs : List Int} (h : Prods xs ys ys.length i zs) (hi : i < ys.length) (hz : rd ys i = 0) : Prods xs ys ys.length (i + 1) zs := by
 obtain ⟨k, a, rfl, h1, rfl, h2, h3, h4⟩ := h
 have hk : k < ys.length := by omega
 refine ⟨k + 1, a ++ [0], by omega, by omega, ?_, by simp [h2]; omega, h3.append (by intro z hz; rw [List.mem_singleton] at hz; subst hz; decide), ?_⟩
 · rw [show ys.length - k = (ys.length - (k + 1)) + 1 by omega, List.replicate_succ, List.append_assoc]
   rfl
 · rw [W64.val_append, W64.val_take_succ hk, hz, h4]
   simp [W64.val]
theorem Prods.parts {xs ys : List Int} {i : Int} {zs : List Int} (h : Prods xs ys ys.length i zs) (hi : i < ys.length) :
   ∃ pre mid, zs = pre ++ (mid ++ List.replicate (ys.length - i.toNat) 0) ∧ pre.length = i.toNat ∧ mid.length = xs.length ∧ W64.Dig mid ∧
     ∀ out c, out.length = xs.length → W64.Dig out → Word c → W64.val out + c * 18446744073709551616 ^ xs.length = W64.val mid + W64.val xs * rd ys i →
       Prods xs ys ys.length (i + 1) (pre ++ (out ++ List.replicate (ys.length - i.toNat) 0) |>.set (xs.length + i.toNat) c) := by
 obtain ⟨k, a, rfl, h1, rfl, h2, h3, h4⟩ := h
 have hk : k < ys.length := by omega
 rw [Int.toNat_natCast]
 refine ⟨a.take k, a.drop k, by rw [← List.append_assoc, List.take_append_drop], by rw [List.length_take]; omega, by rw [List.length_drop]; omega, fun z hz => h3 z (List.mem_of_mem_drop hz), ?_⟩
 intro out c ho hd hc hv
 refine ⟨k + 1, a.take k ++ (out ++ [c]), by omega, by omega, ?_, by simp [ho]; omega, ?_, ?_⟩
 · have hl : (a.take k ++ out).length = xs.length + k := by simp [ho]; omega
   rw [show ys.length - k = (ys.length - (k + 1)) + 1 by omega, List.replicate_succ, ← List.append_assoc, ← List.append_assoc, List.set_append_right _ _ (by omega), hl, Nat.sub_self, List.set_cons_zero]
   simp
 · exact (h3.take k).append (hd.append (by intro z hz; rw [List.mem_singleton] at hz; subst hz; exact ⟨hc.lo, hc.hi⟩))
 · have e0 : W64.val a = W64.val (a.take k) + 18446744073709551616 ^ k * W64.val (a.drop k) := by
     have := W64.val_append (a.take k) (a.drop k)
     rw [List.take_append_drop, List.length_take, Nat.min_eq_left (by omega)] at this
     exact this
   rw [W64.val_append, W64.val_append, List.length_take, Nat.min_eq_left (by omega), ho, W64.val_take_succ hk]
   have e1 : W64.val [c] = c := by simp [W64.val]
   rw [e1]
   have e2 : W64.val out + 18446744073709551616 ^ xs.length * c = W64.val (a.drop k) + W64.val xs * rd ys (k : Int) := by rw [← hv, Int.mul_comm c]
   rw [e2, Int.mul_add, ← Int.add_assoc, ← e0, h4, Int.mul_add]
   congr 1
   rw [← Int.mul_assoc, Int.mul_comm _ (W64.val xs), Int.mul_assoc, Int.mul_comm (_ ^ _) (rd ys _)]
theorem Prods.done {xs ys : List Int} {i : Int} {zs : List Int} (h : Prods xs ys ys.length i zs) (hi : ¬ i < ys.length) : zs.length = xs.length + ys.length ∧ W64.Dig zs ∧ W64.val zs = W64.val xs * W64.val ys := by
 obtain ⟨k, a, rfl, h1, rfl, h2, h3, h4⟩ := h
 obtain rfl : k = ys.length := by omega
 rw [Nat.sub_self, List.replicate_zero, List.append_nil]
 rw [List.take_length] at h4
 exact ⟨h2, h3, h4⟩
theorem lt_mid {pre out rest : List Int} {a m k : Nat} (h1 : pre.length = a) (h2 : out.length = m) (hk : 0 < k) : m + a < (pre ++ (out ++ (List.replicate k 0 ++ rest))).length := by
 simp only [List.length_append, List.length_replicate]; omega
set_option maxHeartbeats 4000000 in
set_option maxRecDepth 100000 in
theorem basicMul_n (g gx gy cx cy : Nat) (cs xs ys : List Int) (w : World) (hz : Buf w g cs) (hl : xs.length + ys.length ≤ cs.length) (hlm : cs.length ≤ 1000000) (hx0 : 0 < xs.length) (hdx : W64.Dig xs) (hdy : W64.Dig ys) (hnx : gx ≠ g) (hny : gy ≠ g)
   (hxc : ∀ i : Nat, i < xs.length → w.cell? ⟨gx, i, none⟩ = some (.int .u64 (rd xs (i : Int))))
   (hyc : ∀ i : Nat, i < ys.length → w.cell? ⟨gy, i, none⟩ = some (.int .u64 (rd ys (i : Int)))) :
   Calls Tryz.prog 85 #[.slice (some ⟨g, 0, none⟩) (xs.length + ys.length) cs.length, .slice (some ⟨gx, 0, none⟩) xs.length cx, .slice (some ⟨gy, 0, none⟩) ys.length cy] w fun e w' => e = .returned (.tuple #[]) ∧ ∃ out, out.length = xs.length + ys.length ∧ W64.Dig out ∧ W64.val out = W64.val xs * W64.val ys ∧ Buf w' g (out ++ cs.drop (xs.length + ys.length)) ∧ KeptB w w' g := by
 have HX := Aside0.mk (And.intro hnx hxc)
 have HY := Aside0.mk (And.intro hny hyc)
 have HDX := Aside0.mk hdx
 have HDY := Aside0.mk hdy
 have HS := Aside0.mk (Prods.start xs ys)
 have hlen : ([] : List Int).length = 0 := rfl
 have hsplit : cs = [] ++ (cs.take (xs.length + ys.length) ++ cs.drop (xs.length + ys.length)) := by rw [List.nil_append, List.take_append_drop]
 have hz2 := hz
 rw [hsplit] at hz2
 have hclr := fun ty => run_clear w g (xs.length + ys.length) cs.length [] _ _ hz2 (by omega) (by rw [List.length_take]; omega) ty
 have hbuf := Buf.puts (List.replicate (xs.length + ys.length) 0) _ [] w (by rw [List.length_replicate, List.length_take]; omega) hz2
 have hk0 := kept_puts (nums .u64 (List.replicate (xs.length + ys.length) 0)) 0 w (KeptB.refl w g)
 rw [hlen] at hclr hbuf
 rw [List.nil_append] at hbuf
 clear hsplit hlen hz2 hz
 generalize w.setCells g 0 (nums .u64 (List.replicate (xs.length + ys.length) 0)) = W1 at *
 have HB := Aside0.mk hbuf
 have HK := Aside0.mk hk0
 have HCL := Aside0.mk (And.intro hl hlm)
 have hmi : (xs.length : Int) + (ys.length : Int) ≤ (cs.length : Int) := by omega
 have hci : (cs.length : Int) ≤ 1000000 := by omega
 have hm0 : 0 < (xs.length : Int) := by omega
 clear hdx hdy hnx hny hxc hyc hl hlm hx0 hbuf hk0
 generalize hm : xs.length = m at *
 generalize hn : ys.length = n at *
 have HML := Aside0.mk (And.intro hm hn)
 clear hm hn
 go_enter Tryz.func85, Tryz.ntmps85
 go_wp2_with (simp only [hclr])
 go_loopg [6, 7, 17] n (fun gg v6 v7 v17 w' => ∃ (i : Int) (zs : List Int), v17 = .int .i64 i ∧ Prods xs ys n i zs ∧ Aside0 (i + (gg : Int) = n) ∧ Aside0 (Buf w' g (zs ++ cs.drop (m + n))) ∧ Aside0 (KeptB w w' g))
 case atStart => exact ⟨0, _, rfl, HS.out, ⟨by simp⟩, HB, HK⟩
 case round =>
   clear HS HB HK hclr
   obtain ⟨i, zs, rfl, HI, HG, HB, HK⟩ := hrel
   obtain ⟨i0, i1, hzl⟩ := HI.bound
   by_cases hi : i < (n : Int)
   · have hyr := W64.dig_rd HDY.out i
     have hcy : wr.cell? ⟨gy, i.toNat, none⟩ = some (.int .u64 (rd ys i)) := by
       have hin : ((i.toNat : Nat) : Int) = i := by omega
       have := KeptB.cell HK.out HY.out.1 (HY.out.2 i.toNat (by omega))
       rwa [hin] at this
     have hnl : ys.length = n := HML.out.2
     by_cases hd0 : rd ys i = 0
     · rw [hd0] at hcy
       subst hnl
       have HST := Aside0.mk (HI.skip hi hd0)
       clear HI hd0 hyr
       go_wp2
       go_roundg (gk - 1)
       case measure => have := HG.out; omega
       case rel => exact ⟨i + 1, zs, rfl, HST.out, ⟨by have := HG.out; omega⟩, HB, HK⟩
     · have hd1 : (rd ys i == 0) = false := beq_eq_false_iff_ne.mpr hd0
       subst hnl
       obtain ⟨pre, mid, rfl, hpl, hml, hmd, hstep⟩ := HI.parts hi
       have HW : Word (rd ys i) := ⟨hyr.1, hyr.2⟩
       have hzb := HB.out
       rw [List.append_assoc, List.append_assoc] at hzb
       have hmm : xs.length = m := HML.out.1
       have HC := Aside0.mk (fun (w1 : World) (k : KeptB wr w1 g) (hzb : Buf w1 g (pre ++ (mid ++ (List.replicate (ys.length - i.toNat) 0 ++ cs.drop (m + ys.length))))) => addMulVVWW_n g gx i.toNat (cs.length - i.toNat) (cs.length - i.toNat) cx pre mid _ xs (rd ys i) w1 hzb hpl (by rw [hml]) (by rw [hml]; have := HCL.out; omega) hmd HDX.out HW HX.out.1 (fun j hj => KeptB.cell (HK.out.then k) HX.out.1 (HX.out.2 j (by omega))))
       rw [hml, hmm] at HC
       rw [hmm] at hstep
       have HPL := Aside0.mk hpl
       have HML2 := Aside0.mk hml
       have HSTP := Aside0.mk hstep
       clear HI hyr hd0 hmd HW hstep hml hmm hpl
       generalize rd ys i = y at *
       have KD := Aside0.mk (KeptB.drew (KeptB.refl wr g))
       have HZD := Aside0.mk hzb.drew
       clear hzb
       have HNI := Aside0.mk (show 0 < ys.length - i.toNat by omega)
       have c1 : 0 ≤ i + (m : Int) ∧ i + (m : Int) ≤ (cs.length : Int) := by omega
       have c2 : i ≤ max (i + (m : Int)) 0 := by omega
       have c3 : ¬ (cs.length = i.toNat) := by omega
       have c4 : (i + (m : Int)).toNat - i.toNat = m := by omega
       have c5 : 0 ≤ (m : Int) + i := by omega
       have c6 : ((m : Int) + i).toNat = m + i.toNat := by omega
       have wa : wrap64 ((m : Int) + i) = (m : Int) + i := by unfold wrap64; omega
       have wb : wrap64 (i + (m : Int)) = i + (m : Int) := by unfold wrap64; omega
       go_wp2_with fail
       refine st (n := 24) (S := fun w' => True) (ds := [23]) rfl (trivial) (fun hHeld => ?_)
       refine pu 0 (some 24) rfl rfl ?_
       refine pu 1 (some 25) rfl rfl ?_
       refine pu 2 (some 26) rfl rfl ?_
       refine pu 3 (some 27) rfl rfl ?_
       refine pu 4 (some 28) rfl rfl ?_ (hr := by (intro w'; go_simp; (try simp only [wa]); with_reducible rfl))
       refine pu 5 (some 29) rfl rfl ?_
       refine pu 6 (some 30) rfl rfl ?_
       refine pu 7 (some 31) rfl rfl ?_
       refine pu 8 (some 32) rfl rfl ?_
       refine pu 9 (some 33) rfl rfl ?_
       refine pu 10 (some 34) rfl rfl ?_ (hr := by (intro w'; go_simp; (try simp only [wb]); with_reducible rfl))
       refine pu 11 (some 35) rfl rfl ?_ (hr := by (intro w'; go_simp; (try simp only [if_pos c1, if_pos c2, if_neg c3, c4]); with_reducible rfl))
       refine pu 12 (some 36) rfl rfl ?_
       refine pu 13 (some 37) rfl rfl ?_
       refine pu 14 (some 38) rfl rfl ?_
       refine pu 15 (some 39) rfl rfl ?_
       refine pu 16 (some 40) rfl rfl ?_
       refine pu 17 (some 41) rfl rfl ?_ (hr := by (intro w'; go_simp; (try simp only [wb]); with_reducible rfl))
       refine pu 18 (some 42) rfl rfl ?_ (hr := by (intro w'; go_simp; (try simp only [if_pos c1, if_pos c2, if_neg c3, c4]); with_reducible rfl))
       refine pu 19 (some 43) rfl rfl ?_
       refine pu 20 (some 44) rfl rfl ?_
       refine on 21 (some 45) rfl rfl (fun K hK => ?_)
       refine goes_ Tryz.func108 (by kernel_rfl) rfl #[.slice (some ⟨g, i.toNat, none⟩) m (cs.length - i.toNat), .slice (some ⟨g, i.toNat, none⟩) m (cs.length - i.toNat), .slice (some ⟨gx, 0, none⟩) m cx, .int .u64 y, .int .u64 0] (by rfl) rfl rfl (by (try simp only [List.map_toArray, List.map_cons, List.map_nil]); first | done | rfl) ?_
       refine (HC.out _ KD.out HZD.out).mono ?_
       rintro e w1 ⟨out, c, rfl, h⟩
       refine ⟨_, rfl, ?_⟩
       have HH := Aside0.mk h
       have hc0 := h.2.2.2.2.1.cell (j := m + i.toNat) (lt_mid HPL.out h.2.1 HNI.out)
       have hf0 := h.2.2.2.2.1.frozen (m + i.toNat)
       clear h
       refine hK.out _ _ (trivial) (fun hHeld => ?_)
       clear hK K
       refine nm ?_
       refine pu 22 (some 46) rfl rfl ?_ (hr := by (intro w'; go_simp; (try simp only [if_pos c5, c6]); with_reducible rfl))
       refine la 23 none rfl rfl (fun K hK => ?_)
       refine skip_ (w1 := ?_) (by rfl) rfl ?_ ?_
       rotate_left
       · go_simp
         rfl
       refine hK.out _ _ ?_
       clear hK K
       refine done_ (by kernel_rfl) ?_
       go_wp2
       go_roundg (gk - 1)
       case measure => have := HG.out; omega
       case rel =>
         obtain ⟨hw, ho, hd, hv, hb, hk⟩ := HH.out
         refine ⟨i + 1, _, rfl, HSTP.out out c ho hd hw hv, ⟨by have := HG.out; omega⟩, ⟨?_⟩, ⟨((HK.out.drew.then hk).set _)⟩⟩
         have hb2 := hb.put (m + i.toNat) c
         have hle : m + i.toNat < (pre ++ (out ++ List.replicate (ys.length - i.toNat) 0)).length := by
           have := HPL.out; have := HNI.out; simp only [List.length_append, List.length_replicate]; omega
         rw [← List.append_assoc out, ← List.append_assoc pre, List.set_append_left _ _ hle] at hb2
         exact hb2
   · have hnl : ys.length = n := HML.out.2
     subst hnl
     obtain ⟨e1, e2, e3⟩ := HI.done hi
     rw [HML.out.1] at e1
     have HE := Aside0.mk (And.intro e1 (And.intro e2 e3))
     clear HI e1 e2 e3
     go_wp2
     go_end0
     obtain ⟨e1, e2, e3⟩ := HE.out
     exact ⟨rfl, zs, e1, e2, e3, HB.out, HK.out⟩
theorem _root_.Go.Proofs.YteohmbannpbokaaGreatDoor.SpecWalk.Box.mk1 {w : World} {g : Nat} {x : Value} (h0 : w.cell? ⟨g, 0, none⟩ = some x) (k0 : w.frozen? ⟨g, 0, none⟩ = false) : Box w g [x] := by
 refine ⟨fun j v hj => ?_⟩
 match j, hj with
 | 0, hj => injection hj with hj; subst hj; exact ⟨h0, k0⟩
theorem _root_.Go.Proofs.YteohmbannpbokaaGreatDoor.SpecWalk.Box.new1 (w : World) (g : Nat) (x : Value) (t : TypeId) (hg : w.heap.size = g) : Box (w.alloc (.cells #[x] t)) g [x] := by
 subst hg
 exact Box.mk1 (by simp) (by simp)
structure KeptP (w w' : World) (P : Nat → Prop) : Prop where
 mk :: (os : w'.os = w.os) (tape : w'.tape = w.tape) (output : w'.output = w.output) (size : w.heap.size ≤ w'.heap.size) (block : ∀ k, k < w.heap.size → ¬ P k → w'.heap[k]? = w.heap[k]?)
section
variable {w w1 w2 : World} {P Q : Nat → Prop} {g : Nat}
theorem KeptP.refl (w : World) (P : Nat → Prop) : KeptP w w P := ⟨rfl, rfl, rfl, Nat.le_refl _, fun _ _ _ => rfl⟩
theorem KeptP.ofB (h : KeptB w w1 g) (hg : P g) : KeptP w w1 P := ⟨h.os, h.tape, h.output, h.size, fun k hk hp => h.block k hk (fun e => hp (e ▸ hg))⟩
theorem KeptP.then (h : KeptP w w1 P) (k : KeptP w1 w2 P) : KeptP w w2 P :=
 ⟨k.os.trans h.os, k.tape.trans h.tape, k.output.trans h.output, Nat.le_trans h.size k.size, fun i hi hp => (k.block i (Nat.lt_of_lt_of_le hi h.size) hp).trans (h.block i hi hp)⟩
theorem KeptP.set (h : KeptP w w1 P) (p : Addr) (hp : P p.block ∨ w.heap.size ≤ p.block) (u : Value) : KeptP w (w1.setCell p u) P :=
 ⟨h.os, h.tape, h.output, by simpa using h.size, fun k hk hne => (Below.heap_setCell w1 p u k (by rintro rfl; rcases hp with hp | hp; exact hne hp; omega)).trans (h.block k hk hne)⟩
theorem KeptP.drew (h : KeptP w w1 P) : KeptP w w1.drew P := ⟨h.os, h.tape, h.output, h.size, h.block⟩
theorem KeptP.mono (h : KeptP w w1 P) (hp : ∀ k, P k → Q k) : KeptP w w1 Q := ⟨h.os, h.tape, h.output, h.size, fun k hk hq => h.block k hk (fun c => hq (hp k c))⟩
theorem KeptP.cell {g' j : Nat} {v : Value} (hk : KeptP w w1 P) (hne : ¬ P g') (h : w.cell? ⟨g', j, none⟩ = some v) : w1.cell? ⟨g', j, none⟩ = some v :=
 (World.cell?_of_block (a := ⟨g', j, none⟩) (hk.block g' (World.block_lt_of_cell? w _ h) hne)).trans h
theorem KeptP.box {g' : Nat} {l : List Value} (h : Box w g' l) (hk : KeptP w w1 P) (hne : ¬ P g') : Box w1 g' l := by
 refine ⟨fun j v hj => ?_⟩
 obtain ⟨h1, h2⟩ := h.out j v hj
 have hb := hk.block g' (World.block_lt_of_cell? w _ h1) hne
 exact ⟨(World.cell?_of_block (a := ⟨g', j, none⟩) hb).trans h1, (World.frozen?_of_block (a := ⟨g', j, none⟩) hb).trans h2⟩
theorem KeptP.buf {g' : Nat} {cs : List Int} (h : Buf w g' cs) (hk : KeptP w w1 P) (hne : ¬ P g') : Buf w1 g' cs := ⟨(hk.block g' h.lt hne).trans h.out⟩
theorem KeptP.blk {g' : Nat} (h : Blk w g') (hk : KeptP w w1 P) (hne : ¬ P g') : Blk w1 g' := by
 obtain ⟨ca, ta, e⟩ := h.out
 exact ⟨ca, ta, (hk.block g' h.lt hne).trans e⟩
end
theorem dig_two {P : Int} (h0 : 0 ≤ P) (h1 : P ≤ 18446744073709551615 * 18446744073709551615) : W64.Dig [P % 18446744073709551616, P / 18446744073709551616] := by
 intro z hz
 simp only [List.mem_cons, List.not_mem_nil, or_false] at hz
 rcases hz with rfl | rfl <;> omega
theorem val_two (P : Int) : W64.val [P % 18446744073709551616, P / 18446744073709551616] = P := by
 simp [W64.val]; omega
structure Num (w : World) (g n : Nat) (v : Value) : Prop where
 mk :: (out : ∃ cs : List Int, v = .slice (some ⟨g, 0, none⟩) (W64.digs n).length cs.length ∧ Buf w g cs ∧ (W64.digs n).length ≤ cs.length ∧ 0 < cs.length ∧ cs.length ≤ 1000 ∧ cs.take (W64.digs n).length = W64.digs n)
section
variable {w w1 : World} {P Q : Nat → Prop} {g n : Nat} {v : Value}
theorem Num.lt (h : Num w g n v) : g < w.heap.size := by obtain ⟨cs, _, h, _⟩ := h.out; exact h.lt
theorem Num.kept (h : Num w g n v) (hk : KeptP w w1 P) (hg : ¬ P g) : Num w1 g n v := by
 obtain ⟨cs, h1, h2, h3⟩ := h.out
 exact ⟨cs, h1, KeptP.buf h2 hk hg, h3⟩
theorem Num.drew (h : Num w g n v) : Num w.drew g n v := by
 obtain ⟨cs, h1, h2, h3⟩ := h.out
 exact ⟨cs, h1, h2.drew, h3⟩
theorem KeptP.ofBelow (h : Below w.heap.size w w1) : KeptP w w1 P := ⟨h.os, h.tape, h.output, h.size, fun k hk _ => h.block k hk⟩
theorem Num.words (h : Num w g n v) : ∃ c, v = .slice (some ⟨g, 0, none⟩) (W64.digs n).length c ∧ (W64.digs n).length ≤ c ∧ 0 < c ∧ c ≤ 1000 ∧ ∀ i : Nat, i < (W64.digs n).length → w.cell? ⟨g, i, none⟩ = some (.int .u64 (rd (W64.digs n) (i : Int))) := by
 obtain ⟨cs, h1, h2, h3, h4, h5, h6⟩ := h.out
 refine ⟨cs.length, h1, h3, h4, h5, fun i hi => ?_⟩
 have e := h2.cell (j := i) (by omega)
 have e2 : rd (W64.digs n) (i : Int) = rd cs (i : Int) := by
   rw [← h6]
   exact rd_take hi h3
 rw [e2]; exact e
end
structure Thr (w : World) : Prop where
 mk :: (b : w.cell? ⟨0, 0, none⟩ = some (.int .i64 12)) (k : w.cell? ⟨1, 0, none⟩ = some (.int .i64 80)) (m : w.cell? ⟨2, 0, none⟩ = some (.int .i64 40))
theorem Thr.kept {w w1 : World} {P : Nat → Prop} (h : Thr w) (hk : KeptP w w1 P) (hP : ∀ k, P k → 3 ≤ k) : Thr w1 :=
 ⟨hk.cell (fun h => absurd (hP _ h) (by decide)) h.b, hk.cell (fun h => absurd (hP _ h) (by decide)) h.k, hk.cell (fun h => absurd (hP _ h) (by decide)) h.m⟩
theorem Thr.drew {w : World} (h : Thr w) : Thr w.drew := h.kept (P := fun _ => False) (KeptP.refl w _).drew (fun _ h => h.elim)
end Go.Proofs.YteohmbannpbokaaGreatDoor.WordWalk
