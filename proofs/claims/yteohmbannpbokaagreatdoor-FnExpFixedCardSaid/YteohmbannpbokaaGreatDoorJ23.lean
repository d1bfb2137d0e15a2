/-
 Words: a row taken from a row, where it stands.
 Whether two numbers lie in one block; two rows multiplied.
 Words: one added to a row where it stands, and one taken from it.
-/
import Derived.Test.YteohmbannpbokaaGreatDoorJ01
import Derived.Test.YteohmbannpbokaaGreatDoorJ22
import Derived.Shelf.Spec.BitsCarry
import Derived.Lib.SliceRun
import Derived.Lib.Builder
set_option linter.unusedVariables false
set_option linter.unusedSimpArgs false
namespace Go.Proofs.YteohmbannpbokaaGreatDoor.WordWalk
open Go.RowKit Go.Proofs.YteohmbannpbokaaGreatDoorW.PrintWords Go.Proofs.YteohmbannpbokaaGreatDoorW.PrintLast Go.Proofs.YteohmbannpbokaaGreatDoorW.PrintMore Go.Proofs.YteohmbannpbokaaGreatDoor.SpecWalk Go.Proofs.YteohmbannpbokaaGreatDoor.BigWalk
theorem sub64c (x y c : Int) (hx : Word x) (hy : Word y) (hc : 0 ≤ c) (hc1 : c ≤ 1) (w : World) : (callFunc 153 #[.int .u64 x, .int .u64 y, .int .u64 c]).run Tryz.prog w =
   .ok (.value (.tuple #[.int .u64 ((x - y - c) % 18446744073709551616), .int .u64 (-((x - y - c) / 18446744073709551616))])) w := by
 obtain ⟨a, rfl⟩ := Int.eq_ofNat_of_zero_le hx.lo
 obtain ⟨b, rfl⟩ := Int.eq_ofNat_of_zero_le hy.lo
 obtain ⟨d, rfl⟩ := Int.eq_ofNat_of_zero_le hc
 have ha := hx.hi
 have hb := hy.hi
 rw [run_callFunc_extern (fn := Tryz.f153) (e := sub64Entry) Tryz.func153 (by kernel_rfl) (by kernel_rfl) (by kernel_rfl) (by kernel_rfl), run_sub64 a b d (by omega)]
 simp only [Result.andThen]
 have e1 : ((a + 18446744073709551616 - b - d) % 18446744073709551616 : Nat) = ((a : Int) - b - d) % 18446744073709551616 := by omega
 have e2 : ((if a < b + d then 1 else 0 : Nat) : Int) = -(((a : Int) - b - d) / 18446744073709551616) := by
   split <;> omega
 rw [e1, e2]
theorem Sub_n (x y c : Int) (hx : Word x) (hy : Word y) (hc : 0 ≤ c) (hc1 : c ≤ 1) (w : World) :
   Calls Tryz.prog 134 #[.int .u64 x, .int .u64 y, .int .u64 c] w fun e w' => e = .returned (.tuple #[.int .u64 ((x - y - c) % 18446744073709551616), .int .u64 (-((x - y - c) / 18446744073709551616))]) ∧ w' = w := by
 have HA := Aside0.mk (fun w => sub64c x y c hx hy hc hc1 w)
 clear hx hy hc hc1
 generalize (x - y - c) % 18446744073709551616 = d at *
 generalize -((x - y - c) / 18446744073709551616) = q at *
 go_enter Tryz.func134, Tryz.ntmps134
 go_wp2_with (first | simp only [HA.out] | go_in)
 go_ret2
 exact ⟨rfl, rfl⟩
structure SubRow (xs ys : List Int) (m : Nat) (out : List Int) (c i : Int) : Prop where
 mk :: (out : ∃ k : Nat, i = k ∧ k ≤ m ∧ out.length = k ∧ W64.Dig out ∧ 0 ≤ c ∧ c ≤ 1 ∧ W64.val out + W64.val (ys.take k) = W64.val (xs.take k) + c * 18446744073709551616 ^ k)
theorem SubRow.start (xs ys : List Int) (m : Nat) : SubRow xs ys m [] 0 0 :=
 ⟨0, rfl, Nat.zero_le _, rfl, W64.Dig.nil, by decide, by decide, by simp [W64.val]⟩
theorem SubRow.bound {xs ys : List Int} {m : Nat} {out : List Int} {c i : Int} (h : SubRow xs ys m out c i) : 0 ≤ i ∧ i ≤ m ∧ (out.length : Int) = i ∧ 0 ≤ c ∧ c ≤ 1 := by
 obtain ⟨k, rfl, h1, h2, _, h3, h4, _⟩ := h
 exact ⟨by omega, by omega, by omega, h3, h4⟩
theorem SubRow.step {xs ys : List Int} {m : Nat} {out : List Int} {c i : Int} (h : SubRow xs ys m out c i) (hd : W64.Dig xs) (he : W64.Dig ys) (hx : m ≤ xs.length) (hy : m ≤ ys.length) (hi : i < m) :
   SubRow xs ys m (out ++ [(rd xs i - rd ys i - c) % 18446744073709551616]) (-((rd xs i - rd ys i - c) / 18446744073709551616)) (i + 1) := by
 obtain ⟨k, rfl, h1, h2, h3, h4, h5, h6⟩ := h
 have hk : k < xs.length := by omega
 obtain ⟨x0, x1⟩ := W64.dig_rd hd (k : Int)
 obtain ⟨y0, y1⟩ := W64.dig_rd he (k : Int)
 refine ⟨k + 1, by omega, by omega, by simp [h2], h3.append (by intro z hz; rw [List.mem_singleton] at hz; subst hz; omega), by omega, by omega, ?_⟩
 rw [W64.val_append, W64.val_take_succ hk, W64.val_take_succ (l := ys) (i := k) (by omega), h2, W64.pw_succ]
 have e : W64.val [(rd xs (k : Int) - rd ys (k : Int) - c) % 18446744073709551616] = (rd xs (k : Int) - rd ys (k : Int) - c) % 18446744073709551616 := by simp [W64.val]
 rw [e]
 have e2 : (rd xs (k : Int) - rd ys (k : Int) - c) % 18446744073709551616 = (rd xs (k : Int) - rd ys (k : Int) - c) - 18446744073709551616 * ((rd xs (k : Int) - rd ys (k : Int) - c) / 18446744073709551616) := by omega
 rw [e2]
 generalize (rd xs (k : Int) - rd ys (k : Int) - c) / 18446744073709551616 = q
 generalize (18446744073709551616 : Int) ^ k = p at *
 rw [Int.mul_sub, Int.mul_sub, Int.mul_sub]
 have e3 : rd ys (k : Int) * p = p * rd ys (k : Int) := Int.mul_comm _ _
 have e4 : p * (18446744073709551616 * q) = q * (18446744073709551616 * p) := by rw [Int.mul_comm p, Int.mul_comm 18446744073709551616 q, Int.mul_assoc]
 have e5 : p * c = c * p := Int.mul_comm _ _
 have e6 : rd xs (k : Int) * p = p * rd xs (k : Int) := Int.mul_comm _ _
 rw [e3, e4, e5, e6, Int.neg_mul]
 omega
theorem SubRow.done {xs ys : List Int} {m : Nat} {out : List Int} {c i : Int} (h : SubRow xs ys m out c i) (hi : ¬ i < m) : out.length = m ∧ W64.Dig out ∧ 0 ≤ c ∧ c ≤ 1 ∧ W64.val out + W64.val (ys.take m) = W64.val (xs.take m) + c * 18446744073709551616 ^ m := by
 obtain ⟨k, rfl, h1, h2, h3, h4, h5, h6⟩ := h
 obtain rfl : k = m := by omega
 exact ⟨h2, h3, h4, h5, h6⟩
set_option maxHeartbeats 4000000 in
set_option maxRecDepth 100000 in
theorem subVV_g_n (g gy m cz cx cy : Nat) (cs ys : List Int) (w : World) (hz : Buf w g cs) (hl : m ≤ cs.length) (hl2 : m ≤ ys.length) (hlm : m ≤ 1000000) (hdx : W64.Dig (cs.take m)) (hdy : W64.Dig ys) (hne : gy ≠ g)
   (hyc : ∀ i : Nat, i < m → w.cell? ⟨gy, i, none⟩ = some (.int .u64 (rd ys (i : Int)))) :
   Calls Tryz.prog 133 #[.slice (some ⟨g, 0, none⟩) m cz, .slice (some ⟨g, 0, none⟩) m cx, .slice (some ⟨gy, 0, none⟩) m cy] w fun e w' => ∃ out c, e = .returned (.int .u64 c) ∧ 0 ≤ c ∧ c ≤ 1 ∧ out.length = m ∧ W64.Dig out ∧ W64.val out + W64.val (ys.take m) = W64.val (cs.take m) + c * 18446744073709551616 ^ m ∧ Buf w' g (out ++ cs.drop m) ∧ KeptB w w' g := by
 have HY := Aside0.mk hyc
 have HO := Aside0.mk (And.intro hl (And.intro hl2 hne))
 have HDX := Aside0.mk hdx
 have HDY := Aside0.mk hdy
 have HS := Aside0.mk (SubRow.start (cs.take m) ys m)
 have HLT := Aside0.mk (show (cs.take m).length = m by rw [List.length_take]; omega)
 have HZ := Aside0.mk hz
 have hli : (m : Int) ≤ 1000000 := by omega
 clear hyc hl hl2 hdx hdy hz hlm hne
 go_enter Tryz.func133, Tryz.ntmps133
 go_wp2
 go_loopg [6, 25] m (fun gg v8 v19 w' => ∃ (out : List Int) (c i : Int), v8 = .int .u64 c ∧ v19 = .int .i64 i ∧ SubRow (cs.take m) ys m out c i ∧ Aside0 (i + (gg : Int) = m) ∧ Aside0 (Buf w' g (out ++ cs.drop i.toNat)) ∧ Aside0 (KeptB w w' g))
 case atStart => exact ⟨[], 0, 0, rfl, rfl, HS.out, ⟨by simp⟩, ⟨by simpa using HZ.out⟩, ⟨KeptB.refl _ _⟩⟩
 case round =>
   clear HS
   obtain ⟨out, c, i, rfl, rfl, HI, HG, HB, HK⟩ := hrel
   obtain ⟨i0, i1, hlo, c0, c1⟩ := HI.bound
   have HLO := Aside0.mk hlo
   clear hlo
   by_cases hi : i < (m : Int)
   · have hx := W64.dig_rd HDX.out i
     have hyr := W64.dig_rd HDY.out i
     have hcy : wr.cell? ⟨gy, i.toNat, none⟩ = some (.int .u64 (rd ys i)) := by
       have hin : ((i.toNat : Nat) : Int) = i := by omega
       have := KeptB.cell HK.out HO.out.2.2 (HY.out i.toNat (by omega))
       rwa [hin] at this
     have hcx : wr.cell? ⟨g, i.toNat, none⟩ = some (.int .u64 (rd (cs.take m) i)) := by
       have hin : ((i.toNat : Nat) : Int) = i := by omega
       have hrt := rd_take (cs := cs) (m := m) (k := i.toNat) (by omega) HO.out.1
       rw [hin] at hrt
       rw [hrt]
       have h1 := HB.out.cell (j := i.toNat) (by have := HO.out.1; have := HLO.out; simp; omega)
       have h2 := rd_mid (out := out) (cs := cs) (k := i.toNat) (by have := HLO.out; omega) (by have := HO.out.1; omega)
       rwa [h2, hin] at h1
     have hst := HI.step HDX.out HDY.out (Nat.le_of_eq HLT.out.symm) HO.out.2.1 (by omega)
     have hput := HB.out.drew.put i.toNat ((rd (cs.take m) i - rd ys i - c) % 18446744073709551616)
     rw [set_mid (by have := HLO.out; omega) (by have := HO.out.1; omega)] at hput
     have hfz := HB.out.frozen i.toNat
     have hadd := Sub_n (rd (cs.take m) i) (rd ys i) c ⟨hx.1, hx.2⟩ ⟨hyr.1, hyr.2⟩ c0 c1
     have HST := Aside0.mk hst
     have HP := Aside0.mk hput
     have HA := Aside0.mk hadd
     clear HI hst hput hadd c0 c1
     generalize (rd (cs.take m) i - rd ys i - c) % 18446744073709551616 = z0 at *
     generalize -((rd (cs.take m) i - rd ys i - c) / 18446744073709551616) = z1 at *
     generalize rd (cs.take m) i = x at *
     generalize rd ys i = y at *
     go_wp2_with fail
     refine st (n := 15) (S := fun w' => w'.cell? ⟨gy, i.toNat, none⟩ = some (.int .u64 y) ∧ w'.cell? ⟨g, i.toNat, none⟩ = some (.int .u64 x)) (ds := []) rfl (⟨by simpa using hcy, by simpa using hcx⟩) (fun hHeld => ?_)
     refine pu 0 (some 29) rfl rfl ?_
     refine pu 1 (some 30) rfl rfl ?_
     refine pu 2 (some 31) rfl rfl ?_
     refine tk 3 (some 32) rfl rfl hHeld ?_ (by (rintro w' ⟨s0, s1⟩; go_simp; with_reducible rfl))
     refine pu 4 (some 33) rfl rfl ?_
     refine pu 5 (some 34) rfl rfl ?_
     refine pu 6 (some 35) rfl rfl ?_
     refine tk 7 (some 36) rfl rfl hHeld ?_ (by (rintro w' ⟨s0, s1⟩; go_simp; with_reducible rfl))
     refine pu 8 (some 37) rfl rfl ?_
     refine on 9 (some 38) rfl rfl (fun K hK => ?_)
     refine goes_ Tryz.func134 (by kernel_rfl) rfl #[.int .u64 x, .int .u64 y, .int .u64 c] (by rfl) rfl rfl (by (try simp only [List.map_toArray, List.map_cons, List.map_nil]); first | done | rfl) ?_
     refine (HA.out _).mono ?_
     rintro e w1 ⟨rfl, rfl⟩
     refine ⟨_, rfl, ?_⟩
     refine hK.out _ _ (hHeld) (fun hHeld => ?_)
     clear hK K
     refine nm ?_
     refine pu 10 (some 28) rfl rfl ?_
     refine pu 11 (some 39) rfl rfl ?_
     refine pu 12 (some 40) rfl rfl ?_
     refine pu 13 (some 8) rfl rfl ?_
     refine pu 14 (some 9) rfl rfl ?_
     refine done_ (by kernel_rfl) ?_
     go_wp2
     go_roundg (gk - 1)
     case measure => have := HG.out; omega
     case rel => exact ⟨_, z1, i + 1, rfl, rfl, HST.out, ⟨by have := HG.out; omega⟩, ⟨by rw [show (i + 1).toNat = i.toNat + 1 by omega]; exact HP.out⟩, ⟨HK.out.drew.set _⟩⟩
   · obtain ⟨e1, e2, e3⟩ := HI.done (by omega)
     have HE := Aside0.mk (And.intro e1 (And.intro e2 e3))
     clear HI e1 e2 e3
     go_wp2
     go_ret
     obtain ⟨e1, e2, e3, e5, e4⟩ := HE.out
     rw [List.take_take, Nat.min_self] at e4
     refine ⟨out, c, rfl, e3, e5, e1, e2, e4, ?_, HK.out⟩
     have := HB.out
     rwa [show i.toNat = m by omega] at this
set_option maxHeartbeats 1000000 in
theorem subVV_n (g gy m cz cx cy : Nat) (cs ys : List Int) (w : World) (hz : Buf w g cs) (hl : m ≤ cs.length) (hl2 : m ≤ ys.length) (hlm : m ≤ 1000000) (hdx : W64.Dig (cs.take m)) (hdy : W64.Dig ys) (hne : gy ≠ g)
   (hyc : ∀ i : Nat, i < m → w.cell? ⟨gy, i, none⟩ = some (.int .u64 (rd ys (i : Int)))) :
   Calls Tryz.prog 119 #[.slice (some ⟨g, 0, none⟩) m cz, .slice (some ⟨g, 0, none⟩) m cx, .slice (some ⟨gy, 0, none⟩) m cy] w fun e w' => ∃ out c, e = .returned (.int .u64 c) ∧ 0 ≤ c ∧ c ≤ 1 ∧ out.length = m ∧ W64.Dig out ∧ W64.val out + W64.val (ys.take m) = W64.val (cs.take m) + c * 18446744073709551616 ^ m ∧ Buf w' g (out ++ cs.drop m) ∧ KeptB w w' g := by
 have HM := Aside0.mk (subVV_g_n g gy m cz cx cy cs ys w hz hl hl2 hlm hdx hdy hne hyc)
 clear hz hl hl2 hlm hdx hdy hne hyc
 go_enter Tryz.func119, Tryz.ntmps119
 go_wp2_with (go_at_call 133; refine HM.out.mono ?_; rintro e w1 ⟨out, c, rfl, h⟩; have HH := Aside0.mk h; clear h)
 go_ret
 exact ⟨out, c, rfl, HH.out⟩
theorem _root_.Go.Proofs.YteohmbannpbokaaGreatDoor.BigWalk.Blk.drew {w : World} {g : Nat} (h : Blk w g) : Blk w.drew g := ⟨h.out⟩
theorem run_eq_same (a : Addr) (w : World) : (binOp .eql 128 (.pointer (some a)) (.pointer (some a))).run Tryz.prog w = .ok (.bool true) w := by
 obtain ⟨j, hj, hs⟩ := Option.map_eq_some_iff.1 sizeW
 exact run_eql_ptr_same w a Tryz.underlying128 hj
theorem run_eq_other (w : World) {g g2 j k : Nat} (hne : g ≠ g2) (h1 : Blk w g) (h2 : Blk w g2) : (binOp .eql 128 (.pointer (some ⟨g, j, none⟩)) (.pointer (some ⟨g2, k, none⟩))).run Tryz.prog w = .ok (.bool false) w := by
 obtain ⟨i, hi, hs⟩ := Option.map_eq_some_iff.1 sizeW
 obtain ⟨ca, ta, ha⟩ := h1.out
 obtain ⟨cb, tb, hb⟩ := h2.out
 exact run_eql_ptr_other w Tryz.underlying128 hi (by rw [hs]; decide) (by simp [hne]) ha hb
set_option maxHeartbeats 2000000 in
theorem alias_other (g g2 l l2 c c2 : Nat) (w : World) (h1 : Blk w g) (h2 : Blk w g2) (hne : g ≠ g2) (hl : l ≤ c) (hl2 : l2 ≤ c2) (hc : 0 < c) (hc2 : 0 < c2) (hcm : c ≤ 1000000) (hcm2 : c2 ≤ 1000000) :
   Calls Tryz.prog 66 #[.slice (some ⟨g, 0, none⟩) l c, .slice (some ⟨g2, 0, none⟩) l2 c2] w fun e w' => e = .returned (.bool false) ∧ w' = w.drew := by
 have p1 : 0 < (c : Int) := by omega
 have p2 : 0 < (c2 : Int) := by omega
 have p3 : (c : Int) ≤ 1000000 := by omega
 have p4 : (c2 : Int) ≤ 1000000 := by omega
 have q1 : decide (0 < c) = true := decide_eq_true hc
 have q2 : decide (0 < c2) = true := decide_eq_true hc2
 have p5 : 1 ≤ (c : Int) := by omega
 have p6 : 1 ≤ (c2 : Int) := by omega
 have w1 : wrap64 ((c : Int) - 1) = (c : Int) - 1 := by unfold wrap64; omega
 have w2 : wrap64 ((c2 : Int) - 1) = (c2 : Int) - 1 := by unfold wrap64; omega
 have b1 : 0 ≤ (c : Int) - 1 ∧ (c : Int) - 1 < (c : Int) := by omega
 have b2 : 0 ≤ (c2 : Int) - 1 ∧ (c2 : Int) - 1 < (c2 : Int) := by omega
 have HE := Aside0.mk (fun (w : World) (h1 : Blk w g) (h2 : Blk w g2) (j k : Nat) => run_eq_other w (j := j) (k := k) hne h1 h2)
 have HB1 := Aside0.mk h1
 have HB2 := Aside0.mk h2
 clear h1 h2 hne hl hl2 hc hc2 hcm hcm2
 go_enter Tryz.func66, Tryz.ntmps66
 go_wp2_with fail
 refine st (n := 28) (S := fun w' => Blk w' g ∧ Blk w' g2) (ds := []) rfl (⟨HB1.out.drew, HB2.out.drew⟩) (fun hHeld => ?_)
 refine pu 0 (some 5) rfl rfl ?_
 refine pu 1 (some 6) rfl rfl ?_
 refine pu 2 (some 7) rfl rfl ?_ (hr := by (intro w'; go_simp; (try simp only [q1]); with_reducible rfl))
 refine pu 3 (some 8) rfl rfl ?_
 refine pu 4 (some 9) rfl rfl ?_
 refine pu 5 (some 10) rfl rfl ?_
 refine pu 6 (some 11) rfl rfl ?_ (hr := by (intro w'; go_simp; (try simp only [q2]); with_reducible rfl))
 refine pu 7 (some 12) rfl rfl ?_
 refine pu 8 (some 13) rfl rfl ?_
 refine pu 9 (some 14) rfl rfl ?_
 refine pu 10 (some 15) rfl rfl ?_
 refine pu 11 (some 16) rfl rfl ?_
 refine pu 12 (some 17) rfl rfl ?_
 refine pu 13 (some 18) rfl rfl ?_
 refine pu 14 (some 19) rfl rfl ?_
 refine pu 15 (some 20) rfl rfl ?_ (hr := by (intro w'; go_simp; (try simp only [w1]); with_reducible rfl))
 refine pu 16 (some 21) rfl rfl ?_ (hr := by (intro w'; go_simp; (try simp only [if_pos b1]); with_reducible rfl))
 refine pu 17 (some 22) rfl rfl ?_
 refine pu 18 (some 23) rfl rfl ?_
 refine pu 19 (some 24) rfl rfl ?_
 refine pu 20 (some 25) rfl rfl ?_
 refine pu 21 (some 26) rfl rfl ?_
 refine pu 22 (some 27) rfl rfl ?_
 refine pu 23 (some 28) rfl rfl ?_ (hr := by (intro w'; go_simp; (try simp only [w2]); with_reducible rfl))
 refine pu 24 (some 29) rfl rfl ?_ (hr := by (intro w'; go_simp; (try simp only [if_pos b2]); with_reducible rfl))
 refine tk 25 (some 30) rfl rfl hHeld ?_ (by (rintro w' ⟨s0, s1⟩; have he := HE.out w' s0 s1 (c - 1) (c2 - 1); go_simp; with_reducible rfl))
 refine pu 26 (some 31) rfl rfl ?_
 refine pu 27 (some 4) rfl rfl ?_
 refine done_ (by kernel_rfl) ?_
 go_wp2
 go_ret
 exact ⟨rfl, rfl⟩
set_option maxHeartbeats 2000000 in
theorem alias_same (g l l2 c : Nat) (w : World) (hl : l ≤ c) (hl2 : l2 ≤ c) (hc : 0 < c) (hcm : c ≤ 1000000) :
   Calls Tryz.prog 66 #[.slice (some ⟨g, 0, none⟩) l c, .slice (some ⟨g, 0, none⟩) l2 c] w fun e w' => e = .returned (.bool true) ∧ w' = w.drew := by
 have p1 : 0 < (c : Int) := by omega
 have p3 : (c : Int) ≤ 1000000 := by omega
 have q1 : decide (0 < c) = true := decide_eq_true hc
 have p5 : 1 ≤ (c : Int) := by omega
 have w1 : wrap64 ((c : Int) - 1) = (c : Int) - 1 := by unfold wrap64; omega
 have b1 : 0 ≤ (c : Int) - 1 ∧ (c : Int) - 1 < (c : Int) := by omega
 have HE := Aside0.mk (fun (w : World) (j : Nat) => run_eq_same ⟨g, j, none⟩ w)
 clear hl hl2 hc hcm
 go_enter Tryz.func66, Tryz.ntmps66
 go_wp2_with fail
 refine st (n := 28) (S := fun w' => True) (ds := []) rfl (trivial) (fun hHeld => ?_)
 refine pu 0 (some 5) rfl rfl ?_
 refine pu 1 (some 6) rfl rfl ?_
 refine pu 2 (some 7) rfl rfl ?_ (hr := by (intro w'; go_simp; (try simp only [q1]); with_reducible rfl))
 refine pu 3 (some 8) rfl rfl ?_
 refine pu 4 (some 9) rfl rfl ?_
 refine pu 5 (some 10) rfl rfl ?_
 refine pu 6 (some 11) rfl rfl ?_ (hr := by (intro w'; go_simp; (try simp only [q1]); with_reducible rfl))
 refine pu 7 (some 12) rfl rfl ?_
 refine pu 8 (some 13) rfl rfl ?_
 refine pu 9 (some 14) rfl rfl ?_
 refine pu 10 (some 15) rfl rfl ?_
 refine pu 11 (some 16) rfl rfl ?_
 refine pu 12 (some 17) rfl rfl ?_
 refine pu 13 (some 18) rfl rfl ?_
 refine pu 14 (some 19) rfl rfl ?_
 refine pu 15 (some 20) rfl rfl ?_ (hr := by (intro w'; go_simp; (try simp only [w1]); with_reducible rfl))
 refine pu 16 (some 21) rfl rfl ?_ (hr := by (intro w'; go_simp; (try simp only [if_pos b1]); with_reducible rfl))
 refine pu 17 (some 22) rfl rfl ?_
 refine pu 18 (some 23) rfl rfl ?_
 refine pu 19 (some 24) rfl rfl ?_
 refine pu 20 (some 25) rfl rfl ?_
 refine pu 21 (some 26) rfl rfl ?_
 refine pu 22 (some 27) rfl rfl ?_
 refine pu 23 (some 28) rfl rfl ?_ (hr := by (intro w'; go_simp; (try simp only [w1]); with_reducible rfl))
 refine pu 24 (some 29) rfl rfl ?_ (hr := by (intro w'; go_simp; (try simp only [if_pos b1]); with_reducible rfl))
 refine tk 25 (some 30) rfl rfl hHeld ?_ (by (rintro w' _; have he := HE.out w' (c - 1); go_simp; with_reducible rfl))
 refine pu 26 (some 31) rfl rfl ?_
 refine pu 27 (some 4) rfl rfl ?_
 refine done_ (by kernel_rfl) ?_
 go_wp2
 go_ret
 exact ⟨rfl, rfl⟩
theorem zeroW (w : World) : (zeroValue 89).run Tryz.prog w = .ok (.int .u64 0) w := by
 obtain ⟨i0, hi, hzz⟩ := Option.map_eq_some_iff.1 infoW
 simp only [Prod.mk.injEq] at hzz
 simp [zeroValue, typeInfo, hi, hzz.1]
theorem Buf.puts {g : Nat} {post : List Int} : ∀ (ys xs pre : List Int) (w : World), ys.length = xs.length → Buf w g (pre ++ (xs ++ post)) → Buf (w.setCells g pre.length (nums .u64 ys)) g (pre ++ (ys ++ post))
 | [], [], pre, w, _, h => h
 | [], x :: xs, _, _, h, _ => absurd h (by simp)
 | y :: ys, [], _, _, h, _ => absurd h (by simp)
 | y :: ys, x :: xs, pre, w, hl, h => by
   have h1 := h.put pre.length y
   have e1 : (pre ++ (x :: xs ++ post)).set pre.length y = (pre ++ [y]) ++ (xs ++ post) := by simp
   rw [e1] at h1
   have h2 := Buf.puts ys xs (pre ++ [y]) _ (by simpa using hl) h1
   have e2 : (pre ++ [y]).length = pre.length + 1 := by simp
   rw [e2] at h2
   have e3 : (pre ++ [y]) ++ (ys ++ post) = pre ++ (y :: ys ++ post) := by simp
   rw [e3] at h2
   exact h2
theorem kept_puts {w0 : World} {g : Nat} : ∀ (vs : List Value) (o : Nat) (w : World), KeptB w0 w g → KeptB w0 (w.setCells g o vs) g
 | [], _, _, h => h
 | v :: vs, o, w, h => kept_puts vs (o + 1) _ (h.set v)
theorem run_clear (w : World) (g n c : Nat) (pre xs post : List Int) (hz : Buf w g (pre ++ (xs ++ post))) (hn : 0 < n) (hl : xs.length = n) (ty : TypeId) :
   (Builtin.clear_ #[57] ty #[.slice (some ⟨g, pre.length, none⟩) n c]).run Tryz.prog w = .ok (.tuple #[]) (w.setCells g pre.length (nums .u64 (List.replicate n 0))) := by
 have h := Lib.run_clear_slice (P := Tryz.prog) w 57 89 ty (.int .u64 0) Tryz.underlying57 zeroW rfl rfl g pre.length n c hn (fun j hj => by rw [hz.cell (by simp; omega)]; rfl) (fun j hj => hz.frozen _)
 rw [h]
 simp [nums]
theorem run_neq_same (a : Addr) (w : World) : (binOp .neq 128 (.pointer (some a)) (.pointer (some a))).run Tryz.prog w = .ok (.bool false) w := by
 obtain ⟨j, hj, hs⟩ := Option.map_eq_some_iff.1 sizeW
 exact Lib.run_neq_ptr_same (P := Tryz.prog) w a Tryz.underlying128 hj
theorem mid_put {pre out xs post : List Int} {o k : Nat} (ho : pre.length = o) (hl : out.length = k) (hk : k < xs.length) (v : Int) : (pre ++ ((out ++ xs.drop k) ++ post)).set (o + k) v = pre ++ ((out ++ [v] ++ xs.drop (k + 1)) ++ post) := by
 rw [mid_set ho (by simp; omega), set_mid hl hk]
theorem mid_get {pre out xs post : List Int} {o k : Nat} (ho : pre.length = o) (hl : out.length = k) (hk : k < xs.length) : rd (pre ++ ((out ++ xs.drop k) ++ post)) ((o + k : Nat) : Int) = rd xs (k : Int) := by
 rw [mid_rd ho (by simp; omega), rd_mid hl hk]
set_option maxHeartbeats 4000000 in
set_option maxRecDepth 100000 in
theorem addVW_n (g o cz cx : Nat) (pre xs post : List Int) (y : Int) (w : World) (hz : Buf w g (pre ++ (xs ++ post))) (ho : pre.length = o) (hm0 : 0 < xs.length) (hlm : xs.length ≤ 1000000) (hd : W64.Dig xs) (hy0 : 0 ≤ y) (hy1 : y ≤ 1) :
   Calls Tryz.prog 118 #[.slice (some ⟨g, o, none⟩) xs.length cz, .slice (some ⟨g, o, none⟩) xs.length cx, .int .u64 y] w fun e w' => ∃ out c, e = .returned (.int .u64 c) ∧ 0 ≤ c ∧ c ≤ 1 ∧ out.length = xs.length ∧ W64.Dig out ∧ W64.val out + c * 18446744073709551616 ^ xs.length = W64.val xs + y ∧ Buf w' g (pre ++ (out ++ post)) ∧ KeptB w w' g := by
 have hb := W64.dig_rd hd 0
 have hadd := Add_n (rd xs 0) y 0 hb.1 hy0 (by decide) (by decide)
 have e0 : rd xs 0 + y + 0 = rd xs 0 + y := by omega
 rw [e0] at hadd
 have hc0 : w.cell? ⟨g, o, none⟩ = some (.int .u64 (rd xs 0)) := by
   have h1 := hz.cell (j := o + 0) (by simp; omega)
   have h2 := mid_get (k := 0) (out := []) (post := post) (xs := xs) ho rfl hm0
   simp only [List.nil_append, List.drop_zero] at h2
   rw [h2] at h1
   exact h1
 have hfz := hz.frozen o
 have HNE := fun (a : Addr) (w : World) => run_neq_same a w
 have hput := hz.put (o + 0) ((rd xs 0 + y) % 18446744073709551616)
 have hmp := mid_put (k := 0) (out := []) (post := post) (xs := xs) ho rfl hm0 ((rd xs 0 + y) % 18446744073709551616)
 simp only [List.nil_append, List.drop_zero, Nat.zero_add] at hmp
 rw [hmp, Nat.add_zero] at hput
 have HP := Aside0.mk hput
 have hli : (xs.length : Int) ≤ 1000000 := by omega
 have hl0 : 0 < (xs.length : Int) := by omega
 have hl1 : 1 ≤ (xs.length : Int) := by omega
 have hne : ((xs.length : Int) == 0) = false := beq_eq_false_iff_ne.mpr (by omega)
 have hmN : 0 < xs.length := hm0
 have HZ := Aside0.mk (And.intro ho (And.intro hlm (And.intro hm0 (And.intro hd (And.intro hy0 hy1)))))
 by_cases hc : (rd xs 0 + y) / 18446744073709551616 = 0
 · have HQ := Aside0.mk (Inc.quick hm0 hd hy0 hy1 hc)
   rw [hc] at hadd
   have HA := Aside0.mk hadd
   clear hz hput hmp hadd hc hm0 hlm hd hy0 hy1 ho e0 hb
   generalize (rd xs 0 + y) % 18446744073709551616 = z0 at *
   generalize rd xs 0 = x0 at *
   generalize hm : xs.length = m at *
   have HM := Aside0.mk hm
   clear hm
   go_enter Tryz.func118, Tryz.ntmps118
   go_wp2_with (go_at_call 132; refine (HA.out _).mono ?_; rintro e w1 ⟨rfl, rfl⟩)
   refine st (n := 5) (S := fun _ => True) (ds := []) rfl (trivial) (fun hHeld => ?_)
   refine pu 0 (some 34) rfl rfl ?_
   refine pu 1 (some 35) rfl rfl ?_ (hr := by (intro w'; go_simp; (try simp only [if_pos hmN]); with_reducible rfl))
   refine pu 2 (some 36) rfl rfl ?_
   refine pu 3 (some 37) rfl rfl ?_ (hr := by (intro w'; go_simp; (try simp only [if_pos hmN]); with_reducible rfl))
   refine pu 4 (some 38) rfl rfl ?_ (hr := by (intro w'; go_simp; (try simp only [HNE]); with_reducible rfl))
   refine done_ (by kernel_rfl) ?_
   go_wp2
   go_ret
   refine ⟨_, 0, rfl, by decide, by decide, HQ.out.1, HQ.out.2.1, ?_, HP.out.drew, ((KeptB.refl _ _).set _).drew⟩
   have := HQ.out.2.2
   simpa using this
 · have HS := Aside0.mk (Inc.start hm0 hd hy0 hy1 hc)
   have hcb : (rd xs 0 + y) / 18446744073709551616 = 1 := by have := HZ.out; omega
   rw [hcb] at hadd
   have HA := Aside0.mk hadd
   clear hz hput hmp hadd hc hcb hm0 hlm hd hy0 hy1 ho e0 hb
   generalize (rd xs 0 + y) % 18446744073709551616 = z0 at *
   generalize rd xs 0 = x0 at *
   generalize hm : xs.length = m at *
   have HM := Aside0.mk hm
   clear hm
   go_enter Tryz.func118, Tryz.ntmps118
   go_wp2_with (go_at_call 132; refine (HA.out _).mono ?_; rintro e w1 ⟨rfl, rfl⟩)
   go_loopg [9] m (fun gg v9 w' => ∃ (out : List Int) (i : Int), v9 = .int .i64 i ∧ (1 ≤ i ∧ i ≤ m) ∧ Aside0 (Inc xs y out i.toNat) ∧ Aside0 (i + (gg : Int) = m + 1) ∧ Aside0 (Buf w' g (pre ++ ((out ++ xs.drop i.toNat) ++ post))) ∧ Aside0 (KeptB w1 w' g))
   case atStart => exact ⟨_, 1, rfl, (by omega), HS, ⟨by omega⟩, HP, ⟨(KeptB.refl _ _).set _⟩⟩
   case round =>
     clear HS HA HP hc0 hfz
     obtain ⟨out, i, rfl, ⟨i0, i1⟩, HI, HG, HB, HK⟩ := hrel
     by_cases hi : i < (m : Int)
     · have hlt : i.toNat < xs.length := by have := HM.out; omega
       have hx := W64.dig_rd HZ.out.2.2.2.1 i
       have hci : wr.cell? ⟨g, o + i.toNat, none⟩ = some (.int .u64 (rd xs i)) := by
         have h1 := HB.out.cell (j := o + i.toNat) (by have := HI.out.len; have := HZ.out.1; simp; omega)
         rw [mid_get HZ.out.1 HI.out.len hlt, show ((i.toNat : Nat) : Int) = i by omega] at h1
         exact h1
       have hfz := HB.out.frozen (o + i.toNat)
       by_cases hxf : rd xs i = 18446744073709551615
       · have hst := HI.out.step hlt (by rw [show ((i.toNat : Nat) : Int) = i by omega]; exact hxf)
         have hput := HB.out.put (o + i.toNat) 0
         rw [mid_put HZ.out.1 HI.out.len hlt] at hput
         rw [hxf] at hci
         have HST := Aside0.mk hst
         have HP := Aside0.mk hput
         clear hst hput hxf hx hlt
         go_wp2
         go_roundg (gk - 1)
         case measure => have := HG.out; omega
         case rel => exact ⟨_, i + 1, rfl, (by omega), ⟨by rw [show (i + 1).toNat = i.toNat + 1 by omega]; exact HST.out⟩, ⟨by have := HG.out; omega⟩, ⟨by rw [show (i + 1).toNat = i.toNat + 1 by omega]; exact HP.out⟩, ⟨HK.out.set _⟩⟩
       · have hst := HI.out.stop hlt HZ.out.2.2.2.1 (by rw [show ((i.toNat : Nat) : Int) = i by omega]; exact hxf)
         rw [show ((i.toNat : Nat) : Int) = i by omega] at hst
         have hwr : IntKind.u64.wrap (rd xs i + 1) = rd xs i + 1 := by rw [u64_w]; omega
         have hput := HB.out.put (o + i.toNat) (rd xs i + 1)
         rw [mid_put HZ.out.1 HI.out.len hlt] at hput
         have HST := Aside0.mk hst
         have HP := Aside0.mk hput
         have hbq : (rd xs i == 18446744073709551615) = false := beq_eq_false_iff_ne.mpr hxf
         clear hst hput hxf hx hlt
         generalize rd xs i = x at *
         go_wp2
         refine st (n := 5) (S := fun _ => True) (ds := []) rfl (trivial) (fun hHeld => ?_)
         refine pu 0 (some 61) rfl rfl ?_
         refine pu 1 (some 62) rfl rfl ?_ (hr := by (intro w'; go_simp; (try simp only [if_pos hmN]); with_reducible rfl))
         refine pu 2 (some 63) rfl rfl ?_
         refine pu 3 (some 64) rfl rfl ?_ (hr := by (intro w'; go_simp; (try simp only [if_pos hmN]); with_reducible rfl))
         refine pu 4 (some 65) rfl rfl ?_ (hr := by (intro w'; go_simp; (try simp only [HNE]); with_reducible rfl))
         refine done_ (by kernel_rfl) ?_
         go_wp2
         go_ret
         refine ⟨_, 0, rfl, by decide, by decide, HST.out.1.trans HM.out, HST.out.2.1, ?_, HP.out.drew, (HK.out.set _).drew⟩
         have := HST.out.2.2
         simpa using this
     · obtain rfl : i = (m : Int) := by omega
       have HD := HI.out
       have hmx := HM.out
       rw [Int.toNat_natCast, ← hmx] at HD
       have HE := Aside0.mk HD.done
       clear HD
       go_wp2
       go_ret
       refine ⟨out, 1, rfl, by decide, by decide, by rw [← hmx]; exact HE.out.1, HE.out.2.1, by rw [← hmx]; exact HE.out.2.2, ?_, HK.out⟩
       have := HB.out
       rwa [Int.toNat_natCast, ← hmx, List.drop_length, List.append_nil] at this
set_option maxHeartbeats 4000000 in
set_option maxRecDepth 100000 in
theorem subVW_n (g o cz cx : Nat) (pre xs post : List Int) (y : Int) (w : World) (hz : Buf w g (pre ++ (xs ++ post))) (ho : pre.length = o) (hm0 : 0 < xs.length) (hlm : xs.length ≤ 1000000) (hd : W64.Dig xs) (hy0 : 0 ≤ y) (hy1 : y ≤ 1) :
   Calls Tryz.prog 120 #[.slice (some ⟨g, o, none⟩) xs.length cz, .slice (some ⟨g, o, none⟩) xs.length cx, .int .u64 y] w fun e w' => ∃ out c, e = .returned (.int .u64 c) ∧ 0 ≤ c ∧ c ≤ 1 ∧ out.length = xs.length ∧ W64.Dig out ∧ W64.val out + y = W64.val xs + c * 18446744073709551616 ^ xs.length ∧ Buf w' g (pre ++ (out ++ post)) ∧ KeptB w w' g := by
 have hb := W64.dig_rd hd 0
 have hadd := Sub_n (rd xs 0) y 0 ⟨hb.1, hb.2⟩ ⟨hy0, by omega⟩ (by decide) (by decide)
 have e0 : rd xs 0 - y - 0 = rd xs 0 - y := by omega
 rw [e0] at hadd
 have hc0 : w.cell? ⟨g, o, none⟩ = some (.int .u64 (rd xs 0)) := by
   have h1 := hz.cell (j := o + 0) (by simp; omega)
   have h2 := mid_get (k := 0) (out := []) (post := post) (xs := xs) ho rfl hm0
   simp only [List.nil_append, List.drop_zero] at h2
   rw [h2] at h1
   exact h1
 have hfz := hz.frozen o
 have HNE := fun (a : Addr) (w : World) => run_neq_same a w
 have hput := hz.put (o + 0) ((rd xs 0 - y) % 18446744073709551616)
 have hmp := mid_put (k := 0) (out := []) (post := post) (xs := xs) ho rfl hm0 ((rd xs 0 - y) % 18446744073709551616)
 simp only [List.nil_append, List.drop_zero, Nat.zero_add] at hmp
 rw [hmp, Nat.add_zero] at hput
 have HP := Aside0.mk hput
 have hli : (xs.length : Int) ≤ 1000000 := by omega
 have hl0 : 0 < (xs.length : Int) := by omega
 have hl1 : 1 ≤ (xs.length : Int) := by omega
 have hne : ((xs.length : Int) == 0) = false := beq_eq_false_iff_ne.mpr (by omega)
 have hmN : 0 < xs.length := hm0
 have HZ := Aside0.mk (And.intro ho (And.intro hlm (And.intro hm0 (And.intro hd (And.intro hy0 hy1)))))
 by_cases hc : (rd xs 0 - y) / 18446744073709551616 = 0
 · have HQ := Aside0.mk (Dec.quick hm0 hd hy0 hy1 hc)
   rw [hc] at hadd
   have HA := Aside0.mk hadd
   clear hz hput hmp hadd hc hm0 hlm hd hy0 hy1 ho e0 hb
   generalize (rd xs 0 - y) % 18446744073709551616 = z0 at *
   generalize rd xs 0 = x0 at *
   generalize hm : xs.length = m at *
   have HM := Aside0.mk hm
   clear hm
   go_enter Tryz.func120, Tryz.ntmps120
   go_wp2_with (go_at_call 134; refine (HA.out _).mono ?_; rintro e w1 ⟨rfl, rfl⟩)
   refine st (n := 5) (S := fun _ => True) (ds := []) rfl (trivial) (fun hHeld => ?_)
   refine pu 0 (some 34) rfl rfl ?_
   refine pu 1 (some 35) rfl rfl ?_ (hr := by (intro w'; go_simp; (try simp only [if_pos hmN]); with_reducible rfl))
   refine pu 2 (some 36) rfl rfl ?_
   refine pu 3 (some 37) rfl rfl ?_ (hr := by (intro w'; go_simp; (try simp only [if_pos hmN]); with_reducible rfl))
   refine pu 4 (some 38) rfl rfl ?_ (hr := by (intro w'; go_simp; (try simp only [HNE]); with_reducible rfl))
   refine done_ (by kernel_rfl) ?_
   go_wp2
   go_ret
   refine ⟨_, 0, rfl, by decide, by decide, HQ.out.1, HQ.out.2.1, ?_, HP.out.drew, ((KeptB.refl _ _).set _).drew⟩
   have := HQ.out.2.2
   simpa using this
 · have HS := Aside0.mk (Dec.start hm0 hd hy0 hy1 hc)
   have hcb : (rd xs 0 - y) / 18446744073709551616 = -1 := by have := HZ.out; omega
   rw [hcb] at hadd
   have HA := Aside0.mk hadd
   clear hz hput hmp hadd hc hcb hm0 hlm hd hy0 hy1 ho e0 hb
   generalize (rd xs 0 - y) % 18446744073709551616 = z0 at *
   generalize rd xs 0 = x0 at *
   generalize hm : xs.length = m at *
   have HM := Aside0.mk hm
   clear hm
   go_enter Tryz.func120, Tryz.ntmps120
   go_wp2_with (go_at_call 134; refine (HA.out _).mono ?_; rintro e w1 ⟨rfl, rfl⟩)
   go_loopg [9] m (fun gg v9 w' => ∃ (out : List Int) (i : Int), v9 = .int .i64 i ∧ (1 ≤ i ∧ i ≤ m) ∧ Aside0 (Dec xs y out i.toNat) ∧ Aside0 (i + (gg : Int) = m + 1) ∧ Aside0 (Buf w' g (pre ++ ((out ++ xs.drop i.toNat) ++ post))) ∧ Aside0 (KeptB w1 w' g))
   case atStart => exact ⟨_, 1, rfl, (by omega), HS, ⟨by omega⟩, HP, ⟨(KeptB.refl _ _).set _⟩⟩
   case round =>
     clear HS HA HP hc0 hfz
     obtain ⟨out, i, rfl, ⟨i0, i1⟩, HI, HG, HB, HK⟩ := hrel
     by_cases hi : i < (m : Int)
     · have hlt : i.toNat < xs.length := by have := HM.out; omega
       have hx := W64.dig_rd HZ.out.2.2.2.1 i
       have hci : wr.cell? ⟨g, o + i.toNat, none⟩ = some (.int .u64 (rd xs i)) := by
         have h1 := HB.out.cell (j := o + i.toNat) (by have := HI.out.len; have := HZ.out.1; simp; omega)
         rw [mid_get HZ.out.1 HI.out.len hlt, show ((i.toNat : Nat) : Int) = i by omega] at h1
         exact h1
       have hfz := HB.out.frozen (o + i.toNat)
       by_cases hxf : rd xs i = 0
       · have hst := HI.out.step hlt (by rw [show ((i.toNat : Nat) : Int) = i by omega]; exact hxf)
         have hput := HB.out.put (o + i.toNat) 18446744073709551615
         rw [mid_put HZ.out.1 HI.out.len hlt] at hput
         rw [hxf] at hci
         have HST := Aside0.mk hst
         have HP := Aside0.mk hput
         clear hst hput hxf hx hlt
         go_wp2
         go_roundg (gk - 1)
         case measure => have := HG.out; omega
         case rel => exact ⟨_, i + 1, rfl, (by omega), ⟨by rw [show (i + 1).toNat = i.toNat + 1 by omega]; exact HST.out⟩, ⟨by have := HG.out; omega⟩, ⟨by rw [show (i + 1).toNat = i.toNat + 1 by omega]; exact HP.out⟩, ⟨HK.out.set _⟩⟩
       · have hst := HI.out.stop hlt HZ.out.2.2.2.1 (by rw [show ((i.toNat : Nat) : Int) = i by omega]; exact hxf)
         rw [show ((i.toNat : Nat) : Int) = i by omega] at hst
         have hwr : IntKind.u64.wrap (rd xs i - 1) = rd xs i - 1 := by rw [u64_w]; omega
         have hput := HB.out.put (o + i.toNat) (rd xs i - 1)
         rw [mid_put HZ.out.1 HI.out.len hlt] at hput
         have HST := Aside0.mk hst
         have HP := Aside0.mk hput
         have hbq : (rd xs i == 0) = false := beq_eq_false_iff_ne.mpr hxf
         clear hst hput hxf hx hlt
         generalize rd xs i = x at *
         go_wp2
         refine st (n := 5) (S := fun _ => True) (ds := []) rfl (trivial) (fun hHeld => ?_)
         refine pu 0 (some 61) rfl rfl ?_
         refine pu 1 (some 62) rfl rfl ?_ (hr := by (intro w'; go_simp; (try simp only [if_pos hmN]); with_reducible rfl))
         refine pu 2 (some 63) rfl rfl ?_
         refine pu 3 (some 64) rfl rfl ?_ (hr := by (intro w'; go_simp; (try simp only [if_pos hmN]); with_reducible rfl))
         refine pu 4 (some 65) rfl rfl ?_ (hr := by (intro w'; go_simp; (try simp only [HNE]); with_reducible rfl))
         refine done_ (by kernel_rfl) ?_
         go_wp2
         go_ret
         refine ⟨_, 0, rfl, by decide, by decide, HST.out.1.trans HM.out, HST.out.2.1, ?_, HP.out.drew, (HK.out.set _).drew⟩
         have := HST.out.2.2
         simpa using this
     · obtain rfl : i = (m : Int) := by omega
       have HD := HI.out
       have hmx := HM.out
       rw [Int.toNat_natCast, ← hmx] at HD
       have HE := Aside0.mk HD.done
       clear HD
       go_wp2
       go_ret
       refine ⟨out, 1, rfl, by decide, by decide, by rw [← hmx]; exact HE.out.1, HE.out.2.1, by rw [← hmx]; exact HE.out.2.2, ?_, HK.out⟩
       have := HB.out
       rwa [Int.toNat_natCast, ← hmx, List.drop_length, List.append_nil] at this
end Go.Proofs.YteohmbannpbokaaGreatDoor.WordWalk
