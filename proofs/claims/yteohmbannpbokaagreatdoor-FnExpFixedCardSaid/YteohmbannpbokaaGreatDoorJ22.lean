/-
 Rows of words: one times a word added to another; two added; in blocks of their own.
 Words: two multiplied; a row added to a row; a row doubled.
 Words: a row doubled where it stands.
 Rows of words: one more, one less, shifted down (plain lists).
-/
import Derived.Test.YteohmbannpbokaaGreatDoorJ01
import Derived.Test.YteohmbannpbokaaGreatDoorJ21
import Derived.Lib.EndianBits
set_option linter.unusedVariables false
set_option linter.unusedSimpArgs false
namespace Go.Proofs.YteohmbannpbokaaGreatDoor.WordWalk
open Go.RowKit Go.Proofs.YteohmbannpbokaaGreatDoorW.PrintWords Go.Proofs.YteohmbannpbokaaGreatDoorW.PrintLast Go.Proofs.YteohmbannpbokaaGreatDoorW.PrintMore Go.Proofs.YteohmbannpbokaaGreatDoor.SpecWalk Go.Proofs.YteohmbannpbokaaGreatDoor.BigWalk
theorem add64c (x y c : Int) (hx : 0 ≤ x) (hy : 0 ≤ y) (hc : 0 ≤ c) (hc1 : c ≤ 1) (w : World) : (callFunc 151 #[.int .u64 x, .int .u64 y, .int .u64 c]).run Tryz.prog w =
   .ok (.value (.tuple #[.int .u64 ((x + y + c) % 18446744073709551616), .int .u64 ((x + y + c) / 18446744073709551616)])) w := by
 rw [run_callFunc_extern (fn := Tryz.f151) (e := add64Entry) Tryz.func151 (by kernel_rfl) (by kernel_rfl) (by kernel_rfl) (by kernel_rfl), run_add64 x y c hx hy hc hc1]
 simp
theorem Add_n (x y c : Int) (hx : 0 ≤ x) (hy : 0 ≤ y) (hc : 0 ≤ c) (hc1 : c ≤ 1) (w : World) :
   Calls Tryz.prog 132 #[.int .u64 x, .int .u64 y, .int .u64 c] w fun e w' => e = .returned (.tuple #[.int .u64 ((x + y + c) % 18446744073709551616), .int .u64 ((x + y + c) / 18446744073709551616)]) ∧ w' = w := by
 have HA := Aside0.mk (fun w => add64c x y c hx hy hc hc1 w)
 clear hx hy hc hc1
 go_enter Tryz.func132, Tryz.ntmps132
 go_wp2_with (first | simp only [HA.out] | go_in)
 go_ret2
 exact ⟨rfl, rfl⟩
theorem _root_.Go.Proofs.YteohmbannpbokaaGreatDoor.BigWalk.KeptB.drew {w w' : World} {g : Nat} (h : KeptB w w' g) : KeptB w w'.drew g := ⟨h.os, h.tape, h.output, h.size, h.block⟩
structure AddMul (xs ys : List Int) (d : Int) (out : List Int) (c i : Int) : Prop where
 mk :: (out : ∃ k : Nat, i = k ∧ k ≤ xs.length ∧ out.length = k ∧ W64.Dig out ∧ 0 ≤ c ∧ c < 18446744073709551616 ∧ W64.val out + c * 18446744073709551616 ^ k = W64.val (xs.take k) + W64.val (ys.take k) * d)
theorem AddMul.start (xs ys : List Int) (d : Int) : AddMul xs ys d [] 0 0 :=
 ⟨0, rfl, Nat.zero_le _, rfl, W64.Dig.nil, by decide, by decide, by simp [W64.val]⟩
theorem AddMul.bound {xs ys : List Int} {d : Int} {out : List Int} {c i : Int} (h : AddMul xs ys d out c i) : 0 ≤ i ∧ i ≤ xs.length ∧ (out.length : Int) = i ∧ Word c := by
 obtain ⟨k, rfl, h1, h2, _, h3, h4, _⟩ := h
 exact ⟨by omega, by omega, by omega, ⟨h3, h4⟩⟩
theorem mul_words {x y : Int} (hx : Word x) (hy : Word y) : 0 ≤ x * y ∧ x * y ≤ 18446744073709551615 * 18446744073709551615 := by
 obtain ⟨x0, x1⟩ := hx
 obtain ⟨y0, y1⟩ := hy
 exact ⟨Int.mul_nonneg x0 y0, Int.mul_le_mul (by omega) (by omega) y0 (by omega)⟩
theorem AddMul.step {xs ys : List Int} {d : Int} {out : List Int} {c i : Int} (h : AddMul xs ys d out c i) (hd : W64.Dig xs) (he : W64.Dig ys) (hl : ys.length = xs.length) (hy : Word d) (hi : i < xs.length) :
   AddMul xs ys d (out ++ [(rd ys i * d + rd xs i + c) % 18446744073709551616]) ((rd ys i * d + rd xs i + c) / 18446744073709551616) (i + 1) := by
 obtain ⟨k, rfl, h1, h2, h3, h4, h5, h6⟩ := h
 have hk : k < xs.length := by omega
 obtain ⟨x0, x1⟩ := W64.dig_rd hd (k : Int)
 have hyk := W64.dig_rd he (k : Int)
 obtain ⟨p0, p1⟩ := mul_words (x := rd ys (k : Int)) (y := d) ⟨hyk.1, hyk.2⟩ hy
 refine ⟨k + 1, by omega, by omega, by simp [h2], h3.append (by intro z hz; rw [List.mem_singleton] at hz; subst hz; omega), by omega, by omega, ?_⟩
 rw [W64.val_append, W64.val_take_succ hk, W64.val_take_succ (l := ys) (i := k) (by omega), h2, W64.pw_succ]
 generalize hP : rd ys (k : Int) * d = P at *
 have e : W64.val [(P + rd xs (k : Int) + c) % 18446744073709551616] = (P + rd xs (k : Int) + c) % 18446744073709551616 := by simp [W64.val]
 rw [e]
 have e2 : (P + rd xs (k : Int) + c) % 18446744073709551616 = (P + rd xs (k : Int) + c) - 18446744073709551616 * ((P + rd xs (k : Int) + c) / 18446744073709551616) := by omega
 rw [e2]
 generalize (P + rd xs (k : Int) + c) / 18446744073709551616 = q
 generalize (18446744073709551616 : Int) ^ k = p at *
 rw [Int.add_mul, Int.mul_sub, Int.mul_add, Int.mul_add]
 have e3 : rd ys (k : Int) * p * d = p * P := by rw [← hP, Int.mul_comm (rd ys (k : Int)) p, Int.mul_assoc]
 have e4 : p * (18446744073709551616 * q) = q * (18446744073709551616 * p) := by rw [Int.mul_comm p, Int.mul_comm 18446744073709551616 q, Int.mul_assoc]
 have e5 : p * c = c * p := Int.mul_comm _ _
 have e6 : rd xs (k : Int) * p = p * rd xs (k : Int) := Int.mul_comm _ _
 rw [e3, e4, e5, e6]
 omega
theorem AddMul.done {xs ys : List Int} {d : Int} {out : List Int} {c i : Int} (h : AddMul xs ys d out c i) (hl : ys.length = xs.length) (hi : ¬ i < xs.length) : out.length = xs.length ∧ W64.Dig out ∧ W64.val out + c * 18446744073709551616 ^ xs.length = W64.val xs + W64.val ys * d := by
 obtain ⟨k, rfl, h1, h2, h3, h4, h5, h6⟩ := h
 obtain rfl : k = xs.length := by omega
 rw [List.take_length, ← hl, List.take_length, hl] at h6
 exact ⟨h2, h3, h6⟩
theorem seg_set {a out b : List Int} {o k : Nat} (ha : a.length = o) (h : out.length = k) (hk : 0 < b.length) (v : Int) : (a ++ (out ++ b)).set (o + k) v = a ++ ((out ++ [v]) ++ b.drop 1) := by
 subst h; subst ha
 cases b with
 | nil => exact absurd hk (by simp)
 | cons x b =>
   rw [List.set_append_right _ _ (by omega), Nat.add_sub_cancel_left, List.set_append_right _ _ (Nat.le_refl _), Nat.sub_self]
   simp
theorem seg_rd {a out b : List Int} {o k : Nat} (ha : a.length = o) (h : out.length = k) (hk : 0 < b.length) : rd (a ++ (out ++ b)) ((o + k : Nat) : Int) = rd b 0 := by
 subst h; subst ha
 cases b with
 | nil => exact absurd hk (by simp)
 | cons x b =>
   rw [W64.rd_lt (by simp), List.getElem_append_right (by omega), List.getElem_append_right (by omega)]
   simp [rd]
set_option maxHeartbeats 4000000 in
set_option maxRecDepth 100000 in
theorem addMulVVWW_g_n (g gy o cz cx cy : Nat) (pre xs post ys : List Int) (d : Int) (w : World) (hz : Buf w g (pre ++ (xs ++ post))) (ho : pre.length = o) (hl : ys.length = xs.length) (hlm : xs.length ≤ 1000000) (hdx : W64.Dig xs) (hdy : W64.Dig ys) (hy : Word d) (hne : gy ≠ g)
   (hyc : ∀ i : Nat, i < ys.length → w.cell? ⟨gy, i, none⟩ = some (.int .u64 (rd ys (i : Int)))) :
   Calls Tryz.prog 128 #[.slice (some ⟨g, o, none⟩) xs.length cz, .slice (some ⟨g, o, none⟩) xs.length cx, .slice (some ⟨gy, 0, none⟩) xs.length cy, .int .u64 d, .int .u64 0] w fun e w' => ∃ out c, e = .returned (.int .u64 c) ∧ Word c ∧ out.length = xs.length ∧ W64.Dig out ∧ W64.val out + c * 18446744073709551616 ^ xs.length = W64.val xs + W64.val ys * d ∧ Buf w' g (pre ++ (out ++ post)) ∧ KeptB w w' g := by
 have HY := Aside0.mk hyc
 have HO := Aside0.mk (And.intro ho (And.intro hl hne))
 have HDX := Aside0.mk hdx
 have HDY := Aside0.mk hdy
 have HD := Aside0.mk hy
 have HS := Aside0.mk (AddMul.start xs ys d)
 have HZ := Aside0.mk hz
 have hli : (xs.length : Int) ≤ 1000000 := by omega
 clear hyc hl hdx hdy hy hz hlm hne ho
 generalize hm : xs.length = m at *
 have HM := Aside0.mk hm
 clear hm
 go_enter Tryz.func128, Tryz.ntmps128
 go_wp2
 go_loopg [10, 32] m (fun gg v8 v19 w' => ∃ (out : List Int) (c i : Int), v8 = .int .u64 c ∧ v19 = .int .i64 i ∧ AddMul xs ys d out c i ∧ Aside0 (i + (gg : Int) = m) ∧ Aside0 (Buf w' g (pre ++ (out ++ (xs.drop i.toNat ++ post)))) ∧ Aside0 (KeptB w w' g))
 case atStart => exact ⟨[], 0, 0, rfl, rfl, HS.out, ⟨by simp⟩, ⟨by simpa using HZ.out⟩, ⟨KeptB.refl _ _⟩⟩
 case round =>
   clear HS
   obtain ⟨out, c, i, rfl, rfl, HI, HG, HB, HK⟩ := hrel
   obtain ⟨i0, i1, hlo, hwc⟩ := HI.bound
   have HML := HM.out
   have HLO := Aside0.mk hlo
   clear hlo
   by_cases hi : i < (m : Int)
   · have hx := W64.dig_rd HDX.out i
     have hyr := W64.dig_rd HDY.out i
     have hrun := mulAddWWW_n (rd ys i) d (rd xs i) ⟨hyr.1, hyr.2⟩ HD.out ⟨hx.1, hx.2⟩
     obtain ⟨p0, p1⟩ := mul_words (x := rd ys i) (y := d) ⟨hyr.1, hyr.2⟩ HD.out
     have hcy : wr.cell? ⟨gy, i.toNat, none⟩ = some (.int .u64 (rd ys i)) := by
       have hin : ((i.toNat : Nat) : Int) = i := by omega
       have := KeptB.cell HK.out HO.out.2.2 (HY.out i.toNat (by have := HO.out.2.1; omega))
       rwa [hin] at this
     have hdl : 0 < (xs.drop i.toNat ++ post).length := by simp; omega
     have hcx : wr.cell? ⟨g, o + i.toNat, none⟩ = some (.int .u64 (rd xs i)) := by
       have h1 := HB.out.cell (j := o + i.toNat) (by have := HLO.out; have := HO.out.1; simp; omega)
       rw [seg_rd HO.out.1 (by have := HLO.out; omega) hdl] at h1
       have h2 : rd (xs.drop i.toNat ++ post) 0 = rd xs i := by
         have e1 := W64.rd_lt (l := xs.drop i.toNat ++ post) (i := 0) hdl
         have e2 := W64.rd_lt (l := xs) (i := i.toNat) (by omega)
         rw [show ((i.toNat : Nat) : Int) = i by omega] at e2
         rw [show ((0 : Nat) : Int) = 0 from rfl] at e1
         rw [e1, e2, List.getElem_append_left (by simp; omega), List.getElem_drop]
         simp
       rw [h2] at h1
       exact h1
     have hst := HI.step HDX.out HDY.out (HO.out.2.1.trans HML.symm) HD.out (by omega)
     have hput := HB.out.drew.put (o + i.toNat) ((rd ys i * d + rd xs i + c) % 18446744073709551616)
     rw [seg_set HO.out.1 (by have := HLO.out; omega) hdl, List.drop_append_of_le_length (by simp; omega), List.drop_drop] at hput
     have hfz := HB.out.frozen (o + i.toNat)
     generalize hP : rd ys i * d = P at *
     have hadd := Add_n ((P + rd xs i) % 18446744073709551616) c 0 (by omega) hwc.lo (by decide) (by decide)
     have e1 : IntKind.u64.wrap (((P + rd xs i) % 18446744073709551616 + c + 0) / 18446744073709551616 + (P + rd xs i) / 18446744073709551616) = (P + rd xs i + c) / 18446744073709551616 := by
       have := hwc.lo; have := hwc.hi
       rw [u64_w]; omega
     have e2 : ((P + rd xs i) % 18446744073709551616 + c + 0) % 18446744073709551616 = (P + rd xs i + c) % 18446744073709551616 := by omega
     rw [e2] at hadd
     have HST := Aside0.mk hst
     have HP := Aside0.mk hput
     have HR := Aside0.mk hrun
     have HA := Aside0.mk hadd
     clear HI hst hput hrun hadd hwc HML p0 p1 e2 hdl
     generalize (P + rd xs i + c) % 18446744073709551616 = z0 at *
     generalize (P + rd xs i + c) / 18446744073709551616 = z1 at *
     generalize ((P + rd xs i) % 18446744073709551616 + c + 0) / 18446744073709551616 = z3 at *
     generalize (P + rd xs i) % 18446744073709551616 = z2 at *
     generalize (P + rd xs i) / 18446744073709551616 = z4 at *
     generalize rd xs i = x at *
     generalize rd ys i = y at *
     clear hP
     go_wp2_with fail
     refine st (n := 15) (S := fun w' => w'.cell? ⟨gy, i.toNat, none⟩ = some (.int .u64 y) ∧ w'.cell? ⟨g, o + i.toNat, none⟩ = some (.int .u64 x)) (ds := []) rfl (⟨by simpa using hcy, by simpa using hcx⟩) (fun hHeld => ?_)
     refine pu 0 (some 36) rfl rfl ?_
     refine pu 1 (some 37) rfl rfl ?_
     refine pu 2 (some 38) rfl rfl ?_
     refine tk 3 (some 39) rfl rfl hHeld ?_ (by (rintro w' ⟨s0, s1⟩; go_simp; with_reducible rfl))
     refine pu 4 (some 40) rfl rfl ?_
     refine pu 5 (some 41) rfl rfl ?_
     refine pu 6 (some 42) rfl rfl ?_
     refine pu 7 (some 43) rfl rfl ?_
     refine tk 8 (some 44) rfl rfl hHeld ?_ (by (rintro w' ⟨s0, s1⟩; go_simp; with_reducible rfl))
     refine on 9 (some 45) rfl rfl (fun K hK => ?_)
     refine goes_ Tryz.func149 (by kernel_rfl) rfl #[.int .u64 y, .int .u64 d, .int .u64 x] (by rfl) rfl rfl (by (try simp only [List.map_toArray, List.map_cons, List.map_nil]); first | done | rfl) ?_
     refine (HR.out _).mono ?_
     rintro e w1 ⟨rfl, rfl⟩
     refine ⟨_, rfl, ?_⟩
     refine hK.out _ _ (hHeld) (fun hHeld => ?_)
     clear hK K
     refine nm ?_
     refine pu 10 (some 35) rfl rfl ?_
     refine pu 11 (some 46) rfl rfl ?_
     refine pu 12 (some 47) rfl rfl ?_
     refine pu 13 (some 12) rfl rfl ?_
     refine pu 14 (some 13) rfl rfl ?_
     refine done_ (by kernel_rfl) ?_
     go_wp2_with (go_at_call 132; refine (HA.out _).mono ?_; rintro e w1 ⟨rfl, rfl⟩)
     go_roundg (gk - 1)
     case measure => have := HG.out; omega
     case rel => exact ⟨_, z1, i + 1, by simp [e1], rfl, HST.out, ⟨by have := HG.out; omega⟩, ⟨by rw [show (i + 1).toNat = i.toNat + 1 by omega]; exact HP.out⟩, ⟨HK.out.drew.set _⟩⟩
   · obtain ⟨e1, e2, e3⟩ := HI.done (HO.out.2.1.trans HML.symm) (by omega)
     have HE := Aside0.mk (And.intro e1 (And.intro e2 e3))
     have HW := Aside0.mk hwc
     clear HI e1 e2 e3 hwc
     go_wp2
     go_ret
     obtain ⟨e1, e2, e3⟩ := HE.out
     refine ⟨out, c, rfl, HW.out, by omega, e2, by rw [← HML]; exact e3, ?_, HK.out⟩
     have := HB.out
     rwa [show i.toNat = m by omega, ← HML, List.drop_length, List.nil_append] at this
set_option maxHeartbeats 1000000 in
theorem addMulVVWW_n (g gy o cz cx cy : Nat) (pre xs post ys : List Int) (d : Int) (w : World) (hz : Buf w g (pre ++ (xs ++ post))) (ho : pre.length = o) (hl : ys.length = xs.length) (hlm : xs.length ≤ 1000000) (hdx : W64.Dig xs) (hdy : W64.Dig ys) (hy : Word d) (hne : gy ≠ g)
   (hyc : ∀ i : Nat, i < ys.length → w.cell? ⟨gy, i, none⟩ = some (.int .u64 (rd ys (i : Int)))) :
   Calls Tryz.prog 108 #[.slice (some ⟨g, o, none⟩) xs.length cz, .slice (some ⟨g, o, none⟩) xs.length cx, .slice (some ⟨gy, 0, none⟩) xs.length cy, .int .u64 d, .int .u64 0] w fun e w' => ∃ out c, e = .returned (.int .u64 c) ∧ Word c ∧ out.length = xs.length ∧ W64.Dig out ∧ W64.val out + c * 18446744073709551616 ^ xs.length = W64.val xs + W64.val ys * d ∧ Buf w' g (pre ++ (out ++ post)) ∧ KeptB w w' g := by
 have HM := Aside0.mk (addMulVVWW_g_n g gy o cz cx cy pre xs post ys d w hz ho hl hlm hdx hdy hy hne hyc)
 clear hz hl hlm hdx hdy hy hne hyc
 go_enter Tryz.func108, Tryz.ntmps108
 go_wp2_with (go_at_call 128; refine HM.out.mono ?_; rintro e w1 ⟨out, c, rfl, h⟩; have HH := Aside0.mk h; clear h)
 go_ret
 exact ⟨out, c, rfl, HH.out⟩
theorem mulWW_n (x y : Int) (hx : Word x) (hy : Word y) (w : World) :
   Calls Tryz.prog 84 #[.int .u64 x, .int .u64 y] w fun e w' => e = .returned (.tuple #[.int .u64 (x * y / 18446744073709551616), .int .u64 (x * y % 18446744073709551616)]) ∧ w' = w := by
 obtain ⟨a, rfl⟩ := Int.eq_ofNat_of_zero_le hx.lo
 obtain ⟨b, rfl⟩ := Int.eq_ofNat_of_zero_le hy.lo
 have ha : a < 18446744073709551616 := by have := hx.hi; omega
 have hb : b < 18446744073709551616 := by have := hy.hi; omega
 have HM := Aside0.mk (fun w => Tryz.bits_Mul a b ha hb w)
 have e3 : (a : Int) * (b : Int) = ((a * b : Nat) : Int) := (Int.natCast_mul a b).symm
 rw [e3]
 clear e3 ha hb hx hy
 generalize a * b = P at *
 have e1 : ((P / 18446744073709551616 : Nat) : Int) = (P : Int) / 18446744073709551616 := by omega
 have e2 : ((P % 18446744073709551616 : Nat) : Int) = (P : Int) % 18446744073709551616 := by omega
 rw [← e1, ← e2]
 clear e1 e2
 generalize ((P / 18446744073709551616 : Nat) : Int) = H at *
 generalize ((P % 18446744073709551616 : Nat) : Int) = L at *
 go_enter Tryz.func84, Tryz.ntmps84
 go_wp2_with (go_at_call 107; refine (HM.out _).mono ?_; rintro e w' ⟨rfl, rfl⟩)
 go_ret2
 exact ⟨rfl, rfl⟩
structure AddRow (xs ys : List Int) (m : Nat) (out : List Int) (c i : Int) : Prop where
 mk :: (out : ∃ k : Nat, i = k ∧ k ≤ m ∧ out.length = k ∧ W64.Dig out ∧ 0 ≤ c ∧ c ≤ 1 ∧ W64.val out + c * 18446744073709551616 ^ k = W64.val (xs.take k) + W64.val (ys.take k))
theorem AddRow.start (xs ys : List Int) (m : Nat) : AddRow xs ys m [] 0 0 :=
 ⟨0, rfl, Nat.zero_le _, rfl, W64.Dig.nil, by decide, by decide, by simp [W64.val]⟩
theorem AddRow.bound {xs ys : List Int} {m : Nat} {out : List Int} {c i : Int} (h : AddRow xs ys m out c i) : 0 ≤ i ∧ i ≤ m ∧ (out.length : Int) = i ∧ 0 ≤ c ∧ c ≤ 1 := by
 obtain ⟨k, rfl, h1, h2, _, h3, h4, _⟩ := h
 exact ⟨by omega, by omega, by omega, h3, h4⟩
theorem AddRow.step {xs ys : List Int} {m : Nat} {out : List Int} {c i : Int} (h : AddRow xs ys m out c i) (hd : W64.Dig xs) (he : W64.Dig ys) (hx : m ≤ xs.length) (hy : m ≤ ys.length) (hi : i < m) :
   AddRow xs ys m (out ++ [(rd xs i + rd ys i + c) % 18446744073709551616]) ((rd xs i + rd ys i + c) / 18446744073709551616) (i + 1) := by
 obtain ⟨k, rfl, h1, h2, h3, h4, h5, h6⟩ := h
 have hk : k < xs.length := by omega
 obtain ⟨x0, x1⟩ := W64.dig_rd hd (k : Int)
 obtain ⟨y0, y1⟩ := W64.dig_rd he (k : Int)
 refine ⟨k + 1, by omega, by omega, by simp [h2], h3.append (by intro z hz; rw [List.mem_singleton] at hz; subst hz; omega), by omega, by omega, ?_⟩
 rw [W64.val_append, W64.val_take_succ hk, W64.val_take_succ (l := ys) (i := k) (by omega), h2, W64.pw_succ]
 have e : W64.val [(rd xs (k : Int) + rd ys (k : Int) + c) % 18446744073709551616] = (rd xs (k : Int) + rd ys (k : Int) + c) % 18446744073709551616 := by simp [W64.val]
 rw [e]
 have e2 : (rd xs (k : Int) + rd ys (k : Int) + c) % 18446744073709551616 = (rd xs (k : Int) + rd ys (k : Int) + c) - 18446744073709551616 * ((rd xs (k : Int) + rd ys (k : Int) + c) / 18446744073709551616) := by omega
 rw [e2]
 generalize (rd xs (k : Int) + rd ys (k : Int) + c) / 18446744073709551616 = q
 generalize (18446744073709551616 : Int) ^ k = p at *
 rw [Int.mul_sub, Int.mul_add, Int.mul_add]
 have e3 : rd ys (k : Int) * p = p * rd ys (k : Int) := Int.mul_comm _ _
 have e4 : p * (18446744073709551616 * q) = q * (18446744073709551616 * p) := by rw [Int.mul_comm p, Int.mul_comm 18446744073709551616 q, Int.mul_assoc]
 have e5 : p * c = c * p := Int.mul_comm _ _
 have e6 : rd xs (k : Int) * p = p * rd xs (k : Int) := Int.mul_comm _ _
 rw [e3, e4, e5, e6]
 omega
theorem AddRow.done {xs ys : List Int} {m : Nat} {out : List Int} {c i : Int} (h : AddRow xs ys m out c i) (hi : ¬ i < m) : out.length = m ∧ W64.Dig out ∧ 0 ≤ c ∧ W64.val out + c * 18446744073709551616 ^ m = W64.val (xs.take m) + W64.val (ys.take m) := by
 obtain ⟨k, rfl, h1, h2, h3, h4, h5, h6⟩ := h
 obtain rfl : k = m := by omega
 exact ⟨h2, h3, h4, h6⟩
theorem rd_take {cs : List Int} {m k : Nat} (hk : k < m) (hm : m ≤ cs.length) : rd (cs.take m) (k : Int) = rd cs (k : Int) := by
 rw [W64.rd_lt (by rw [List.length_take]; omega), W64.rd_lt (by omega), List.getElem_take]
set_option maxHeartbeats 4000000 in
set_option maxRecDepth 100000 in
theorem addVV_g_n (g gy m cz cx cy : Nat) (cs ys : List Int) (w : World) (hz : Buf w g cs) (hl : m ≤ cs.length) (hl2 : m ≤ ys.length) (hlm : m ≤ 1000000) (hdx : W64.Dig (cs.take m)) (hdy : W64.Dig ys) (hne : gy ≠ g)
   (hyc : ∀ i : Nat, i < m → w.cell? ⟨gy, i, none⟩ = some (.int .u64 (rd ys (i : Int)))) :
   Calls Tryz.prog 129 #[.slice (some ⟨g, 0, none⟩) m cz, .slice (some ⟨g, 0, none⟩) m cx, .slice (some ⟨gy, 0, none⟩) m cy] w fun e w' => ∃ out c, e = .returned (.int .u64 c) ∧ 0 ≤ c ∧ out.length = m ∧ W64.Dig out ∧ W64.val out + c * 18446744073709551616 ^ m = W64.val (cs.take m) + W64.val (ys.take m) ∧ Buf w' g (out ++ cs.drop m) ∧ KeptB w w' g := by
 have HY := Aside0.mk hyc
 have HO := Aside0.mk (And.intro hl (And.intro hl2 hne))
 have HDX := Aside0.mk hdx
 have HDY := Aside0.mk hdy
 have HS := Aside0.mk (AddRow.start (cs.take m) ys m)
 have HLT := Aside0.mk (show (cs.take m).length = m by rw [List.length_take]; omega)
 have HZ := Aside0.mk hz
 have hli : (m : Int) ≤ 1000000 := by omega
 clear hyc hl hl2 hdx hdy hz hlm hne
 go_enter Tryz.func129, Tryz.ntmps129
 go_wp2
 go_loopg [6, 25] m (fun gg v8 v19 w' => ∃ (out : List Int) (c i : Int), v8 = .int .u64 c ∧ v19 = .int .i64 i ∧ AddRow (cs.take m) ys m out c i ∧ Aside0 (i + (gg : Int) = m) ∧ Aside0 (Buf w' g (out ++ cs.drop i.toNat)) ∧ Aside0 (KeptB w w' g))
 case atStart => exact ⟨[], 0, 0, rfl, rfl, HS.out, ⟨by simp⟩, ⟨by simpa using HZ.out⟩, ⟨KeptB.refl _ _⟩⟩
 case round =>
   clear HS
   obtain ⟨out, c, i, rfl, rfl, HI, HG, HB, HK⟩ := hrel
   obtain ⟨i0, i1, hlo, c0, c1⟩ := HI.bound
   have HLO := Aside0.mk hlo
   clear hlo
   by_cases hi : i < (m : Int)
   · have hx := W64.dig_rd HDX.out i
     have hyr := W64.dig_rd HDY.out i
     have hcy : wr.cell? ⟨gy, i.toNat, none⟩ = some (.int .u64 (rd ys i)) := by
       have hin : ((i.toNat : Nat) : Int) = i := by omega
       have := KeptB.cell HK.out HO.out.2.2 (HY.out i.toNat (by omega))
       rwa [hin] at this
     have hcx : wr.cell? ⟨g, i.toNat, none⟩ = some (.int .u64 (rd (cs.take m) i)) := by
       have hin : ((i.toNat : Nat) : Int) = i := by omega
       have hrt := rd_take (cs := cs) (m := m) (k := i.toNat) (by omega) HO.out.1
       rw [hin] at hrt
       rw [hrt]
       have h1 := HB.out.cell (j := i.toNat) (by have := HO.out.1; have := HLO.out; simp; omega)
       have h2 := rd_mid (out := out) (cs := cs) (k := i.toNat) (by have := HLO.out; omega) (by have := HO.out.1; omega)
       rwa [h2, hin] at h1
     have hst := HI.step HDX.out HDY.out (Nat.le_of_eq HLT.out.symm) HO.out.2.1 (by omega)
     have hput := HB.out.drew.put i.toNat ((rd (cs.take m) i + rd ys i + c) % 18446744073709551616)
     rw [set_mid (by have := HLO.out; omega) (by have := HO.out.1; omega)] at hput
     have hfz := HB.out.frozen i.toNat
     have hadd := Add_n (rd (cs.take m) i) (rd ys i) c (by omega) (by omega) c0 c1
     have HST := Aside0.mk hst
     have HP := Aside0.mk hput
     have HA := Aside0.mk hadd
     clear HI hst hput hadd c0 c1
     generalize (rd (cs.take m) i + rd ys i + c) % 18446744073709551616 = z0 at *
     generalize (rd (cs.take m) i + rd ys i + c) / 18446744073709551616 = z1 at *
     generalize rd (cs.take m) i = x at *
     generalize rd ys i = y at *
     go_wp2_with fail
     refine st (n := 15) (S := fun w' => w'.cell? ⟨gy, i.toNat, none⟩ = some (.int .u64 y) ∧ w'.cell? ⟨g, i.toNat, none⟩ = some (.int .u64 x)) (ds := []) rfl (⟨by simpa using hcy, by simpa using hcx⟩) (fun hHeld => ?_)
     refine pu 0 (some 29) rfl rfl ?_
     refine pu 1 (some 30) rfl rfl ?_
     refine pu 2 (some 31) rfl rfl ?_
     refine tk 3 (some 32) rfl rfl hHeld ?_ (by (rintro w' ⟨s0, s1⟩; go_simp; with_reducible rfl))
     refine pu 4 (some 33) rfl rfl ?_
     refine pu 5 (some 34) rfl rfl ?_
     refine pu 6 (some 35) rfl rfl ?_
     refine tk 7 (some 36) rfl rfl hHeld ?_ (by (rintro w' ⟨s0, s1⟩; go_simp; with_reducible rfl))
     refine pu 8 (some 37) rfl rfl ?_
     refine on 9 (some 38) rfl rfl (fun K hK => ?_)
     refine goes_ Tryz.func132 (by kernel_rfl) rfl #[.int .u64 x, .int .u64 y, .int .u64 c] (by rfl) rfl rfl (by (try simp only [List.map_toArray, List.map_cons, List.map_nil]); first | done | rfl) ?_
     refine (HA.out _).mono ?_
     rintro e w1 ⟨rfl, rfl⟩
     refine ⟨_, rfl, ?_⟩
     refine hK.out _ _ (hHeld) (fun hHeld => ?_)
     clear hK K
     refine nm ?_
     refine pu 10 (some 28) rfl rfl ?_
     refine pu 11 (some 39) rfl rfl ?_
     refine pu 12 (some 40) rfl rfl ?_
     refine pu 13 (some 8) rfl rfl ?_
     refine pu 14 (some 9) rfl rfl ?_
     refine done_ (by kernel_rfl) ?_
     go_wp2
     go_roundg (gk - 1)
     case measure => have := HG.out; omega
     case rel => exact ⟨_, z1, i + 1, rfl, rfl, HST.out, ⟨by have := HG.out; omega⟩, ⟨by rw [show (i + 1).toNat = i.toNat + 1 by omega]; exact HP.out⟩, ⟨HK.out.drew.set _⟩⟩
   · obtain ⟨e1, e2, e3⟩ := HI.done (by omega)
     have HE := Aside0.mk (And.intro e1 (And.intro e2 e3))
     clear HI e1 e2 e3
     go_wp2
     go_ret
     obtain ⟨e1, e2, e3, e4⟩ := HE.out
     rw [List.take_take, Nat.min_self] at e4
     refine ⟨out, c, rfl, e3, e1, e2, e4, ?_, HK.out⟩
     have := HB.out
     rwa [show i.toNat = m by omega] at this
set_option maxHeartbeats 1000000 in
theorem addVV_n (g gy m cz cx cy : Nat) (cs ys : List Int) (w : World) (hz : Buf w g cs) (hl : m ≤ cs.length) (hl2 : m ≤ ys.length) (hlm : m ≤ 1000000) (hdx : W64.Dig (cs.take m)) (hdy : W64.Dig ys) (hne : gy ≠ g)
   (hyc : ∀ i : Nat, i < m → w.cell? ⟨gy, i, none⟩ = some (.int .u64 (rd ys (i : Int)))) :
   Calls Tryz.prog 110 #[.slice (some ⟨g, 0, none⟩) m cz, .slice (some ⟨g, 0, none⟩) m cx, .slice (some ⟨gy, 0, none⟩) m cy] w fun e w' => ∃ out c, e = .returned (.int .u64 c) ∧ 0 ≤ c ∧ out.length = m ∧ W64.Dig out ∧ W64.val out + c * 18446744073709551616 ^ m = W64.val (cs.take m) + W64.val (ys.take m) ∧ Buf w' g (out ++ cs.drop m) ∧ KeptB w w' g := by
 have HM := Aside0.mk (addVV_g_n g gy m cz cx cy cs ys w hz hl hl2 hlm hdx hdy hne hyc)
 clear hz hl hl2 hlm hdx hdy hne hyc
 go_enter Tryz.func110, Tryz.ntmps110
 go_wp2_with (go_at_call 129; refine HM.out.mono ?_; rintro e w1 ⟨out, c, rfl, h⟩; have HH := Aside0.mk h; clear h)
 go_ret
 exact ⟨out, c, rfl, HH.out⟩
def shl (p q c : Int) : List Int → List Int
 | [] => []
 | x :: xs => (x * p % 18446744073709551616 + c) :: shl p q (x / q) xs
def shlTop (q c : Int) : List Int → Int
 | [] => c
 | x :: xs => shlTop q (x / q) xs
theorem shl_len (p q : Int) : ∀ (c : Int) (l : List Int), (shl p q c l).length = l.length
 | _, [] => rfl
 | c, x :: xs => by simp [shl, shl_len]
structure Halfs (p q : Int) : Prop where
 mk :: (p0 : 0 < p) (q0 : 0 < q) (all : p * q = 18446744073709551616)
theorem Halfs.mod {p q : Int} (h : Halfs p q) (x : Int) : x * p % 18446744073709551616 = x % q * p := by
 rw [← h.all, Int.mul_comm x p, Int.mul_emod_mul_of_pos _ _ h.p0, Int.mul_comm]
theorem Halfs.split {p q : Int} (h : Halfs p q) (x : Int) : x * p % 18446744073709551616 + 18446744073709551616 * (x / q) = x * p := by
 have h1 := h.mod x
 have h2 := Int.emod_add_mul_ediv x q
 have h3 : x % q * p + 18446744073709551616 * (x / q) = (x % q + q * (x / q)) * p := by
   rw [← h.all, Int.add_mul, Int.mul_comm p q, Int.mul_assoc q p, Int.mul_assoc q _ p, Int.mul_comm p]
 rw [h1, h3, h2]
theorem Halfs.top {p q : Int} (h : Halfs p q) {x : Int} (h0 : 0 ≤ x) (h1 : x < 18446744073709551616) : 0 ≤ x / q ∧ x / q < p :=
 ⟨Int.ediv_nonneg h0 (Int.le_of_lt h.q0), Int.ediv_lt_of_lt_mul h.q0 (by rw [h.all]; exact h1)⟩
theorem Halfs.low {p q : Int} (h : Halfs p q) (x : Int) : 0 ≤ x * p % 18446744073709551616 ∧ x * p % 18446744073709551616 + p ≤ 18446744073709551616 := by
 rw [h.mod]
 have h1 := Int.emod_nonneg x (Int.ne_of_gt h.q0)
 have h2 := Int.emod_lt_of_pos x h.q0
 refine ⟨Int.mul_nonneg h1 (Int.le_of_lt h.p0), ?_⟩
 have h3 := Int.mul_le_mul_of_nonneg_right (show x % q + 1 ≤ q by omega) (Int.le_of_lt h.p0)
 rw [Int.add_mul, Int.one_mul, Int.mul_comm q p, h.all] at h3
 exact h3
theorem shl_dig {p q : Int} (h : Halfs p q) : ∀ (c : Int) (l : List Int), 0 ≤ c → c < p → W64.Dig l → W64.Dig (shl p q c l)
 | _, [], _, _, _ => W64.Dig.nil
 | c, x :: xs, h0, h1, hd => by
   have hx := hd.head
   have ht := h.top hx.1 hx.2
   have hl := h.low x
   exact W64.Dig.cons (by omega) (shl_dig h _ xs ht.1 ht.2 hd.tail)
theorem shl_val {p q : Int} (h : Halfs p q) : ∀ (c : Int) (l : List Int), W64.val (shl p q c l) + shlTop q c l * 18446744073709551616 ^ l.length = p * W64.val l + c
 | c, [] => by simp [shl, shlTop, W64.val]
 | c, x :: xs => by
   have ih := shl_val h (x / q) xs
   have hs := h.split x
   simp only [shl, shlTop, W64.val, List.length_cons]
   rw [W64.pw_succ]
   have e : shlTop q (x / q) xs * (18446744073709551616 * 18446744073709551616 ^ xs.length) = 18446744073709551616 * (shlTop q (x / q) xs * 18446744073709551616 ^ xs.length) := by
     rw [← Int.mul_assoc, ← Int.mul_assoc, Int.mul_comm (shlTop _ _ _) 18446744073709551616]
   rw [e]
   generalize shlTop q (x / q) xs * 18446744073709551616 ^ xs.length = T at *
   have e2 : p * (x + 18446744073709551616 * W64.val xs) = x * p + 18446744073709551616 * (p * W64.val xs) := by
     rw [Int.mul_add, Int.mul_comm p x, ← Int.mul_assoc, ← Int.mul_assoc, Int.mul_comm p 18446744073709551616]
   rw [e2]
   generalize p * W64.val xs = V at *
   generalize x * p % 18446744073709551616 = A at *
   generalize x * p = B at *
   generalize x / q = D at *
   omega
theorem shl_top_word {p q : Int} (h : Halfs p q) : ∀ (c : Int) (l : List Int), 0 ≤ c → c < p → W64.Dig l → 0 ≤ shlTop q c l ∧ shlTop q c l < p
 | c, [], h0, h1, _ => ⟨h0, h1⟩
 | c, x :: xs, h0, h1, hd => by
   have hx := hd.head
   have ht := h.top hx.1 hx.2
   exact shl_top_word h _ xs ht.1 ht.2 hd.tail
theorem shl_zero (p q c : Int) (l : List Int) (h : 0 < l.length) : rd (shl p q c l) 0 = rd l 0 * p % 18446744073709551616 + c := by
 cases l with
 | nil => exact absurd h (by simp)
 | cons x xs => simp [shl, rd]
theorem rd_cons (x : Int) (l : List Int) (j : Nat) : rd (x :: l) ((j + 1 : Nat) : Int) = rd l (j : Int) := by
 rw [W64.rd_nat, W64.rd_nat]; simp
theorem shl_succ (p q : Int) : ∀ (j : Nat) (c : Int) (l : List Int), j + 1 < l.length → rd (shl p q c l) ((j + 1 : Nat) : Int) = rd l ((j + 1 : Nat) : Int) * p % 18446744073709551616 + rd l (j : Int) / q
 | 0, c, [], h => absurd h (by simp)
 | 0, c, [x], h => absurd h (by simp)
 | 0, c, x :: y :: l, _ => by simp [shl, rd]
 | j + 1, c, [], h => absurd h (by simp)
 | j + 1, c, x :: l, h => by
   have hl : j + 1 < l.length := by simpa using h
   have ih := shl_succ p q j (x / q) l hl
   have e1 : rd (x :: l) ((j + 1 + 1 : Nat) : Int) = rd l ((j + 1 : Nat) : Int) := rd_cons _ _ _
   have e2 : rd (x :: l) ((j + 1 : Nat) : Int) = rd l (j : Int) := rd_cons _ _ _
   have e3 : rd (shl p q c (x :: l)) ((j + 1 + 1 : Nat) : Int) = rd (shl p q (x / q) l) ((j + 1 : Nat) : Int) := rd_cons _ _ _
   rw [e3, ih, e1, e2]
theorem shlTop_last (q : Int) : ∀ (c : Int) (l : List Int) (h : 0 < l.length), shlTop q c l = rd l ((l.length - 1 : Nat) : Int) / q
 | c, [], h => absurd h (by simp)
 | c, [x], _ => by simp [shlTop, rd]
 | c, x :: y :: l, _ => by
   have ih := shlTop_last q (x / q) (y :: l) (by simp)
   rw [shlTop, ih]
   have e : rd (x :: y :: l) (((x :: y :: l).length - 1 : Nat) : Int) = rd (y :: l) (((y :: l).length - 1 : Nat) : Int) := rd_cons x (y :: l) l.length
   rw [e]
theorem mid_set {a A b : List Int} {o k : Nat} (ha : a.length = o) (hk : k < A.length) (v : Int) : (a ++ (A ++ b)).set (o + k) v = a ++ (A.set k v ++ b) := by
 subst ha
 rw [List.set_append_right _ _ (by omega), Nat.add_sub_cancel_left, List.set_append_left _ _ hk]
theorem mid_rd {a A b : List Int} {o k : Nat} (ha : a.length = o) (hk : k < A.length) : rd (a ++ (A ++ b)) ((o + k : Nat) : Int) = rd A (k : Int) := by
 subst ha
 rw [W64.rd_lt (by simp; omega), W64.rd_lt hk, List.getElem_append_right (by omega), List.getElem_append_left (by omega)]
 simp
theorem and_small {x : Nat} (h : x < 64) : bits .and .u64 (x : Int) 63 = x := by
 have : ∀ k : Fin 64, bits .and .u64 ((k : Nat) : Int) 63 = ((k : Nat) : Int) := by decide
 exact this ⟨x, h⟩
theorem halfs_of {s t : Nat} (h : s + t = 64) : Halfs ((2 : Int) ^ s) ((2 : Int) ^ t) :=
 ⟨Int.pow_pos (by decide), Int.pow_pos (by decide), by rw [← Int.pow_add, h]; decide⟩
theorem or_sum {s t : Nat} (hst : s + t = 64) {x y : Int} (hy0 : 0 ≤ y) (hy1 : y < (2 : Int) ^ s) : bits .or .u64 (x * (2 : Int) ^ s % 18446744073709551616) y = x * (2 : Int) ^ s % 18446744073709551616 + y := by
 have h := halfs_of hst
 have hl := h.low x
 have hm := h.mod x
 refine bits_join .u64 64 (by decide) (fun n a b => by rw [IntKind.wrap_u64]; omega) s _ y hl.1 ?_ ?_ hy0 hy1 (by omega)
 · rw [hm]; exact Int.mul_emod_left _ _
 · have : (2 : Int) ^ 64 = 18446744073709551616 := by decide
   have := h.p0
   omega
end Go.Proofs.YteohmbannpbokaaGreatDoor.WordWalk
namespace Go.Proofs.YteohmbannpbokaaGreatDoor.WordWalk
open Go.RowKit Go.Proofs.YteohmbannpbokaaGreatDoorW.PrintWords Go.Proofs.YteohmbannpbokaaGreatDoor.SpecWalk Go.Proofs.YteohmbannpbokaaGreatDoor.BigWalk
theorem val_split {xs : List Int} {k : Nat} (hk : k ≤ xs.length) : W64.val xs = W64.val (xs.take k) + 18446744073709551616 ^ k * W64.val (xs.drop k) := by
 have h := W64.val_append (xs.take k) (xs.drop k)
 rw [List.take_append_drop, List.length_take, Nat.min_eq_left hk] at h
 exact h
theorem val_one (x : Int) : W64.val [x] = x := by simp [W64.val]
theorem Dig_drop {a : List Int} (ha : W64.Dig a) (n : Nat) : W64.Dig (a.drop n) := fun y hy => ha y (List.mem_of_mem_drop hy)
theorem Dig_one {x : Int} (h0 : 0 ≤ x) (h1 : x < 18446744073709551616) : W64.Dig [x] := fun z hz => by
 rw [List.mem_singleton] at hz; subst hz; exact ⟨h0, h1⟩
structure Inc (xs : List Int) (y : Int) (out : List Int) (k : Nat) : Prop where
 mk :: (le : k ≤ xs.length) (len : out.length = k) (dig : W64.Dig out) (val : W64.val out + 18446744073709551616 ^ k = W64.val (xs.take k) + y)
structure Dec (xs : List Int) (y : Int) (out : List Int) (k : Nat) : Prop where
 mk :: (le : k ≤ xs.length) (len : out.length = k) (dig : W64.Dig out) (val : W64.val out + y = W64.val (xs.take k) + 18446744073709551616 ^ k)
theorem Inc.step {xs out : List Int} {y : Int} {k : Nat} (h : Inc xs y out k) (hk : k < xs.length) (hx : rd xs (k : Int) = 18446744073709551615) : Inc xs y (out ++ [0]) (k + 1) := by
 obtain ⟨h1, h2, h3, h4⟩ := h
 refine ⟨hk, by simp [h2], h3.append (Dig_one (by decide) (by decide)), ?_⟩
 rw [W64.val_append, W64.val_take_succ hk, h2, W64.pw_succ, val_one, hx]
 omega
theorem Inc.stop {xs out : List Int} {y : Int} {k : Nat} (h : Inc xs y out k) (hk : k < xs.length) (hd : W64.Dig xs) (hx : rd xs (k : Int) ≠ 18446744073709551615) :
   (out ++ [rd xs (k : Int) + 1] ++ xs.drop (k + 1)).length = xs.length ∧ W64.Dig (out ++ [rd xs (k : Int) + 1] ++ xs.drop (k + 1)) ∧ W64.val (out ++ [rd xs (k : Int) + 1] ++ xs.drop (k + 1)) = W64.val xs + y := by
 obtain ⟨h1, h2, h3, h4⟩ := h
 have hb := W64.dig_rd hd (k : Int)
 refine ⟨by simp [h2]; omega, (h3.append (Dig_one (by omega) (by omega))).append (Dig_drop hd _), ?_⟩
 rw [W64.val_append, W64.val_append, val_split (xs := xs) (k := k + 1) (by omega), W64.val_take_succ hk, val_one, List.length_append, h2, List.length_singleton, Int.mul_add, Int.mul_one, Int.mul_comm (18446744073709551616 ^ k) (rd xs (k : Int))]
 omega
theorem Inc.done {xs out : List Int} {y : Int} (h : Inc xs y out xs.length) : out.length = xs.length ∧ W64.Dig out ∧ W64.val out + 1 * 18446744073709551616 ^ xs.length = W64.val xs + y := by
 obtain ⟨h1, h2, h3, h4⟩ := h
 rw [List.take_length] at h4
 exact ⟨h2, h3, by rw [Int.one_mul]; exact h4⟩
theorem Dec.step {xs out : List Int} {y : Int} {k : Nat} (h : Dec xs y out k) (hk : k < xs.length) (hx : rd xs (k : Int) = 0) : Dec xs y (out ++ [18446744073709551615]) (k + 1) := by
 obtain ⟨h1, h2, h3, h4⟩ := h
 refine ⟨hk, by simp [h2], h3.append (Dig_one (by decide) (by decide)), ?_⟩
 rw [W64.val_append, W64.val_take_succ hk, h2, W64.pw_succ, val_one, hx]
 omega
theorem Dec.stop {xs out : List Int} {y : Int} {k : Nat} (h : Dec xs y out k) (hk : k < xs.length) (hd : W64.Dig xs) (hx : rd xs (k : Int) ≠ 0) :
   (out ++ [rd xs (k : Int) - 1] ++ xs.drop (k + 1)).length = xs.length ∧ W64.Dig (out ++ [rd xs (k : Int) - 1] ++ xs.drop (k + 1)) ∧ W64.val (out ++ [rd xs (k : Int) - 1] ++ xs.drop (k + 1)) + y = W64.val xs := by
 obtain ⟨h1, h2, h3, h4⟩ := h
 have hb := W64.dig_rd hd (k : Int)
 refine ⟨by simp [h2]; omega, (h3.append (Dig_one (by omega) (by omega))).append (Dig_drop hd _), ?_⟩
 rw [W64.val_append, W64.val_append, val_split (xs := xs) (k := k + 1) (by omega), W64.val_take_succ hk, val_one, List.length_append, h2, List.length_singleton, Int.mul_sub, Int.mul_one, Int.mul_comm (18446744073709551616 ^ k) (rd xs (k : Int))]
 omega
theorem Dec.done {xs out : List Int} {y : Int} (h : Dec xs y out xs.length) : out.length = xs.length ∧ W64.Dig out ∧ W64.val out + y = W64.val xs + 1 * 18446744073709551616 ^ xs.length := by
 obtain ⟨h1, h2, h3, h4⟩ := h
 rw [List.take_length] at h4
 exact ⟨h2, h3, by rw [Int.one_mul]; exact h4⟩
theorem Inc.start {xs : List Int} {y : Int} (h0 : 0 < xs.length) (hd : W64.Dig xs) (hy0 : 0 ≤ y) (hy : y ≤ 1) (hc : (rd xs 0 + y) / 18446744073709551616 ≠ 0) : Inc xs y [(rd xs 0 + y) % 18446744073709551616] 1 := by
 have hb := W64.dig_rd hd 0
 refine ⟨h0, rfl, Dig_one (by omega) (by omega), ?_⟩
 have h := W64.val_take_succ (l := xs) (i := 0) h0
 simp only [Nat.zero_add, List.take_zero, W64.val, Int.pow_zero, Int.mul_one, Int.zero_add, Int.natCast_zero] at h
 rw [h, val_one, Int.pow_succ, Int.pow_zero]
 omega
theorem Dec.start {xs : List Int} {y : Int} (h0 : 0 < xs.length) (hd : W64.Dig xs) (hy0 : 0 ≤ y) (hy : y ≤ 1) (hc : (rd xs 0 - y) / 18446744073709551616 ≠ 0) : Dec xs y [(rd xs 0 - y) % 18446744073709551616] 1 := by
 have hb := W64.dig_rd hd 0
 refine ⟨h0, rfl, Dig_one (by omega) (by omega), ?_⟩
 have h := W64.val_take_succ (l := xs) (i := 0) h0
 simp only [Nat.zero_add, List.take_zero, W64.val, Int.pow_zero, Int.mul_one, Int.zero_add, Int.natCast_zero] at h
 rw [h, val_one, Int.pow_succ, Int.pow_zero]
 omega
theorem first_rest {xs : List Int} (h0 : 0 < xs.length) : xs = rd xs 0 :: xs.drop 1 := by
 cases xs with
 | nil => exact absurd h0 (by simp)
 | cons x l => simp [rd]
theorem Inc.quick {xs : List Int} {y : Int} (h0 : 0 < xs.length) (hd : W64.Dig xs) (hy0 : 0 ≤ y) (hy : y ≤ 1) (hc : (rd xs 0 + y) / 18446744073709551616 = 0) :
   ([(rd xs 0 + y) % 18446744073709551616] ++ xs.drop 1).length = xs.length ∧ W64.Dig ([(rd xs 0 + y) % 18446744073709551616] ++ xs.drop 1) ∧ W64.val ([(rd xs 0 + y) % 18446744073709551616] ++ xs.drop 1) = W64.val xs + y := by
 have hb := W64.dig_rd hd 0
 refine ⟨by simp; omega, (Dig_one (by omega) (by omega)).append (Dig_drop hd _), ?_⟩
 have e : W64.val xs = rd xs 0 + 18446744073709551616 * W64.val (xs.drop 1) := by
   rw [first_rest h0]; simp [W64.val, rd]
 rw [e, W64.val_append, val_one]
 simp only [List.length_singleton, Int.pow_succ, Int.pow_zero, Int.one_mul]
 omega
theorem Dec.quick {xs : List Int} {y : Int} (h0 : 0 < xs.length) (hd : W64.Dig xs) (hy0 : 0 ≤ y) (hy : y ≤ 1) (hc : (rd xs 0 - y) / 18446744073709551616 = 0) :
   ([(rd xs 0 - y) % 18446744073709551616] ++ xs.drop 1).length = xs.length ∧ W64.Dig ([(rd xs 0 - y) % 18446744073709551616] ++ xs.drop 1) ∧ W64.val ([(rd xs 0 - y) % 18446744073709551616] ++ xs.drop 1) + y = W64.val xs := by
 have hb := W64.dig_rd hd 0
 refine ⟨by simp; omega, (Dig_one (by omega) (by omega)).append (Dig_drop hd _), ?_⟩
 have e : W64.val xs = rd xs 0 + 18446744073709551616 * W64.val (xs.drop 1) := by
   rw [first_rest h0]; simp [W64.val, rd]
 rw [e, W64.val_append, val_one]
 simp only [List.length_singleton, Int.pow_succ, Int.pow_zero, Int.one_mul]
 omega
def shr (p q : Int) : List Int → List Int
 | [] => []
 | [x] => [x / p]
 | x :: y :: l => (x / p + y * q % 18446744073709551616) :: shr p q (y :: l)
theorem shr_len (p q : Int) : ∀ l : List Int, (shr p q l).length = l.length
 | [] => rfl
 | [x] => rfl
 | x :: y :: l => by rw [shr, List.length_cons, shr_len p q (y :: l)]; simp
theorem Halfs.comm {p q : Int} (h : Halfs p q) : Halfs q p := ⟨h.q0, h.p0, by rw [Int.mul_comm]; exact h.all⟩
theorem shr_val {p q : Int} (h : Halfs p q) : ∀ l : List Int, W64.val (shr p q l) = W64.val l / p
 | [] => by simp [shr, W64.val]
 | [x] => by simp [shr, W64.val]
 | x :: y :: l => by
   have ih := shr_val h (y :: l)
   have e1 : W64.val (x :: y :: l) = x + p * (q * W64.val (y :: l)) := by
     rw [show W64.val (x :: y :: l) = x + 18446744073709551616 * W64.val (y :: l) from rfl, ← h.all, Int.mul_assoc]
   have e2 : W64.val (y :: l) % p = y % p := by
     rw [show W64.val (y :: l) = y + 18446744073709551616 * W64.val l from rfl, ← h.all, Int.mul_assoc]
     exact Int.add_mul_emod_self_left _ _ _
   have e3 := Int.emod_add_mul_ediv (W64.val (y :: l)) p
   rw [shr, show W64.val ((x / p + y * q % 18446744073709551616) :: shr p q (y :: l)) = x / p + y * q % 18446744073709551616 + 18446744073709551616 * W64.val (shr p q (y :: l)) from rfl, ih, e1, Int.add_mul_ediv_left _ _ (Int.ne_of_gt h.p0), h.comm.mod, ← e2]
   generalize W64.val (y :: l) = V at *
   have e4 : q * V = V % p * q + 18446744073709551616 * (V / p) := by
     have e5 : q * V = q * (V % p + p * (V / p)) := by rw [e3]
     rw [e5, Int.mul_add, ← Int.mul_assoc, Int.mul_comm q p, h.all, Int.mul_comm q]
   rw [e4]
   omega
theorem shr_dig {p q : Int} (h : Halfs p q) : ∀ l : List Int, W64.Dig l → W64.Dig (shr p q l)
 | [], _ => W64.Dig.nil
 | [x], hd => by
   have hx := hd.head
   have ht := h.comm.top hx.1 hx.2
   exact Dig_one ht.1 (by have := Int.ediv_le_self p hx.1; omega)
 | x :: y :: l, hd => by
   have hx := hd.head
   have ht := h.comm.top hx.1 hx.2
   have hl := h.comm.low y
   exact W64.Dig.cons (by omega) (shr_dig h (y :: l) hd.tail)
theorem shr_last (p q : Int) : ∀ l : List Int, 0 < l.length → rd (shr p q l) ((l.length - 1 : Nat) : Int) = rd l ((l.length - 1 : Nat) : Int) / p
 | [], h => absurd h (by simp)
 | [x], _ => by simp [shr, rd]
 | x :: y :: l, _ => by
   have ih := shr_last p q (y :: l) (by simp)
   have e1 : (x :: y :: l).length - 1 = ((y :: l).length - 1) + 1 := by simp
   rw [e1, rd_cons, shr, rd_cons, ih]
theorem shr_succ (p q : Int) : ∀ (j : Nat) (l : List Int), j + 1 < l.length → rd (shr p q l) (j : Int) = rd l (j : Int) / p + rd l ((j + 1 : Nat) : Int) * q % 18446744073709551616
 | 0, [], h => absurd h (by simp)
 | 0, [x], h => absurd h (by simp)
 | 0, x :: y :: l, _ => by simp [shr, rd]
 | j + 1, [], h => absurd h (by simp)
 | j + 1, [x], h => absurd h (by simp)
 | j + 1, x :: y :: l, h => by
   have ih := shr_succ p q j (y :: l) (by simpa using h)
   rw [rd_cons x, rd_cons x, shr, rd_cons, ih]
theorem or_sum_low {s t : Nat} (hst : s + t = 64) {x y : Int} (hx0 : 0 ≤ x) (hx1 : x < (2 : Int) ^ t) : bits .or .u64 x (y * (2 : Int) ^ t % 18446744073709551616) = x + y * (2 : Int) ^ t % 18446744073709551616 := by
 have h := (halfs_of hst).comm
 have hl := h.low y
 have hm := h.mod y
 refine bits_join_low .u64 64 (by decide) (fun n a b => by rw [IntKind.wrap_u64]; omega) t x _ hx0 hx1 ?_ hl.1 ?_ ?_
 · have : (2 : Int) ^ 64 = 18446744073709551616 := by decide
   have := h.p0
   omega
 · rw [hm]; exact Int.mul_emod_left _ _
 · have : (2 : Int) ^ 64 = 18446744073709551616 := by decide
   have := h.p0
   omega
theorem rd_far {out cs : List Int} {k j : Nat} (h : out.length = k) (hk : k ≤ j) (hj : j < cs.length) : rd (out ++ cs.drop k) (j : Int) = rd cs (j : Int) := by
 subst h
 rw [W64.rd_lt (by simp; omega), W64.rd_lt hj, List.getElem_append_right hk, List.getElem_drop]
 congr 1
 omega
theorem rd_part {cs : List Int} {k n j : Nat} (hj : j < n) (hk : k + n ≤ cs.length) : rd ((cs.drop k).take n) (j : Int) = rd cs ((k + j : Nat) : Int) := by
 rw [W64.rd_lt (by simp; omega), W64.rd_lt (by omega)]
 simp
end Go.Proofs.YteohmbannpbokaaGreatDoor.WordWalk
