/-
 The thin package's reading of a whole number of digits.
-/
import Derived.Test.YteohmbannpbokaaGreatDoorJ36
import Derived.Test.YteohmbannpbokaaGreatDoorJ37
import Derived.Test.YteohmbannpbokaaGreatDoorJ09
set_option linter.unusedVariables false
set_option linter.unusedSimpArgs false
namespace Go.Proofs.YteohmbannpbokaaGreatDoor.BigWalk
open Go.RowKit Go.Proofs.YteohmbannpbokaaGreatDoorW.PrintWords Go.Proofs.YteohmbannpbokaaGreatDoorW.PrintLast Go.Proofs.YteohmbannpbokaaGreatDoorW.PrintMore Go.Proofs.YteohmbannpbokaaGreatDoor.SpecWalk Go.Proofs.YteohmbannpbokaaGreatDoor.StrLaw Go.Proofs.YteohmbannpbokaaGreatDoor.TextLaw Go.Proofs.YteohmbannpbokaaGreatDoor.TextWalk Go.Proofs.YteohmbannpbokaaGreatDoor.BigLaw
theorem infoWd : (Tryz.prog.info? 89).map (fun i => (i.zero, i.size, i.bytes)) = some (some (.int .u64 0), 1, 8) := by kernel_rfl
theorem Kd_V_of {e e2 base : Nat} {w : World} {ok : Nat → Prop} {v : Value} {x : List Int} (h : Kd.R (Kd.int .u64) e w base ok v x) : Kd.V (Kd.int .u64) e2 w 0 (fun k => base ≤ k ∧ k < w.heap.size) v x :=
 have h1 : Kd.V (Kd.int .u64) e w 0 (fun k => base ≤ k ∧ k < w.heap.size) v x := Kd.R_V (Kd.R_mono (Kd.R_bound h) (fun _ hk => ⟨hk.2.1, hk.2.2.1⟩))
 h1
set_option maxHeartbeats 4000000 in
set_option maxRecDepth 100000 in
theorem whole_plain (t : ByteArray) (N : Nat) (w : World) (hD : Digits t) (hl : t.size ≤ 400) (hN : dnum t = N) (h48 : bt t 0 ≠ 48) :
   Calls Tryz.prog 21 #[.string t] w fun e w' => ∃ g, e = .returned (.tuple #[.pointer (some ⟨g, 0, none⟩), .bool true]) ∧ w.heap.size ≤ g ∧ Big w' (fun k => w.heap.size ≤ k ∧ k ≠ g) g false N ∧ Below w.heap.size w w' := by
 have HD := Aside0.mk hD
 have HNV := Aside0.mk hN
 have HB := Aside0.mk (Below.refl w.heap.size w)
 have hsz : (t.size : Int) ≤ 401 := by omega
 have hl4 : (t.size : Int) ≤ 400 := by omega
 have hp := hD.pos
 have hx := bt0 t
 have hb := hD.all 0 hp
 rw [show ((0 : Nat) : Int) = 0 from rfl] at hb
 have h45 : (bt t 0 == 45) = false := beq_eq_false_iff_ne.mpr (by omega)
 have h48' : (bt t 0 == 48) = false := beq_eq_false_iff_ne.mpr h48
 have hpt := eq_true hp
 have hz0 : ((t.size : Int) == 0) = false := beq_eq_false_iff_ne.mpr (by omega)
 have hd4 : decide (400 < (t.size : Int)) = false := decide_eq_false (by omega)
 clear hD hl hN h48 hb
 generalize bt t 0 = B at *
 go_enter Tryz.func21, Tryz.ntmps21
 go_wp2
 clear hx h45 h48' hpt hz0 hd4
 go_loopg [5, 6] (t.size + 1) (fun gg v5 v6 w' => ∃ (l : List Int) (i : Int), v6 = .int .i64 i ∧ Acc t l i ∧ Aside0 ((t.size : Int) - i ≤ (gg : Int)) ∧ Aside0 (Kd.R (Kd.int .u64) 79 w' w.heap.size (fun _ => True) v5 l) ∧ Aside0 (Below w.heap.size w w'))
 case atStart => exact ⟨[], 0, rfl, Acc.start t, ⟨by omega⟩, ⟨Kd.R_nil _ _ _ _ _⟩, HB⟩
 case round =>
   clear HB
   obtain ⟨l, i, rfl, HI, HG, HL, HB⟩ := hrel
   obtain ⟨i0, i1, hll, hdg⟩ := HI.bound
   obtain ⟨Al, cl, el⟩ := Kd.R_slice HL.out
   subst el
   obtain ⟨G0, rfl⟩ : ∃ G0, G0 = gk := ⟨_, rfl⟩
   have HLL := Aside0.mk (show (l.length : Int) ≤ 401 by omega)
   have hll4 : (l.length : Int) ≤ 401 := HLL.out
   have HDG := Aside0.mk hdg
   have HIA := Aside0.mk HI
   clear HI hdg hll
   by_cases hi : i < (t.size : Int)
   · have HIL := Aside0.mk hi
     have HLo := HL
     have HBo := HB
     clear HL HB
     have hin : ((i.toNat : Nat) : Int) = i := by omega
     have HNS := Nine.start t i.toNat
     rw [hin] at HNS
     have HIN := Aside0.mk hin
     clear hin
     go_wp2
     go_loopg [6, 7, 8] 9 (fun gg v6 v7 v8 w' => ∃ (i2 n sc : Int), v6 = .int .i64 i2 ∧ v7 = .int .u64 n ∧ v8 = .int .u64 sc ∧ Nine t i.toNat n sc i2 ∧ Aside0 (i2 + (gg : Int) = i + 9 ∧ i2 ≤ t.size) ∧ Aside0 (Kd.R (Kd.int .u64) 79 w' w.heap.size (fun _ => True) (.slice Al l.length cl) l) ∧ Aside0 (Below w.heap.size w w'))
     case atStart => exact ⟨i, 0, 1, rfl, rfl, rfl, HNS, ⟨by omega, by omega⟩, HLo, HBo⟩
     case round =>
       clear HLo HBo HNS
       obtain ⟨i2, n, sc, rfl, rfl, rfl, HJ, HG2, HL, HB⟩ := hrel
       have hb := HJ.bound HD.out HG2.out.2
       rw [HIN.out] at hb
       obtain ⟨b1, b2, b3, b4, b5, b6, b7⟩ := hb
       have HNB := Aside0.mk (And.intro b1 (And.intro b2 (And.intro b3 (And.intro b4 (And.intro b5 (And.intro b6 b7))))))
       have HIS := Aside0.mk HG2.out.2
       by_cases h1 : i2 < (t.size : Int)
       · by_cases h2 : sc < 1000000000
         · obtain ⟨s1, s2⟩ := b6 h2
           have HS9 := Aside0.mk s2
           have hall := HD.out.all i2.toNat (by omega)
           have i20 : 0 ≤ i2 := by omega
           rw [show ((i2.toNat : Nat) : Int) = i2 by omega] at hall
           obtain ⟨d1, d2⟩ := hall
           have HJ2 := Aside0.mk (HJ.step HD.out h1 h2)
           have hx := bt_at t i2
           have p7 := eq_true i20
           have q7 := eq_true h1
           have hn8 : n ≤ 99999999 := by omega
           clear HJ b6 b7 b3
           generalize bt t i2 = y at *
           go_wp2
           go_roundg (gk - 1)
           case measure => have := HG2.out.1; have := HS9.out; omega
           case rel => exact ⟨i2 + 1, n * 10 + (y - 48), sc * 10, rfl, rfl, rfl, HJ2.out, ⟨by have := HG2.out.1; omega, by omega⟩, HL, HB⟩
         · clear b6 b3 b1
           have HLT := Aside0.mk (show i < i2 by exact b7 h2)
           have HNI := Aside0.mk HJ
           have hs0 := HNB.out.2.2.2.1
           have hs1 := HNB.out.2.2.2.2.1
           have n0 := HNB.out.2.1
           have n1 : n ≤ 1000000000 := by have := HNB.out.2.2.1; omega
           have HSB := Aside0.mk (And.intro hs0 hs1)
           have HLo := HL
           have HBo := HB
           have HMS := Aside0.mk (MulK.start (sc := sc) HDG.out n0 n1)
           clear HJ HL HB HG2
           go_wp2
           go_loopg [7, 81] l.length (fun gg v7 v81 w' => ∃ (y : List Int) (m k : Int), v7 = .int .u64 m ∧ v81 = .int .i64 k ∧ MulK l y n sc m k ∧ Aside0 (k + (gg : Int) = l.length) ∧ Aside0 (Kd.R (Kd.int .u64) 79 w' w.heap.size (fun _ => True) (.slice Al l.length cl) y) ∧ Aside0 (Below w.heap.size w w'))
           case atStart => exact ⟨l, n, 0, rfl, rfl, HMS.out, ⟨by simp⟩, HLo, HBo⟩
           case round =>
             clear HLo HBo HMS
             obtain ⟨y, m, k, rfl, rfl, HM, HK, HL, HB⟩ := hrel
             obtain ⟨k0, k1, hyl, m0, m1⟩ := HM.bound
             by_cases hk : k < (l.length : Int)
             · obtain ⟨g, c', el, hgl, hgl2, cells, hcells⟩ := Kd.R_form HL.out (by omega)
               injection el with ea en ec
               subst ea ec
               clear en cells hcells
               have HGL := Aside0.mk hgl
               obtain ⟨hcy, hfy⟩ := Kd.R_celln 0 HL.out k k0 (by omega)
               obtain ⟨HM2, c0, c1, p0, p1⟩ := HM.step HDG.out hk HSB.out.1 HSB.out.2 rfl
               have hand := and32 (m + rd y k * sc) c0 (by omega)
               have hz := HM.dig
               have HPU := Kd.R_putg HL.out k ((m + rd y k * sc) % 4294967296)
               have HMM := Aside0.mk HM2
               have HP1 := Aside0.mk HPU.1
               have z0 : 0 ≤ rd y k := (H32.dig_rd hz k).1
               have z1 : rd y k < 4294967296 := (H32.dig_rd hz k).2
               have hk2 := hk
               change _ = some (Value.int .u64 (rd y k)) at hcy
               clear HM HM2 HPU hz hyl
               generalize rd y k = z at *
               go_wp2
               go_roundg (gk - 1)
               case measure => have := HK.out; omega
               case rel => exact ⟨_, (m + z * sc) / 4294967296, k + 1, rfl, rfl, HMM.out, ⟨by have := HK.out; omega⟩, HP1, ⟨HB.out.setCell HGL.out _⟩⟩
             · have HYL := Aside0.mk hyl
               have hi2s := HIS.out
               have HLB := Aside0.mk (show (y.length : Int) ≤ 401 by rw [hyl]; exact HLL.out)
               by_cases hm : 0 < m
               · have HST := Aside0.mk (HIA.out.step HD.out HNI.out HLT.out hi2s HM hk (.inr ⟨rfl, hm⟩))
                 clear HM hyl hi2s
                 go_wp2_with (first | ((with_reducible refine gate_builtin (b := .append) (xs := #[.tmp 102, .tmp 104]) rfl ?_); at_builtin; refine Kd.R_append (Kd.int .u64) (w0 := w) w.heap.size rfl (.tmp 102) (.tmp 104) 88 79 (.int .u64 0) 8 rfl Tryz.underlying88 infoH rfl (by decide) (by omega) _ y (m) [.int .u64 (m)] (fun _ => True) (fun _ => False) rfl rfl ?aP (fun _ hk => hk.elim) ?aF ?aO ?aB ?aS ?aL ?_; (case aP => exact rfl); (case aB => exact HB.out); (case aF => exact (fun _ _ => trivial)); (case aO => exact HL.out); (case aS => exact below_size HB.out); (case aL => (have := HLB.out; omega)); intro v1 w1 ho hb hg hat; have HO1 := Aside0.mk ho; have HB1 := Aside0.mk hb;  clear HB ho hb hg hat))
                 go_roundg (G0 - 1)
                 case measure => have := HG.out; have := HIL.out; omega
                 case rel => exact ⟨_, i2, rfl, HST.out, ⟨by have := HG.out; have := HLT.out; omega⟩, HO1, HB1⟩
               · have HST := Aside0.mk (HIA.out.step HD.out HNI.out HLT.out hi2s HM hk (.inl ⟨rfl, by omega⟩))
                 clear HM hyl hi2s
                 go_wp2
                 go_roundg (G0 - 1)
                 case measure => have := HG.out; have := HIL.out; omega
                 case rel => exact ⟨y, i2, rfl, HST.out, ⟨by have := HG.out; have := HLT.out; omega⟩, HL, HB⟩
       · clear b6 b7 b3 b1
         have HLT := Aside0.mk (show i < i2 by have := HIL.out; omega)
         have HNI := Aside0.mk HJ
         have hs0 := HNB.out.2.2.2.1
         have hs1 := HNB.out.2.2.2.2.1
         have n0 := HNB.out.2.1
         have n1 : n ≤ 1000000000 := by have := HNB.out.2.2.1; omega
         have HSB := Aside0.mk (And.intro hs0 hs1)
         have HLo := HL
         have HBo := HB
         have HMS := Aside0.mk (MulK.start (sc := sc) HDG.out n0 n1)
         clear HJ HL HB HG2
         go_wp2
         go_loopg [7, 81] l.length (fun gg v7 v81 w' => ∃ (y : List Int) (m k : Int), v7 = .int .u64 m ∧ v81 = .int .i64 k ∧ MulK l y n sc m k ∧ Aside0 (k + (gg : Int) = l.length) ∧ Aside0 (Kd.R (Kd.int .u64) 79 w' w.heap.size (fun _ => True) (.slice Al l.length cl) y) ∧ Aside0 (Below w.heap.size w w'))
         case atStart => exact ⟨l, n, 0, rfl, rfl, HMS.out, ⟨by simp⟩, HLo, HBo⟩
         case round =>
           clear HLo HBo HMS
           obtain ⟨y, m, k, rfl, rfl, HM, HK, HL, HB⟩ := hrel
           obtain ⟨k0, k1, hyl, m0, m1⟩ := HM.bound
           by_cases hk : k < (l.length : Int)
           · obtain ⟨g, c', el, hgl, hgl2, cells, hcells⟩ := Kd.R_form HL.out (by omega)
             injection el with ea en ec
             subst ea ec
             clear en cells hcells
             have HGL := Aside0.mk hgl
             obtain ⟨hcy, hfy⟩ := Kd.R_celln 0 HL.out k k0 (by omega)
             obtain ⟨HM2, c0, c1, p0, p1⟩ := HM.step HDG.out hk HSB.out.1 HSB.out.2 rfl
             have hand := and32 (m + rd y k * sc) c0 (by omega)
             have hz := HM.dig
             have HPU := Kd.R_putg HL.out k ((m + rd y k * sc) % 4294967296)
             have HMM := Aside0.mk HM2
             have HP1 := Aside0.mk HPU.1
             have z0 : 0 ≤ rd y k := (H32.dig_rd hz k).1
             have z1 : rd y k < 4294967296 := (H32.dig_rd hz k).2
             have hk2 := hk
             change _ = some (Value.int .u64 (rd y k)) at hcy
             clear HM HM2 HPU hz hyl
             generalize rd y k = z at *
             go_wp2
             go_roundg (gk - 1)
             case measure => have := HK.out; omega
             case rel => exact ⟨_, (m + z * sc) / 4294967296, k + 1, rfl, rfl, HMM.out, ⟨by have := HK.out; omega⟩, HP1, ⟨HB.out.setCell HGL.out _⟩⟩
           · have HYL := Aside0.mk hyl
             have hi2s := HIS.out
             have HLB := Aside0.mk (show (y.length : Int) ≤ 401 by rw [hyl]; exact HLL.out)
             by_cases hm : 0 < m
             · have HST := Aside0.mk (HIA.out.step HD.out HNI.out HLT.out hi2s HM hk (.inr ⟨rfl, hm⟩))
               clear HM hyl hi2s
               go_wp2_with (first | ((with_reducible refine gate_builtin (b := .append) (xs := #[.tmp 102, .tmp 104]) rfl ?_); at_builtin; refine Kd.R_append (Kd.int .u64) (w0 := w) w.heap.size rfl (.tmp 102) (.tmp 104) 88 79 (.int .u64 0) 8 rfl Tryz.underlying88 infoH rfl (by decide) (by omega) _ y (m) [.int .u64 (m)] (fun _ => True) (fun _ => False) rfl rfl ?aP (fun _ hk => hk.elim) ?aF ?aO ?aB ?aS ?aL ?_; (case aP => exact rfl); (case aB => exact HB.out); (case aF => exact (fun _ _ => trivial)); (case aO => exact HL.out); (case aS => exact below_size HB.out); (case aL => (have := HLB.out; omega)); intro v1 w1 ho hb hg hat; have HO1 := Aside0.mk ho; have HB1 := Aside0.mk hb;  clear HB ho hb hg hat))
               go_roundg (G0 - 1)
               case measure => have := HG.out; have := HIL.out; omega
               case rel => exact ⟨_, i2, rfl, HST.out, ⟨by have := HG.out; have := HLT.out; omega⟩, HO1, HB1⟩
             · have HST := Aside0.mk (HIA.out.step HD.out HNI.out HLT.out hi2s HM hk (.inl ⟨rfl, by omega⟩))
               clear HM hyl hi2s
               go_wp2
               go_roundg (G0 - 1)
               case measure => have := HG.out; have := HIL.out; omega
               case rel => exact ⟨y, i2, rfl, HST.out, ⟨by have := HG.out; have := HLT.out; omega⟩, HL, HB⟩
   · obtain ⟨hdl, hvl, hlen⟩ := HIA.out.done hi
     rw [HNV.out] at hvl
     have HDL := Aside0.mk hdl
     have HVL := Aside0.mk hvl
     have HLo := HL
     have HBo := HB
     clear HL HB hdl hvl hlen HIA HG
     go_wp2
     clear hi i0 i1
     go_loopg [10, 108] l.length (fun gg v10 v108 w' => ∃ (x : List Int) (k : Int), v108 = .int .i64 k ∧ Join l x k ∧ Aside0 (k + (gg : Int) = l.length) ∧ Aside0 (Kd.R (Kd.int .u64) 79 w' w.heap.size (fun _ => True) (.slice Al l.length cl) l) ∧ Aside0 (Kd.R (Kd.int .u64) 89 w' w.heap.size (fun _ => True) v10 x) ∧ Aside0 (Below w.heap.size w w'))
     case atStart => exact ⟨[], 0, rfl, Join.start l, ⟨by simp⟩, HLo, ⟨Kd.R_nil _ _ _ _ _⟩, HBo⟩
     case round =>
       clear HLo HBo
       obtain ⟨x, k, rfl, HJ, HK, HL, HX, HB⟩ := hrel
       obtain ⟨k0, k1, hxl⟩ := HJ.bound
       obtain ⟨Ax, cx, ex⟩ := Kd.R_slice HX.out
       subst ex
       have HLB := Aside0.mk (show (x.length : Int) ≤ 401 by omega)
       by_cases hk : k < (l.length : Int)
       · obtain ⟨g, c', el, hgl, hgl2, cells, hcells⟩ := Kd.R_form HL.out (by omega)
         injection el with ea en ec
         subst ea ec
         clear en cells hcells
         obtain ⟨hcl, hfl⟩ := Kd.R_celln 0 HL.out k k0 hk
         change _ = some (Value.int .u64 (rd l k)) at hcl
         obtain ⟨z0, z1⟩ := H32.dig_rd HDL.out k
         by_cases he : k % 2 = 0
         · have HST := Aside0.mk (HJ.even HDL.out hk he)
           have hrm : k.tmod 2 = 0 := by rw [Int.tmod_eq_emod_of_nonneg k0]; exact he
           clear HJ hxl he
           generalize rd l k = z at *
           go_wp2_with (first | ((with_reducible refine gate_builtin (b := .append) (xs := #[.tmp 114, .tmp 119]) rfl ?_); at_builtin; refine Kd.R_append (Kd.int .u64) (w0 := w) w.heap.size rfl (.tmp 114) (.tmp 119) 56 89 (.int .u64 0) 8 rfl Tryz.underlying56 infoWd rfl (by decide) (by omega) _ x (z) [.int .u64 (z)] (fun _ => True) (fun _ => False) rfl rfl ?aP (fun _ hk => hk.elim) ?aF ?aO ?aB ?aS ?aL ?_; (case aP => exact rfl); (case aB => exact HB.out); (case aF => exact (fun _ _ => trivial)); (case aO => exact HX.out); (case aS => exact below_size HB.out); (case aL => (have := HLB.out; omega)); intro v1 w1 ho hb hg hat; have HO1 := Aside0.mk ho; have HB1 := Aside0.mk hb; have HL1 := Aside0.mk (R_other HL.out HX.out (by decide) hg); clear HB ho hb hg hat))
           go_roundg (gk - 1)
           case measure => have := HK.out; omega
           case rel => exact ⟨_, k + 1, rfl, HST.out, ⟨by have := HK.out; omega⟩, HL1, HO1, HB1⟩
         · have ho : k % 2 = 1 := by omega
           have hrm : k.tmod 2 = 1 := by rw [Int.tmod_eq_emod_of_nonneg k0]; exact ho
           have hqt : k.tdiv 2 = k / 2 := Int.tdiv_eq_ediv_of_nonneg k0
           obtain ⟨HS, lo0, lo1, hkl⟩ := HJ.odd HDL.out hk ho
           have HST := Aside0.mk HS
           have hq0 : 0 ≤ k / 2 := by omega
           have hx4 : (x.length : Int) ≤ 401 := HLB.out
           obtain ⟨g2, c2, el2, hg2, hg3, cells2, hcells2⟩ := Kd.R_form HX.out (by omega)
           injection el2 with ea2 en2 ec2
           subst ea2 ec2
           clear en2 cells2 hcells2
           have HG3 := Aside0.mk hg2
           obtain ⟨hcx, hfx⟩ := Kd.R_celln 0 HX.out (k / 2) hq0 hkl
           change _ = some (Value.int .u64 (rd x (k / 2))) at hcx
           have hor := or_lo (rd x (k / 2)) (rd l k * 4294967296) lo0 lo1 (by omega) (by omega) (by omega)
           have HPU := Kd.R_putg (Kd.R_drew HX.out) (k / 2) (rd x (k / 2) + rd l k * 4294967296)
           have HP1 := Aside0.mk HPU.1
           have HL1 := Aside0.mk (R_other (Kd.R_drew HL.out) (Kd.R_drew HX.out) (by decide) HPU.2)
           clear HJ HS HPU he hxl
           generalize rd l k = z at *
           generalize rd x (k / 2) = y at *
           generalize k / 2 = q at *
           go_wp2
           go_region
           go_wp2
           go_roundg (gk - 1)
           case measure => have := HK.out; omega
           case rel => exact ⟨_, k + 1, rfl, HST.out, ⟨by have := HK.out; omega⟩, HL1, HP1, ⟨(HB.out.setCell HG3.out _).drew⟩⟩
       · obtain ⟨hdx, hvx, _⟩ := HJ.done hk
         rw [HVL.out] at hvx
         have hbox : Box (wr.alloc (Obj.cells #[.bool false, .slice none 0 0] 59)) wr.heap.size [.bool false, .slice none 0 0] := Box.new2 _ _ _ _ _ rfl
         have hblk : Blk (wr.alloc (Obj.cells #[.bool false, .slice none 0 0] 59)) wr.heap.size := Blk.new _ _ _ _ rfl
         have hV := Kd.V_below (Kd_V_of (e2 := 0) HX.out) ((Below.refl _ _).alloc (Nat.le_refl _) (Obj.cells #[.bool false, .slice none 0 0] 59))
         have HSB := Aside0.mk (SetBits_k wr.heap.size x N _ _ _ hbox hblk hdx (by have := HLB.out; omega) hvx hV (fun k hk => by have := hk.2; omega))
         have HBA := Aside0.mk (HB.out.alloc HB.out.size (Obj.cells #[.bool false, .slice none 0 0] 59))
         clear HJ hdx hvx hbox hblk hV hxl
         go_wp2_with (go_at_call 45; refine HSB.out.mono ?_; rintro e w1 ⟨rfl, hbig, hk⟩; have HBI := Aside0.mk hbig; have HKB := Aside0.mk hk; clear hbig hk)
         go_ret2
         exact ⟨wr.heap.size, rfl, HB.out.size, HBI.out.mono (fun k hk => ⟨hk.1, by omega⟩), HKB.out.below HBA.out HB.out.size⟩
set_option maxHeartbeats 4000000 in
set_option maxRecDepth 100000 in
theorem whole_zero (t : ByteArray) (N : Nat) (w : World) (hD : Digits t) (hl : t.size = 1) (hN : dnum t = N) (h48 : bt t 0 = 48) :
   Calls Tryz.prog 21 #[.string t] w fun e w' => ∃ g, e = .returned (.tuple #[.pointer (some ⟨g, 0, none⟩), .bool true]) ∧ w.heap.size ≤ g ∧ Big w' (fun k => w.heap.size ≤ k ∧ k ≠ g) g false N ∧ Below w.heap.size w w' := by
 have HD := Aside0.mk hD
 have HNV := Aside0.mk hN
 have HB := Aside0.mk (Below.refl w.heap.size w)
 have hsz : (t.size : Int) ≤ 401 := by omega
 have hl4 : (t.size : Int) ≤ 400 := by omega
 have hp := hD.pos
 have hx := bt0 t
 rw [h48] at hx
 have hpt := eq_true hp
 have hz0 : ((t.size : Int) == 0) = false := beq_eq_false_iff_ne.mpr (by omega)
 have hd4 : decide (400 < (t.size : Int)) = false := decide_eq_false (by omega)
 have hd1 : decide (1 < (t.size : Int)) = false := decide_eq_false (by omega)
 clear hD hl hN h48
 go_enter Tryz.func21, Tryz.ntmps21
 go_wp2
 clear hx hpt hz0 hd4 hd1
 go_loopg [5, 6] (t.size + 1) (fun gg v5 v6 w' => ∃ (l : List Int) (i : Int), v6 = .int .i64 i ∧ Acc t l i ∧ Aside0 ((t.size : Int) - i ≤ (gg : Int)) ∧ Aside0 (Kd.R (Kd.int .u64) 79 w' w.heap.size (fun _ => True) v5 l) ∧ Aside0 (Below w.heap.size w w'))
 case atStart => exact ⟨[], 0, rfl, Acc.start t, ⟨by omega⟩, ⟨Kd.R_nil _ _ _ _ _⟩, HB⟩
 case round =>
   clear HB
   obtain ⟨l, i, rfl, HI, HG, HL, HB⟩ := hrel
   obtain ⟨i0, i1, hll, hdg⟩ := HI.bound
   obtain ⟨Al, cl, el⟩ := Kd.R_slice HL.out
   subst el
   obtain ⟨G0, rfl⟩ : ∃ G0, G0 = gk := ⟨_, rfl⟩
   have HLL := Aside0.mk (show (l.length : Int) ≤ 401 by omega)
   have hll4 : (l.length : Int) ≤ 401 := HLL.out
   have HDG := Aside0.mk hdg
   have HIA := Aside0.mk HI
   clear HI hdg hll
   by_cases hi : i < (t.size : Int)
   · have HIL := Aside0.mk hi
     have HLo := HL
     have HBo := HB
     clear HL HB
     have hin : ((i.toNat : Nat) : Int) = i := by omega
     have HNS := Nine.start t i.toNat
     rw [hin] at HNS
     have HIN := Aside0.mk hin
     clear hin
     go_wp2
     go_loopg [6, 7, 8] 9 (fun gg v6 v7 v8 w' => ∃ (i2 n sc : Int), v6 = .int .i64 i2 ∧ v7 = .int .u64 n ∧ v8 = .int .u64 sc ∧ Nine t i.toNat n sc i2 ∧ Aside0 (i2 + (gg : Int) = i + 9 ∧ i2 ≤ t.size) ∧ Aside0 (Kd.R (Kd.int .u64) 79 w' w.heap.size (fun _ => True) (.slice Al l.length cl) l) ∧ Aside0 (Below w.heap.size w w'))
     case atStart => exact ⟨i, 0, 1, rfl, rfl, rfl, HNS, ⟨by omega, by omega⟩, HLo, HBo⟩
     case round =>
       clear HLo HBo HNS
       obtain ⟨i2, n, sc, rfl, rfl, rfl, HJ, HG2, HL, HB⟩ := hrel
       have hb := HJ.bound HD.out HG2.out.2
       rw [HIN.out] at hb
       obtain ⟨b1, b2, b3, b4, b5, b6, b7⟩ := hb
       have HNB := Aside0.mk (And.intro b1 (And.intro b2 (And.intro b3 (And.intro b4 (And.intro b5 (And.intro b6 b7))))))
       have HIS := Aside0.mk HG2.out.2
       by_cases h1 : i2 < (t.size : Int)
       · by_cases h2 : sc < 1000000000
         · obtain ⟨s1, s2⟩ := b6 h2
           have HS9 := Aside0.mk s2
           have hall := HD.out.all i2.toNat (by omega)
           have i20 : 0 ≤ i2 := by omega
           rw [show ((i2.toNat : Nat) : Int) = i2 by omega] at hall
           obtain ⟨d1, d2⟩ := hall
           have HJ2 := Aside0.mk (HJ.step HD.out h1 h2)
           have hx := bt_at t i2
           have p7 := eq_true i20
           have q7 := eq_true h1
           have hn8 : n ≤ 99999999 := by omega
           clear HJ b6 b7 b3
           generalize bt t i2 = y at *
           go_wp2
           go_roundg (gk - 1)
           case measure => have := HG2.out.1; have := HS9.out; omega
           case rel => exact ⟨i2 + 1, n * 10 + (y - 48), sc * 10, rfl, rfl, rfl, HJ2.out, ⟨by have := HG2.out.1; omega, by omega⟩, HL, HB⟩
         · clear b6 b3 b1
           have HLT := Aside0.mk (show i < i2 by exact b7 h2)
           have HNI := Aside0.mk HJ
           have hs0 := HNB.out.2.2.2.1
           have hs1 := HNB.out.2.2.2.2.1
           have n0 := HNB.out.2.1
           have n1 : n ≤ 1000000000 := by have := HNB.out.2.2.1; omega
           have HSB := Aside0.mk (And.intro hs0 hs1)
           have HLo := HL
           have HBo := HB
           have HMS := Aside0.mk (MulK.start (sc := sc) HDG.out n0 n1)
           clear HJ HL HB HG2
           go_wp2
           go_loopg [7, 81] l.length (fun gg v7 v81 w' => ∃ (y : List Int) (m k : Int), v7 = .int .u64 m ∧ v81 = .int .i64 k ∧ MulK l y n sc m k ∧ Aside0 (k + (gg : Int) = l.length) ∧ Aside0 (Kd.R (Kd.int .u64) 79 w' w.heap.size (fun _ => True) (.slice Al l.length cl) y) ∧ Aside0 (Below w.heap.size w w'))
           case atStart => exact ⟨l, n, 0, rfl, rfl, HMS.out, ⟨by simp⟩, HLo, HBo⟩
           case round =>
             clear HLo HBo HMS
             obtain ⟨y, m, k, rfl, rfl, HM, HK, HL, HB⟩ := hrel
             obtain ⟨k0, k1, hyl, m0, m1⟩ := HM.bound
             by_cases hk : k < (l.length : Int)
             · obtain ⟨g, c', el, hgl, hgl2, cells, hcells⟩ := Kd.R_form HL.out (by omega)
               injection el with ea en ec
               subst ea ec
               clear en cells hcells
               have HGL := Aside0.mk hgl
               obtain ⟨hcy, hfy⟩ := Kd.R_celln 0 HL.out k k0 (by omega)
               obtain ⟨HM2, c0, c1, p0, p1⟩ := HM.step HDG.out hk HSB.out.1 HSB.out.2 rfl
               have hand := and32 (m + rd y k * sc) c0 (by omega)
               have hz := HM.dig
               have HPU := Kd.R_putg HL.out k ((m + rd y k * sc) % 4294967296)
               have HMM := Aside0.mk HM2
               have HP1 := Aside0.mk HPU.1
               have z0 : 0 ≤ rd y k := (H32.dig_rd hz k).1
               have z1 : rd y k < 4294967296 := (H32.dig_rd hz k).2
               have hk2 := hk
               change _ = some (Value.int .u64 (rd y k)) at hcy
               clear HM HM2 HPU hz hyl
               generalize rd y k = z at *
               go_wp2
               go_roundg (gk - 1)
               case measure => have := HK.out; omega
               case rel => exact ⟨_, (m + z * sc) / 4294967296, k + 1, rfl, rfl, HMM.out, ⟨by have := HK.out; omega⟩, HP1, ⟨HB.out.setCell HGL.out _⟩⟩
             · have HYL := Aside0.mk hyl
               have hi2s := HIS.out
               have HLB := Aside0.mk (show (y.length : Int) ≤ 401 by rw [hyl]; exact HLL.out)
               by_cases hm : 0 < m
               · have HST := Aside0.mk (HIA.out.step HD.out HNI.out HLT.out hi2s HM hk (.inr ⟨rfl, hm⟩))
                 clear HM hyl hi2s
                 go_wp2_with (first | ((with_reducible refine gate_builtin (b := .append) (xs := #[.tmp 102, .tmp 104]) rfl ?_); at_builtin; refine Kd.R_append (Kd.int .u64) (w0 := w) w.heap.size rfl (.tmp 102) (.tmp 104) 88 79 (.int .u64 0) 8 rfl Tryz.underlying88 infoH rfl (by decide) (by omega) _ y (m) [.int .u64 (m)] (fun _ => True) (fun _ => False) rfl rfl ?aP (fun _ hk => hk.elim) ?aF ?aO ?aB ?aS ?aL ?_; (case aP => exact rfl); (case aB => exact HB.out); (case aF => exact (fun _ _ => trivial)); (case aO => exact HL.out); (case aS => exact below_size HB.out); (case aL => (have := HLB.out; omega)); intro v1 w1 ho hb hg hat; have HO1 := Aside0.mk ho; have HB1 := Aside0.mk hb;  clear HB ho hb hg hat))
                 go_roundg (G0 - 1)
                 case measure => have := HG.out; have := HIL.out; omega
                 case rel => exact ⟨_, i2, rfl, HST.out, ⟨by have := HG.out; have := HLT.out; omega⟩, HO1, HB1⟩
               · have HST := Aside0.mk (HIA.out.step HD.out HNI.out HLT.out hi2s HM hk (.inl ⟨rfl, by omega⟩))
                 clear HM hyl hi2s
                 go_wp2
                 go_roundg (G0 - 1)
                 case measure => have := HG.out; have := HIL.out; omega
                 case rel => exact ⟨y, i2, rfl, HST.out, ⟨by have := HG.out; have := HLT.out; omega⟩, HL, HB⟩
       · clear b6 b7 b3 b1
         have HLT := Aside0.mk (show i < i2 by have := HIL.out; omega)
         have HNI := Aside0.mk HJ
         have hs0 := HNB.out.2.2.2.1
         have hs1 := HNB.out.2.2.2.2.1
         have n0 := HNB.out.2.1
         have n1 : n ≤ 1000000000 := by have := HNB.out.2.2.1; omega
         have HSB := Aside0.mk (And.intro hs0 hs1)
         have HLo := HL
         have HBo := HB
         have HMS := Aside0.mk (MulK.start (sc := sc) HDG.out n0 n1)
         clear HJ HL HB HG2
         go_wp2
         go_loopg [7, 81] l.length (fun gg v7 v81 w' => ∃ (y : List Int) (m k : Int), v7 = .int .u64 m ∧ v81 = .int .i64 k ∧ MulK l y n sc m k ∧ Aside0 (k + (gg : Int) = l.length) ∧ Aside0 (Kd.R (Kd.int .u64) 79 w' w.heap.size (fun _ => True) (.slice Al l.length cl) y) ∧ Aside0 (Below w.heap.size w w'))
         case atStart => exact ⟨l, n, 0, rfl, rfl, HMS.out, ⟨by simp⟩, HLo, HBo⟩
         case round =>
           clear HLo HBo HMS
           obtain ⟨y, m, k, rfl, rfl, HM, HK, HL, HB⟩ := hrel
           obtain ⟨k0, k1, hyl, m0, m1⟩ := HM.bound
           by_cases hk : k < (l.length : Int)
           · obtain ⟨g, c', el, hgl, hgl2, cells, hcells⟩ := Kd.R_form HL.out (by omega)
             injection el with ea en ec
             subst ea ec
             clear en cells hcells
             have HGL := Aside0.mk hgl
             obtain ⟨hcy, hfy⟩ := Kd.R_celln 0 HL.out k k0 (by omega)
             obtain ⟨HM2, c0, c1, p0, p1⟩ := HM.step HDG.out hk HSB.out.1 HSB.out.2 rfl
             have hand := and32 (m + rd y k * sc) c0 (by omega)
             have hz := HM.dig
             have HPU := Kd.R_putg HL.out k ((m + rd y k * sc) % 4294967296)
             have HMM := Aside0.mk HM2
             have HP1 := Aside0.mk HPU.1
             have z0 : 0 ≤ rd y k := (H32.dig_rd hz k).1
             have z1 : rd y k < 4294967296 := (H32.dig_rd hz k).2
             have hk2 := hk
             change _ = some (Value.int .u64 (rd y k)) at hcy
             clear HM HM2 HPU hz hyl
             generalize rd y k = z at *
             go_wp2
             go_roundg (gk - 1)
             case measure => have := HK.out; omega
             case rel => exact ⟨_, (m + z * sc) / 4294967296, k + 1, rfl, rfl, HMM.out, ⟨by have := HK.out; omega⟩, HP1, ⟨HB.out.setCell HGL.out _⟩⟩
           · have HYL := Aside0.mk hyl
             have hi2s := HIS.out
             have HLB := Aside0.mk (show (y.length : Int) ≤ 401 by rw [hyl]; exact HLL.out)
             by_cases hm : 0 < m
             · have HST := Aside0.mk (HIA.out.step HD.out HNI.out HLT.out hi2s HM hk (.inr ⟨rfl, hm⟩))
               clear HM hyl hi2s
               go_wp2_with (first | ((with_reducible refine gate_builtin (b := .append) (xs := #[.tmp 102, .tmp 104]) rfl ?_); at_builtin; refine Kd.R_append (Kd.int .u64) (w0 := w) w.heap.size rfl (.tmp 102) (.tmp 104) 88 79 (.int .u64 0) 8 rfl Tryz.underlying88 infoH rfl (by decide) (by omega) _ y (m) [.int .u64 (m)] (fun _ => True) (fun _ => False) rfl rfl ?aP (fun _ hk => hk.elim) ?aF ?aO ?aB ?aS ?aL ?_; (case aP => exact rfl); (case aB => exact HB.out); (case aF => exact (fun _ _ => trivial)); (case aO => exact HL.out); (case aS => exact below_size HB.out); (case aL => (have := HLB.out; omega)); intro v1 w1 ho hb hg hat; have HO1 := Aside0.mk ho; have HB1 := Aside0.mk hb;  clear HB ho hb hg hat))
               go_roundg (G0 - 1)
               case measure => have := HG.out; have := HIL.out; omega
               case rel => exact ⟨_, i2, rfl, HST.out, ⟨by have := HG.out; have := HLT.out; omega⟩, HO1, HB1⟩
             · have HST := Aside0.mk (HIA.out.step HD.out HNI.out HLT.out hi2s HM hk (.inl ⟨rfl, by omega⟩))
               clear HM hyl hi2s
               go_wp2
               go_roundg (G0 - 1)
               case measure => have := HG.out; have := HIL.out; omega
               case rel => exact ⟨y, i2, rfl, HST.out, ⟨by have := HG.out; have := HLT.out; omega⟩, HL, HB⟩
   · obtain ⟨hdl, hvl, hlen⟩ := HIA.out.done hi
     rw [HNV.out] at hvl
     have HDL := Aside0.mk hdl
     have HVL := Aside0.mk hvl
     have HLo := HL
     have HBo := HB
     clear HL HB hdl hvl hlen HIA HG
     go_wp2
     clear hi i0 i1
     go_loopg [10, 108] l.length (fun gg v10 v108 w' => ∃ (x : List Int) (k : Int), v108 = .int .i64 k ∧ Join l x k ∧ Aside0 (k + (gg : Int) = l.length) ∧ Aside0 (Kd.R (Kd.int .u64) 79 w' w.heap.size (fun _ => True) (.slice Al l.length cl) l) ∧ Aside0 (Kd.R (Kd.int .u64) 89 w' w.heap.size (fun _ => True) v10 x) ∧ Aside0 (Below w.heap.size w w'))
     case atStart => exact ⟨[], 0, rfl, Join.start l, ⟨by simp⟩, HLo, ⟨Kd.R_nil _ _ _ _ _⟩, HBo⟩
     case round =>
       clear HLo HBo
       obtain ⟨x, k, rfl, HJ, HK, HL, HX, HB⟩ := hrel
       obtain ⟨k0, k1, hxl⟩ := HJ.bound
       obtain ⟨Ax, cx, ex⟩ := Kd.R_slice HX.out
       subst ex
       have HLB := Aside0.mk (show (x.length : Int) ≤ 401 by omega)
       by_cases hk : k < (l.length : Int)
       · obtain ⟨g, c', el, hgl, hgl2, cells, hcells⟩ := Kd.R_form HL.out (by omega)
         injection el with ea en ec
         subst ea ec
         clear en cells hcells
         obtain ⟨hcl, hfl⟩ := Kd.R_celln 0 HL.out k k0 hk
         change _ = some (Value.int .u64 (rd l k)) at hcl
         obtain ⟨z0, z1⟩ := H32.dig_rd HDL.out k
         by_cases he : k % 2 = 0
         · have HST := Aside0.mk (HJ.even HDL.out hk he)
           have hrm : k.tmod 2 = 0 := by rw [Int.tmod_eq_emod_of_nonneg k0]; exact he
           clear HJ hxl he
           generalize rd l k = z at *
           go_wp2_with (first | ((with_reducible refine gate_builtin (b := .append) (xs := #[.tmp 114, .tmp 119]) rfl ?_); at_builtin; refine Kd.R_append (Kd.int .u64) (w0 := w) w.heap.size rfl (.tmp 114) (.tmp 119) 56 89 (.int .u64 0) 8 rfl Tryz.underlying56 infoWd rfl (by decide) (by omega) _ x (z) [.int .u64 (z)] (fun _ => True) (fun _ => False) rfl rfl ?aP (fun _ hk => hk.elim) ?aF ?aO ?aB ?aS ?aL ?_; (case aP => exact rfl); (case aB => exact HB.out); (case aF => exact (fun _ _ => trivial)); (case aO => exact HX.out); (case aS => exact below_size HB.out); (case aL => (have := HLB.out; omega)); intro v1 w1 ho hb hg hat; have HO1 := Aside0.mk ho; have HB1 := Aside0.mk hb; have HL1 := Aside0.mk (R_other HL.out HX.out (by decide) hg); clear HB ho hb hg hat))
           go_roundg (gk - 1)
           case measure => have := HK.out; omega
           case rel => exact ⟨_, k + 1, rfl, HST.out, ⟨by have := HK.out; omega⟩, HL1, HO1, HB1⟩
         · have ho : k % 2 = 1 := by omega
           have hrm : k.tmod 2 = 1 := by rw [Int.tmod_eq_emod_of_nonneg k0]; exact ho
           have hqt : k.tdiv 2 = k / 2 := Int.tdiv_eq_ediv_of_nonneg k0
           obtain ⟨HS, lo0, lo1, hkl⟩ := HJ.odd HDL.out hk ho
           have HST := Aside0.mk HS
           have hq0 : 0 ≤ k / 2 := by omega
           have hx4 : (x.length : Int) ≤ 401 := HLB.out
           obtain ⟨g2, c2, el2, hg2, hg3, cells2, hcells2⟩ := Kd.R_form HX.out (by omega)
           injection el2 with ea2 en2 ec2
           subst ea2 ec2
           clear en2 cells2 hcells2
           have HG3 := Aside0.mk hg2
           obtain ⟨hcx, hfx⟩ := Kd.R_celln 0 HX.out (k / 2) hq0 hkl
           change _ = some (Value.int .u64 (rd x (k / 2))) at hcx
           have hor := or_lo (rd x (k / 2)) (rd l k * 4294967296) lo0 lo1 (by omega) (by omega) (by omega)
           have HPU := Kd.R_putg (Kd.R_drew HX.out) (k / 2) (rd x (k / 2) + rd l k * 4294967296)
           have HP1 := Aside0.mk HPU.1
           have HL1 := Aside0.mk (R_other (Kd.R_drew HL.out) (Kd.R_drew HX.out) (by decide) HPU.2)
           clear HJ HS HPU he hxl
           generalize rd l k = z at *
           generalize rd x (k / 2) = y at *
           generalize k / 2 = q at *
           go_wp2
           go_region
           go_wp2
           go_roundg (gk - 1)
           case measure => have := HK.out; omega
           case rel => exact ⟨_, k + 1, rfl, HST.out, ⟨by have := HK.out; omega⟩, HL1, HP1, ⟨(HB.out.setCell HG3.out _).drew⟩⟩
       · obtain ⟨hdx, hvx, _⟩ := HJ.done hk
         rw [HVL.out] at hvx
         have hbox : Box (wr.alloc (Obj.cells #[.bool false, .slice none 0 0] 59)) wr.heap.size [.bool false, .slice none 0 0] := Box.new2 _ _ _ _ _ rfl
         have hblk : Blk (wr.alloc (Obj.cells #[.bool false, .slice none 0 0] 59)) wr.heap.size := Blk.new _ _ _ _ rfl
         have hV := Kd.V_below (Kd_V_of (e2 := 0) HX.out) ((Below.refl _ _).alloc (Nat.le_refl _) (Obj.cells #[.bool false, .slice none 0 0] 59))
         have HSB := Aside0.mk (SetBits_k wr.heap.size x N _ _ _ hbox hblk hdx (by have := HLB.out; omega) hvx hV (fun k hk => by have := hk.2; omega))
         have HBA := Aside0.mk (HB.out.alloc HB.out.size (Obj.cells #[.bool false, .slice none 0 0] 59))
         clear HJ hdx hvx hbox hblk hV hxl
         go_wp2_with (go_at_call 45; refine HSB.out.mono ?_; rintro e w1 ⟨rfl, hbig, hk⟩; have HBI := Aside0.mk hbig; have HKB := Aside0.mk hk; clear hbig hk)
         go_ret2
         exact ⟨wr.heap.size, rfl, HB.out.size, HBI.out.mono (fun k hk => ⟨hk.1, by omega⟩), HKB.out.below HBA.out HB.out.size⟩
set_option maxHeartbeats 4000000 in
set_option maxRecDepth 100000 in
theorem whole_minus (t : ByteArray) (N : Nat) (w : World) (hD : Digits t) (hl : t.size ≤ 400) (hN : dnum t = N) (h48 : bt t 0 ≠ 48) (hsg : sgn true N = true) :
   Calls Tryz.prog 21 #[.string (minus t)] w fun e w' => ∃ g, e = .returned (.tuple #[.pointer (some ⟨g, 0, none⟩), .bool true]) ∧ w.heap.size ≤ g ∧ Big w' (fun k => w.heap.size ≤ k ∧ k ≠ g) g true N ∧ Below w.heap.size w w' := by
 have HSG := Aside0.mk hsg
 have HD := Aside0.mk hD
 have HNV := Aside0.mk hN
 have HB := Aside0.mk (Below.refl w.heap.size w)
 have hsz : (t.size : Int) ≤ 401 := by omega
 have hl4 : (t.size : Int) ≤ 400 := by omega
 have hp := hD.pos
 have hx := bt0 t
 have h48' : (bt t 0 == 48) = false := beq_eq_false_iff_ne.mpr h48
 have hpt := eq_true hp
 have hz0 : ((t.size : Int) == 0) = false := beq_eq_false_iff_ne.mpr (by omega)
 have hd4 : decide (400 < (t.size : Int)) = false := decide_eq_false (by omega)
 have hms := minus_size t
 have hmx := bt0 (minus t)
 rw [minus_first] at hmx
 have hmp := eq_true (show 0 < (minus t).size by omega)
 have hext := minus_tail t
 have hle : (1 : Int) ≤ ((minus t).size : Int) := by omega
 have hle2 : 1 ≤ (minus t).size := by omega
 have hmm : ((minus t).size : Int) ≤ 402 := by omega
 clear hD hl hN h48 hms hsg
 generalize bt t 0 = B at *
 generalize minus t = s at *
 go_enter Tryz.func21, Tryz.ntmps21
 go_wp2
 clear hx h48' hpt hz0 hd4 hmx hmp hext hle hle2 hmm
 go_loopg [5, 6] (t.size + 1) (fun gg v5 v6 w' => ∃ (l : List Int) (i : Int), v6 = .int .i64 i ∧ Acc t l i ∧ Aside0 ((t.size : Int) - i ≤ (gg : Int)) ∧ Aside0 (Kd.R (Kd.int .u64) 79 w' w.heap.size (fun _ => True) v5 l) ∧ Aside0 (Below w.heap.size w w'))
 case atStart => exact ⟨[], 0, rfl, Acc.start t, ⟨by omega⟩, ⟨Kd.R_nil _ _ _ _ _⟩, HB⟩
 case round =>
   clear HB
   obtain ⟨l, i, rfl, HI, HG, HL, HB⟩ := hrel
   obtain ⟨i0, i1, hll, hdg⟩ := HI.bound
   obtain ⟨Al, cl, el⟩ := Kd.R_slice HL.out
   subst el
   obtain ⟨G0, rfl⟩ : ∃ G0, G0 = gk := ⟨_, rfl⟩
   have HLL := Aside0.mk (show (l.length : Int) ≤ 401 by omega)
   have hll4 : (l.length : Int) ≤ 401 := HLL.out
   have HDG := Aside0.mk hdg
   have HIA := Aside0.mk HI
   clear HI hdg hll
   by_cases hi : i < (t.size : Int)
   · have HIL := Aside0.mk hi
     have HLo := HL
     have HBo := HB
     clear HL HB
     have hin : ((i.toNat : Nat) : Int) = i := by omega
     have HNS := Nine.start t i.toNat
     rw [hin] at HNS
     have HIN := Aside0.mk hin
     clear hin
     go_wp2
     go_loopg [6, 7, 8] 9 (fun gg v6 v7 v8 w' => ∃ (i2 n sc : Int), v6 = .int .i64 i2 ∧ v7 = .int .u64 n ∧ v8 = .int .u64 sc ∧ Nine t i.toNat n sc i2 ∧ Aside0 (i2 + (gg : Int) = i + 9 ∧ i2 ≤ t.size) ∧ Aside0 (Kd.R (Kd.int .u64) 79 w' w.heap.size (fun _ => True) (.slice Al l.length cl) l) ∧ Aside0 (Below w.heap.size w w'))
     case atStart => exact ⟨i, 0, 1, rfl, rfl, rfl, HNS, ⟨by omega, by omega⟩, HLo, HBo⟩
     case round =>
       clear HLo HBo HNS
       obtain ⟨i2, n, sc, rfl, rfl, rfl, HJ, HG2, HL, HB⟩ := hrel
       have hb := HJ.bound HD.out HG2.out.2
       rw [HIN.out] at hb
       obtain ⟨b1, b2, b3, b4, b5, b6, b7⟩ := hb
       have HNB := Aside0.mk (And.intro b1 (And.intro b2 (And.intro b3 (And.intro b4 (And.intro b5 (And.intro b6 b7))))))
       have HIS := Aside0.mk HG2.out.2
       by_cases h1 : i2 < (t.size : Int)
       · by_cases h2 : sc < 1000000000
         · obtain ⟨s1, s2⟩ := b6 h2
           have HS9 := Aside0.mk s2
           have hall := HD.out.all i2.toNat (by omega)
           have i20 : 0 ≤ i2 := by omega
           rw [show ((i2.toNat : Nat) : Int) = i2 by omega] at hall
           obtain ⟨d1, d2⟩ := hall
           have HJ2 := Aside0.mk (HJ.step HD.out h1 h2)
           have hx := bt_at t i2
           have p7 := eq_true i20
           have q7 := eq_true h1
           have hn8 : n ≤ 99999999 := by omega
           clear HJ b6 b7 b3
           generalize bt t i2 = y at *
           go_wp2
           go_roundg (gk - 1)
           case measure => have := HG2.out.1; have := HS9.out; omega
           case rel => exact ⟨i2 + 1, n * 10 + (y - 48), sc * 10, rfl, rfl, rfl, HJ2.out, ⟨by have := HG2.out.1; omega, by omega⟩, HL, HB⟩
         · clear b6 b3 b1
           have HLT := Aside0.mk (show i < i2 by exact b7 h2)
           have HNI := Aside0.mk HJ
           have hs0 := HNB.out.2.2.2.1
           have hs1 := HNB.out.2.2.2.2.1
           have n0 := HNB.out.2.1
           have n1 : n ≤ 1000000000 := by have := HNB.out.2.2.1; omega
           have HSB := Aside0.mk (And.intro hs0 hs1)
           have HLo := HL
           have HBo := HB
           have HMS := Aside0.mk (MulK.start (sc := sc) HDG.out n0 n1)
           clear HJ HL HB HG2
           go_wp2
           go_loopg [7, 81] l.length (fun gg v7 v81 w' => ∃ (y : List Int) (m k : Int), v7 = .int .u64 m ∧ v81 = .int .i64 k ∧ MulK l y n sc m k ∧ Aside0 (k + (gg : Int) = l.length) ∧ Aside0 (Kd.R (Kd.int .u64) 79 w' w.heap.size (fun _ => True) (.slice Al l.length cl) y) ∧ Aside0 (Below w.heap.size w w'))
           case atStart => exact ⟨l, n, 0, rfl, rfl, HMS.out, ⟨by simp⟩, HLo, HBo⟩
           case round =>
             clear HLo HBo HMS
             obtain ⟨y, m, k, rfl, rfl, HM, HK, HL, HB⟩ := hrel
             obtain ⟨k0, k1, hyl, m0, m1⟩ := HM.bound
             by_cases hk : k < (l.length : Int)
             · obtain ⟨g, c', el, hgl, hgl2, cells, hcells⟩ := Kd.R_form HL.out (by omega)
               injection el with ea en ec
               subst ea ec
               clear en cells hcells
               have HGL := Aside0.mk hgl
               obtain ⟨hcy, hfy⟩ := Kd.R_celln 0 HL.out k k0 (by omega)
               obtain ⟨HM2, c0, c1, p0, p1⟩ := HM.step HDG.out hk HSB.out.1 HSB.out.2 rfl
               have hand := and32 (m + rd y k * sc) c0 (by omega)
               have hz := HM.dig
               have HPU := Kd.R_putg HL.out k ((m + rd y k * sc) % 4294967296)
               have HMM := Aside0.mk HM2
               have HP1 := Aside0.mk HPU.1
               have z0 : 0 ≤ rd y k := (H32.dig_rd hz k).1
               have z1 : rd y k < 4294967296 := (H32.dig_rd hz k).2
               have hk2 := hk
               change _ = some (Value.int .u64 (rd y k)) at hcy
               clear HM HM2 HPU hz hyl
               generalize rd y k = z at *
               go_wp2
               go_roundg (gk - 1)
               case measure => have := HK.out; omega
               case rel => exact ⟨_, (m + z * sc) / 4294967296, k + 1, rfl, rfl, HMM.out, ⟨by have := HK.out; omega⟩, HP1, ⟨HB.out.setCell HGL.out _⟩⟩
             · have HYL := Aside0.mk hyl
               have hi2s := HIS.out
               have HLB := Aside0.mk (show (y.length : Int) ≤ 401 by rw [hyl]; exact HLL.out)
               by_cases hm : 0 < m
               · have HST := Aside0.mk (HIA.out.step HD.out HNI.out HLT.out hi2s HM hk (.inr ⟨rfl, hm⟩))
                 clear HM hyl hi2s
                 go_wp2_with (first | ((with_reducible refine gate_builtin (b := .append) (xs := #[.tmp 102, .tmp 104]) rfl ?_); at_builtin; refine Kd.R_append (Kd.int .u64) (w0 := w) w.heap.size rfl (.tmp 102) (.tmp 104) 88 79 (.int .u64 0) 8 rfl Tryz.underlying88 infoH rfl (by decide) (by omega) _ y (m) [.int .u64 (m)] (fun _ => True) (fun _ => False) rfl rfl ?aP (fun _ hk => hk.elim) ?aF ?aO ?aB ?aS ?aL ?_; (case aP => exact rfl); (case aB => exact HB.out); (case aF => exact (fun _ _ => trivial)); (case aO => exact HL.out); (case aS => exact below_size HB.out); (case aL => (have := HLB.out; omega)); intro v1 w1 ho hb hg hat; have HO1 := Aside0.mk ho; have HB1 := Aside0.mk hb;  clear HB ho hb hg hat))
                 go_roundg (G0 - 1)
                 case measure => have := HG.out; have := HIL.out; omega
                 case rel => exact ⟨_, i2, rfl, HST.out, ⟨by have := HG.out; have := HLT.out; omega⟩, HO1, HB1⟩
               · have HST := Aside0.mk (HIA.out.step HD.out HNI.out HLT.out hi2s HM hk (.inl ⟨rfl, by omega⟩))
                 clear HM hyl hi2s
                 go_wp2
                 go_roundg (G0 - 1)
                 case measure => have := HG.out; have := HIL.out; omega
                 case rel => exact ⟨y, i2, rfl, HST.out, ⟨by have := HG.out; have := HLT.out; omega⟩, HL, HB⟩
       · clear b6 b7 b3 b1
         have HLT := Aside0.mk (show i < i2 by have := HIL.out; omega)
         have HNI := Aside0.mk HJ
         have hs0 := HNB.out.2.2.2.1
         have hs1 := HNB.out.2.2.2.2.1
         have n0 := HNB.out.2.1
         have n1 : n ≤ 1000000000 := by have := HNB.out.2.2.1; omega
         have HSB := Aside0.mk (And.intro hs0 hs1)
         have HLo := HL
         have HBo := HB
         have HMS := Aside0.mk (MulK.start (sc := sc) HDG.out n0 n1)
         clear HJ HL HB HG2
         go_wp2
         go_loopg [7, 81] l.length (fun gg v7 v81 w' => ∃ (y : List Int) (m k : Int), v7 = .int .u64 m ∧ v81 = .int .i64 k ∧ MulK l y n sc m k ∧ Aside0 (k + (gg : Int) = l.length) ∧ Aside0 (Kd.R (Kd.int .u64) 79 w' w.heap.size (fun _ => True) (.slice Al l.length cl) y) ∧ Aside0 (Below w.heap.size w w'))
         case atStart => exact ⟨l, n, 0, rfl, rfl, HMS.out, ⟨by simp⟩, HLo, HBo⟩
         case round =>
           clear HLo HBo HMS
           obtain ⟨y, m, k, rfl, rfl, HM, HK, HL, HB⟩ := hrel
           obtain ⟨k0, k1, hyl, m0, m1⟩ := HM.bound
           by_cases hk : k < (l.length : Int)
           · obtain ⟨g, c', el, hgl, hgl2, cells, hcells⟩ := Kd.R_form HL.out (by omega)
             injection el with ea en ec
             subst ea ec
             clear en cells hcells
             have HGL := Aside0.mk hgl
             obtain ⟨hcy, hfy⟩ := Kd.R_celln 0 HL.out k k0 (by omega)
             obtain ⟨HM2, c0, c1, p0, p1⟩ := HM.step HDG.out hk HSB.out.1 HSB.out.2 rfl
             have hand := and32 (m + rd y k * sc) c0 (by omega)
             have hz := HM.dig
             have HPU := Kd.R_putg HL.out k ((m + rd y k * sc) % 4294967296)
             have HMM := Aside0.mk HM2
             have HP1 := Aside0.mk HPU.1
             have z0 : 0 ≤ rd y k := (H32.dig_rd hz k).1
             have z1 : rd y k < 4294967296 := (H32.dig_rd hz k).2
             have hk2 := hk
             change _ = some (Value.int .u64 (rd y k)) at hcy
             clear HM HM2 HPU hz hyl
             generalize rd y k = z at *
             go_wp2
             go_roundg (gk - 1)
             case measure => have := HK.out; omega
             case rel => exact ⟨_, (m + z * sc) / 4294967296, k + 1, rfl, rfl, HMM.out, ⟨by have := HK.out; omega⟩, HP1, ⟨HB.out.setCell HGL.out _⟩⟩
           · have HYL := Aside0.mk hyl
             have hi2s := HIS.out
             have HLB := Aside0.mk (show (y.length : Int) ≤ 401 by rw [hyl]; exact HLL.out)
             by_cases hm : 0 < m
             · have HST := Aside0.mk (HIA.out.step HD.out HNI.out HLT.out hi2s HM hk (.inr ⟨rfl, hm⟩))
               clear HM hyl hi2s
               go_wp2_with (first | ((with_reducible refine gate_builtin (b := .append) (xs := #[.tmp 102, .tmp 104]) rfl ?_); at_builtin; refine Kd.R_append (Kd.int .u64) (w0 := w) w.heap.size rfl (.tmp 102) (.tmp 104) 88 79 (.int .u64 0) 8 rfl Tryz.underlying88 infoH rfl (by decide) (by omega) _ y (m) [.int .u64 (m)] (fun _ => True) (fun _ => False) rfl rfl ?aP (fun _ hk => hk.elim) ?aF ?aO ?aB ?aS ?aL ?_; (case aP => exact rfl); (case aB => exact HB.out); (case aF => exact (fun _ _ => trivial)); (case aO => exact HL.out); (case aS => exact below_size HB.out); (case aL => (have := HLB.out; omega)); intro v1 w1 ho hb hg hat; have HO1 := Aside0.mk ho; have HB1 := Aside0.mk hb;  clear HB ho hb hg hat))
               go_roundg (G0 - 1)
               case measure => have := HG.out; have := HIL.out; omega
               case rel => exact ⟨_, i2, rfl, HST.out, ⟨by have := HG.out; have := HLT.out; omega⟩, HO1, HB1⟩
             · have HST := Aside0.mk (HIA.out.step HD.out HNI.out HLT.out hi2s HM hk (.inl ⟨rfl, by omega⟩))
               clear HM hyl hi2s
               go_wp2
               go_roundg (G0 - 1)
               case measure => have := HG.out; have := HIL.out; omega
               case rel => exact ⟨y, i2, rfl, HST.out, ⟨by have := HG.out; have := HLT.out; omega⟩, HL, HB⟩
   · obtain ⟨hdl, hvl, hlen⟩ := HIA.out.done hi
     rw [HNV.out] at hvl
     have HDL := Aside0.mk hdl
     have HVL := Aside0.mk hvl
     have HLo := HL
     have HBo := HB
     clear HL HB hdl hvl hlen HIA HG
     go_wp2
     clear hi i0 i1
     go_loopg [10, 108] l.length (fun gg v10 v108 w' => ∃ (x : List Int) (k : Int), v108 = .int .i64 k ∧ Join l x k ∧ Aside0 (k + (gg : Int) = l.length) ∧ Aside0 (Kd.R (Kd.int .u64) 79 w' w.heap.size (fun _ => True) (.slice Al l.length cl) l) ∧ Aside0 (Kd.R (Kd.int .u64) 89 w' w.heap.size (fun _ => True) v10 x) ∧ Aside0 (Below w.heap.size w w'))
     case atStart => exact ⟨[], 0, rfl, Join.start l, ⟨by simp⟩, HLo, ⟨Kd.R_nil _ _ _ _ _⟩, HBo⟩
     case round =>
       clear HLo HBo
       obtain ⟨x, k, rfl, HJ, HK, HL, HX, HB⟩ := hrel
       obtain ⟨k0, k1, hxl⟩ := HJ.bound
       obtain ⟨Ax, cx, ex⟩ := Kd.R_slice HX.out
       subst ex
       have HLB := Aside0.mk (show (x.length : Int) ≤ 401 by omega)
       by_cases hk : k < (l.length : Int)
       · obtain ⟨g, c', el, hgl, hgl2, cells, hcells⟩ := Kd.R_form HL.out (by omega)
         injection el with ea en ec
         subst ea ec
         clear en cells hcells
         obtain ⟨hcl, hfl⟩ := Kd.R_celln 0 HL.out k k0 hk
         change _ = some (Value.int .u64 (rd l k)) at hcl
         obtain ⟨z0, z1⟩ := H32.dig_rd HDL.out k
         by_cases he : k % 2 = 0
         · have HST := Aside0.mk (HJ.even HDL.out hk he)
           have hrm : k.tmod 2 = 0 := by rw [Int.tmod_eq_emod_of_nonneg k0]; exact he
           clear HJ hxl he
           generalize rd l k = z at *
           go_wp2_with (first | ((with_reducible refine gate_builtin (b := .append) (xs := #[.tmp 114, .tmp 119]) rfl ?_); at_builtin; refine Kd.R_append (Kd.int .u64) (w0 := w) w.heap.size rfl (.tmp 114) (.tmp 119) 56 89 (.int .u64 0) 8 rfl Tryz.underlying56 infoWd rfl (by decide) (by omega) _ x (z) [.int .u64 (z)] (fun _ => True) (fun _ => False) rfl rfl ?aP (fun _ hk => hk.elim) ?aF ?aO ?aB ?aS ?aL ?_; (case aP => exact rfl); (case aB => exact HB.out); (case aF => exact (fun _ _ => trivial)); (case aO => exact HX.out); (case aS => exact below_size HB.out); (case aL => (have := HLB.out; omega)); intro v1 w1 ho hb hg hat; have HO1 := Aside0.mk ho; have HB1 := Aside0.mk hb; have HL1 := Aside0.mk (R_other HL.out HX.out (by decide) hg); clear HB ho hb hg hat))
           go_roundg (gk - 1)
           case measure => have := HK.out; omega
           case rel => exact ⟨_, k + 1, rfl, HST.out, ⟨by have := HK.out; omega⟩, HL1, HO1, HB1⟩
         · have ho : k % 2 = 1 := by omega
           have hrm : k.tmod 2 = 1 := by rw [Int.tmod_eq_emod_of_nonneg k0]; exact ho
           have hqt : k.tdiv 2 = k / 2 := Int.tdiv_eq_ediv_of_nonneg k0
           obtain ⟨HS, lo0, lo1, hkl⟩ := HJ.odd HDL.out hk ho
           have HST := Aside0.mk HS
           have hq0 : 0 ≤ k / 2 := by omega
           have hx4 : (x.length : Int) ≤ 401 := HLB.out
           obtain ⟨g2, c2, el2, hg2, hg3, cells2, hcells2⟩ := Kd.R_form HX.out (by omega)
           injection el2 with ea2 en2 ec2
           subst ea2 ec2
           clear en2 cells2 hcells2
           have HG3 := Aside0.mk hg2
           obtain ⟨hcx, hfx⟩ := Kd.R_celln 0 HX.out (k / 2) hq0 hkl
           change _ = some (Value.int .u64 (rd x (k / 2))) at hcx
           have hor := or_lo (rd x (k / 2)) (rd l k * 4294967296) lo0 lo1 (by omega) (by omega) (by omega)
           have HPU := Kd.R_putg (Kd.R_drew HX.out) (k / 2) (rd x (k / 2) + rd l k * 4294967296)
           have HP1 := Aside0.mk HPU.1
           have HL1 := Aside0.mk (R_other (Kd.R_drew HL.out) (Kd.R_drew HX.out) (by decide) HPU.2)
           clear HJ HS HPU he hxl
           generalize rd l k = z at *
           generalize rd x (k / 2) = y at *
           generalize k / 2 = q at *
           go_wp2
           go_region
           go_wp2
           go_roundg (gk - 1)
           case measure => have := HK.out; omega
           case rel => exact ⟨_, k + 1, rfl, HST.out, ⟨by have := HK.out; omega⟩, HL1, HP1, ⟨(HB.out.setCell HG3.out _).drew⟩⟩
       · obtain ⟨hdx, hvx, _⟩ := HJ.done hk
         rw [HVL.out] at hvx
         have hbox : Box (wr.alloc (Obj.cells #[.bool false, .slice none 0 0] 59)) wr.heap.size [.bool false, .slice none 0 0] := Box.new2 _ _ _ _ _ rfl
         have hblk : Blk (wr.alloc (Obj.cells #[.bool false, .slice none 0 0] 59)) wr.heap.size := Blk.new _ _ _ _ rfl
         have hV := Kd.V_below (Kd_V_of (e2 := 0) HX.out) ((Below.refl _ _).alloc (Nat.le_refl _) (Obj.cells #[.bool false, .slice none 0 0] 59))
         have HSB := Aside0.mk (SetBits_k wr.heap.size x N _ _ _ hbox hblk hdx (by have := HLB.out; omega) hvx hV (fun k hk => by have := hk.2; omega))
         have HBA := Aside0.mk (HB.out.alloc HB.out.size (Obj.cells #[.bool false, .slice none 0 0] 59))
         clear HJ hdx hvx hbox hblk hV hxl
         go_wp2_with (first | (go_at_call 45; refine HSB.out.mono ?_; rintro e w1 ⟨rfl, hbig, hk⟩; have HBI := Aside0.mk hbig; have HKB := Aside0.mk hk; clear hbig hk) | (go_at_call 46; refine (INeg_self _ _ _ _ _ HBI.out (fun k hk => by have := hk.2; omega)).mono ?_; rintro e w2 ⟨rfl, hbig, hk⟩; have HBJ := Aside0.mk hbig; have HKC := Aside0.mk hk; clear hbig hk))
         go_ret2
         exact ⟨wr.heap.size, rfl, HB.out.size, by have h := HBJ.out; have h2 : sgn (!false) N = true := HSG.out; rw [h2] at h; exact h.mono (fun k hk => ⟨hk.1, by omega⟩), HKC.out.below (HKB.out.below HBA.out HB.out.size) HB.out.size⟩
theorem first_text {N : Nat} (h : N ≠ 0) : bt (text N) 0 ≠ 48 := by
 have hp : 0 < nd N := by have := nd_zero_iff (n := N); omega
 have h1 := bt_text h hp
 have h2 : 0 < N / 10 ^ (nd N - 1) := (nd_lt (nd N - 1) N).1 (by omega)
 have h3 : N < 10 ^ nd N := lt_of_nd N
 have h4 : N / 10 ^ (nd N - 1) < 10 := by
   apply Nat.div_lt_of_lt_mul
   rw [← Nat.pow_succ, show (nd N - 1).succ = nd N by omega]
   exact h3
 rw [show ((0 : Nat) : Int) = 0 from rfl, Nat.sub_zero, Nat.mod_eq_of_lt h4] at h1
 rw [h1]
 omega
theorem whole_n (b : Bool) (N : Nat) (w : World) (hb : sgn b N = b) (hn : nd N ≤ 400) :
   Calls Tryz.prog 21 #[.string (stext b N)] w fun e w' => ∃ g, e = .returned (.tuple #[.pointer (some ⟨g, 0, none⟩), .bool true]) ∧ w.heap.size ≤ g ∧ Big w' (fun k => w.heap.size ≤ k ∧ k ≠ g) g b N ∧ Below w.heap.size w w' := by
 by_cases h : N = 0
 · subst h
   cases b
   · exact whole_zero (text 0) 0 w (text_digits 0) (by decide) (dnum_text 0) (by decide)
   · exact absurd hb (by decide)
 · have hs : (text N).size ≤ 400 := by rw [TextLaw.size_text h]; exact hn
   cases b
   · exact whole_plain (text N) N w (text_digits N) hs (dnum_text N) (first_text h)
   · exact whole_minus (text N) N w (text_digits N) hs (dnum_text N) (first_text h) hb
end Go.Proofs.YteohmbannpbokaaGreatDoor.BigWalk
