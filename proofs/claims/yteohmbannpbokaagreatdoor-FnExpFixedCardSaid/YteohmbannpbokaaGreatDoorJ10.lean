/-
 The reference's difference of two numbers.
-/
import Derived.Test.YteohmbannpbokaaGreatDoorJ08
import Derived.RegionTactic
import Derived.BigRegion
set_option linter.unusedVariables false
set_option linter.unusedSimpArgs false
namespace Go.Proofs.YteohmbannpbokaaGreatDoor.NatWalk
open Go.RowKit Go.Proofs.YteohmbannpbokaaGreatDoorW.PrintWords Go.Proofs.YteohmbannpbokaaGreatDoorW.PrintLast Go.Proofs.YteohmbannpbokaaGreatDoorW.PrintMore Go.Proofs.YteohmbannpbokaaGreatDoor.Digs Go.Proofs.YteohmbannpbokaaGreatDoor.StrLaw Go.Proofs.YteohmbannpbokaaGreatDoor.NatLaw
theorem infoU : (Tryz.prog.info? 44).map (fun i => (i.zero, i.size, i.bytes)) = some (some (.int .u32 0), 1, 4) := by kernel_rfl
set_option maxHeartbeats 4000000 in
set_option maxRecDepth 100000 in
theorem sub_n (a b : Nat) (oa ob : Nat → Prop) (v u : Value) (w : World) (hv : Rdv w oa v a) (hu : Rdv w ob u b) (hab : b ≤ a) (hl : (digs a).length ≤ 4000000000) :
   Calls Tryz.prog 42 #[v, u] w fun e w' => ∃ v, e = .returned v ∧ Rdv w' (fun k => w.heap.size ≤ k) v (a - b) ∧ Below w.heap.size w w' := by
 obtain ⟨A0, c0, rfl, hl0, hC0⟩ := hv.form
 obtain ⟨A1, c1, rfl, hl1, hC1⟩ := hu.form
 have HR0 := Aside0.mk hC0
 have HR1 := Aside0.mk hC1
 have HLB := Aside0.mk (Nat.le_trans (len_digs_mono hab) hl)
 have HL := Aside0.mk hl
 have HAB := Aside0.mk hab
 have HB := Aside0.mk (Below.refl w.heap.size w)
 clear hC0 hC1 hl0 hl1 hv hu hl hab
 go_enter Tryz.func42, Tryz.ntmps42
 go_wp2
 go_loopg [5, 6, 12] (digs a).length (fun g v5 v6 v12 w' => ∃ (out : List Int) (c i : Int), v6 = .int .u32 c ∧ v12 = .int .i64 i ∧ SubInv a b out c i ∧ Aside0 (i + (g : Int) = ((digs a).length : Int)) ∧ Aside0 (Kd.R (Kd.int .u32) 44 w' w.heap.size (fun _ => True) v5 out) ∧ Aside0 (Below w.heap.size w w'))
 case atStart => exact ⟨[], 0, 0, rfl, rfl, SubInv.start a b, ⟨by simp⟩, ⟨Kd.R_nil _ _ _ _ _⟩, HB⟩
 case round =>
   clear HB
   obtain ⟨out, c, i, rfl, rfl, HI, HG, HO, HB⟩ := hrel
   obtain ⟨b1, b2, q1, q2, b3⟩ := HI.bound
   have HX := Aside0.mk b3
   clear b3
   by_cases hi : i < ((digs a).length : Int)
   · obtain ⟨ad, e0, hx⟩ := Kd.at_int HR0.out i b1 hi
     cases e0
     replace hx := (HB.out.cell (World.block_lt_of_cell? w _ hx)).trans hx
     obtain ⟨x1, x2⟩ := dig_rd (dig_digs a) i
     by_cases hi2 : i < ((digs b).length : Int)
     · obtain ⟨ad1, e1, hy⟩ := Kd.at_int HR1.out i b1 hi2
       cases e1
       replace hy := (HB.out.cell (World.block_lt_of_cell? w _ hy)).trans hy
       obtain ⟨y1, y2⟩ := dig_rd (dig_digs b) i
       obtain ⟨x, hxe⟩ : ∃ x, x = rd (digs a) i := ⟨_, rfl⟩
       obtain ⟨y, hye⟩ : ∃ y, y = rd (digs b) i := ⟨_, rfl⟩
       rw [← hxe] at hx x1 x2
       rw [← hye] at hy y1 y2
       have HXE := Aside0.mk hxe
       have HYE := Aside0.mk hye
       have HLT := Aside0.mk hi
       have HLT2 := Aside0.mk hi2
       clear hxe hye
       have hw1 : wrap64 (i + 1) = i + 1 := by have := HL.out; have := HLT.out; simp only [wrap64]; omega
       by_cases hlt : x < c + y
       · go_wp2_with (first | ((with_reducible refine gate_builtin (b := .append) (xs := #[.tmp 33, .tmp 37]) rfl ?_); at_builtin; refine Kd.R_append (Kd.int .u32) (w0 := w) w.heap.size rfl (.tmp 33) (.tmp 37) 24 44 (.int .u32 0) 4 rfl Tryz.underlying24 infoU rfl (by decide) (by omega) u5 out (x + 1000000000 - (c + y)) [.int .u32 (x + 1000000000 - (c + y))] (fun _ => True) (fun _ => False) rfl rfl ?aP (fun _ hk => hk.elim) ?aF ?aO ?aB ?aS ?aL ?_; (case aP => exact rfl); (case aB => exact HB.out); (case aF => exact (fun _ _ => trivial)); (case aO => exact HO.out); (case aS => exact below_size HB.out); (case aL => first | (have := HL.out; have := HX.out; omega) | (have := HL.out; have := HL2.out; have := HTP.out; have := HX.out; omega)); intro v1 w1 ho hb hg hat; have HO1 := Aside0.mk ho; have HB1 := Aside0.mk hb; clear HB HO ho hb hg hat))
         go_roundg (gk - 1)
         case measure => have := HG.out; have := HLT.out; omega
         case rel => exact ⟨out ++ [x + 1000000000 - (c + y)], 1, i + 1, rfl, (by first | rfl | rw [hw1]), HI.step (y := y) HLT.out (.inl ⟨HLT2.out, HYE.out⟩) (.inr rfl) (by omega) (by rw [← HXE.out]; omega), ⟨by have := HG.out; have := HLT.out; omega⟩, HO1, HB1⟩
       · go_wp2_with (first | ((with_reducible refine gate_builtin (b := .append) (xs := #[.tmp 33, .tmp 37]) rfl ?_); at_builtin; refine Kd.R_append (Kd.int .u32) (w0 := w) w.heap.size rfl (.tmp 33) (.tmp 37) 24 44 (.int .u32 0) 4 rfl Tryz.underlying24 infoU rfl (by decide) (by omega) u5 out (x - (c + y)) [.int .u32 (x - (c + y))] (fun _ => True) (fun _ => False) rfl rfl ?aP (fun _ hk => hk.elim) ?aF ?aO ?aB ?aS ?aL ?_; (case aP => exact rfl); (case aB => exact HB.out); (case aF => exact (fun _ _ => trivial)); (case aO => exact HO.out); (case aS => exact below_size HB.out); (case aL => first | (have := HL.out; have := HX.out; omega) | (have := HL.out; have := HL2.out; have := HTP.out; have := HX.out; omega)); intro v1 w1 ho hb hg hat; have HO1 := Aside0.mk ho; have HB1 := Aside0.mk hb; clear HB HO ho hb hg hat))
         go_roundg (gk - 1)
         case measure => have := HG.out; have := HLT.out; omega
         case rel => exact ⟨out ++ [x - (c + y)], 0, i + 1, rfl, (by first | rfl | rw [hw1]), HI.step (y := y) HLT.out (.inl ⟨HLT2.out, HYE.out⟩) (.inl rfl) (by omega) (by rw [← HXE.out]; omega), ⟨by have := HG.out; have := HLT.out; omega⟩, HO1, HB1⟩
     · obtain ⟨x, hxe⟩ : ∃ x, x = rd (digs a) i := ⟨_, rfl⟩
       rw [← hxe] at hx x1 x2
       have HXE := Aside0.mk hxe
       have HLT := Aside0.mk hi
       have HLT2 := Aside0.mk hi2
       have hw1 : wrap64 (i + 1) = i + 1 := by have := HL.out; have := HLT.out; simp only [wrap64]; omega
       clear hxe
       by_cases hlt : x < c
       · go_wp2_with (first | ((with_reducible refine gate_builtin (b := .append) (xs := #[.tmp 33, .tmp 37]) rfl ?_); at_builtin; refine Kd.R_append (Kd.int .u32) (w0 := w) w.heap.size rfl (.tmp 33) (.tmp 37) 24 44 (.int .u32 0) 4 rfl Tryz.underlying24 infoU rfl (by decide) (by omega) u5 out (x + 1000000000 - c) [.int .u32 (x + 1000000000 - c)] (fun _ => True) (fun _ => False) rfl rfl ?aP (fun _ hk => hk.elim) ?aF ?aO ?aB ?aS ?aL ?_; (case aP => exact rfl); (case aB => exact HB.out); (case aF => exact (fun _ _ => trivial)); (case aO => exact HO.out); (case aS => exact below_size HB.out); (case aL => first | (have := HL.out; have := HX.out; omega) | (have := HL.out; have := HL2.out; have := HTP.out; have := HX.out; omega)); intro v1 w1 ho hb hg hat; have HO1 := Aside0.mk ho; have HB1 := Aside0.mk hb; clear HB HO ho hb hg hat))
         go_roundg (gk - 1)
         case measure => have := HG.out; have := HLT.out; omega
         case rel => exact ⟨out ++ [x + 1000000000 - c], 1, i + 1, rfl, (by first | rfl | rw [hw1]), HI.step (y := 0) HLT.out (.inr ⟨by have := HLT2.out; omega, rfl⟩) (.inr rfl) (by omega) (by rw [← HXE.out]; omega), ⟨by have := HG.out; have := HLT.out; omega⟩, HO1, HB1⟩
       · go_wp2_with (first | ((with_reducible refine gate_builtin (b := .append) (xs := #[.tmp 33, .tmp 37]) rfl ?_); at_builtin; refine Kd.R_append (Kd.int .u32) (w0 := w) w.heap.size rfl (.tmp 33) (.tmp 37) 24 44 (.int .u32 0) 4 rfl Tryz.underlying24 infoU rfl (by decide) (by omega) u5 out (x - c) [.int .u32 (x - c)] (fun _ => True) (fun _ => False) rfl rfl ?aP (fun _ hk => hk.elim) ?aF ?aO ?aB ?aS ?aL ?_; (case aP => exact rfl); (case aB => exact HB.out); (case aF => exact (fun _ _ => trivial)); (case aO => exact HO.out); (case aS => exact below_size HB.out); (case aL => first | (have := HL.out; have := HX.out; omega) | (have := HL.out; have := HL2.out; have := HTP.out; have := HX.out; omega)); intro v1 w1 ho hb hg hat; have HO1 := Aside0.mk ho; have HB1 := Aside0.mk hb; clear HB HO ho hb hg hat))
         go_roundg (gk - 1)
         case measure => have := HG.out; have := HLT.out; omega
         case rel => exact ⟨out ++ [x - c], 0, i + 1, rfl, (by first | rfl | rw [hw1]), HI.step (y := 0) HLT.out (.inr ⟨by have := HLT2.out; omega, rfl⟩) (.inl rfl) (by omega) (by rw [← HXE.out]; omega), ⟨by have := HG.out; have := HLT.out; omega⟩, HO1, HB1⟩
   · obtain ⟨hd, hval⟩ := HI.done hi HAB.out
     have hV : Kd.V (Kd.int .u32) 44 wr 0 (fun k => w.heap.size ≤ k) u5 out := Kd.R_V (Kd.R_mono (Kd.R_bound HO.out) (fun _ hk => hk.2.1))
     have HT := Aside0.mk (trim_n out hd (by have := HX.out; have := HL.out; omega) (a - b) hval _ u5 wr hV)
     have HDN := Aside0.mk (below_size HB.out)
     clear hd hval hV HI
     go_wp2_with (go_at_call 40; refine HT.out.mono ?_; rintro e w1 ⟨z, rfl, hz, hb1⟩)
     go_ret
     exact ⟨z, rfl, hz.mono (fun k hk => by have := HDN.out; omega), below_step HB.out hb1⟩
theorem _root_.Go.Proofs.YteohmbannpbokaaGreatDoor.NatLaw.AddInv.top {a b : Nat} {out : List Int} {c i : Int} (h : AddInv a b out c i) (hg : i < (digs a).length ∨ i < (digs b).length ∨ 0 < c) : i ≤ (digs a).length ∨ i ≤ (digs b).length := by
 obtain ⟨m, rfl, _, _, _, ho, _, _⟩ := h
 rcases ho with h | h | h <;> omega
set_option maxHeartbeats 4000000 in
set_option maxRecDepth 100000 in
theorem add_n (a b : Nat) (oa ob : Nat → Prop) (v u : Value) (w : World) (hv : Rdv w oa v a) (hu : Rdv w ob u b) (hl : (digs a).length ≤ 4000000000) (hl2 : (digs b).length ≤ 4000000000) :
   Calls Tryz.prog 54 #[v, u] w fun e w' => ∃ v, e = .returned v ∧ Rdv w' (fun k => w.heap.size ≤ k) v (a + b) ∧ Below w.heap.size w w' := by
 obtain ⟨A0, c0, rfl, hl0, hC0⟩ := hv.form
 obtain ⟨A1, c1, rfl, hl1, hC1⟩ := hu.form
 have HR0 := Aside0.mk hC0
 have HR1 := Aside0.mk hC1
 have HL := Aside0.mk hl
 have HL2 := Aside0.mk hl2
 have HB := Aside0.mk (Below.refl w.heap.size w)
 clear hC0 hC1 hl0 hl1 hv hu hl hl2
 go_enter Tryz.func54, Tryz.ntmps54
 go_wp2
 go_loopg [5, 6, 7] ((digs a).length + (digs b).length + 1) (fun g v5 v6 v7 w' => ∃ (out : List Int) (c i : Int), v6 = .int .u32 c ∧ v7 = .int .i64 i ∧ AddInv a b out c i ∧ Aside0 (i + (g : Int) = (((digs a).length + (digs b).length + 1 : Nat) : Int)) ∧ Aside0 (Kd.R (Kd.int .u32) 44 w' w.heap.size (fun _ => True) v5 out) ∧ Aside0 (Below w.heap.size w w'))
 case atStart => exact ⟨[], 0, 0, rfl, rfl, AddInv.start a b, ⟨by simp⟩, ⟨Kd.R_nil _ _ _ _ _⟩, HB⟩
 case round =>
   clear HB
   obtain ⟨out, c, i, rfl, rfl, HI, HG, HO, HB⟩ := hrel
   obtain ⟨b1, q1, q2, b3⟩ := HI.bound
   have HX := Aside0.mk b3
   clear b3
   by_cases hg : i < ((digs a).length : Int) ∨ i < ((digs b).length : Int) ∨ 0 < c
   · have HTP := Aside0.mk (HI.top hg)
     by_cases hix : i < ((digs a).length : Int)
     · by_cases hiy : i < ((digs b).length : Int)
       · skip
         obtain ⟨ad, e_x, hx⟩ := Kd.at_int HR0.out i b1 hix
         cases e_x
         replace hx := (HB.out.cell (World.block_lt_of_cell? w _ hx)).trans hx
         obtain ⟨x1, x2⟩ := dig_rd (dig_digs a) i
         obtain ⟨x, hxe⟩ : ∃ x, x = rd (digs a) i := ⟨_, rfl⟩
         rw [← hxe] at hx x1 x2
         have HxE := Aside0.mk hxe
         clear hxe
         obtain ⟨ad1, e_y, hy⟩ := Kd.at_int HR1.out i b1 hiy
         cases e_y
         replace hy := (HB.out.cell (World.block_lt_of_cell? w _ hy)).trans hy
         obtain ⟨y1, y2⟩ := dig_rd (dig_digs b) i
         obtain ⟨y, hye⟩ : ∃ y, y = rd (digs b) i := ⟨_, rfl⟩
         rw [← hye] at hy y1 y2
         have HyE := Aside0.mk hye
         clear hye
         have HLX := Aside0.mk hix
         have HLY := Aside0.mk hiy
         have HGG := Aside0.mk hg
         have hw1 : wrap64 (i + 1) = i + 1 := by have := HL.out; have := HL2.out; have := HTP.out; simp only [wrap64]; omega
         clear hg
         go_wp2_with (first | ((with_reducible refine gate_builtin (b := .append) (xs := #[.tmp 44, .tmp 47]) rfl ?_); at_builtin; refine Kd.R_append (Kd.int .u32) (w0 := w) w.heap.size rfl (.tmp 44) (.tmp 47) 24 44 (.int .u32 0) 4 rfl Tryz.underlying24 infoU rfl (by decide) (by omega) u5 out ((c + x + y) % 1000000000) [.int .u32 ((c + x + y) % 1000000000)] (fun _ => True) (fun _ => False) rfl rfl ?aP (fun _ hk => hk.elim) ?aF ?aO ?aB ?aS ?aL ?_; (case aP => exact rfl); (case aB => exact HB.out); (case aF => exact (fun _ _ => trivial)); (case aO => exact HO.out); (case aS => exact below_size HB.out); (case aL => first | (have := HL.out; have := HX.out; omega) | (have := HL.out; have := HL2.out; have := HTP.out; have := HX.out; omega)); intro v1 w1 ho hb hg hat; have HO1 := Aside0.mk ho; have HB1 := Aside0.mk hb; clear HB HO ho hb hg hat))
         go_roundg (gk - 1)
         case measure => have := HG.out; have := HTP.out; omega
         case rel =>
           have h := HI.step (x := x) (y := y) (.inl ⟨HLX.out, HxE.out⟩) (.inl ⟨HLY.out, HyE.out⟩) HGG.out
           (try simp only [Int.add_zero] at h)
           exact ⟨out ++ [(c + x + y) % 1000000000], (c + x + y) / 1000000000, i + 1, rfl, (by first | rfl | rw [hw1]), h, ⟨by have := HG.out; have := HTP.out; omega⟩, HO1, HB1⟩
       · skip
         obtain ⟨ad, e_x, hx⟩ := Kd.at_int HR0.out i b1 hix
         cases e_x
         replace hx := (HB.out.cell (World.block_lt_of_cell? w _ hx)).trans hx
         obtain ⟨x1, x2⟩ := dig_rd (dig_digs a) i
         obtain ⟨x, hxe⟩ : ∃ x, x = rd (digs a) i := ⟨_, rfl⟩
         rw [← hxe] at hx x1 x2
         have HxE := Aside0.mk hxe
         clear hxe
         have HLX := Aside0.mk hix
         have HLY := Aside0.mk hiy
         have HGG := Aside0.mk hg
         have hw1 : wrap64 (i + 1) = i + 1 := by have := HL.out; have := HL2.out; have := HTP.out; simp only [wrap64]; omega
         clear hg
         go_wp2_with (first | ((with_reducible refine gate_builtin (b := .append) (xs := #[.tmp 44, .tmp 47]) rfl ?_); at_builtin; refine Kd.R_append (Kd.int .u32) (w0 := w) w.heap.size rfl (.tmp 44) (.tmp 47) 24 44 (.int .u32 0) 4 rfl Tryz.underlying24 infoU rfl (by decide) (by omega) u5 out ((c + x) % 1000000000) [.int .u32 ((c + x) % 1000000000)] (fun _ => True) (fun _ => False) rfl rfl ?aP (fun _ hk => hk.elim) ?aF ?aO ?aB ?aS ?aL ?_; (case aP => exact rfl); (case aB => exact HB.out); (case aF => exact (fun _ _ => trivial)); (case aO => exact HO.out); (case aS => exact below_size HB.out); (case aL => first | (have := HL.out; have := HX.out; omega) | (have := HL.out; have := HL2.out; have := HTP.out; have := HX.out; omega)); intro v1 w1 ho hb hg hat; have HO1 := Aside0.mk ho; have HB1 := Aside0.mk hb; clear HB HO ho hb hg hat))
         go_roundg (gk - 1)
         case measure => have := HG.out; have := HTP.out; omega
         case rel =>
           have h := HI.step (x := x) (y := 0) (.inl ⟨HLX.out, HxE.out⟩) (.inr ⟨by have := HLY.out; omega, rfl⟩) HGG.out
           (try simp only [Int.add_zero] at h)
           exact ⟨out ++ [(c + x) % 1000000000], (c + x) / 1000000000, i + 1, rfl, (by first | rfl | rw [hw1]), h, ⟨by have := HG.out; have := HTP.out; omega⟩, HO1, HB1⟩
     · by_cases hiy : i < ((digs b).length : Int)
       · skip
         obtain ⟨ad1, e_y, hy⟩ := Kd.at_int HR1.out i b1 hiy
         cases e_y
         replace hy := (HB.out.cell (World.block_lt_of_cell? w _ hy)).trans hy
         obtain ⟨y1, y2⟩ := dig_rd (dig_digs b) i
         obtain ⟨y, hye⟩ : ∃ y, y = rd (digs b) i := ⟨_, rfl⟩
         rw [← hye] at hy y1 y2
         have HyE := Aside0.mk hye
         clear hye
         have HLX := Aside0.mk hix
         have HLY := Aside0.mk hiy
         have HGG := Aside0.mk hg
         have hw1 : wrap64 (i + 1) = i + 1 := by have := HL.out; have := HL2.out; have := HTP.out; simp only [wrap64]; omega
         clear hg
         go_wp2_with (first | ((with_reducible refine gate_builtin (b := .append) (xs := #[.tmp 44, .tmp 47]) rfl ?_); at_builtin; refine Kd.R_append (Kd.int .u32) (w0 := w) w.heap.size rfl (.tmp 44) (.tmp 47) 24 44 (.int .u32 0) 4 rfl Tryz.underlying24 infoU rfl (by decide) (by omega) u5 out ((c + y) % 1000000000) [.int .u32 ((c + y) % 1000000000)] (fun _ => True) (fun _ => False) rfl rfl ?aP (fun _ hk => hk.elim) ?aF ?aO ?aB ?aS ?aL ?_; (case aP => exact rfl); (case aB => exact HB.out); (case aF => exact (fun _ _ => trivial)); (case aO => exact HO.out); (case aS => exact below_size HB.out); (case aL => first | (have := HL.out; have := HX.out; omega) | (have := HL.out; have := HL2.out; have := HTP.out; have := HX.out; omega)); intro v1 w1 ho hb hg hat; have HO1 := Aside0.mk ho; have HB1 := Aside0.mk hb; clear HB HO ho hb hg hat))
         go_roundg (gk - 1)
         case measure => have := HG.out; have := HTP.out; omega
         case rel =>
           have h := HI.step (x := 0) (y := y) (.inr ⟨by have := HLX.out; omega, rfl⟩) (.inl ⟨HLY.out, HyE.out⟩) HGG.out
           (try simp only [Int.add_zero] at h)
           exact ⟨out ++ [(c + y) % 1000000000], (c + y) / 1000000000, i + 1, rfl, (by first | rfl | rw [hw1]), h, ⟨by have := HG.out; have := HTP.out; omega⟩, HO1, HB1⟩
       · skip
         have HLX := Aside0.mk hix
         have HLY := Aside0.mk hiy
         have HGG := Aside0.mk hg
         have hw1 : wrap64 (i + 1) = i + 1 := by have := HL.out; have := HL2.out; have := HTP.out; simp only [wrap64]; omega
         have hcp : 0 < c := by have := HGG.out; have := HLX.out; have := HLY.out; omega
         clear hg
         go_wp2_with (first | ((with_reducible refine gate_builtin (b := .append) (xs := #[.tmp 44, .tmp 47]) rfl ?_); at_builtin; refine Kd.R_append (Kd.int .u32) (w0 := w) w.heap.size rfl (.tmp 44) (.tmp 47) 24 44 (.int .u32 0) 4 rfl Tryz.underlying24 infoU rfl (by decide) (by omega) u5 out ((c) % 1000000000) [.int .u32 ((c) % 1000000000)] (fun _ => True) (fun _ => False) rfl rfl ?aP (fun _ hk => hk.elim) ?aF ?aO ?aB ?aS ?aL ?_; (case aP => exact rfl); (case aB => exact HB.out); (case aF => exact (fun _ _ => trivial)); (case aO => exact HO.out); (case aS => exact below_size HB.out); (case aL => first | (have := HL.out; have := HX.out; omega) | (have := HL.out; have := HL2.out; have := HTP.out; have := HX.out; omega)); intro v1 w1 ho hb hg hat; have HO1 := Aside0.mk ho; have HB1 := Aside0.mk hb; clear HB HO ho hb hg hat))
         go_roundg (gk - 1)
         case measure => have := HG.out; have := HTP.out; omega
         case rel =>
           have h := HI.step (x := 0) (y := 0) (.inr ⟨by have := HLX.out; omega, rfl⟩) (.inr ⟨by have := HLY.out; omega, rfl⟩) HGG.out
           (try simp only [Int.add_zero] at h)
           exact ⟨out ++ [(c) % 1000000000], (c) / 1000000000, i + 1, rfl, (by first | rfl | rw [hw1]), h, ⟨by have := HG.out; have := HTP.out; omega⟩, HO1, HB1⟩
   · have hx0 : ¬ i < ((digs a).length : Int) := fun h => hg (.inl h)
     have hy0 : ¬ i < ((digs b).length : Int) := fun h => hg (.inr (.inl h))
     have hc0 : ¬ 0 < c := fun h => hg (.inr (.inr h))
     have HD := Aside0.mk (HI.done hx0 hy0 hc0)
     clear hg HI
     go_wp2
     go_ret
     have hR := HO.out
     rw [HD.out] at hR
     exact ⟨_, rfl, Rdv.of_R hR, HB.out⟩
end Go.Proofs.YteohmbannpbokaaGreatDoor.NatWalk
