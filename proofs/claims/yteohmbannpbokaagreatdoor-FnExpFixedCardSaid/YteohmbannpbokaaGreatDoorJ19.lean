/-
 The reference's judgement of a logarithm beside a fraction.
 The reference's decimals of at most 60 digits: the digits and the sign that a text has.
-/
import Derived.Test.YteohmbannpbokaaGreatDoorJ18
import Derived.Test.YteohmbannpbokaaGreatDoorJ09
import Derived.Outline
set_option maxRecDepth 100000
set_option exponentiation.threshold 2000
set_option linter.unusedVariables false
set_option linter.unusedSimpArgs false
namespace Go.Proofs.YteohmbannpbokaaGreatDoor.SpecWalk
open Go.RowKit Go.Proofs.YteohmbannpbokaaGreatDoorW.PrintWords Go.Proofs.YteohmbannpbokaaGreatDoorW.PrintLast Go.Proofs.YteohmbannpbokaaGreatDoorW.PrintMore Go.Proofs.YteohmbannpbokaaGreatDoor.Digs Go.Proofs.YteohmbannpbokaaGreatDoor.StrLaw Go.Proofs.YteohmbannpbokaaGreatDoor.NatLaw Go.Proofs.YteohmbannpbokaaGreatDoor.NatWalk Go.Proofs.YteohmbannpbokaaGreatDoor.ExpLaw
structure Judged (a0 b0 : Nat) (y : Int) (d : Nat) (r : Int) : Prop where
 mk :: (out : r = 0 ∨ ∃ (p : Nat) (lo hi : Int), LnIn a0 b0 (10 ^ p) lo hi ∧ r = bes lo hi (scL y d p) (scH y d p))
set_option maxHeartbeats 4000000 in
theorem LnBeside_n (a0 b0 : Nat) (y : Int) (d pl : Nat) (oa ob oy od : Nat → Prop) (v u v' u' : Value) (w : World) (hv : Rdv w oa v a0) (hu : Rdv w ob u b0) (hv' : Rdv w oy v' y.natAbs) (hu' : Rdv w od u' d) (ha0 : 0 < a0) (hb0 : 0 < b0) (ha : a0 < 2 ^ 400) (hb : b0 < 2 ^ 400) (hpl : pl ≤ 300) (hd : 0 < d) (hly : (digs y.natAbs).length ≤ 500) (hld : (digs d).length ≤ 500)
   (hlL : ∀ p, p ≤ 400 → (digs (scL y d p).natAbs).length ≤ 10000 ∧ (digs (scH y d p).natAbs).length ≤ 10000) :
   Calls Tryz.prog 11 #[.agg #[.bool false, v, u], .agg #[.bool (ng y), v', u'], .int .i64 pl] w fun en w' => ∃ r : Int, en = .returned (.int .i64 r) ∧ Aside0 (Judged a0 b0 y d r) ∧ Below w.heap.size w w' := by
 obtain ⟨A, c, rfl, _, _⟩ := hv.form
 obtain ⟨A', c', rfl, _, _⟩ := hu.form
 obtain ⟨B, e, rfl, _, _⟩ := hv'.form
 obtain ⟨B', e', rfl, _, _⟩ := hu'.form
 have H1 := Aside0.mk (fun p (hp : p ≤ 400) oa ob v u w hv hu => LnSpan_n a0 b0 p oa ob v u w hv hu ha0 hb0 ha hb hp)
 have H2 := Aside0.mk (fun p (hp : p ≤ 400) oa od v u w hv hx => Scaled_n y d p oa od v u w hv hx hd (by omega) (by omega) (by omega))
 have H3 := Aside0.mk (fun p (hp : p ≤ 400) lo hi (h1 : (digs lo.natAbs).length ≤ 1000) (h2 : (digs hi.natAbs).length ≤ 1000) ox oy ox' oy' v u v' u' w hv hu hv' hu' => SBes_n lo hi (scL y d p) (scH y d p) ox oy ox' oy' v u v' u' w hv hu hv' hu' (by omega) (by omega) (by have := (hlL p hp).1; omega) (by have := (hlL p hp).2; omega))
 generalize hsy : ng y = sy at *
 generalize hla : (digs a0).length = la at *
 generalize hlb : (digs b0).length = lb at *
 generalize hly : (digs y.natAbs).length = ly at *
 generalize hld : (digs d).length = ld at *
 clear hsy hla hlb hlL ha hb
 go_enter Tryz.func11, Tryz.ntmps11
 go_wp2_with fail
 have ax0 : Box (((w.alloc (Obj.cells #[Value.bool false, Value.slice A la c, Value.slice A' lb c'] 30)).alloc (Obj.cells #[Value.bool sy, Value.slice B ly e, Value.slice B' ld e'] 30)).alloc (Obj.cells #[Value.int .i64 10, Value.int .i64 30, Value.int .i64 60] 3)) w.heap.size [.bool false, .slice A la c, .slice A' lb c'] := (((Box.new3 w _ _ _ _ _ (by simp)).alloc _).alloc _)
 have bx0 : Box (((w.alloc (Obj.cells #[Value.bool false, Value.slice A la c, Value.slice A' lb c'] 30)).alloc (Obj.cells #[Value.bool sy, Value.slice B ly e, Value.slice B' ld e'] 30)).alloc (Obj.cells #[Value.int .i64 10, Value.int .i64 30, Value.int .i64 60] 3)) (w.heap.size + 1) [.bool sy, .slice B ly e, .slice B' ld e'] := ((Box.new3 (w.alloc (Obj.cells #[Value.bool false, Value.slice A la c, Value.slice A' lb c'] 30)) _ _ _ _ _ (by simp)).alloc _)
 have cx0 : Box (((w.alloc (Obj.cells #[Value.bool false, Value.slice A la c, Value.slice A' lb c'] 30)).alloc (Obj.cells #[Value.bool sy, Value.slice B ly e, Value.slice B' ld e'] 30)).alloc (Obj.cells #[Value.int .i64 10, Value.int .i64 30, Value.int .i64 60] 3)) (w.heap.size + 1 + 1) [.int .i64 10, .int .i64 30, .int .i64 60] := (Box.new3 ((w.alloc (Obj.cells #[Value.bool false, Value.slice A la c, Value.slice A' lb c'] 30)).alloc (Obj.cells #[Value.bool sy, Value.slice B ly e, Value.slice B' ld e'] 30)) _ _ _ _ _ (by simp))
 have hB0 : Below w.heap.size w (((w.alloc (Obj.cells #[Value.bool false, Value.slice A la c, Value.slice A' lb c'] 30)).alloc (Obj.cells #[Value.bool sy, Value.slice B ly e, Value.slice B' ld e'] 30)).alloc (Obj.cells #[Value.int .i64 10, Value.int .i64 30, Value.int .i64 60] 3)) := ((((Below.refl _ _).alloc (Nat.le_refl _) _).alloc (by simp) _).alloc (by simp; omega) _)
 have sz0 : (((w.alloc (Obj.cells #[Value.bool false, Value.slice A la c, Value.slice A' lb c'] 30)).alloc (Obj.cells #[Value.bool sy, Value.slice B ly e, Value.slice B' ld e'] 30)).alloc (Obj.cells #[Value.int .i64 10, Value.int .i64 30, Value.int .i64 60] 3)).heap.size = w.heap.size + 1 + 1 + 1 := by simp
 have hva := Aside0.mk (hv.below hB0)
 have hub := Aside0.mk (hu.below hB0)
 have hvc := Aside0.mk (hv'.below hB0)
 have hud := Aside0.mk (hu'.below hB0)
 have AX := Aside0.mk ax0
 have BX := Aside0.mk bx0
 have CX := Aside0.mk cx0
 have HB0 := Aside0.mk hB0
 generalize (((w.alloc (Obj.cells #[Value.bool false, Value.slice A la c, Value.slice A' lb c'] 30)).alloc (Obj.cells #[Value.bool sy, Value.slice B ly e, Value.slice B' ld e'] 30)).alloc (Obj.cells #[Value.int .i64 10, Value.int .i64 30, Value.int .i64 60] 3)) = w0 at *
 clear hv hu hv' hu' ax0 bx0 cx0 hB0
 go_loopg [12] 3 (fun g v12 w' => ∃ i : Nat, v12 = .int .i64 i ∧ Aside0 (i + g = 3) ∧ Aside0 (Below w0.heap.size w0 w'))
 case atStart => exact ⟨0, rfl, ⟨by omega⟩, ⟨Below.refl _ _⟩⟩
 case round =>
   obtain ⟨i, rfl, HG, HB⟩ := hrel
   have ax0 := AX.out.below HB.out
   have bx0 := BX.out.below HB.out
   have cx0 := CX.out.below HB.out
   by_cases hi : i < 3
   · obtain ⟨q, hq, hcell⟩ : ∃ q : Nat, q ≤ 60 ∧ wr.cell? ⟨w.heap.size + 1 + 1, i, none⟩ = some (.int .i64 (q : Int)) := by
       obtain rfl | rfl | rfl : i = 0 ∨ i = 1 ∨ i = 2 := by omega
       · exact ⟨10, by decide, cx0.c0⟩
       · exact ⟨30, by decide, cx0.c1⟩
       · exact ⟨60, by decide, cx0.c2⟩
     have hi3 : (i : Int) < 3 := by omega
     have p1 := eq_true hi3
     have hq1 : (q : Int) ≤ 60 := by omega
     have hpl1 : (pl : Int) ≤ 300 := by omega
     have hwr : IntKind.i64.wrap ((pl : Int) + (q : Int)) = ((pl + q : Nat) : Int) := by
       rw [i64_w, w64 _ (by omega) (by omega), Int.natCast_add]
     have HP := Aside0.mk (show pl + q ≤ 400 by omega)
     go_wp2_with fail
     have hva0 := (hva.out.below HB.out).drew
     have hub0 := (hub.out.below HB.out).drew
     have hvc0 := (hvc.out.below HB.out).drew
     have hud0 := (hud.out.below HB.out).drew
     have k0 := ax0.c0; have k1 := ax0.c1; have k2 := ax0.c2; have k3 := bx0.c0; have k4 := bx0.c1; have k5 := bx0.c2
     replace ax0 := ax0.drew; replace bx0 := bx0.drew
     have j0 := ax0.c0; have j1 := ax0.c1; have j2 := ax0.c2; have j3 := bx0.c0; have j4 := bx0.c1; have j5 := bx0.c2
     have H1p := Aside0.mk (H1.out _ HP.out)
     have H2p := Aside0.mk (H2.out _ HP.out)
     have H3p := Aside0.mk (H3.out _ HP.out)
     have HJ := Aside0.mk (fun lo hi (h : LnIn a0 b0 (10 ^ (pl + q)) lo hi) => (⟨.inr ⟨pl + q, lo, hi, h, rfl⟩⟩ : Judged a0 b0 y d (bes lo hi (scL y d (pl + q)) (scH y d (pl + q)))))
     clear H1 H2 H3 HP cx0 hcell
     generalize scL y d (pl + q) = slo at *
     generalize scH y d (pl + q) = shi at *
     generalize ((pl + q : Nat) : Int) = P at *
     go_region_held3 (fun w' => w'.cell? ⟨w.heap.size, 0, none⟩ = some (.bool false) ∧ w'.cell? ⟨w.heap.size, 1, none⟩ = some (.slice A la c) ∧ w'.cell? ⟨w.heap.size, 2, none⟩ = some (.slice A' lb c') ∧ w'.cell? ⟨(w.heap.size + 1), 0, none⟩ = some (.bool sy) ∧ w'.cell? ⟨(w.heap.size + 1), 1, none⟩ = some (.slice B ly e) ∧ w'.cell? ⟨(w.heap.size + 1), 2, none⟩ = some (.slice B' ld e'))
         (first
           | (go_keep; done)
           | exact ⟨ax3.c0, ax3.c1, ax3.c2, bx3.c0, bx3.c1, bx3.c2⟩
           | exact ⟨ax2.c0, ax2.c1, ax2.c2, bx2.c0, bx2.c1, bx2.c2⟩
           | exact ⟨ax1.c0, ax1.c1, ax1.c2, bx1.c0, bx1.c1, bx1.c2⟩)
         (first
           | (go_at_call 32; with_reducible refine (H1p.out _ _ _ _ _ hva0 hub0).mono ?_; rintro e w1 ⟨lo, hi2, z1, z2, rfl, hln, hz1, hz2, hb1⟩; obtain ⟨A1, c1, rfl, _, _⟩ := hz1.form; obtain ⟨A2, c2, rfl, _, _⟩ := hz2.form; replace hvc0 := hvc0.below hb1; replace hud0 := hud0.below hb1; have sz1 := hb1.size; (try simp at sz1); have ax1 := ax0.below hb1; have xax10 := ax1.c0; have xax11 := ax1.c1; have xax12 := ax1.c2; have bx1 := bx0.below hb1; have xbx10 := bx1.c0; have xbx11 := bx1.c1; have xbx12 := bx1.c2)
           | (go_at_call 34; with_reducible refine (H2p.out _ _ _ _ _ hvc0 hud0).mono ?_; rintro e w2 ⟨z3, z4, rfl, hz3, hz4, hb2⟩; obtain ⟨A3, c3, rfl, _, _⟩ := hz3.form; obtain ⟨A4, c4, rfl, _, _⟩ := hz4.form; replace hz1 := hz1.below hb2; replace hz2 := hz2.below hb2; have sz2 := hb2.size; have ax2 := ax1.below hb2; have xax20 := ax2.c0; have xax21 := ax2.c1; have xax22 := ax2.c2; have bx2 := bx1.below hb2; have xbx20 := bx2.c0; have xbx21 := bx2.c1; have xbx22 := bx2.c2)
           | (go_at_call 33; with_reducible refine (H3p.out _ _ hln.out.2.1 hln.out.2.2 _ _ _ _ _ _ _ _ _ hz1 hz2 hz3 hz4).mono ?_; rintro e w3 ⟨rfl, hb3⟩; have sz3 := hb3.size; have ax3 := ax2.below hb3; have xax30 := ax3.c0; have xax31 := ax3.c1; have xax32 := ax3.c2; have bx3 := bx2.below hb3; have xbx30 := bx3.c0; have xbx31 := bx3.c1; have xbx32 := bx3.c2))
     have HBx := below_step (below_step (below_step HB.out.drew hb1) hb2) hb3
     have hJr := Aside0.mk (HJ.out _ _ hln.out.1)
     clear k0 k1 k2 k3 k4 k5 j0 j1 j2 j3 j4 j5
     generalize bes lo hi2 slo shi = r at *
     by_cases hr : r = 0
     · subst hr
       go_wp2
       go_roundg (gk - 1)
       case measure => have := HG.out; omega
       case rel => exact ⟨i + 1, by congr 1, ⟨by have := HG.out; omega⟩, ⟨HBx⟩⟩
     · have p2 : (r != 0) = true := bne_iff_ne.mpr hr
       go_wp2
       go_ret
       exact ⟨r, rfl, hJr, below_step HB0.out HBx⟩
   · have e0 : i = 3 := by have := HG.out; omega
     subst e0
     go_wp2
     go_ret
     exact ⟨0, rfl, ⟨⟨.inl rfl⟩⟩, below_step HB0.out HB.out⟩
end Go.Proofs.YteohmbannpbokaaGreatDoor.SpecWalk
namespace Go.Proofs.YteohmbannpbokaaGreatDoor.TextFit
open Go.RowKit Go.Proofs.YteohmbannpbokaaGreatDoorW.PrintWords Go.Proofs.YteohmbannpbokaaGreatDoorW.PrintLast Go.Proofs.YteohmbannpbokaaGreatDoorW.PrintMore Go.Proofs.YteohmbannpbokaaGreatDoor.Digs Go.Proofs.YteohmbannpbokaaGreatDoor.StrLaw Go.Proofs.YteohmbannpbokaaGreatDoor.NatLaw Go.Proofs.YteohmbannpbokaaGreatDoor.NatWalk Go.Proofs.YteohmbannpbokaaGreatDoor.SpecWalk Go.Proofs.YteohmbannpbokaaGreatDoor.TextLaw Go.Proofs.YteohmbannpbokaaGreatDoor.TextWalk
theorem infoB : (Tryz.prog.info? 5).map (fun i => (i.zero, i.size, i.bytes)) = some (some (.int .u8 0), 1, 1) := by kernel_rfl
structure Fit (m : Nat) (x : Int) (v : Value) : Prop where
 mk :: (out : ∃ (b : Bool) (n : Nat), v = .agg #[.string (stext b n), .int .i64 x] ∧ sgn b n = b ∧ nd n ≤ m)
set_option maxHeartbeats 4000000 in
set_option maxRecDepth 100000 in
theorem DecFit_n (s : ByteArray) (x : Int) (w : World) (hs : s.size ≤ 2147483647) (hx : -9223372036854775808 ≤ x ∧ x ≤ 9223372036854775807) :
   Calls Tryz.prog 18 #[.agg #[.string s, .int .i64 x], .int .i64 120, .int .i64 0] w fun e w' => ∃ v, e = .returned v ∧ Fit 120 (0) v ∧ Below w.heap.size w w' := by
 have hsi : (s.size : Int) ≤ 2147483647 := by omega
 have HX := Aside0.mk hx
 clear hs hx
 go_enter Tryz.func18, Tryz.ntmps18
 go_wp2
 have ax0 : Box ((w.alloc (Obj.cells #[Value.string s, Value.int .i64 x] 50)).alloc (Obj.cells #[Value.string ⟨#[]⟩, Value.int .i64 0] 50)) w.heap.size [.string s, .int .i64 x] := ((Box.new2 w _ _ _ _ (by simp)).alloc _)
 have rx0 : Box ((w.alloc (Obj.cells #[Value.string s, Value.int .i64 x] 50)).alloc (Obj.cells #[Value.string ⟨#[]⟩, Value.int .i64 0] 50)) (w.heap.size + 1) [.string ⟨#[]⟩, .int .i64 0] := (Box.new2 (w.alloc (Obj.cells #[Value.string s, Value.int .i64 x] 50)) _ _ _ _ (by simp))
 have hB0 : Below w.heap.size w ((w.alloc (Obj.cells #[Value.string s, Value.int .i64 x] 50)).alloc (Obj.cells #[Value.string ⟨#[]⟩, Value.int .i64 0] 50)) := (((Below.refl _ _).alloc (Nat.le_refl _) _).alloc (by simp) _)
 generalize ((w.alloc (Obj.cells #[Value.string s, Value.int .i64 x] 50)).alloc (Obj.cells #[Value.string ⟨#[]⟩, Value.int .i64 0] 50)) = w0 at *
 obtain ⟨hgb, hgr⟩ : w.heap.size < w0.heap.size ∧ w.heap.size + 1 < w0.heap.size := ⟨by have := World.block_lt_of_cell? w0 _ rx0.c0; simp at this; omega, by have := World.block_lt_of_cell? w0 _ rx0.c0; simpa using this⟩
 go_loopg [7, 8] s.size (fun g v7 v8 w' => ∃ (n : Nat) (i : Int), v8 = .int .i64 i ∧ Aside0 (0 ≤ i ∧ i + (g : Int) = (s.size : Int) ∧ nd n ≤ 120 ∧ (0 < nd n → 0 < i)) ∧ Aside0 (Kd.R (Kd.int .u8) 5 w' w0.heap.size (fun _ => True) v7 (top n)) ∧ Aside0 (Below w0.heap.size w0 w'))
 case atStart => exact ⟨0, 0, rfl, ⟨by simp, by simp, by rw [nd_zero]; omega, by rw [nd_zero]; omega⟩, ⟨by rw [top_zero]; exact Kd.R_nil _ _ _ _ _⟩, ⟨Below.refl _ _⟩⟩
 case round =>
   obtain ⟨n, i, rfl, HG, HO, HB⟩ := hrel
   replace ax0 := ax0.below HB.out
   replace rx0 := rx0.below HB.out
   have kax00 := ax0.c0; have kax01 := ax0.c1; have qax00 := ax0.f0; have qax01 := ax0.f1; have krx00 := rx0.c0; have krx01 := rx0.c1; have qrx00 := rx0.f0; have qrx01 := rx0.f1
   obtain ⟨i0, hgi, hn60, hni⟩ := HG.out
   have HNI := Aside0.mk hni
   clear hni
   have htl := top_len n
   obtain ⟨Ao, co, eo⟩ := Kd.R_slice HO.out
   subst eo
   rw [htl] at HO ⊢
   have hn0 := nd_zero_iff (n := n)
   have HN0 := Aside0.mk hn0
   clear hn0 htl
   by_cases hi : i < (s.size : Int)
   · have hx := bt_at s i
     have p7 := eq_true i0
     have q7 := eq_true hi
     obtain ⟨y0, y1⟩ := bt_range s i
     have HBT : Aside0 (∀ h : 48 ≤ bt s i ∧ bt s i ≤ 57, bt s i = ((48 + (bt s i - 48).toNat : Nat) : Int)) := ⟨fun h => by omega⟩
     generalize bt s i = y at *
     by_cases hn : (nd n : Int) < 120
     · by_cases h48 : 48 ≤ y
       · by_cases h57 : y ≤ 57
         · by_cases hz : n = 0 ∧ y = 48
           · obtain ⟨hz1, hz2⟩ := hz
             subst hz2
             have hnd : nd n = 0 := HN0.out.2 hz1
             have HZ1 := Aside0.mk hz1
             clear hz1
             generalize hnn : nd n = N at *
             subst hnd
             go_wp2
             go_roundg (gk - 1)
             case measure => have := HG.out; omega
             case rel => exact ⟨n, i + 1, rfl, ⟨by omega, by omega, by first | exact hn60 | (rw [hnn]; omega) | omega, fun _ => by omega⟩, HO, HB⟩
           · have hst := top_step n (y - 48).toNat (by omega) (by omega)
             rw [← HBT.out ⟨h48, h57⟩] at hst
             have HST := Aside0.mk hst
             have hyz : (0 : Int) < (nd n : Int) ∨ y ≠ 48 := by
               by_cases h : n = 0
               · exact .inr (fun h2 => hz ⟨h, h2⟩)
               · exact .inl (by have := HN0.out; omega)
             clear hst hz
             by_cases hpos : 0 < nd n
             · clear hyz
               have hpd : decide (0 < nd n) = true := decide_eq_true hpos
               go_wp2_with (first | ((with_reducible refine gate_builtin (b := .append) (xs := #[.tmp 43, .tmp 45]) rfl ?_); at_builtin; refine Kd.R_append (Kd.int .u8) (w0 := w0) w0.heap.size rfl (.tmp 43) (.tmp 45) 77 5 (.int .u8 0) 1 rfl Tryz.underlying77 infoB rfl (by decide) (by omega) _ (top n) y [.int .u8 y] (fun _ => True) (fun _ => False) rfl rfl ?aP (fun _ hk => hk.elim) ?aF ?aO ?aB ?aS ?aL ?_; (case aP => exact rfl); (case aB => exact HB.out); (case aF => exact (fun _ _ => trivial)); (case aO => exact HO.out); (case aS => exact below_size HB.out); (case aL => (rw [top_len]; omega)); intro v1 w1 ho hb hg hat; have HO1 := Aside0.mk ho; have HB1 := Aside0.mk hb; clear HB HO ho hb hg hat))
               go_roundg (gk - 1)
               case measure => have := HG.out; omega
               case rel => exact ⟨n * 10 + (y - 48).toNat, i + 1, rfl, ⟨by omega, by omega, by rw [HST.out.2]; omega, fun _ => by omega⟩, ⟨by rw [HST.out.1]; exact HO1.out⟩, HB1⟩
             · have hne : (y != 48) = true := bne_iff_ne.mpr (by rcases hyz with h | h; omega; exact h)
               have hnd : nd n = 0 := by omega
               have HND := Aside0.mk hnd
               clear hyz hnd
               generalize hnn : nd n = N at *
               obtain rfl : N = 0 := HND.out
               go_wp2_with (first | ((with_reducible refine gate_builtin (b := .append) (xs := #[.tmp 43, .tmp 45]) rfl ?_); at_builtin; refine Kd.R_append (Kd.int .u8) (w0 := w0) w0.heap.size rfl (.tmp 43) (.tmp 45) 77 5 (.int .u8 0) 1 rfl Tryz.underlying77 infoB rfl (by decide) (by omega) _ (top n) y [.int .u8 y] (fun _ => True) (fun _ => False) rfl rfl ?aP (fun _ hk => hk.elim) ?aF ?aO ?aB ?aS ?aL ?_; (case aP => exact rfl); (case aB => exact HB.out); (case aF => exact (fun _ _ => trivial)); (case aO => exact HO.out); (case aS => exact below_size HB.out); (case aL => (rw [top_len]; omega)); intro v1 w1 ho hb hg hat; have HO1 := Aside0.mk ho; have HB1 := Aside0.mk hb; clear HB HO ho hb hg hat))
               go_roundg (gk - 1)
               case measure => have := HG.out; omega
               case rel => exact ⟨n * 10 + (y - 48).toNat, i + 1, rfl, ⟨by omega, by omega, by rw [HST.out.2]; omega, fun _ => by omega⟩, ⟨by rw [HST.out.1]; exact HO1.out⟩, HB1⟩
         · skip
           go_wp2
           go_roundg (gk - 1)
           case measure => have := HG.out; omega
           case rel => exact ⟨n, i + 1, rfl, ⟨by omega, by omega, by first | exact hn60 | (rw [hnn]; omega) | omega, fun _ => by omega⟩, HO, HB⟩
       · skip
         go_wp2
         go_roundg (gk - 1)
         case measure => have := HG.out; omega
         case rel => exact ⟨n, i + 1, rfl, ⟨by omega, by omega, by first | exact hn60 | (rw [hnn]; omega) | omega, fun _ => by omega⟩, HO, HB⟩
     · skip
       have hrd := (Kd.R_reads' HO.out).2.2
       have hlt := top_len n
       have hcv : ∀ w', Below wr.heap.size wr w' → (convert 77 9 (.slice Ao (nd n) co)).run Tryz.prog w' = .ok (.string (strOfNums (top n))) w' := fun w' hb => by
         have h := Kd.C_string (P := Tryz.prog) (src := 77) (dst := 9) (c := co) Tryz.underlying77 Tryz.underlying5 Tryz.underlying9 (Kd.C_below hrd hb)
         rw [hlt] at h
         exact h
       have hcv1 := hcv wr.drew (Below.refl _ _).drew
       have hcv2 := hcv (wr.alloc (Obj.cells #[.string ⟨#[]⟩, .int .i64 0] 50)).drew ((Below.refl _ _).alloc (Nat.le_refl _) _).drew
       clear hrd hlt hcv
       have hw61 : IntKind.i64.wrap 1 = 1 := by decide
       have axA := (ax0.alloc (Obj.cells #[.string ⟨#[]⟩, .int .i64 0] 50)).drew
       have axB := ax0.drew
       have kaxA0 := axA.c0; have kaxA1 := axA.c1; have qaxA0 := axA.f0; have qaxA1 := axA.f1; have kaxB0 := axB.c0; have kaxB1 := axB.c1; have qaxB0 := axB.f0; have qaxB1 := axB.f1
       go_wp2
       go_region
       all_goals
         have mx0 : Box (wr.alloc (Obj.cells #[.string (strOfNums (top n)), .int .i64 (0)] 50)).drew wr.heap.size [.string (strOfNums (top n)), .int .i64 (0)] := (Box.new2 _ _ _ _ _ rfl).drew
         have ay0 := (ax0.alloc (Obj.cells #[.string (strOfNums (top n)), .int .i64 (0)] 50)).drew
         have ry0 := (rx0.alloc (Obj.cells #[.string (strOfNums (top n)), .int .i64 (0)] 50)).drew
         have HW := Aside0.mk ((HB.out.alloc HB.out.size (Obj.cells #[.string (strOfNums (top n)), .int .i64 (0)] 50)).drew)
         have hlt1 : w.heap.size < wr.heap.size := by have := HB.out.size; omega
         have hlt2 : w.heap.size + 1 < wr.heap.size := by have := HB.out.size; omega
         have HSZ := Aside0.mk HB.out.size
         have HTT := Aside0.mk (text_top (n := n))
         have HIF := Aside0.mk (show 0 < nd n → 0 < s.size by intro h; have := HNI.out h; omega)
         clear axA axB kaxA0 kaxA1 kaxB0 kaxB1 qaxA0 qaxA1 qaxB0 qaxB1 hcv1 hcv2 hw61
         have hts : ((strOfNums (top n)).size : Int) ≤ 120 := by rw [strOfNums_size, top_len]; omega
         generalize hT : strOfNums (top n) = T at *
         have hE : (0 : Int) = 0 := rfl
         have HE := Aside0.mk hE
         clear hE
         have HT2 := Aside0.mk hT
         clear hT
         have hsz1 : (wr.alloc (Obj.cells #[.string T, .int .i64 0] 50)).drew.heap.size = wr.heap.size + 1 := by simp
         generalize (wr.alloc (Obj.cells #[.string T, .int .i64 0] 50)).drew = W1 at *
         have HS1 := Aside0.mk hsz1
         clear hsz1
         have kmx00 := mx0.c0; have kmx01 := mx0.c1; have qmx00 := mx0.f0; have qmx01 := mx0.f1; have kay00 := ay0.c0; have kay01 := ay0.c1; have qay00 := ay0.f0; have qay01 := ay0.f1; have kry00 := ry0.c0; have kry01 := ry0.c1; have qry00 := ry0.f0; have qry01 := ry0.f1
         have hnd : 0 < nd n := by omega
         have HZ := Aside0.mk (show ¬ n = 0 by intro h; have := HN0.out.2 h; omega)
         have hne : ((nd n : Int) == 0) = false := beq_eq_false_iff_ne.mpr (by omega)
         have hss := HIF.out hnd
         have hb0 := bt0 s
         have hp0 := eq_true hss
         have HND := Aside0.mk hn60
         have hst1 : Aside0 (stext true n = ⟨#[45]⟩ ++ text n) := ⟨rfl⟩
         have hst0 : Aside0 (stext false n = text n) := ⟨rfl⟩
         have hTe := Aside0.mk (HTT.out HZ.out)
         have hsg : Aside0 (sgn true n = true) := ⟨by have := HZ.out; simp [sgn]; omega⟩
         by_cases h45 : bt s 0 = 45
         · rw [h45] at hb0
           clear h45
           go_wp2
           refine bodyPost_ret (v := .agg #[.string (⟨#[45]⟩ ++ T), .int .i64 0]) (by simp [results, Tryz.results18, go_sem, kry00, kry01, kmx00, kmx01, kay00, kay01, qmx00, qmx01, qry00, qry01]) rfl ⟨_, rfl, ⟨true, n, by rw [hst1.out, hTe.out], hsg.out, HND.out⟩, ?_⟩
           repeat (first | exact below_step hB0 HW.out | (refine Below.setCell ?_ (by first | (show _ ≤ wr.heap.size; omega) | (show _ ≤ w.heap.size + 1; omega)) _))
         · have h45' : (bt s 0 == 45) = false := beq_eq_false_iff_ne.mpr h45
           generalize bt s 0 = B0 at *
           clear h45
           go_wp2
           refine bodyPost_ret (v := .agg #[.string T, .int .i64 0]) (by simp [results, Tryz.results18, go_sem, kry00, kry01, kmx00, kmx01, kay00, kay01, qmx00, qmx01, qry00, qry01]) rfl ⟨_, rfl, ⟨false, n, by rw [hst0.out, hTe.out], rfl, HND.out⟩, ?_⟩
           repeat (first | exact below_step hB0 HW.out | (refine Below.setCell ?_ (by first | (show _ ≤ wr.heap.size; omega) | (show _ ≤ w.heap.size + 1; omega)) _))
   · skip
     have hrd := (Kd.R_reads' HO.out).2.2
     have hlt := top_len n
     have hcv : ∀ w', Below wr.heap.size wr w' → (convert 77 9 (.slice Ao (nd n) co)).run Tryz.prog w' = .ok (.string (strOfNums (top n))) w' := fun w' hb => by
       have h := Kd.C_string (P := Tryz.prog) (src := 77) (dst := 9) (c := co) Tryz.underlying77 Tryz.underlying5 Tryz.underlying9 (Kd.C_below hrd hb)
       rw [hlt] at h
       exact h
     have hcv1 := hcv wr.drew (Below.refl _ _).drew
     have hcv2 := hcv (wr.alloc (Obj.cells #[.string ⟨#[]⟩, .int .i64 0] 50)).drew ((Below.refl _ _).alloc (Nat.le_refl _) _).drew
     clear hrd hlt hcv
     have hw61 : IntKind.i64.wrap 1 = 1 := by decide
     have axA := (ax0.alloc (Obj.cells #[.string ⟨#[]⟩, .int .i64 0] 50)).drew
     have axB := ax0.drew
     have kaxA0 := axA.c0; have kaxA1 := axA.c1; have qaxA0 := axA.f0; have qaxA1 := axA.f1; have kaxB0 := axB.c0; have kaxB1 := axB.c1; have qaxB0 := axB.f0; have qaxB1 := axB.f1
     go_wp2
     go_region
     all_goals
       have mx0 : Box (wr.alloc (Obj.cells #[.string (strOfNums (top n)), .int .i64 (0)] 50)).drew wr.heap.size [.string (strOfNums (top n)), .int .i64 (0)] := (Box.new2 _ _ _ _ _ rfl).drew
       have ay0 := (ax0.alloc (Obj.cells #[.string (strOfNums (top n)), .int .i64 (0)] 50)).drew
       have ry0 := (rx0.alloc (Obj.cells #[.string (strOfNums (top n)), .int .i64 (0)] 50)).drew
       have HW := Aside0.mk ((HB.out.alloc HB.out.size (Obj.cells #[.string (strOfNums (top n)), .int .i64 (0)] 50)).drew)
       have hlt1 : w.heap.size < wr.heap.size := by have := HB.out.size; omega
       have hlt2 : w.heap.size + 1 < wr.heap.size := by have := HB.out.size; omega
       have HSZ := Aside0.mk HB.out.size
       have HTT := Aside0.mk (text_top (n := n))
       have HIF := Aside0.mk (show 0 < nd n → 0 < s.size by intro h; have := HNI.out h; omega)
       clear axA axB kaxA0 kaxA1 kaxB0 kaxB1 qaxA0 qaxA1 qaxB0 qaxB1 hcv1 hcv2 hw61
       have hts : ((strOfNums (top n)).size : Int) ≤ 120 := by rw [strOfNums_size, top_len]; omega
       generalize hT : strOfNums (top n) = T at *
       have hE : (0 : Int) = 0 := rfl
       have HE := Aside0.mk hE
       clear hE
       have HT2 := Aside0.mk hT
       clear hT
       have hsz1 : (wr.alloc (Obj.cells #[.string T, .int .i64 0] 50)).drew.heap.size = wr.heap.size + 1 := by simp
       generalize (wr.alloc (Obj.cells #[.string T, .int .i64 0] 50)).drew = W1 at *
       have HS1 := Aside0.mk hsz1
       clear hsz1
       have kmx00 := mx0.c0; have kmx01 := mx0.c1; have qmx00 := mx0.f0; have qmx01 := mx0.f1; have kay00 := ay0.c0; have kay01 := ay0.c1; have qay00 := ay0.f0; have qay01 := ay0.f1; have kry00 := ry0.c0; have kry01 := ry0.c1; have qry00 := ry0.f0; have qry01 := ry0.f1
       by_cases hz : n = 0
       · have hnd : nd n = 0 := HN0.out.2 hz
         have HZ := Aside0.mk hz
         clear hz
         generalize hnn : nd n = N at *
         subst hnd
         go_wp2
         refine bodyPost_ret (v := .agg #[.string ⟨#[48]⟩, .int .i64 0]) (by simp [results, Tryz.results18, go_sem, kry00, kry01, kmx00, kmx01, kay00, kay01, qmx00, qmx01, qry00, qry01]) rfl ⟨_, rfl, ⟨false, 0, by rfl, rfl, by rw [nd_zero]; omega⟩, ?_⟩
         repeat (first | exact below_step hB0 HW.out | (refine Below.setCell ?_ (by first | (show _ ≤ wr.heap.size; omega) | (show _ ≤ w.heap.size + 1; omega)) _))
       · have hnd : 0 < nd n := by
           apply Classical.byContradiction
           intro h; exact hz (HN0.out.1 (by omega))
         have HZ := Aside0.mk hz
         have hne : ((nd n : Int) == 0) = false := beq_eq_false_iff_ne.mpr (by omega)
         have hss := HIF.out hnd
         have hb0 := bt0 s
         have hp0 := eq_true hss
         have HND := Aside0.mk hn60
         have hst1 : Aside0 (stext true n = ⟨#[45]⟩ ++ text n) := ⟨rfl⟩
         have hst0 : Aside0 (stext false n = text n) := ⟨rfl⟩
         have hTe := Aside0.mk (HTT.out HZ.out)
         have hsg : Aside0 (sgn true n = true) := ⟨by have := HZ.out; simp [sgn]; omega⟩
         by_cases h45 : bt s 0 = 45
         · rw [h45] at hb0
           clear h45
           go_wp2
           refine bodyPost_ret (v := .agg #[.string (⟨#[45]⟩ ++ T), .int .i64 0]) (by simp [results, Tryz.results18, go_sem, kry00, kry01, kmx00, kmx01, kay00, kay01, qmx00, qmx01, qry00, qry01]) rfl ⟨_, rfl, ⟨true, n, by rw [hst1.out, hTe.out], hsg.out, HND.out⟩, ?_⟩
           repeat (first | exact below_step hB0 HW.out | (refine Below.setCell ?_ (by first | (show _ ≤ wr.heap.size; omega) | (show _ ≤ w.heap.size + 1; omega)) _))
         · have h45' : (bt s 0 == 45) = false := beq_eq_false_iff_ne.mpr h45
           generalize bt s 0 = B0 at *
           clear h45
           go_wp2
           refine bodyPost_ret (v := .agg #[.string T, .int .i64 0]) (by simp [results, Tryz.results18, go_sem, kry00, kry01, kmx00, kmx01, kay00, kay01, qmx00, qmx01, qry00, qry01]) rfl ⟨_, rfl, ⟨false, n, by rw [hst0.out, hTe.out], rfl, HND.out⟩, ?_⟩
           repeat (first | exact below_step hB0 HW.out | (refine Below.setCell ?_ (by first | (show _ ≤ wr.heap.size; omega) | (show _ ≤ w.heap.size + 1; omega)) _))
end Go.Proofs.YteohmbannpbokaaGreatDoor.TextFit
