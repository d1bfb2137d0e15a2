/-
 The law's number of bits; two bounds of what was returned.
 Natural numbers as lists of limbs below 18446744073709551616 (the lowest ones first): a plain law, with no program in sight.
 The package's whole numbers of any length: words that are made, copied, and cut.
 The package's whole numbers of any length: normal form, copies, signs.
-/
import Derived.Test.YteohmbannpbokaaGreatDoorJ01
import Derived.Test.YteohmbannpbokaaGreatDoorJ19
import Derived.Test.YteohmbannpbokaaGreatDoorJ03
import Derived.Test.YteohmbannpbokaaGreatDoorJ09
import Derived.Laws.CopyOwn
import Derived.LaidEqlPtr
import Derived.Lib.Builder
import Derived.Outline
set_option maxRecDepth 100000
set_option exponentiation.threshold 2000
set_option linter.unusedVariables false
set_option linter.unusedSimpArgs false
namespace Go.Proofs.YteohmbannpbokaaGreatDoor.LawExp
open Go.RowKit Go.Proofs.YteohmbannpbokaaGreatDoorW.PrintWords Go.Proofs.YteohmbannpbokaaGreatDoorW.PrintLast Go.Proofs.YteohmbannpbokaaGreatDoorW.PrintMore Go.Proofs.YteohmbannpbokaaGreatDoor.Digs Go.Proofs.YteohmbannpbokaaGreatDoor.StrLaw Go.Proofs.YteohmbannpbokaaGreatDoor.NatLaw Go.Proofs.YteohmbannpbokaaGreatDoor.NatWalk Go.Proofs.YteohmbannpbokaaGreatDoor.SpecWalk Go.Proofs.YteohmbannpbokaaGreatDoor.TextLaw Go.Proofs.YteohmbannpbokaaGreatDoor.TextWalk Go.Proofs.YteohmbannpbokaaGreatDoor.TextFit Go.Proofs.YteohmbannpbokaaGreatDoor.ExpLaw
set_option maxHeartbeats 4000000 in
theorem arBits_n (s : ByteArray) (b : Nat) (w : World) (hs : s.size ≤ 2147483647) (hb : b ≤ 300) :
   Calls Tryz.prog 5 #[.string s, .int .i64 b] w fun e w' => ∃ (n : Nat) (z t : Value), e = .returned (.tuple #[z, t]) ∧ Aside0 (n < 2 ^ b) ∧ Rdv w' (fun k => w.heap.size ≤ k) z n ∧ Rdv w' (fun k => w.heap.size ≤ k) t (2 ^ b) ∧ Below w.heap.size w w' := by
 have hp2 : 0 < 2 ^ b := Nat.pow_pos (by decide)
 have H1 := Aside0.mk (fun oa v w hv => NatPow_n 2 b oa v w hv (by decide) (by omega))
 have H2 := Aside0.mk (fun w => DecFit_n s 0 w hs (by decide))
 have H3 := Aside0.mk (fun (sg : Bool) n w (h : sgn sg n = sg) (h2 : nd n ≤ 120) => DecIn_n sg n 0 w h (by omega))
 have H4 := Aside0.mk (fun n (h2 : nd n ≤ 120) oa ob v u w hv hu => div_n n (2 ^ b) oa ob v u w hv hu hp2 (by have := len_le_nd n; omega))
 have HL := Aside0.mk (fun n : Nat => Nat.mod_lt n hp2)
 have hf1 : ∀ (sg : Bool) (A : Option Addr) (l c : Nat) (w : World), (Instr.field 47 (.agg #[.bool sg, .slice A l c, .int .i64 0]) 0).run Tryz.prog w = .ok (.agg #[.bool sg, .slice A l c]) w := fun _ _ _ _ _ => by kernel_rfl
 have hf2 : ∀ (sg : Bool) (A : Option Addr) (l c : Nat) (w : World), (Instr.field 28 (.agg #[.bool sg, .slice A l c]) 1).run Tryz.prog w = .ok (.slice A l c) w := fun _ _ _ _ _ => by kernel_rfl
 clear hs hp2
 go_enter Tryz.func5, Tryz.ntmps5
 go_wp2_with fail
 have R2 := Rdv.lit1 w 2 (by decide) (by decide)
 simp only [show ((2 : Nat) : Int) = 2 from rfl] at R2
 have hB0 := (Below.refl w.heap.size w).alloc (Nat.le_refl _) (Obj.cells #[.int .u32 2] 44)
 have sz0 : (w.alloc (Obj.cells #[.int .u32 2] 44)).heap.size = w.heap.size + 1 := by simp
 generalize (w.alloc (Obj.cells #[.int .u32 2] 44)) = w0 at *
 go_wp2_with (first
   | (go_at_call 15; with_reducible refine (H1.out _ _ _ R2).mono ?_; rintro e w1 ⟨z1, rfl, h1, hb1⟩; obtain ⟨A1, c1, rfl, _, _⟩ := h1.form; have sz1 := hb1.size)
   | (go_at_call 18; with_reducible refine (H2.out _).mono ?_; rintro e w2 ⟨z2, rfl, hfit, hb2⟩; obtain ⟨sg, n, rfl, hsg, hnd⟩ := hfit.out; have sz2 := hb2.size; have hsg := Aside0.mk hsg; have hnd := Aside0.mk hnd; clear hfit; rename_i hsg0 hnd0; clear hsg0 hnd0)
   | (go_at_call 17; with_reducible refine (H3.out _ _ _ hsg.out hnd.out).mono ?_; rintro e w3 ⟨z3, rfl, h3, hb3⟩; obtain ⟨A3, c3, rfl, _, _⟩ := h3.form; have sz3 := hb3.size)
   | (go_at_call 16; with_reducible refine (H4.out _ hnd.out _ _ _ _ _ h3 ((h1.below hb2).below hb3)).mono ?_; rintro e w4 ⟨z4, rfl, hq, hb4⟩; obtain ⟨x4, y4, rfl, hx4, hy4⟩ := hq.out; have sz4 := hb4.size))
 have hBx := below_step (below_step (below_step (below_step hB0 hb1) hb2) hb3) hb4
 go_ret2
 exact ⟨_, _, _, rfl, ⟨HL.out n⟩, hy4.mono (fun k hk => by have h0 : _ ≤ k := hk; omega), (((h1.below hb2).below hb3).below hb4).mono (fun k hk => by have h0 : _ ≤ k := hk; omega), hBx⟩
theorem _root_.Go.Proofs.YteohmbannpbokaaGreatDoor.SpecWalk.Box.put3' {w : World} {g : Nat} {x y z : Value} (h : Box w g [x, y, z]) (a b c : Value) : Box (((w.setCell ⟨g, 0, none⟩ a).setCell ⟨g, 1, none⟩ b).setCell ⟨g, 2, none⟩ c) g [a, b, c] := by
 have h0 := h.c0; have h1 := h.c1; have h2 := h.c2
 have k0 := h.f0; have k1 := h.f1; have k2 := h.f2
 refine Box.mk3 ?_ ?_ ?_ ?_ ?_ ?_ <;> simp [go_sem, h0, h1, h2, k0, k1, k2]
set_option maxHeartbeats 4000000 in
theorem arWithin_n (N : Int) (off : Int) (two : Nat) (ot : Nat → Prop) (t : Value) (w : World) (ht : Rdv w ot t two) (hN : nd N.natAbs ≤ 1000) (hoff : 0 ≤ off ∧ off ≤ 1000) :
   Calls Tryz.prog 9 #[.string (stext (ng N) N.natAbs), .int .i64 off, t] w fun e w' => ∃ z u : Value, e = .returned (.tuple #[.agg #[.bool (ng (N - off)), z, t], .agg #[.bool (ng (N + off)), u, t], .bool true]) ∧ Rdv w' (fun k => w.heap.size ≤ k) z (N - off).natAbs ∧ Rdv w' (fun k => w.heap.size ≤ k) u (N + off).natAbs ∧ Below w.heap.size w w' := by
 obtain ⟨A, c, rfl, _, _⟩ := ht.form
 have hln := len_le_nd N.natAbs
 have hlo : (digs off.natAbs).length ≤ 1 := len_digs_le (by omega)
 have H1 := Aside0.mk (fun w => ParseWhole_n (ng N) N.natAbs w (sgn_ng N) (by omega))
 have H2 := Aside0.mk (fun w => WOf_n off w (by omega))
 have H3 := Aside0.mk (fun oa v w hv => WMin_n off oa v w hv)
 have H4 := Aside0.mk (fun oa ob v u w hv hu => WAdd_n N (-off) oa ob v u w hv hu (by omega) (by rw [Int.natAbs_neg]; omega))
 have H5 := Aside0.mk (fun oa ob v u w hv hu => WAdd_n N off oa ob v u w hv hu (by omega) (by omega))
 rw [← Int.sub_eq_add_neg] at H4
 simp only [Int.natAbs_neg] at H4
 obtain ⟨o1, o2⟩ := hoff
 have p1 := eq_true o1
 have o3 : (off < 1048576) = True := eq_true (by omega)
 clear hN hln hlo
 generalize stext (ng N) N.natAbs = S at *
 generalize ng N = sn at *
 generalize ng off = sd at *
 generalize ng (-off) = sm at *
 generalize ng (N - off) = s1 at *
 generalize ng (N + off) = s2 at *
 generalize (N - off).natAbs = q1 at *
 generalize (N + off).natAbs = q2 at *
 generalize N.natAbs = n at *
 generalize off.natAbs = d at *
 generalize hmt : (digs two).length = mt at *
 go_enter Tryz.func9, Tryz.ntmps9
 go_wp2_with fail
 have lx0 := (Box.new3 w w.heap.size (.bool false) (.slice none 0 0) (.slice none 0 0) 30 rfl).alloc (Obj.cells #[.bool false, .slice none 0 0, .slice none 0 0] 30)
 have hx0 := Box.new3 (w.alloc (Obj.cells #[.bool false, .slice none 0 0, .slice none 0 0] 30)) (w.heap.size + 1) (.bool false) (.slice none 0 0) (.slice none 0 0) 30 (by simp)
 have hB0 := ((Below.refl w.heap.size w).alloc (Nat.le_refl _) (Obj.cells #[.bool false, .slice none 0 0, .slice none 0 0] 30)).alloc (by simp) (Obj.cells #[.bool false, .slice none 0 0, .slice none 0 0] 30)
 have sz0 : ((w.alloc (Obj.cells #[.bool false, .slice none 0 0, .slice none 0 0] 30)).alloc (Obj.cells #[.bool false, .slice none 0 0, .slice none 0 0] 30)).heap.size = w.heap.size + 2 := by simp
 generalize ((w.alloc (Obj.cells #[.bool false, .slice none 0 0, .slice none 0 0] 30)).alloc (Obj.cells #[.bool false, .slice none 0 0, .slice none 0 0] 30)) = w0 at *
 go_wp2_with (first
   | (go_at_call 28; with_reducible refine (H1.out _).mono ?_; rintro e va ⟨z1, rfl, hn1, hb1⟩; obtain ⟨A1, c1, rfl, _, _⟩ := hn1.form; have sz1 := hb1.size)
   | (go_at_call 29; with_reducible refine (H2.out _).mono ?_; rintro e vb ⟨z2, rfl, hd2, hb2⟩; obtain ⟨A2, c2, rfl, _, _⟩ := hd2.form; have sz2 := hb2.size))
 have sa : (va.alloc (Obj.cells #[.bool sn, .slice A1 (digs n).length c1] 28)).heap.size = va.heap.size + 1 := by simp
 have nx0 := (((Box.new2 va va.heap.size (.bool sn) (.slice A1 (digs n).length c1) 28 rfl).below hb2).alloc (Obj.cells #[.bool sd, .slice A2 (digs d).length c2] 28)).drew
 have dx0 := (Box.new2 vb vb.heap.size (.bool sd) (.slice A2 (digs d).length c2) 28 rfl).drew
 have hba := (((hB0.alloc (by omega) (Obj.cells #[.bool false] 28))))
 clear hba
 have al1 := (Below.refl va.heap.size va).alloc (Nat.le_refl _) (Obj.cells #[.bool sn, .slice A1 (digs n).length c1] 28)
 have al2 := (Below.refl vb.heap.size vb).alloc (Nat.le_refl _) (Obj.cells #[.bool sd, .slice A2 (digs d).length c2] 28)
 replace lx0 := ((((lx0.below hb1).below al1).below hb2).below al2).drew
 replace hx0 := ((((hx0.below hb1).below al1).below hb2).below al2).drew
 replace hB0 := (below_step (below_step (below_step (below_step hB0 hb1) al1) hb2) al2).drew
 have ht0 := ht.below hB0
 replace hn1 := (((hn1.below al1).below hb2).below al2).drew
 replace hd2 := (hd2.below al2).drew
 have sz3 : (vb.alloc (Obj.cells #[.bool sd, .slice A2 (digs d).length c2] 28)).heap.size = vb.heap.size + 1 := by simp
 generalize (vb.alloc (Obj.cells #[.bool sd, .slice A2 (digs d).length c2] 28)) = W at *
 clear hb1 hb2 al1 al2
 have hn1 := hn1.mono (ok' := fun _ => True) (fun _ _ => trivial)
 have hd2 := hd2.mono (ok' := fun _ => True) (fun _ _ => trivial)
 generalize hmn : (digs n).length = mn at *
 generalize hmd : (digs d).length = md at *
 rw [sa] at sz2
 refine st (n := 23) (S := fun w' => w'.cell? ⟨va.heap.size, 0, none⟩ = some (.bool sn) ∧ w'.cell? ⟨va.heap.size, 1, none⟩ = some (.slice A1 mn c1) ∧ w'.cell? ⟨vb.heap.size, 0, none⟩ = some (.bool sd) ∧ w'.cell? ⟨vb.heap.size, 1, none⟩ = some (.slice A2 md c2)) (ds := []) rfl ⟨nx0.c0, nx0.c1, dx0.c0, dx0.c1⟩ (fun hHeld => ?_)
 refine tk 0 (some 19) rfl rfl hHeld ?_ (by (rintro w' ⟨s0, s1, s2, s3⟩; go_simp; with_reducible rfl))
 refine tk 1 (some 20) rfl rfl hHeld ?_ (by (rintro w' ⟨s0, s1, s2, s3⟩; go_simp; with_reducible rfl))
 refine pu 4 (some 23) rfl rfl ?_
 refine tk 6 (some 25) rfl rfl hHeld ?_ (by (rintro w' ⟨s0, s1, s2, s3⟩; go_simp; with_reducible rfl))
 refine tk 7 (some 26) rfl rfl hHeld ?_ (by (rintro w' ⟨s0, s1, s2, s3⟩; go_simp; with_reducible rfl))
 refine pu 9 (some 28) rfl rfl ?_
 refine pu 11 (some 30) rfl rfl ?_
 refine on 2 (some 21) rfl rfl (fun K hK => ?_)
 refine goes_ Tryz.func19 (by kernel_rfl) rfl #[.agg #[.bool sd, .slice A2 md c2]] (by rfl) rfl rfl (by (try simp only [List.map_toArray, List.map_cons, List.map_nil]); first | done | rfl) ?_
 refine (H3.out _ _ _ hd2).mono ?_
 rintro e w1 ⟨rfl, hb1⟩
 refine ⟨_, rfl, ?_⟩
 replace hn1 := hn1.below hb1
 replace hd2 := hd2.below hb1
 have sz1 := hb1.size; simp at sz1
 have lx1 := lx0.below hb1
 have xlx10 := lx1.c0; have ylx10 := lx1.f0
 have xlx11 := lx1.c1; have ylx11 := lx1.f1
 have xlx12 := lx1.c2; have ylx12 := lx1.f2
 have hx1 := hx0.below hb1
 have xhx10 := hx1.c0; have yhx10 := hx1.f0
 have xhx11 := hx1.c1; have yhx11 := hx1.f1
 have xhx12 := hx1.c2; have yhx12 := hx1.f2
 have nx1 := nx0.below hb1
 have dx1 := dx0.below hb1
 refine hK.out _ _ ⟨nx1.c0, nx1.c1, dx1.c0, dx1.c1⟩ (fun hHeld => ?_)
 clear hK K
 refine nm ?_
 refine on 3 (some 22) rfl rfl (fun K hK => ?_)
 refine goes_ Tryz.func30 (by kernel_rfl) rfl #[.agg #[.bool sn, .slice A1 mn c1], .agg #[.bool sm, .slice A2 md c2]] (by rfl) rfl rfl (by (try simp only [List.map_toArray, List.map_cons, List.map_nil]); first | done | rfl) ?_
 refine (H4.out _ _ _ _ _ hn1 hd2).mono ?_
 rintro e w2 ⟨v4, rfl, hz4, hb2⟩
 refine ⟨_, rfl, ?_⟩
 obtain ⟨A4, c4, rfl, _, _⟩ := hz4.form
 replace hn1 := hn1.below hb2
 replace hd2 := hd2.below hb2
 have sz2 := hb2.size
 have lx2 := lx1.below hb2
 have xlx20 := lx2.c0; have ylx20 := lx2.f0
 have xlx21 := lx2.c1; have ylx21 := lx2.f1
 have xlx22 := lx2.c2; have ylx22 := lx2.f2
 have hx2 := hx1.below hb2
 have xhx20 := hx2.c0; have yhx20 := hx2.f0
 have xhx21 := hx2.c1; have yhx21 := hx2.f1
 have xhx22 := hx2.c2; have yhx22 := hx2.f2
 have nx2 := nx1.below hb2
 have dx2 := dx1.below hb2
 refine hK.out _ _ ⟨nx2.c0, nx2.c1, dx2.c0, dx2.c1⟩ (fun hHeld => ?_)
 clear hK K
 refine nm ?_
 refine pu 5 (some 24) rfl rfl ?_
 refine on 8 (some 27) rfl rfl (fun K hK => ?_)
 refine goes_ Tryz.func30 (by kernel_rfl) rfl #[.agg #[.bool sn, .slice A1 mn c1], .agg #[.bool sd, .slice A2 md c2]] (by rfl) rfl rfl (by (try simp only [List.map_toArray, List.map_cons, List.map_nil]); first | done | rfl) ?_
 refine (H5.out _ _ _ _ _ hn1 hd2).mono ?_
 rintro e w3 ⟨v5, rfl, hz5, hb3⟩
 refine ⟨_, rfl, ?_⟩
 obtain ⟨A5, c5, rfl, _, _⟩ := hz5.form
 replace hz4 := hz4.below hb3
 have sz3 := hb3.size
 have lx3 := lx2.below hb3
 have xlx30 := lx3.c0; have ylx30 := lx3.f0
 have xlx31 := lx3.c1; have ylx31 := lx3.f1
 have xlx32 := lx3.c2; have ylx32 := lx3.f2
 have hx3 := hx2.below hb3
 have xhx30 := hx3.c0; have yhx30 := hx3.f0
 have xhx31 := hx3.c1; have yhx31 := hx3.f1
 have xhx32 := hx3.c2; have yhx32 := hx3.f2
 have nx3 := nx2.below hb3
 have dx3 := dx2.below hb3
 refine hK.out _ _ ⟨nx3.c0, nx3.c1, dx3.c0, dx3.c1⟩ (fun hHeld => ?_)
 clear hK K
 refine nm ?_
 refine pu 10 (some 29) rfl rfl ?_
 refine pu 12 (some 31) rfl rfl ?_
 refine pu 13 (some 32) rfl rfl ?_
 refine pu 14 (some 33) rfl rfl ?_
 refine pu 15 (some 34) rfl rfl ?_
 refine pu 16 (some 35) rfl rfl ?_
 refine pu 17 (some 36) rfl rfl ?_
 refine pu 18 (some 37) rfl rfl ?_
 refine pu 19 (some 38) rfl rfl ?_
 refine on 20 none rfl rfl (fun K hK => ?_)
 have nenxlx : va.heap.size ≠ w.heap.size := by omega
 have nedxlx : vb.heap.size ≠ w.heap.size := by omega
 refine skip_ (w1 := ?_) (by rfl) rfl ?_ ?_
 rotate_left
 · go_simp
   rfl
 refine hK.out _ _ ⟨(nx3.far3 nenxlx _ _ _).c0, (nx3.far3 nenxlx _ _ _).c1, (dx3.far3 nedxlx _ _ _).c0, (dx3.far3 nedxlx _ _ _).c1⟩ (fun hHeld => ?_)
 clear hK K
 refine on 21 none rfl rfl (fun K hK => ?_)
 have nenxhx : va.heap.size ≠ (w.heap.size + 1) := by omega
 have nedxhx : vb.heap.size ≠ (w.heap.size + 1) := by omega
 refine skip_ (w1 := ?_) (by rfl) rfl ?_ ?_
 rotate_left
 · go_simp
   rfl
 refine hK.out _ _ ⟨((nx3.far3 nenxlx _ _ _).far3 nenxhx _ _ _).c0, ((nx3.far3 nenxlx _ _ _).far3 nenxhx _ _ _).c1, ((dx3.far3 nedxlx _ _ _).far3 nedxhx _ _ _).c0, ((dx3.far3 nedxlx _ _ _).far3 nedxhx _ _ _).c1⟩ (fun hHeld => ?_)
 clear hK K
 refine pu 22 (some 8) rfl rfl ?_
 refine done_ (by kernel_rfl) ?_
 have hBe := below3 (below3 (below_step (below_step (below_step hB0 hb1) hb2) hb3) (g := w.heap.size) (by omega) (.bool s1) (.slice A4 (digs q1).length c4) (.slice A mt c)) (g := w.heap.size + 1) (by omega) (.bool s2) (.slice A5 (digs q2).length c5) (.slice A mt c)
 have hlx := ((lx3.put3' (.bool s1) (.slice A4 (digs q1).length c4) (.slice A mt c)).far3 (g' := w.heap.size + 1) (by omega) (.bool s2) (.slice A5 (digs q2).length c5) (.slice A mt c))
 have hhx := ((hx3.far3 (g' := w.heap.size) (by omega) (.bool s1) (.slice A4 (digs q1).length c4) (.slice A mt c)).put3' (.bool s2) (.slice A5 (digs q2).length c5) (.slice A mt c))
 have hz4' := ((hz4.far3 (g := w.heap.size) (fun k hk => by have h0 : _ ≤ k := hk; omega) (.bool s1) (.slice A4 (digs q1).length c4) (.slice A mt c)).far3 (g := w.heap.size + 1) (fun k hk => by have h0 : _ ≤ k := hk; omega) (.bool s2) (.slice A5 (digs q2).length c5) (.slice A mt c)).mono (ok' := fun k => w.heap.size ≤ k) (fun k hk => by have h0 : _ ≤ k := hk; omega)
 have hz5' := ((hz5.far3 (g := w.heap.size) (fun k hk => by have h0 : _ ≤ k := hk; omega) (.bool s1) (.slice A4 (digs q1).length c4) (.slice A mt c)).far3 (g := w.heap.size + 1) (fun k hk => by have h0 : _ ≤ k := hk; omega) (.bool s2) (.slice A5 (digs q2).length c5) (.slice A mt c)).mono (ok' := fun k => w.heap.size ≤ k) (fun k hk => by have h0 : _ ≤ k := hk; omega)
 clear hHeld hz4 hz5 lx3 hx3
 generalize ((((((w3.setCell ⟨w.heap.size, 0, none⟩ (.bool s1)).setCell ⟨w.heap.size, 1, none⟩ (.slice A4 (digs q1).length c4)).setCell ⟨w.heap.size, 2, none⟩ (.slice A mt c)).setCell ⟨w.heap.size + 1, 0, none⟩ (.bool s2)).setCell ⟨w.heap.size + 1, 1, none⟩ (.slice A5 (digs q2).length c5)).setCell ⟨w.heap.size + 1, 2, none⟩ (.slice A mt c)) = W9 at *
 go_wp2
 have x0 := hlx.c0; have x1 := hlx.c1; have x2 := hlx.c2; have x3 := hhx.c0; have x4 := hhx.c1; have x5 := hhx.c2
 refine bodyPost_ret (v := .tuple #[.agg #[.bool s1, .slice A4 (digs q1).length c4, .slice A mt c], .agg #[.bool s2, .slice A5 (digs q2).length c5, .slice A mt c], .bool true]) (by simp [results, Tryz.results9, go_sem, x0, x1, x2, x3, x4, x5]) rfl ?_
 exact ⟨_, _, rfl, hz4', hz5', hBe⟩
end Go.Proofs.YteohmbannpbokaaGreatDoor.LawExp
namespace Go.Proofs.YteohmbannpbokaaGreatDoor.W64
open Go.RowKit Go.Proofs.YteohmbannpbokaaGreatDoorW.PrintWords
def val : List Int → Int
 | [] => 0
 | x :: xs => x + 18446744073709551616 * val xs
def Dig (l : List Int) : Prop := ∀ x ∈ l, 0 ≤ x ∧ x < 18446744073709551616
def Top (l : List Int) : Prop := ∀ h : l ≠ [], l.getLast h ≠ 0
theorem pw_pos (i : Nat) : 0 < (18446744073709551616 : Int) ^ i := Int.pow_pos (by decide)
theorem pw_succ (i : Nat) : (18446744073709551616 : Int) ^ (i + 1) = 18446744073709551616 * 18446744073709551616 ^ i := by rw [Int.pow_succ, Int.mul_comm]
theorem Dig.nil : Dig [] := fun x h => by cases h
theorem Dig.cons {x : Int} {xs : List Int} (h : 0 ≤ x ∧ x < 18446744073709551616) (hs : Dig xs) : Dig (x :: xs) := fun y hy => by
 rcases List.mem_cons.1 hy with rfl | hy
 · exact h
 · exact hs y hy
theorem Dig.head {x : Int} {xs : List Int} (h : Dig (x :: xs)) : 0 ≤ x ∧ x < 18446744073709551616 := h x List.mem_cons_self
theorem Dig.tail {x : Int} {xs : List Int} (h : Dig (x :: xs)) : Dig xs := fun y hy => h y (List.mem_cons_of_mem _ hy)
theorem Dig.append {a b : List Int} (ha : Dig a) (hb : Dig b) : Dig (a ++ b) := fun y hy => (List.mem_append.1 hy).elim (ha y) (hb y)
theorem Dig.take {a : List Int} (ha : Dig a) (n : Nat) : Dig (a.take n) := fun y hy => ha y (List.mem_of_mem_take hy)
theorem Dig.set {a : List Int} (ha : Dig a) (i : Nat) {v : Int} (hv : 0 ≤ v ∧ v < 18446744073709551616) : Dig (a.set i v) := fun y hy => by
 rcases List.mem_or_eq_of_mem_set hy with h | rfl
 · exact ha y h
 · exact hv
theorem Dig.rep (n : Nat) : Dig (List.replicate n 0) := fun y hy => by
 have := (List.mem_replicate.1 hy).2
 omega
theorem dig_rd {a : List Int} (ha : Dig a) (i : Int) : 0 ≤ rd a i ∧ rd a i < 18446744073709551616 := by
 unfold Go.Proofs.YteohmbannpbokaaGreatDoorW.PrintWords.rd
 rw [List.getD_eq_getElem?_getD]
 by_cases h : i.toNat < a.length
 · rw [List.getElem?_eq_getElem h]
   exact ha _ (List.getElem_mem h)
 · rw [List.getElem?_eq_none (by omega)]
   simp
theorem val_append (a b : List Int) : val (a ++ b) = val a + 18446744073709551616 ^ a.length * val b := by
 induction a with
 | nil => simp [val]
 | cons x xs ih =>
   simp only [List.cons_append, val, ih, List.length_cons, pw_succ]
   grind
theorem val_nonneg {l : List Int} (h : Dig l) : 0 ≤ val l := by
 induction l with
 | nil => simp [val]
 | cons x xs ih =>
   have := ih h.tail
   have := h.head
   simp only [val]
   omega
theorem val_lt {l : List Int} (h : Dig l) : val l < 18446744073709551616 ^ l.length := by
 induction l with
 | nil => simp [val]
 | cons x xs ih =>
   have := ih h.tail
   have := h.head
   simp only [val, List.length_cons, pw_succ]
   omega
theorem val_rep (n : Nat) : val (List.replicate n 0) = 0 := by
 induction n with
 | zero => rfl
 | succ n ih => simp [List.replicate_succ, val, ih]
theorem rd_nat (l : List Int) (i : Nat) : rd l (i : Int) = l.getD i 0 := by simp [Go.Proofs.YteohmbannpbokaaGreatDoorW.PrintWords.rd]
theorem rd_lt {l : List Int} {i : Nat} (h : i < l.length) : rd l (i : Int) = l[i] := by
 rw [rd_nat, List.getD_eq_getElem?_getD, List.getElem?_eq_getElem h]; rfl
theorem val_set : ∀ (l : List Int) (i : Nat) (v : Int), i < l.length → val (l.set i v) = val l + (v - rd l i) * 18446744073709551616 ^ i := by
 intro l
 induction l with
 | nil => intro i v h; simp at h
 | cons x xs ih =>
   intro i v h
   cases i with
   | zero =>
     simp only [List.set_cons_zero, val, rd_nat, List.getD_cons_zero, Int.pow_zero]
     omega
   | succ i =>
     have := ih i v (by simpa using h)
     simp only [List.set_cons_succ, val, this, rd_nat, List.getD_cons_succ, pw_succ]
     grind
theorem take_succ_rd {l : List Int} {i : Nat} (h : i < l.length) : l.take (i + 1) = l.take i ++ [rd l i] := by
 rw [rd_lt h, List.take_succ_eq_append_getElem h]
theorem val_take_succ {l : List Int} {i : Nat} (h : i < l.length) : val (l.take (i + 1)) = val (l.take i) + rd l i * 18446744073709551616 ^ i := by
 rw [take_succ_rd h, val_append]
 simp only [val, List.length_take, Nat.min_eq_left (Nat.le_of_lt h)]
 grind
theorem rd_set_self {l : List Int} {i : Nat} {v : Int} (h : i < l.length) : rd (l.set i v) i = v := by
 rw [rd_lt (by simpa using h)]
 simp
theorem rd_set_ne {l : List Int} {i j : Nat} {v : Int} (h : i ≠ j) : rd (l.set i v) (j : Int) = rd l (j : Int) := by
 rw [rd_nat, rd_nat, List.getD_eq_getElem?_getD, List.getD_eq_getElem?_getD, List.getElem?_set_ne h]
theorem rd_rep (n i : Nat) : rd (List.replicate n 0) (i : Int) = 0 := by
 rw [rd_nat, List.getD_eq_getElem?_getD, List.getElem?_replicate]
 split <;> rfl
def digs (n : Nat) : List Int := if h : n = 0 then [] else ((n % 18446744073709551616 : Nat) : Int) :: digs (n / 18446744073709551616)
 termination_by n
 decreasing_by omega
theorem digs_zero : digs 0 = [] := by rw [digs]; simp
theorem digs_pos {n : Nat} (h : n ≠ 0) : digs n = ((n % 18446744073709551616 : Nat) : Int) :: digs (n / 18446744073709551616) := by rw [digs]; simp [h]
theorem digs_ne {n : Nat} (h : n ≠ 0) : digs n ≠ [] := by rw [digs_pos h]; simp
theorem digs_one {n : Nat} (h : n ≠ 0) (h2 : n < 18446744073709551616) : digs n = [(n : Int)] := by
 rw [digs_pos h, Nat.mod_eq_of_lt h2, Nat.div_eq_of_lt h2, digs_zero]
theorem val_digs (n : Nat) : val (digs n) = n := by
 induction n using Nat.strongRecOn with
 | _ n ih =>
   by_cases h : n = 0
   · subst h; rw [digs_zero]; rfl
   · rw [digs_pos h, val, ih _ (by omega)]
     omega
theorem dig_digs (n : Nat) : Dig (digs n) := by
 induction n using Nat.strongRecOn with
 | _ n ih =>
   by_cases h : n = 0
   · subst h; rw [digs_zero]; exact Dig.nil
   · rw [digs_pos h]
     exact Dig.cons (by omega) (ih _ (by omega))
theorem canon {l : List Int} (hd : Dig l) (ht : Top l) : ∀ {n : Nat}, val l = n → l = digs n := by
 induction l with
 | nil =>
   intro n h
   have : n = 0 := by simp only [val] at h; omega
   subst this
   rw [digs_zero]
 | cons x xs ih =>
   intro n h
   have hx := hd.head
   have hv := val_nonneg hd.tail
   simp only [val] at h
   have hts : Top xs := fun hne => by have := ht (by simp); rwa [List.getLast_cons hne] at this
   have e := ih hd.tail hts (n := n / 18446744073709551616) (by omega)
   have hn : n ≠ 0 := by
     intro h0
     subst h0
     by_cases hxs : xs = []
     · subst hxs
       have := ht (by simp)
       simp only [List.getLast_singleton] at this
       simp only [val] at h
       omega
     · rw [show (0 / 18446744073709551616 : Nat) = 0 from rfl, digs_zero] at e
       exact hxs e
   rw [digs_pos hn, ← e]
   congr 1
   omega
theorem len_digs_le {n L : Nat} (h : n < 18446744073709551616 ^ L) : (digs n).length ≤ L := by
 induction L generalizing n with
 | zero =>
   have : n = 0 := by simp at h; exact h
   subst this
   simp [digs_zero]
 | succ L ih =>
   by_cases h0 : n = 0
   · subst h0; simp [digs_zero]
   · rw [digs_pos h0, List.length_cons]
     have := ih (n := n / 18446744073709551616) (by rw [Nat.pow_succ, Nat.mul_comm] at h; exact Nat.div_lt_of_lt_mul h)
     omega
theorem lt_of_len (n : Nat) : n < 18446744073709551616 ^ (digs n).length := by
 have := val_lt (dig_digs n)
 rw [val_digs] at this
 have e : ((18446744073709551616 ^ (digs n).length : Nat) : Int) = (18446744073709551616 : Int) ^ (digs n).length := by simp
 rw [← e] at this
 exact Int.ofNat_lt.1 this
theorem len_digs_lt {a b : Nat} (h : (digs a).length < (digs b).length) : a < b := by
 rcases Nat.lt_or_ge a b with h1 | h1
 · exact h1
 · have := len_digs_le (n := b) (L := (digs a).length) (Nat.lt_of_le_of_lt h1 (lt_of_len a))
   omega
theorem len_digs_mono {a b : Nat} (h : a ≤ b) : (digs a).length ≤ (digs b).length := len_digs_le (Nat.lt_of_le_of_lt h (lt_of_len b))
theorem digs_nil {n : Nat} : digs n = [] ↔ n = 0 := ⟨fun h => Classical.byContradiction fun hn => digs_ne hn h, fun h => by rw [h, digs_zero]⟩
theorem len_pos {n : Nat} (h : n ≠ 0) : 0 < (digs n).length := List.length_pos_iff.2 (digs_ne h)
theorem len_zero {n : Nat} : (digs n).length = 0 ↔ n = 0 := by rw [List.length_eq_zero_iff, digs_nil]
end Go.Proofs.YteohmbannpbokaaGreatDoor.W64
namespace Go.Proofs.YteohmbannpbokaaGreatDoor.BigWalk
open Go.RowKit Go.Proofs.YteohmbannpbokaaGreatDoorW.PrintWords Go.Proofs.YteohmbannpbokaaGreatDoorW.PrintLast Go.Proofs.YteohmbannpbokaaGreatDoorW.PrintMore Go.Proofs.YteohmbannpbokaaGreatDoor.SpecWalk
theorem infoW : (Tryz.prog.info? 89).map (fun i => (i.zero, i.size, i.bytes)) = some (some (.int .u64 0), 1, 8) := by kernel_rfl
theorem sizeW : (Tryz.prog.info? 89).map (·.size) = some 1 := by kernel_rfl
structure Wdv (w : World) (ok : Nat → Prop) (v : Value) (n : Nat) : Prop where
 mk :: (out : Kd.V (Kd.int .u64) 0 w 0 ok v (W64.digs n))
section
variable {w w1 : World} {ok ok' : Nat → Prop} {v : Value} {n : Nat}
theorem Wdv.form (h : Wdv w ok v n) : ∃ A c, v = .slice A (W64.digs n).length c ∧ (W64.digs n).length ≤ c ∧ Kd.C (Kd.int .u64) w A (W64.digs n).length (W64.digs n) := by
 obtain ⟨A, c, e, hl, hf⟩ := h
 exact ⟨A, c, e, hl, Kd.F_now hf⟩
theorem Wdv.mono (h : Wdv w ok v n) (ho : ∀ k, ok k → ok' k) : Wdv w ok' v n := ⟨Kd.V_mono h.out ho⟩
theorem Wdv.bound (h : Wdv w ok v n) : Wdv w (fun k => ok k ∧ k < w.heap.size) v n := ⟨Kd.V_bound h.out⟩
theorem Wdv.below (h : Wdv w ok v n) (hb : Below w.heap.size w w1) : Wdv w1 ok v n := ⟨Kd.V_below h.out hb⟩
theorem Wdv.far (h : Wdv w ok v n) {p : Addr} (ho : ∀ k, ok k → k ≠ p.block) (u : Value) : Wdv (w.setCell p u) ok v n := ⟨Kd.V_far h.out ho u⟩
theorem Wdv.drew (h : Wdv w ok v n) : Wdv w.drew ok v n := ⟨Kd.V_drew h.out⟩
theorem Wdv.of_R {e base : Nat} (h : Kd.R (Kd.int .u64) e w base ok v (W64.digs n)) : Wdv w (fun k => base ≤ k) v n :=
 have h1 : Kd.V (Kd.int .u64) e w 0 (fun k => base ≤ k) v (W64.digs n) := Kd.R_V (Kd.R_mono (Kd.R_bound h) (fun _ hk => hk.2.1))
 ⟨h1⟩
theorem Wdv.of_V {e base : Nat} (h : Kd.V (Kd.int .u64) e w base ok v (W64.digs n)) : Wdv w ok v n := ⟨h⟩
theorem Wdv.nil (w : World) : Wdv w (fun _ => False) (.slice none 0 0) 0 := ⟨by rw [W64.digs_zero]; exact Kd.V_nil _ _ _ _ _⟩
end
theorem run_mk (n : Nat) (hn : n ≤ 1000000) (W : World) : (Instr.makeSlice 57 (.int .i64 (n : Int)) (.int .i64 ((n : Int) + 4))).run Tryz.prog W = .ok (.slice (some ⟨W.heap.size, 0, none⟩) n (n + 4)) (W.alloc (.cells (madeCells #[.int .u64 0] (n + 4)) 89)) := by
 obtain ⟨i0, hi, hzz⟩ := Option.map_eq_some_iff.1 infoW
 simp only [Prod.mk.injEq] at hzz
 obtain ⟨hz0, hz1, hz2⟩ := hzz
 have hr := run_make (P := Tryz.prog) W 57 89 i0 (.int .u64 0) Tryz.underlying57 hi hz0 .i64 .i64 (n : Int) ((n : Int) + 4) (by omega) (by omega) (by rw [hz2]; omega) (by omega)
 rw [hz1, Nat.mul_one] at hr
 have e1 : ((n : Int)).toNat = n := Int.toNat_natCast n
 have e2 : ((n : Int) + 4).toNat = n + 4 := by omega
 rw [e1, e2] at hr
 exact hr
structure Blk (w : World) (g : Nat) : Prop where
 mk :: (out : ∃ ca ta, w.heap[g]? = some (.cells ca ta (0, 0)))
theorem Blk.lt {w : World} {g : Nat} (h : Blk w g) : g < w.heap.size := by
 obtain ⟨ca, ta, h⟩ := h.out
 exact (Array.getElem?_eq_some_iff.1 h).1
theorem Blk.below {w w1 : World} {g : Nat} (h : Blk w g) (hb : Below w.heap.size w w1) : Blk w1 g := by
 obtain ⟨ca, ta, e⟩ := h.out
 exact ⟨ca, ta, (hb.block g h.lt).trans e⟩
theorem Blk.set {w : World} {g : Nat} (h : Blk w g) (p : Addr) (u : Value) : Blk (w.setCell p u) g := by
 obtain ⟨ca, ta, e⟩ := h.out
 by_cases hp : g = p.block
 · subst hp
   refine ⟨if p.spot.isSome then ca else ca.setIfInBounds p.off u, ta, ?_⟩
   simp only [World.setCell, Array.getElem?_modify, if_pos, e, Option.map_some]
 · exact ⟨ca, ta, (Below.heap_setCell w p u g hp).trans e⟩
theorem Blk.new (w : World) (cs : Array Value) (t : TypeId) (g : Nat) (hg : w.heap.size = g) : Blk (w.alloc (.cells cs t)) g := by
 subst hg
 exact ⟨cs, t, heap_alloc_new w _⟩
structure Big (w : World) (ok : Nat → Prop) (g : Nat) (b : Bool) (n : Nat) : Prop where
 mk :: (out : ∃ v, Box w g [.bool b, v] ∧ Wdv w ok v n) (blk : Blk w g)
theorem Big.below {w w1 : World} {ok : Nat → Prop} {g : Nat} {b : Bool} {n : Nat} (h : Big w ok g b n) (hb : Below w.heap.size w w1) : Big w1 ok g b n := by
 obtain ⟨v, h1, h2⟩ := h.out
 exact ⟨⟨v, h1.below hb, h2.below hb⟩, h.blk.below hb⟩
theorem Big.mono {w : World} {ok ok' : Nat → Prop} {g : Nat} {b : Bool} {n : Nat} (h : Big w ok g b n) (ho : ∀ k, ok k → ok' k) : Big w ok' g b n := by
 obtain ⟨v, h1, h2⟩ := h.out
 exact ⟨⟨v, h1, h2.mono ho⟩, h.blk⟩
theorem Big.far {w : World} {ok : Nat → Prop} {g : Nat} {b : Bool} {n : Nat} {p : Addr} (h : Big w ok g b n) (ho : ∀ k, ok k → k ≠ p.block) (hg : g ≠ p.block) (u : Value) : Big (w.setCell p u) ok g b n := by
 obtain ⟨v, h1, h2⟩ := h.out
 exact ⟨⟨v, h1.far hg u, h2.far ho u⟩, h.blk.set _ _⟩
set_option maxHeartbeats 1000000 in
theorem ISign_n (g : Nat) (b : Bool) (n : Nat) (ok : Nat → Prop) (w : World) (h : Big w ok g b n) : Calls Tryz.prog 52 #[.pointer (some ⟨g, 0, none⟩)] w fun e w' => e = .returned (.int .i64 (if n = 0 then 0 else if b then -1 else 1)) ∧ w' = w := by
 obtain ⟨v, hB, hv⟩ := h.out
 obtain ⟨A, c, rfl, _, _⟩ := hv.form
 have h0 := hB.c0; have h1 := hB.c1
 by_cases hn : n = 0
 · have hl : (W64.digs n).length = 0 := W64.len_zero.2 hn
   rw [if_pos hn]
   clear hB h hv hn
   generalize (W64.digs n).length = m at *
   subst hl
   go_enter Tryz.func52, Tryz.ntmps52
   go_wp2
   go_ret
   exact ⟨rfl, rfl⟩
 · have hl : (((W64.digs n).length : Int) == 0) = false := beq_eq_false_iff_ne.mpr (by have := W64.len_pos hn; omega)
   rw [if_neg hn]
   clear hB h hv hn
   generalize (W64.digs n).length = m at *
   cases b
   · go_enter Tryz.func52, Tryz.ntmps52
     go_wp2
     go_ret
     exact ⟨rfl, rfl⟩
   · go_enter Tryz.func52, Tryz.ntmps52
     go_wp2
     go_ret
     exact ⟨rfl, rfl⟩
theorem Bits_n (g : Nat) (b : Bool) (v : Value) (w : World) (h : Box w g [.bool b, v]) (A : Option Addr) (l c : Nat) (hv : v = .slice A l c) : Calls Tryz.prog 51 #[.pointer (some ⟨g, 0, none⟩)] w fun e w' => e = .returned v ∧ w' = w := by
 subst hv
 have h0 := h.c0; have h1 := h.c1
 go_enter Tryz.func51, Tryz.ntmps51
 go_wp2
 go_ret
 exact ⟨rfl, rfl⟩
structure Cut (l : List Int) (n : Nat) (t : Int) : Prop where
 mk :: (out : ∃ k : Nat, t = k ∧ k ≤ l.length ∧ W64.val (l.take k) = n)
theorem Cut.start {l : List Int} {n : Nat} (h : W64.val l = n) : Cut l n l.length := ⟨l.length, rfl, Nat.le_refl _, by rw [List.take_length]; exact h⟩
theorem Cut.bound {l : List Int} {n : Nat} {t : Int} (h : Cut l n t) : 0 ≤ t ∧ t ≤ l.length := by
 obtain ⟨k, rfl, h1, _⟩ := h
 omega
theorem Cut.step {l : List Int} {n : Nat} {t : Int} (h : Cut l n t) (h0 : 0 < t) (hz : rd l (t - 1) = 0) : Cut l n (t - 1) := by
 obtain ⟨k, rfl, h1, h2⟩ := h
 obtain ⟨m, rfl⟩ : ∃ m, k = m + 1 := ⟨k - 1, by omega⟩
 rw [show ((m + 1 : Nat) : Int) - 1 = (m : Int) by omega] at hz ⊢
 refine ⟨m, rfl, by omega, ?_⟩
 rw [W64.val_take_succ (by omega), hz] at h2
 omega
theorem Cut.done {l : List Int} {n : Nat} {t : Int} (h : Cut l n t) (hd : W64.Dig l) (hz : ¬ (0 < t ∧ rd l (t - 1) = 0)) : l.take t.toNat = W64.digs n ∧ (W64.digs n).length = t.toNat := by
 obtain ⟨k, rfl, h1, h2⟩ := h
 rw [Int.toNat_natCast]
 have htop : W64.Top (l.take k) := by
   intro hne hl
   apply hz
   have hk : 0 < k := by
     apply Classical.byContradiction
     intro h0
     obtain rfl : k = 0 := by omega
     exact hne rfl
   refine ⟨by omega, ?_⟩
   obtain ⟨m, rfl⟩ : ∃ m, k = m + 1 := ⟨k - 1, by omega⟩
   rw [show ((m + 1 : Nat) : Int) - 1 = (m : Int) by omega]
   rw [← hl, W64.rd_lt (by omega), List.getLast_eq_getElem]
   simp only [List.length_take, List.getElem_take]
   congr 1
   omega
 have he := W64.canon (hd.take k) htop h2
 refine ⟨he, ?_⟩
 rw [← he, List.length_take]
 omega
theorem cut_V {w : World} {ok : Nat → Prop} {A : Option Addr} {c n k : Nat} {l : List Int} (he : l.take k = W64.digs n ∧ (W64.digs n).length = k) (hk : k ≤ l.length) (hc : l.length ≤ c) (hF : Kd.F (Kd.int .u64) w ok A l.length l) : Wdv w ok (.slice A k c) n := by
 have h := Kd.F_take hF hk
 rw [he.1] at h
 refine ⟨A, c, by rw [he.2], by omega, h⟩
set_option maxHeartbeats 1000000 in
theorem norm_n (l : List Int) (n : Nat) (hd : W64.Dig l) (hl : l.length ≤ 100000) (hn : W64.val l = n) (ok : Nat → Prop) (v : Value) (w : World) (hv : Kd.V (Kd.int .u64) 0 w 0 ok v l) :
   Calls Tryz.prog 61 #[v] w fun e w' => ∃ u, e = .returned u ∧ Wdv w' ok u n ∧ w' = w := by
 obtain ⟨A, c, rfl⟩ := Kd.V_slice hv
 obtain ⟨_, hlc, hF⟩ := Kd.V_at hv
 have HC := Aside0.mk (Kd.F_now hF)
 have HST := Cut.start hn
 have HD := Aside0.mk hd
 have HF := Aside0.mk hF
 have HLC := Aside0.mk hlc
 have hli : (l.length : Int) ≤ 100000 := by omega
 clear hd hl hn hv hF hlc
 go_enter Tryz.func61, Tryz.ntmps61
 go_wp2
 go_loopg [3] l.length (fun g v3 w' => ∃ t : Int, v3 = .int .i64 t ∧ Cut l n t ∧ Aside0 (t = g) ∧ w' = w)
 case atStart => exact ⟨l.length, rfl, HST, ⟨rfl⟩, rfl⟩
 case round =>
   obtain ⟨t, rfl, HI, HG, rfl⟩ := hrel
   obtain ⟨t0, t1⟩ := HI.bound
   by_cases hpos : 0 < t
   · obtain ⟨ad, e0, hx⟩ := Kd.at_int HC.out (t - 1) (by omega) (by omega)
     cases e0
     rw [show (t - 1).toNat = t.toNat - 1 by omega] at hx
     have h1 : 1 ≤ t := by omega
     by_cases hz : rd l (t - 1) = 0
     · have HS := Aside0.mk (HI.step hpos hz)
       rw [hz] at hx
       clear HI hz
       go_wp2
       go_roundg (gk - 1)
       case measure => have := HG.out; omega
       case rel => exact ⟨t - 1, rfl, HS.out, ⟨by have := HG.out; omega⟩, rfl⟩
     · have HE := Aside0.mk (HI.done HD.out (fun h => hz h.2))
       have hz2 : (rd l (t - 1) == 0) = false := beq_eq_false_iff_ne.mpr hz
       generalize rd l (t - 1) = X at *
       have HT := Aside0.mk (And.intro t0 t1)
       have htc : t ≤ (c : Int) := by have := HLC.out; omega
       clear HI hz
       go_wp2
       go_ret
       exact ⟨_, rfl, cut_V HE.out (by have := HT.out; omega) HLC.out HF.out, rfl⟩
   · have HE := Aside0.mk (HI.done HD.out (fun h => hpos h.1))
     obtain rfl : t = 0 := by omega
     clear HI
     go_wp2
     go_ret
     exact ⟨_, rfl, cut_V HE.out (by omega) HLC.out HF.out, rfl⟩
theorem Wdv.far2 {w : World} {ok : Nat → Prop} {v : Value} {n g : Nat} (h : Wdv w ok v n) (ho : ∀ k, ok k → k ≠ g) (j k : Nat) (x y : Value) : Wdv ((w.setCell ⟨g, j, none⟩ x).setCell ⟨g, k, none⟩ y) ok v n :=
 (h.far (p := ⟨g, j, none⟩) ho x).far (p := ⟨g, k, none⟩) ho y
theorem Box.put21 {w : World} {g : Nat} {x y : Value} (h : Box w g [x, y]) (a b : Value) : Box ((w.setCell ⟨g, 1, none⟩ b).setCell ⟨g, 0, none⟩ a) g [a, b] := by
 have h0 := h.c0; have h1 := h.c1
 have k0 := h.f0; have k1 := h.f1
 refine Box.mk2 ?_ ?_ ?_ ?_ <;> simp [go_sem, h0, h1, k0, k1]
theorem Box.put1 {w : World} {g : Nat} {x y : Value} (h : Box w g [x, y]) (b : Value) : Box (w.setCell ⟨g, 1, none⟩ b) g [x, b] := by
 have h0 := h.c0; have h1 := h.c1
 have k0 := h.f0; have k1 := h.f1
 refine Box.mk2 ?_ ?_ ?_ ?_ <;> simp [go_sem, h0, h1, k0, k1]
theorem Box.put0 {w : World} {g : Nat} {x y : Value} (h : Box w g [x, y]) (a : Value) : Box (w.setCell ⟨g, 0, none⟩ a) g [a, y] := by
 have h0 := h.c0; have h1 := h.c1
 have k0 := h.f0; have k1 := h.f1
 refine Box.mk2 ?_ ?_ ?_ ?_ <;> simp [go_sem, h0, h1, k0, k1]
structure KeptB (w w' : World) (g : Nat) : Prop where
 mk :: (os : w'.os = w.os) (tape : w'.tape = w.tape) (output : w'.output = w.output) (size : w.heap.size ≤ w'.heap.size) (block : ∀ k, k < w.heap.size → k ≠ g → w'.heap[k]? = w.heap[k]?)
theorem KeptB.of_below {w w' : World} {g : Nat} (h : Below w.heap.size w w') : KeptB w w' g := ⟨h.os, h.tape, h.output, h.size, fun k hk _ => h.block k hk⟩
theorem KeptB.set {w w' : World} {g j : Nat} (h : KeptB w w' g) (u : Value) : KeptB w (w'.setCell ⟨g, j, none⟩ u) g :=
 ⟨h.os, h.tape, h.output, by simpa using h.size, fun k hk hne => (Below.heap_setCell w' ⟨g, j, none⟩ u k hne).trans (h.block k hk hne)⟩
theorem KeptB.then {w w1 w2 : World} {g : Nat} (h : KeptB w w1 g) (k : KeptB w1 w2 g) : KeptB w w2 g :=
 ⟨k.os.trans h.os, k.tape.trans h.tape, k.output.trans h.output, Nat.le_trans h.size k.size, fun i hi hne => (k.block i (Nat.lt_of_lt_of_le hi h.size) hne).trans (h.block i hi hne)⟩
theorem KeptB.below {w w' w0 : World} {g : Nat} (h : KeptB w w' g) (hb : Below w0.heap.size w0 w) (hg : w0.heap.size ≤ g) : Below w0.heap.size w0 w' :=
 ⟨h.os.trans hb.os, h.tape.trans hb.tape, h.output.trans hb.output, Nat.le_trans hb.size h.size, fun k hk => (h.block k (Nat.lt_of_lt_of_le hk hb.size) (by omega)).trans (hb.block k hk)⟩
theorem Box.kept {w w' : World} {g g' : Nat} {l : List Value} (h : Box w g' l) (hk : KeptB w w' g) (hne : g' ≠ g) : Box w' g' l := by
 refine ⟨fun j v hj => ?_⟩
 obtain ⟨h1, h2⟩ := h.out j v hj
 have hb := hk.block g' (World.block_lt_of_cell? w _ h1) hne
 exact ⟨(World.cell?_of_block (a := ⟨g', j, none⟩) hb).trans h1, (World.frozen?_of_block (a := ⟨g', j, none⟩) hb).trans h2⟩
theorem Wdv.kept {w w' : World} {g n : Nat} {ok : Nat → Prop} {v : Value} (h : Wdv w ok v n) (hk : KeptB w w' g) (hne : ∀ k, ok k → k ≠ g) : Wdv w' ok v n :=
 ⟨Kd.V_step h.out (fun k ho hl => hk.block k hl (hne k ho))⟩
theorem Blk.kept {w w' : World} {g g' : Nat} (h : Blk w g') (hk : KeptB w w' g) (hne : g' ≠ g) : Blk w' g' := by
 obtain ⟨ca, ta, e⟩ := h.out
 exact ⟨ca, ta, (hk.block g' h.lt hne).trans e⟩
theorem Big.kept {w w' : World} {g g' n : Nat} {b : Bool} {ok : Nat → Prop} (h : Big w ok g' b n) (hk : KeptB w w' g) (hne : ∀ k, ok k → k ≠ g) (hg : g' ≠ g) : Big w' ok g' b n := by
 obtain ⟨v, h1, h2⟩ := h.out
 exact ⟨⟨v, Box.kept h1 hk hg, h2.kept hk hne⟩, h.blk.kept hk hg⟩
theorem _root_.Go.Proofs.YteohmbannpbokaaGreatDoor.NatWalk.Rdv.kept {w w' : World} {g n : Nat} {ok : Nat → Prop} {v : Value} (h : NatWalk.Rdv w ok v n) (hk : KeptB w w' g) (hne : ∀ k, ok k → k ≠ g) : NatWalk.Rdv w' ok v n :=
 ⟨Kd.V_step h.out (fun k ho hl => hk.block k hl (hne k ho))⟩
theorem ISet_self (g : Nat) (w : World) : Calls Tryz.prog 62 #[.pointer (some ⟨g, 0, none⟩), .pointer (some ⟨g, 0, none⟩)] w fun e w' => e = .returned (.pointer (some ⟨g, 0, none⟩)) ∧ w' = w := by
 obtain ⟨j, hj, hs⟩ := Option.map_eq_some_iff.1 (show (Tryz.prog.info? 59).map (·.size) = some 2 by kernel_rfl)
 have hneq := Lib.run_neq_ptr_same (P := Tryz.prog) w ⟨g, 0, none⟩ Tryz.underlying53 hj
 clear hj hs
 go_enter Tryz.func62, Tryz.ntmps62
 go_wp2
 go_ret
 exact ⟨rfl, rfl⟩
set_option maxHeartbeats 4000000 in
theorem INeg_self (g : Nat) (b : Bool) (n : Nat) (ok : Nat → Prop) (w : World) (h : Big w ok g b n) (ho : ∀ k, ok k → k ≠ g) :
   Calls Tryz.prog 46 #[.pointer (some ⟨g, 0, none⟩), .pointer (some ⟨g, 0, none⟩)] w fun e w' => e = .returned (.pointer (some ⟨g, 0, none⟩)) ∧ Big w' ok g (sgn (!b) n) n ∧ KeptB w w' g := by
 have HS := Aside0.mk ((ISet_self g w).mono (R' := fun e w' => e = .returned (.pointer (some ⟨g, 0, none⟩)) ∧ Big w' ok g b n ∧ KeptB w w' g) (fun e w' hh => ⟨hh.1, by rw [hh.2]; exact h, by rw [hh.2]; exact KeptB.of_below (Below.refl _ _)⟩))
 have HOK := Aside0.mk ho
 clear h ho
 have hsg : sgn (!b) n = (decide (0 < n) && !b) := by unfold sgn; cases b <;> simp
 rw [hsg]
 by_cases hn0 : n = 0
 · have hl : (W64.digs n).length = 0 := W64.len_zero.2 hn0
   have hd : decide (0 < n) = false := decide_eq_false (by omega)
   rw [hd, Bool.false_and]
   have HL := Aside0.mk hl
   clear hn0 hd hl hsg
   go_enter Tryz.func46, Tryz.ntmps46
   go_wp2_with (go_at_call 62; refine HS.out.mono ?_; rintro e w1 ⟨rfl, hbig, hk⟩; have HK := Aside0.mk hk; obtain ⟨v, hB, hv⟩ := hbig.out; have HBK := Aside0.mk hbig.blk; have HV := Aside0.mk hv; obtain ⟨A, c, rfl, _, _⟩ := hv.form; rw [HL.out] at hB; have HV0 := Aside0.mk HV.out; have khB0 := hB.c0; have khB1 := hB.c1; have qhB0 := hB.f0; have qhB1 := hB.f1; clear hbig hk hv)
   go_ret
   exact ⟨rfl, ⟨⟨_, Box.put0 hB _, (by have h := HV.out; rw [HL.out] at h; exact h.far HOK.out _)⟩, HBK.out.set _ _⟩, HK.out.set _⟩
 · have hl : 0 < (W64.digs n).length := W64.len_pos hn0
   have hd : decide (0 < n) = true := decide_eq_true (by omega)
   rw [hd, Bool.true_and]
   have hl2 : decide (0 < (W64.digs n).length) = true := decide_eq_true hl
   clear hn0 hd hsg
   go_enter Tryz.func46, Tryz.ntmps46
   go_wp2_with (go_at_call 62; refine HS.out.mono ?_; rintro e w1 ⟨rfl, hbig, hk⟩; have HK := Aside0.mk hk; obtain ⟨v, hB, hv⟩ := hbig.out; have HBK := Aside0.mk hbig.blk; have HV := Aside0.mk hv; obtain ⟨A, c, rfl, _, _⟩ := hv.form; have khB0 := hB.c0; have khB1 := hB.c1; have qhB0 := hB.f0; have qhB1 := hB.f1; clear hbig hk hv)
   go_ret
   exact ⟨rfl, ⟨⟨_, Box.put0 hB _, HV.out.far HOK.out _⟩, HBK.out.set _ _⟩, HK.out.set _⟩
set_option maxHeartbeats 4000000 in
theorem SetBits_k (g : Nat) (l : List Int) (n : Nat) (ok : Nat → Prop) (v : Value) (w : World) (hz : Box w g [.bool false, .slice none 0 0]) (hzb : Blk w g) (hd : W64.Dig l) (hl : l.length ≤ 100000) (hn : W64.val l = n) (hv : Kd.V (Kd.int .u64) 0 w 0 ok v l) (ho : ∀ k, ok k → k ≠ g) :
   Calls Tryz.prog 45 #[.pointer (some ⟨g, 0, none⟩), v] w fun e w' => e = .returned (.pointer (some ⟨g, 0, none⟩)) ∧ Big w' ok g false n ∧ KeptB w w' g := by
 have HN := Aside0.mk (norm_n l n hd hl hn ok v w hv)
 obtain ⟨A, c, rfl⟩ := Kd.V_slice hv
 have HO := Aside0.mk ho
 have hlt := hzb.lt
 clear hd hl hn hv ho
 have khz0 := hz.c0; have khz1 := hz.c1; have qhz0 := hz.f0; have qhz1 := hz.f1
 go_enter Tryz.func45, Tryz.ntmps45
 go_wp2_with (go_at_call 61; refine HN.out.mono ?_; rintro e w1 ⟨u, rfl, hu, rfl⟩; have HU := Aside0.mk hu; obtain ⟨A1, c1, rfl, _, _⟩ := hu.form; clear hu)
 go_ret
 exact ⟨rfl, ⟨⟨_, Box.put21 hz _ _, HU.out.far2 HO.out _ _ _ _⟩, (hzb.set _ _).set _ _⟩, ((KeptB.of_below (Below.refl _ _)).set _).set _⟩
end Go.Proofs.YteohmbannpbokaaGreatDoor.BigWalk
