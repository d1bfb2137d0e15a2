/-
 The thin package's power of e in bits, over the package's own.
-/
import Derived.Test.YteohmbannpbokaaGreatDoorJ35
import Derived.Test.YteohmbannpbokaaGreatDoorJ38
import Derived.Defers
import Derived.Recover
set_option linter.unusedVariables false
set_option linter.unusedSimpArgs false
namespace Go.Proofs.YteohmbannpbokaaGreatDoor.WordWalk
open Go.RowKit Go.Proofs.YteohmbannpbokaaGreatDoorW.PrintWords Go.Proofs.YteohmbannpbokaaGreatDoorW.PrintLast Go.Proofs.YteohmbannpbokaaGreatDoorW.PrintMore Go.Proofs.YteohmbannpbokaaGreatDoor.SpecWalk Go.Proofs.YteohmbannpbokaaGreatDoor.BigWalk Go.Proofs.YteohmbannpbokaaGreatDoor.ExpLaw Go.Proofs.YteohmbannpbokaaGreatDoor.StrLaw Go.Proofs.YteohmbannpbokaaGreatDoor.TextLaw Go.Proofs.YteohmbannpbokaaGreatDoor.BigLaw
theorem zexp_n (gx : Nat) (X : Int) (ok : Nat → Prop) (v : Value) (b : Nat) (w : World) (hx : Box w gx [.bool (decide (X < 0)), v]) (hv : Wdv w ok v X.natAbs) (hX : X.natAbs ≤ 2 ^ b) (hb0 : 20 ≤ b) (hb1 : b ≤ 200) (hT : Thr w) (h3 : 3 ≤ w.heap.size) :
   Calls Tryz.prog 26 #[.pointer (some ⟨gx, 0, none⟩), .int .u64 b] w fun e w' => ∃ gr ar j g N R, e = .returned (.tuple #[.pointer (some ⟨gr, 0, none⟩), .int .i64 2]) ∧ ExpOut X b j g N R ∧ Zm w' gr ar R ∧ w.heap.size ≤ gr ∧ w.heap.size ≤ ar ∧ gr ≠ ar ∧ Below w.heap.size w w' ∧ R.natAbs ≤ 6 * 2 ^ b := by
 have HE := Aside0.mk (expFixed_n gx X ok v b w hx hv hX hb0 hb1 hT h3)
 clear hx hv hX hb0 hb1 hT h3
 go_enter Tryz.func26, Tryz.ntmps26
 go_wp2_with (go_at_call 50; (with_reducible refine HE.out.mono ?_); rintro e w1 ⟨gr, ar, j, g, N, R, rfl, h⟩; have HH := Aside0.mk h; clear h)
 go_ret2
 exact ⟨gr, ar, j, g, N, R, rfl, HH.out⟩
theorem catch_E (x y z : Value) (w : World) :
   CallsD Tryz.prog 20 #[x, y, z] .returning w fun e u' w' => e = .returned (.tuple #[]) ∧ u' = .returning ∧ w' = w := by
 refine callsD_of_wpS Tryz.func20 rfl fun c₀ cs hu => ?_
 apply wpS_seq
 apply wpS_region
 simp [wpOpsS, go_sem, recoverD, hu, Tryz.ntmps20, Exit.thenS]
 refine wpS_cond (t := false) (by simp [Act.eval, Array.replicate]) ?_
 simp only [Bool.false_eq_true, if_false]
 refine wpS_of_wp (wp_skip ?_)
 cases c₀
 simp_all [bodyPostS, results, Tryz.results20]
theorem sgn_int (X : Int) : sgn (decide (X < 0)) X.natAbs = decide (X < 0) := by
 unfold sgn
 rcases Int.lt_or_le X 0 with h | h
 · rw [decide_eq_true h]; simp; omega
 · rw [decide_eq_false (by omega)]; simp
theorem zi_zz {w : World} {g ga n : Nat} (h : Zi w g ga false n) : Zz w g ga (n : Int) := by
 obtain ⟨v, h1, h2⟩ := h.out
 obtain ⟨c, h3, h4⟩ := h2.nc
 refine ⟨⟨v, ?_, ?_⟩, h.blk⟩
 · rw [show decide ((n : Int) < 0) = false from decide_eq_false (by omega)]; exact h1
 · rw [Int.natAbs_natCast]; exact ⟨.inr ⟨c, h3, h4⟩⟩
theorem zm_big {w : World} {g ga : Nat} {z : Int} (h : Zm w g ga z) : Big w (fun k => k = ga) g (decide (z < 0)) z.natAbs := by
 obtain ⟨c, _, h1, h2⟩ := h.out
 exact ⟨⟨_, h1, h2.num.wdv⟩, h.blk⟩
theorem nd_pow {n b m : Nat} (h : n < 2 ^ b) (hb : b ≤ m) : nd n ≤ m :=
 nd_le (Nat.lt_of_lt_of_le h (Nat.le_trans (Nat.pow_le_pow_right (by decide) hb) (Nat.pow_le_pow_left (by decide) m)))
theorem len_250 {n : Nat} (h : n ≤ 2 ^ 250) : (W64.digs n).length ≤ 100 := Nat.le_trans (small4 h) (by decide)
theorem cmp_le {X : Int} {b : Nat} {r : Int} (hX : X.natAbs < 2 ^ b) (h : Cmp (X * ((5 : Nat) : Int)).natAbs (12 * 2 ^ b : Int).natAbs r) : ¬ 0 < r := by
 have e1 : (X * ((5 : Nat) : Int)).natAbs = X.natAbs * 5 := by rw [Int.natAbs_mul, Int.natAbs_natCast]
 have e2 : (12 * 2 ^ b : Int).natAbs = 12 * 2 ^ b := by rw [pow_cast b]; omega
 rw [e1, e2] at h
 rcases h.out with ⟨h, _⟩ | ⟨h, _⟩ | ⟨_, h⟩ <;> omega
structure Outs (w : World) (B : Nat) : Prop where
 mk :: (o : Box w B [.string ⟨#[]⟩]) (f : Box w (B + 1) [.int .i64 0]) (e : Box w (B + 1 + 1) [.int .i64 0])
theorem Outs.below {w w1 : World} {B : Nat} (h : Outs w B) (hb : Below w.heap.size w w1) : Outs w1 B := ⟨h.o.below hb, h.f.below hb, h.e.below hb⟩
theorem outs_new (w : World) (t u v : TypeId) : Outs (((w.alloc (.cells #[.string ⟨#[]⟩] t)).alloc (.cells #[.int .i64 0] u)).alloc (.cells #[.int .i64 0] v)) w.heap.size :=
 ⟨((Box.new1 w _ _ t rfl).alloc _).alloc _, (Box.new1 _ _ _ u (by simp)).alloc _, Box.new1 _ _ _ v (by simp)⟩
set_option maxHeartbeats 8000000 in
set_option maxRecDepth 100000 in
theorem door_exp (X : Int) (b : Nat) (w : World) (hX : X.natAbs < 2 ^ b) (hb0 : 20 ≤ b) (hb1 : b ≤ 200) (hT : Thr w) (h3 : 3 ≤ w.heap.size) :
   Calls Tryz.prog 7 #[.string (stext (decide (X < 0)) X.natAbs), .int .i64 b] w fun e w' => ∃ j g N R, e = .returned (.tuple #[.string (stext (decide (R < 0)) R.natAbs), .int .i64 2, .int .i64 0]) ∧ ExpOut X b j g N R ∧ R.natAbs ≤ 6 * 2 ^ b ∧ Below w.heap.size w w' := by
 have hnd : nd X.natAbs ≤ 400 := nd_pow hX (by omega)
 have hmf : ∀ (fn : Fn) (first cap : Array Value) (w : World), (Instr.makeFunc fn first cap).run Tryz.prog w = .ok (.func fn first cap) w := fun _ _ _ _ => rfl
 have HW := Aside0.mk (fun w => whole_n (decide (X < 0)) X.natAbs w (sgn_int X) hnd)
 have HN5 := Aside0.mk (fun w => NewInt_zi 5 w (by decide) (by decide))
 have HN12 := Aside0.mk (fun w => NewInt_zi 12 w (by decide) (by decide))
 rw [show ((5 : Nat) : Int) = 5 from rfl] at HN5
 rw [show ((12 : Nat) : Int) = 12 from rfl] at HN12
 have i1 : 20 ≤ (b : Int) := by omega
 have i2 : (b : Int) ≤ 200 := by omega
 have d1 : decide ((b : Int) < 1) = false := decide_eq_false (by omega)
 have d2 : decide (400 < (b : Int)) = false := decide_eq_false (by omega)
 have HX := Aside0.mk (And.intro hX (And.intro hb0 (And.intro hb1 (And.intro hT h3))))
 clear hX hb0 hb1 hT h3 hnd
 generalize hs : stext (decide (X < 0)) X.natAbs = s at *
 clear hs
 go_enter_defers Tryz.func7, Tryz.ntmps7
 go_wp2_with fail
 have HO := Aside0.mk (outs_new w 9 3 3)
 have hB0 : Below w.heap.size w (((w.alloc (.cells #[.string ⟨#[]⟩] 9)).alloc (.cells #[.int .i64 0] 3)).alloc (.cells #[.int .i64 0] 3)) := (((Below.refl _ _).alloc (Nat.le_refl _) _).alloc (by simp) _).alloc (by simp; omega) _
 have sz0 : (((w.alloc (.cells #[.string ⟨#[]⟩] 9)).alloc (.cells #[.int .i64 0] 3)).alloc (.cells #[.int .i64 0] 3)).heap.size = w.heap.size + 3 := by simp
 generalize (((w.alloc (.cells #[.string ⟨#[]⟩] 9)).alloc (.cells #[.int .i64 0] 3)).alloc (.cells #[.int .i64 0] 3)) = v0 at *
 have HB0 := Aside0.mk (And.intro hB0 sz0)
 clear hB0 sz0
 go_wp2_with (go_at_call 21; (with_reducible refine (HW.out _).mono ?_); rintro e w1 ⟨gx, rfl, hgx, hbig, hbe⟩; have H1 := Aside0.mk (And.intro hgx (And.intro hbig hbe)); clear hgx hbig hbe)
 have hz := Box.new2 w1 w1.heap.size (.bool false) (.slice none 0 0) 59 rfl
 have hk : Blk (w1.alloc (.cells #[.bool false, .slice none 0 0] 59)) w1.heap.size := Blk.new _ _ _ _ rfl
 have hB : Below w1.heap.size w1 (w1.alloc (.cells #[.bool false, .slice none 0 0] 59)) := (Below.refl _ _).alloc (Nat.le_refl _) _
 have sz : (w1.alloc (.cells #[.bool false, .slice none 0 0] 59)).heap.size = w1.heap.size + 1 := by simp
 generalize (w1.alloc (.cells #[.bool false, .slice none 0 0] 59)) = u1 at *
 have HU := Aside0.mk (And.intro hz (And.intro hk (And.intro hB sz)))
 clear hz hk hB sz
 go_wp2_with (go_at_call 23; (with_reducible refine (HN5.out _).mono ?_); rintro e w2 ⟨g5, p5, rfl, h5⟩; have H5 := Aside0.mk h5; clear h5)
 have HM : Aside0 (∃ ok v, Box w2 gx [.bool (decide (X < 0)), v] ∧ Wdv w2 ok v X.natAbs ∧ Calls Tryz.prog 22 #[.pointer (some ⟨w1.heap.size, 0, none⟩), .pointer (some ⟨gx, 0, none⟩), .pointer (some ⟨g5, 0, none⟩)] w2 fun e w' => e = .returned (.pointer (some ⟨w1.heap.size, 0, none⟩)) ∧ ∃ a' u, Nz w' a' (X * ((5 : Nat) : Int)).natAbs u ∧ Box w' w1.heap.size [.bool (decide (X * ((5 : Nat) : Int) < 0)), u] ∧ KeptP w2 w' (fun k => k = w1.heap.size)) := by
   obtain ⟨a1, a2, a3⟩ := H1.out
   obtain ⟨u1', u2, u3, u4⟩ := HU.out
   obtain ⟨b1, b2, b3, b4⟩ := H5.out
   obtain ⟨v, v1, v2⟩ := a2.out
   have hgl := a2.blk.lt
   have v3 := (v1.below u3).below b4
   have v4 := (v2.below u3).below b4
   have v5 := KeptP.blk (KeptP.blk a2.blk (KeptP.ofBelow (P := fun _ => False) u3) id) (KeptP.ofBelow (P := fun _ => False) b4) id
   refine ⟨_, v, v3, v4, IMul_of _ _ _ _ w2 (imul_word w1.heap.size gx g5 p5 X 5 _ v w2 (u1'.below b4) (KeptP.blk u2 (KeptP.ofBelow (P := fun _ => False) b4) id) v3 v5 v4 (zi_zz b3) (by omega) (by omega) (by omega) (len_250 ?_) (by decide) (by decide))⟩
   exact Nat.le_trans (Nat.le_of_lt HX.out.1) (pow_le250 (by have := HX.out; omega))
 obtain ⟨ok, v, hxv, hwv, hmul⟩ := HM.out
 have HMU := Aside0.mk hmul
 have HXV := Aside0.mk (And.intro hxv hwv)
 clear hxv hwv hmul HM
 go_wp2_with (go_at_call 22; (with_reducible refine HMU.out.mono ?_); rintro e w3 ⟨rfl, a3, u, h3⟩; have H3 := Aside0.mk h3; clear h3)
 have hz := Box.new2 w3 w3.heap.size (.bool false) (.slice none 0 0) 59 rfl
 have hk : Blk (w3.alloc (.cells #[.bool false, .slice none 0 0] 59)) w3.heap.size := Blk.new _ _ _ _ rfl
 have hB : Below w3.heap.size w3 (w3.alloc (.cells #[.bool false, .slice none 0 0] 59)) := (Below.refl _ _).alloc (Nat.le_refl _) _
 have sz : (w3.alloc (.cells #[.bool false, .slice none 0 0] 59)).heap.size = w3.heap.size + 1 := by simp
 generalize (w3.alloc (.cells #[.bool false, .slice none 0 0] 59)) = u3 at *
 have HU3 := Aside0.mk (And.intro hz (And.intro hk (And.intro hB sz)))
 clear hz hk hB sz
 go_wp2_with (go_at_call 23; (with_reducible refine (HN12.out _).mono ?_); rintro e w4 ⟨g12, p12, rfl, h5⟩; have H12 := Aside0.mk h5; clear h5)
 have HL : Aside0 (Calls Tryz.prog 25 #[.pointer (some ⟨w3.heap.size, 0, none⟩), .pointer (some ⟨g12, 0, none⟩), .int .u64 b] w4 fun e w' => e = .returned (.pointer (some ⟨w3.heap.size, 0, none⟩)) ∧ ∃ a', w4.heap.size ≤ a' ∧ Zm w' w3.heap.size a' (12 * 2 ^ b) ∧ KeptP w4 w' (fun k => k = w3.heap.size)) := by
   obtain ⟨u1', u2, u3', u4⟩ := HU3.out
   obtain ⟨b1, b2, b3, b4⟩ := H12.out
   obtain ⟨y, y1, y2⟩ := b3.out
   refine ⟨?_⟩
   exact Lsh_new w3.heap.size g12 12 (fun k => k = p12) y b w4 (u1'.below b4) (KeptP.blk u2 (KeptP.ofBelow (P := fun _ => False) b4) id) (by rw [show decide ((12 : Int) < 0) = false from rfl]; exact y1) y2.wdv (by omega) (by decide) (by have := HX.out; omega) (by have := HX.out; omega) (by rw [show (12 : Int).natAbs = 12 from rfl, W64.digs_one (by decide) (by decide)]; decide)
 go_wp2_with (go_at_call 25; (with_reducible refine HL.out.mono ?_); rintro e w5 ⟨rfl, a5, h5⟩; have HL5 := Aside0.mk h5; clear h5)
 have HB13 : Aside0 (Below w1.heap.size w1 w3) := by
   refine ⟨?_⟩
   obtain ⟨_, _, u3, u4⟩ := HU.out
   obtain ⟨_, _, _, b4⟩ := H5.out
   obtain ⟨_, _, k3⟩ := H3.out
   exact bel_kept (below_trans u3 (below_less b4 u3.size) u3.size) k3 (fun k hk => by rw [hk]; exact Nat.le_refl _) (Nat.le_trans u3.size b4.size)
 have HB35 : Aside0 (Below w3.heap.size w3 w5) := by
   refine ⟨?_⟩
   obtain ⟨_, _, u3, u4⟩ := HU3.out
   obtain ⟨_, _, _, b4⟩ := H12.out
   obtain ⟨_, _, k3⟩ := HL5.out
   exact bel_kept (below_trans u3 (below_less b4 u3.size) u3.size) k3 (fun k hk => by rw [hk]; exact Nat.le_refl _) (Nat.le_trans u3.size b4.size)
 have HC : Aside0 (Calls Tryz.prog 24 #[.pointer (some ⟨w1.heap.size, 0, none⟩), .pointer (some ⟨w3.heap.size, 0, none⟩)] w5 fun e w' => ∃ r : Int, e = .returned (.int .i64 r) ∧ Aside0 (Cmp (X * ((5 : Nat) : Int)).natAbs (12 * 2 ^ b : Int).natAbs r) ∧ KeptP w5 w' (fun _ => False)) := by
   refine ⟨?_⟩
   obtain ⟨n3, b3, k3⟩ := H3.out
   obtain ⟨_, hzm, _⟩ := HL5.out
   obtain ⟨v5, b5, n5⟩ := hzm.zz.out
   have h35 := HB35.out
   refine CmpAbs_n w1.heap.size a3 w3.heap.size a5 _ _ _ _ u v5 w5 (b3.below h35) (n3.kept (P := fun _ => False) (KeptP.ofBelow h35) id) b5 n5 ?_
   have : 0 < (2 : Int) ^ b := Int.pow_pos (by decide)
   omega
 go_wp2_with (go_at_call 24; (with_reducible refine HC.out.mono ?_); rintro e w6 ⟨r, rfl, hr, hk6⟩; have HR := Aside0.mk (And.intro hr.out hk6); have hr0 : decide (0 < r) = false := decide_eq_false (cmp_le HX.out.1 hr.out); clear hr hk6)
 have HB06 : Aside0 (Below w1.heap.size w1 w6 ∧ Below v0.heap.size v0 w6 ∧ Below w.heap.size w w6) := by
   refine ⟨?_⟩
   obtain ⟨a1, a2, a3⟩ := H1.out
   obtain ⟨_, k6⟩ := HR.out
   have h13 := HB13.out
   have h16 : Below w1.heap.size w1 w6 := bel_kept (below_trans h13 (below_less HB35.out h13.size) h13.size) k6 (fun k hk => hk.elim) (Nat.le_trans h13.size HB35.out.size)
   have h06 := below_trans a3 (below_less h16 a3.size) a3.size
   have hb := HB0.out.1
   exact ⟨h16, h06, below_trans hb (below_less h06 hb.size) hb.size⟩
 have HZ : Aside0 (Calls Tryz.prog 26 #[.pointer (some ⟨gx, 0, none⟩), .int .u64 b] w6 fun e w' => ∃ gr ar j g N R, e = .returned (.tuple #[.pointer (some ⟨gr, 0, none⟩), .int .i64 2]) ∧ ExpOut X b j g N R ∧ Zm w' gr ar R ∧ w6.heap.size ≤ gr ∧ w6.heap.size ≤ ar ∧ gr ≠ ar ∧ Below w6.heap.size w6 w' ∧ R.natAbs ≤ 6 * 2 ^ b) := by
   refine ⟨?_⟩
   obtain ⟨h16, h06, hw6⟩ := HB06.out
   obtain ⟨x1, x2, x3, x4, x5⟩ := HX.out
   obtain ⟨a1, a2, a3⟩ := H1.out
   obtain ⟨v1, y1, y2⟩ := a2.out
   exact zexp_n gx X _ v1 b w6 (y1.below h16) (y2.below h16) (Nat.le_of_lt x1) x2 x3 (x4.kept (P := fun _ => False) (KeptP.ofBelow hw6) (fun _ h => h.elim)) (Nat.le_trans x5 hw6.size)
 go_wp2_with (go_at_call 26; (with_reducible refine HZ.out.mono ?_); rintro e w7 ⟨gr, ar, j, g, N, R, rfl, h7⟩; have H7 := Aside0.mk h7; clear h7)
 have HD := Aside0.mk (digits_n gr (decide (R < 0)) R.natAbs _ w7 (zm_big H7.out.2.1) (sgn_int R) (Nat.le_trans (len_250 (by
   have h1 := H7.out.2.2.2.2.2.2
   have h2 : 2 ^ (b + 3) ≤ 2 ^ 250 := pow_le250 (by have := HX.out; omega)
   rw [Nat.pow_add] at h2
   omega)) (by decide)))
 go_wp2_with (go_at_call 27; (with_reducible refine HD.out.mono ?_); rintro e w8 ⟨rfl, hb8⟩; have h07 := below_trans HB06.out.2.1 (below_less H7.out.2.2.2.2.2.1 HB06.out.2.1.size) HB06.out.2.1.size; have h08 := below_trans h07 (below_less hb8 h07.size) h07.size; have oo := HO.out.below h08; have o0 := oo.o.c0; have o1 := oo.o.f0; have o2 := oo.f.c0; have o3 := oo.f.f0; have o4 := oo.e.c0; have o5 := oo.e.f0; have H8 := Aside0.mk h08; clear hb8 h07 h08)
 refine leaves_cons (f := 20) (args := #[.pointer (some ⟨w.heap.size, 0, none⟩), .pointer (some ⟨w.heap.size + 1, 0, none⟩), .pointer (some ⟨w.heap.size + 1 + 1, 0, none⟩)]) (by simp) (by simp [go_sem]) ?_
 refine (catch_E _ _ _ _).mono ?_
 rintro e u' w'' ⟨rfl, rfl, rfl⟩
 simp [Leaves, settle, results, Tryz.results7, go_sem, o0, o1, o2, o3, o4, o5]
 have hb := HB0.out.1
 have hw8 := below_trans hb (below_less H8.out hb.size) hb.size
 exact ⟨j, g, N, R, rfl, H7.out.1, H7.out.2.2.2.2.2.2, ((hw8.setCell (p := ⟨w.heap.size, 0, none⟩) (Nat.le_refl _) _).setCell (p := ⟨w.heap.size + 1, 0, none⟩) (by show _ ≤ _ + 1; omega) _).setCell (p := ⟨w.heap.size + 1 + 1, 0, none⟩) (by show _ ≤ _ + 1 + 1; omega) _⟩
end Go.Proofs.YteohmbannpbokaaGreatDoor.WordWalk
