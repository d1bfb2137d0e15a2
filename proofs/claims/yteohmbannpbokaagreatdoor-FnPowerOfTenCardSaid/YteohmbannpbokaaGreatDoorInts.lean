/-
  The package's whole numbers: a new one of a word; ten; a product with one of a word.
  The package's whole numbers: powers of ten.
-/
import Derived.Test.YteohmbannpbokaaGreatDoorPows
set_option linter.unusedVariables false
set_option linter.unusedSimpArgs false
namespace Go.Proofs.YteohmbannpbokaaGreatDoor.WordWalk
open Go.RowKit Go.Proofs.YteohmbannpbokaaGreatDoorW.PrintWords Go.Proofs.YteohmbannpbokaaGreatDoorW.PrintLast Go.Proofs.YteohmbannpbokaaGreatDoorW.PrintMore Go.Proofs.YteohmbannpbokaaGreatDoor.SpecWalk Go.Proofs.YteohmbannpbokaaGreatDoor.BigWalk

/-- A whole number that is not 0: its sign, and its words in a block of their own. -/
structure Zi (w : World) (g ga : Nat) (b : Bool) (n : Nat) : Prop where
  mk :: (out : ∃ v, Box w g [.bool b, v] ∧ Num w ga n v) (blk : Blk w g)
theorem Zi.kept {w w1 : World} {P : Nat → Prop} {g ga n : Nat} {b : Bool} (h : Zi w g ga b n) (hk : KeptP w w1 P) (hg : ¬ P g) (ha : ¬ P ga) : Zi w1 g ga b n := by
  obtain ⟨v, h1, h2⟩ := h.out
  exact ⟨⟨v, KeptP.box h1 hk hg, h2.kept hk ha⟩, KeptP.blk h.blk hk hg⟩
theorem Zi.below {w w1 : World} {g ga n : Nat} {b : Bool} (h : Zi w g ga b n) (hb : Below w.heap.size w w1) : Zi w1 g ga b n :=
  h.kept (P := fun _ => False) (KeptP.ofBelow hb) id id
theorem Zi.drew {w : World} {g ga n : Nat} {b : Bool} (h : Zi w g ga b n) : Zi w.drew g ga b n := h.below (Below.refl _ _).drew
theorem Num.wdv {w : World} {g n : Nat} {v : Value} (h : Num w g n v) : Wdv w (fun k => k = g) v n := by
  obtain ⟨cs, rfl, h2, h3, h4, h5, h6⟩ := h.out
  have hv : Kd.V (Kd.int .u64) 0 w 0 (fun k => k = g) (.slice (some ⟨g, 0, none⟩) (W64.digs n).length cs.length) (cs.take (W64.digs n).length) := Buf.V h2 (by omega) h3 h3
  rw [h6] at hv
  exact ⟨hv⟩
theorem Zi.big {w : World} {g ga n : Nat} {b : Bool} (h : Zi w g ga b n) : Big w (fun k => k = ga) g b n := by
  obtain ⟨v, h1, h2⟩ := h.out
  exact ⟨⟨v, h1, h2.wdv⟩, h.blk⟩
theorem _root_.Go.Proofs.YteohmbannpbokaaGreatDoor.SpecWalk.Box.put1 {w : World} {g : Nat} {x y : Value} (h : Box w g [x, y]) (b : Value) : Box (w.setCell ⟨g, 1, none⟩ b) g [x, b] := by
  have h0 := h.c0; have h1 := h.c1
  have k0 := h.f0; have k1 := h.f1
  refine Box.mk2 ?_ ?_ ?_ ?_ <;> simp [go_sem, h0, h1, k0, k1]
theorem _root_.Go.Proofs.YteohmbannpbokaaGreatDoor.SpecWalk.Box.put0 {w : World} {g : Nat} {x y : Value} (h : Box w g [x, y]) (a : Value) : Box (w.setCell ⟨g, 0, none⟩ a) g [a, y] := by
  have h0 := h.c0; have h1 := h.c1
  have k0 := h.f0; have k1 := h.f1
  refine Box.mk2 ?_ ?_ ?_ ?_ <;> simp [go_sem, h0, h1, k0, k1]
theorem _root_.Go.Proofs.YteohmbannpbokaaGreatDoor.SpecWalk.Box.put21b {w : World} {g : Nat} {x y : Value} (h : Box w g [x, y]) (a b : Value) : Box ((w.setCell ⟨g, 1, none⟩ b).setCell ⟨g, 0, none⟩ a) g [a, b] := (h.put1 b).put0 a
theorem num_lit {w : World} {n : Nat} (h0 : n ≠ 0) (hn : n < 18446744073709551616) : Num (w.alloc (.cells #[.int .u64 (n : Int)] 89)) w.heap.size n (.slice (some ⟨w.heap.size, 0, none⟩) 1 1) := by
  have hd := W64.digs_one h0 hn
  have e : (W64.digs n).length = 1 := by rw [hd]; rfl
  refine ⟨[(n : Int)], by rw [e]; rfl, Buf.lit w [(n : Int)] rfl, by rw [e]; exact Nat.le_refl _, by simp, by simp, by rw [e, hd]; rfl⟩
theorem newInt_zi (n : Nat) (w : World) (h0 : n ≠ 0) (hn : n < 18446744073709551616) : Zi ((w.alloc (.cells #[.int .u64 (n : Int)] 89)).alloc (.cells #[.bool false, .slice (some ⟨w.heap.size, 0, none⟩) 1 1] 59)) (w.heap.size + 1) w.heap.size false n :=
  ⟨⟨_, Box.new2 _ _ _ _ _ (by simp), (num_lit h0 hn).kept (P := fun _ => False) (KeptP.ofBelow ((Below.refl _ _).alloc (Nat.le_refl _) _)) id⟩, Blk.new _ _ _ _ (by simp)⟩
set_option maxHeartbeats 1000000 in
theorem NewInt_zi (n : Nat) (w : World) (h0 : n ≠ 0) (hn : n < 1000000000000000000) :
    Calls Tryz.prog 23 #[.int .i64 n] w fun e w' => ∃ g ga, e = .returned (.pointer (some ⟨g, 0, none⟩)) ∧ w.heap.size ≤ g ∧ w.heap.size ≤ ga ∧ Zi w' g ga false n ∧ Below w.heap.size w w' := by
  have HZ := Aside0.mk (newInt_zi n w h0 (by omega))
  have n0 : 0 < (n : Int) := by omega
  have n1 : (n : Int) < 1000000000000000000 := by omega
  have p0 : ((n : Int) == 0) = false := beq_eq_false_iff_ne.mpr (by omega)
  have p1 : ¬ ((n : Int) < 0) := by omega
  clear h0 hn
  generalize (n : Int) = X at *
  go_enter Tryz.func23, Tryz.ntmps23
  go_wp2
  go_ret
  exact ⟨_, rfl, by omega, w.heap.size, Nat.le_refl _, HZ.out, ((Below.refl _ _).alloc (Nat.le_refl _) _).alloc (by simp) _⟩
set_option maxHeartbeats 1000000 in
theorem tenInt_n (w : World) : Calls Tryz.prog 83 #[] w fun e w' => ∃ g ga, e = .returned (.pointer (some ⟨g, 0, none⟩)) ∧ w.heap.size ≤ g ∧ w.heap.size ≤ ga ∧ Zi w' g ga false 10 ∧ Below w.heap.size w w' := by
  have HN := Aside0.mk (NewInt_zi 10 w (by decide) (by decide))
  have e : ((10 : Nat) : Int) = 10 := rfl
  rw [e] at HN
  clear e
  go_enter Tryz.func83, Tryz.ntmps83
  go_wp2_with (go_at_call 23; refine HN.out.mono ?_; rintro e w1 ⟨g, ga, rfl, h⟩; have HH := Aside0.mk h; clear h)
  go_ret
  exact ⟨g, ga, rfl, HH.out⟩
theorem run_eq_int (w : World) {g g2 : Nat} (hne : g ≠ g2) (h1 : Blk w g) (h2 : Blk w g2) : (binOp .eql 53 (.pointer (some ⟨g, 0, none⟩)) (.pointer (some ⟨g2, 0, none⟩))).run Tryz.prog w = .ok (.bool false) w := by
  obtain ⟨j, hj, hs⟩ := Option.map_eq_some_iff.1 (show (Tryz.prog.info? 59).map (·.size) = some 2 by kernel_rfl)
  obtain ⟨ca, ta, ha⟩ := h1.out
  obtain ⟨cb, tb, hb⟩ := h2.out
  exact run_eql_ptr_other w Tryz.underlying53 hj (by rw [hs]; decide) (by simp [hne]) ha hb
set_option maxHeartbeats 4000000 in
set_option maxRecDepth 100000 in
/-- A new number, made the product of one with one of a single word. -/
theorem imul_new (gz gx ax gy ay n y : Nat) (w : World) (hz : Box w gz [.bool false, .slice none 0 0]) (hzb : Blk w gz) (hx : Zi w gx ax false n) (hy : Zi w gy ay false y) (hxy : gx ≠ gy) (hzx : gz ≠ gx) (hzy : gz ≠ gy) (h0 : n ≠ 0) (hy0 : 0 < y) (hy1 : y < 18446744073709551616) (hn : (W64.digs n).length ≤ 800) :
    Calls Tryz.prog 47 #[.pointer (some ⟨gz, 0, none⟩), .pointer none, .pointer (some ⟨gx, 0, none⟩), .pointer (some ⟨gy, 0, none⟩)] w fun e w' => e = .returned (.tuple #[]) ∧ ∃ az, w.heap.size ≤ az ∧ Zi w' gz az false (n * y) ∧ KeptP w w' (fun k => k = gz) := by
  obtain ⟨xv, hxb, hxn⟩ := hx.out
  obtain ⟨yv, hyb, hyn⟩ := hy.out
  have heq := run_eq_int w hxy hx.blk hy.blk
  have HM := Aside0.mk (fun (w1 : World) (hk : Below w.heap.size w w1) => mul1_n (fun _ => False) (.pointer none) (.slice none 0 0) xv yv ax ay n y w1 (Spare.nil _ _) (hxn.kept (P := fun _ => False) (KeptP.ofBelow hk) id) (hyn.kept (P := fun _ => False) (KeptP.ofBelow hk) id) id h0 hy0 hy1 hn)
  have hzlt : gz < w.heap.size := World.block_lt_of_cell? w _ hz.c0
  have cz0 := hz.c0; have cz1 := hz.c1; have fz0 := hz.f0; have fz1 := hz.f1
  have cx0 := hxb.c0; have cx1 := hxb.c1; have cy0 := hyb.c0; have cy1 := hyb.c1
  have hpn : 0 < (W64.digs (n * y)).length := W64.len_pos (Nat.mul_ne_zero h0 (by omega))
  obtain ⟨xc, rfl, hxc1, hxc2, hxc3, _⟩ := hxn.words
  obtain ⟨yc, rfl, hyc1, hyc2, hyc3, _⟩ := hyn.words
  have HZ := Aside0.mk (And.intro hz (And.intro hzb (And.intro hzx (And.intro hzy (And.intro hzlt hpn)))))
  have HBX := Aside0.mk (And.intro hxb hyb)
  clear hz hzb hx hy hxy hzx hzy h0 hy0 hy1 hn hxn hyn hxb hyb hzlt hpn
  go_enter Tryz.func47, Tryz.ntmps47
  go_wp2_with fail
  refine start_ (n := 18) (S := fun w' => w'.cell? ⟨gz, 1, none⟩ = some (.slice none 0 0) ∧ w'.cell? ⟨gx, 1, none⟩ = some (.slice (some ⟨ax, 0, none⟩) (W64.digs n).length xc) ∧ w'.cell? ⟨gy, 1, none⟩ = some (.slice (some ⟨ay, 0, none⟩) (W64.digs y).length yc)) (ds := [17]) #[false, false, false, false, false, false, false, false, false, false, false, false, false, false, false, false, false, false] (by kernel_rfl) rfl rfl (⟨by simpa using cz1, by simpa using cx1, by simpa using cy1⟩) (fun hHeld => ?_)
  refine pure_ (i := 0) (N := some 27) (v := ?_) (a' := ?_) #[true, false, false, false, false, false, false, false, false, false, false, false, false, false, false, false, false, false] rfl rfl (by kernel_rfl) (fun _ _ _ h => h) (Or.inl ⟨by rfl, ?_⟩) ?_ ?_
  rotate_left
  · intro w'
    go_simp
    with_reducible rfl
  rotate_left
  · simp only [Act.put, List.setIfInBounds_toArray, List.set_cons_zero, List.set_cons_succ, i64_w, i32_w]
    rfl
  refine pure_ (i := 1) (N := some 28) (v := ?_) (a' := ?_) #[true, true, false, false, false, false, false, false, false, false, false, false, false, false, false, false, false, false] rfl rfl (by kernel_rfl) (fun _ _ _ h => h) (Or.inl ⟨by rfl, ?_⟩) ?_ ?_
  rotate_left
  · intro w'
    go_simp
    with_reducible rfl
  rotate_left
  · simp only [Act.put, List.setIfInBounds_toArray, List.set_cons_zero, List.set_cons_succ, i64_w, i32_w]
    rfl
  refine pure_ (i := 2) (N := some 29) (v := ?_) (a' := ?_) #[true, true, true, false, false, false, false, false, false, false, false, false, false, false, false, false, false, false] rfl rfl (by kernel_rfl) (fun _ _ _ h => h) (Or.inl ⟨by rfl, ?_⟩) ?_ ?_
  rotate_left
  · intro w'
    go_simp
    with_reducible rfl
  rotate_left
  · simp only [Act.put, List.setIfInBounds_toArray, List.set_cons_zero, List.set_cons_succ, i64_w, i32_w]
    rfl
  refine pure_ (i := 3) (N := some 30) (v := ?_) (a' := ?_) #[true, true, true, true, false, false, false, false, false, false, false, false, false, false, false, false, false, false] rfl rfl (by kernel_rfl) (fun _ _ _ h => h) (Or.inl ⟨by rfl, ?_⟩) ?_ ?_
  rotate_left
  · intro w'
    go_simp
    with_reducible rfl
  rotate_left
  · simp only [Act.put, List.setIfInBounds_toArray, List.set_cons_zero, List.set_cons_succ, i64_w, i32_w]
    rfl
  refine take_ (i := 4) (N := some 31) (v := ?_) (a' := ?_) #[true, true, true, true, true, false, false, false, false, false, false, false, false, false, false, false, false, false] rfl rfl (by kernel_rfl) (fun _ _ _ h => h) (Or.inl ⟨by rfl, ?_⟩) hHeld ?_ ?_
  rotate_left
  · rintro w' ⟨s0, s1, s2⟩
    go_simp
    with_reducible rfl
  rotate_left
  · simp only [Act.put, List.setIfInBounds_toArray, List.set_cons_zero, List.set_cons_succ, i64_w, i32_w]
    rfl
  refine pure_ (i := 5) (N := some 32) (v := ?_) (a' := ?_) #[true, true, true, true, true, true, false, false, false, false, false, false, false, false, false, false, false, false] rfl rfl (by kernel_rfl) (fun _ _ _ h => h) (Or.inl ⟨by rfl, ?_⟩) ?_ ?_
  rotate_left
  · intro w'
    go_simp
    with_reducible rfl
  rotate_left
  · simp only [Act.put, List.setIfInBounds_toArray, List.set_cons_zero, List.set_cons_succ, i64_w, i32_w]
    rfl
  refine pure_ (i := 6) (N := some 33) (v := ?_) (a' := ?_) #[true, true, true, true, true, true, true, false, false, false, false, false, false, false, false, false, false, false] rfl rfl (by kernel_rfl) (fun _ _ _ h => h) (Or.inl ⟨by rfl, ?_⟩) ?_ ?_
  rotate_left
  · intro w'
    go_simp
    with_reducible rfl
  rotate_left
  · simp only [Act.put, List.setIfInBounds_toArray, List.set_cons_zero, List.set_cons_succ, i64_w, i32_w]
    rfl
  refine pure_ (i := 7) (N := some 34) (v := ?_) (a' := ?_) #[true, true, true, true, true, true, true, true, false, false, false, false, false, false, false, false, false, false] rfl rfl (by kernel_rfl) (fun _ _ _ h => h) (Or.inl ⟨by rfl, ?_⟩) ?_ ?_
  rotate_left
  · intro w'
    go_simp
    with_reducible rfl
  rotate_left
  · simp only [Act.put, List.setIfInBounds_toArray, List.set_cons_zero, List.set_cons_succ, i64_w, i32_w]
    rfl
  refine pure_ (i := 8) (N := some 35) (v := ?_) (a' := ?_) #[true, true, true, true, true, true, true, true, true, false, false, false, false, false, false, false, false, false] rfl rfl (by kernel_rfl) (fun _ _ _ h => h) (Or.inl ⟨by rfl, ?_⟩) ?_ ?_
  rotate_left
  · intro w'
    go_simp
    with_reducible rfl
  rotate_left
  · simp only [Act.put, List.setIfInBounds_toArray, List.set_cons_zero, List.set_cons_succ, i64_w, i32_w]
    rfl
  refine take_ (i := 9) (N := some 36) (v := ?_) (a' := ?_) #[true, true, true, true, true, true, true, true, true, true, false, false, false, false, false, false, false, false] rfl rfl (by kernel_rfl) (fun _ _ _ h => h) (Or.inl ⟨by rfl, ?_⟩) hHeld ?_ ?_
  rotate_left
  · rintro w' ⟨s0, s1, s2⟩
    go_simp
    with_reducible rfl
  rotate_left
  · simp only [Act.put, List.setIfInBounds_toArray, List.set_cons_zero, List.set_cons_succ, i64_w, i32_w]
    rfl
  refine pure_ (i := 10) (N := some 37) (v := ?_) (a' := ?_) #[true, true, true, true, true, true, true, true, true, true, true, false, false, false, false, false, false, false] rfl rfl (by kernel_rfl) (fun _ _ _ h => h) (Or.inl ⟨by rfl, ?_⟩) ?_ ?_
  rotate_left
  · intro w'
    go_simp
    with_reducible rfl
  rotate_left
  · simp only [Act.put, List.setIfInBounds_toArray, List.set_cons_zero, List.set_cons_succ, i64_w, i32_w]
    rfl
  refine pure_ (i := 11) (N := some 38) (v := ?_) (a' := ?_) #[true, true, true, true, true, true, true, true, true, true, true, true, false, false, false, false, false, false] rfl rfl (by kernel_rfl) (fun _ _ _ h => h) (Or.inl ⟨by rfl, ?_⟩) ?_ ?_
  rotate_left
  · intro w'
    go_simp
    with_reducible rfl
  rotate_left
  · simp only [Act.put, List.setIfInBounds_toArray, List.set_cons_zero, List.set_cons_succ, i64_w, i32_w]
    rfl
  refine pure_ (i := 12) (N := some 39) (v := ?_) (a' := ?_) #[true, true, true, true, true, true, true, true, true, true, true, true, true, false, false, false, false, false] rfl rfl (by kernel_rfl) (fun _ _ _ h => h) (Or.inl ⟨by rfl, ?_⟩) ?_ ?_
  rotate_left
  · intro w'
    go_simp
    with_reducible rfl
  rotate_left
  · simp only [Act.put, List.setIfInBounds_toArray, List.set_cons_zero, List.set_cons_succ, i64_w, i32_w]
    rfl
  refine take_ (i := 13) (N := some 40) (v := ?_) (a' := ?_) #[true, true, true, true, true, true, true, true, true, true, true, true, true, true, false, false, false, false] rfl rfl (by kernel_rfl) (fun _ _ _ h => h) (Or.inl ⟨by rfl, ?_⟩) hHeld ?_ ?_
  rotate_left
  · rintro w' ⟨s0, s1, s2⟩
    go_simp
    with_reducible rfl
  rotate_left
  · simp only [Act.put, List.setIfInBounds_toArray, List.set_cons_zero, List.set_cons_succ, i64_w, i32_w]
    rfl
  refine one_ (i := 14) (N := some 41) #[true, true, true, true, true, true, true, true, true, true, true, true, true, true, true, false, false, false] rfl rfl (by kernel_rfl) (by decide) (fun K hK => ?_)
  refine goes_ Tryz.func64 (by kernel_rfl) rfl #[.slice none 0 0, .pointer none, .slice (some ⟨ax, 0, none⟩) (W64.digs n).length xc, .slice (some ⟨ay, 0, none⟩) (W64.digs y).length yc] (by rfl) rfl rfl (by (try simp only [List.map_toArray, List.map_cons, List.map_nil]); first | done | rfl) ?_
  refine (HM.out _ (Below.refl _ _).drew).mono ?_
  rintro e w1 ⟨u, g, rfl, hg, hu, hkk⟩
  refine ⟨_, rfl, ?_⟩
  have HU := Aside0.mk (And.intro hg hu)
  obtain ⟨uc, rfl, hu1, hu2, hu3, hu4⟩ := hu.words
  have bz1 := KeptP.box HZ.out.1.drew hkk id
  have c1' := bz1.c1
  have f1' := bz1.f1
  refine hK.out _ _ (⟨hkk.cell id hHeld.1, hkk.cell id hHeld.2.1, hkk.cell id hHeld.2.2⟩) (fun hHeld => ?_)
  clear hK K
  refine norm_ (a' := ?_) ?_ ?_
  rotate_left
  · show Act.put _ (some 41) _ = _
    simp only [Act.put, List.setIfInBounds_toArray, List.set_cons_zero, List.set_cons_succ, i64_w, i32_w]
    rfl
  refine pure_ (i := 15) (N := some 42) (v := ?_) (a' := ?_) #[true, true, true, true, true, true, true, true, true, true, true, true, true, true, true, true, false, false] rfl rfl (by kernel_rfl) (fun _ _ _ h => h) (Or.inl ⟨by rfl, ?_⟩) ?_ ?_
  rotate_left
  · intro w'
    go_simp
    with_reducible rfl
  rotate_left
  · simp only [Act.put, List.setIfInBounds_toArray, List.set_cons_zero, List.set_cons_succ, i64_w, i32_w]
    rfl
  refine pure_ (i := 16) (N := some 43) (v := ?_) (a' := ?_) #[true, true, true, true, true, true, true, true, true, true, true, true, true, true, true, true, true, false] rfl rfl (by kernel_rfl) (fun _ _ _ h => h) (Or.inl ⟨by rfl, ?_⟩) ?_ ?_
  rotate_left
  · intro w'
    go_simp
    with_reducible rfl
  rotate_left
  · simp only [Act.put, List.setIfInBounds_toArray, List.set_cons_zero, List.set_cons_succ, i64_w, i32_w]
    rfl
  refine last_ (i := 17) (N := none) #[true, true, true, true, true, true, true, true, true, true, true, true, true, true, true, true, true, true] rfl rfl (by kernel_rfl) (by decide) (fun K hK => ?_)
  refine skip_ (w1 := ?_) (by rfl) rfl ?_ ?_
  rotate_left
  · go_simp
    rfl
  refine hK.out _ _ ?_
  clear hK K
  refine done_ (by kernel_rfl) ?_
  have hq : decide (0 < (W64.digs (n * y)).length) = true := decide_eq_true HZ.out.2.2.2.2.2
  have bz2 := bz1.put1 (.slice (some ⟨g, 0, none⟩) (W64.digs (n * y)).length uc)
  have bx2 := (KeptP.box HBX.out.1.drew hkk id).far (p := ⟨gz, 1, none⟩) (Ne.symm HZ.out.2.2.1) (.slice (some ⟨g, 0, none⟩) (W64.digs (n * y)).length uc)
  have by2 := (KeptP.box HBX.out.2.drew hkk id).far (p := ⟨gz, 1, none⟩) (Ne.symm HZ.out.2.2.2.1) (.slice (some ⟨g, 0, none⟩) (W64.digs (n * y)).length uc)
  have hb2 : Blk (w1.setCell ⟨gz, 1, none⟩ (.slice (some ⟨g, 0, none⟩) (W64.digs (n * y)).length uc)) gz := (KeptP.blk HZ.out.2.1.drew hkk id).set _ _
  have hgz : g ≠ gz := by have := HU.out.1.resolve_left id; have := HZ.out.2.2.2.2.1; intro e; subst e; exact absurd this (Nat.not_lt.2 (by assumption))
  have hn2 := HU.out.2.kept (P := fun k => k = gz) (KeptP.set (P := fun k => k = gz) (KeptP.refl w1 _) ⟨gz, 1, none⟩ (.inl rfl) (.slice (some ⟨g, 0, none⟩) (W64.digs (n * y)).length uc)) hgz
  have hk2 : KeptP w (w1.setCell ⟨gz, 1, none⟩ (.slice (some ⟨g, 0, none⟩) (W64.digs (n * y)).length uc)) (fun k => k = gz) := KeptP.set (P := fun k => k = gz) ((KeptP.refl w _).drew.then (hkk.mono (fun _ h => h.elim))) ⟨gz, 1, none⟩ (.inl rfl) _
  have HF := Aside0.mk (And.intro hb2 (And.intro hn2 (And.intro hk2 (HU.out.1.resolve_left id))))
  have z1 := bz2.c1; have z0 := bz2.c0; have zf0 := bz2.f0; have x0 := bx2.c0; have y0 := by2.c0
  have HB2 := Aside0.mk bz2
  clear HU hkk bz1 c1' f1' hHeld hu hb2 hn2 hk2 bz2 bx2 by2 HM cz0 cz1 fz0 fz1 cx0 cx1 cy0 cy1 heq hg
  generalize w1.setCell ⟨gz, 1, none⟩ (.slice (some ⟨g, 0, none⟩) (W64.digs (n * y)).length uc) = W2 at *
  go_wp2_with fail
  refine start_ (n := 21) (S := fun w' => w'.cell? ⟨gz, 1, none⟩ = some (.slice (some ⟨g, 0, none⟩) (W64.digs (n * y)).length uc) ∧ w'.cell? ⟨gx, 0, none⟩ = some (.bool false) ∧ w'.cell? ⟨gy, 0, none⟩ = some (.bool false)) (ds := [20]) #[false, false, false, false, false, false, false, false, false, false, false, false, false, false, false, false, false, false, false, false, false] (by kernel_rfl) rfl rfl (⟨by simpa using z1, by simpa using x0, by simpa using y0⟩) (fun hHeld => ?_)
  refine pure_ (i := 0) (N := some 44) (v := ?_) (a' := ?_) #[true, false, false, false, false, false, false, false, false, false, false, false, false, false, false, false, false, false, false, false, false] rfl rfl (by kernel_rfl) (fun _ _ _ h => h) (Or.inl ⟨by rfl, ?_⟩) ?_ ?_
  rotate_left
  · intro w'
    go_simp
    with_reducible rfl
  rotate_left
  · simp only [Act.put, List.setIfInBounds_toArray, List.set_cons_zero, List.set_cons_succ, i64_w, i32_w]
    rfl
  refine pure_ (i := 1) (N := some 45) (v := ?_) (a' := ?_) #[true, true, false, false, false, false, false, false, false, false, false, false, false, false, false, false, false, false, false, false, false] rfl rfl (by kernel_rfl) (fun _ _ _ h => h) (Or.inl ⟨by rfl, ?_⟩) ?_ ?_
  rotate_left
  · intro w'
    go_simp
    with_reducible rfl
  rotate_left
  · simp only [Act.put, List.setIfInBounds_toArray, List.set_cons_zero, List.set_cons_succ, i64_w, i32_w]
    rfl
  refine pure_ (i := 2) (N := some 46) (v := ?_) (a' := ?_) #[true, true, true, false, false, false, false, false, false, false, false, false, false, false, false, false, false, false, false, false, false] rfl rfl (by kernel_rfl) (fun _ _ _ h => h) (Or.inl ⟨by rfl, ?_⟩) ?_ ?_
  rotate_left
  · intro w'
    go_simp
    with_reducible rfl
  rotate_left
  · simp only [Act.put, List.setIfInBounds_toArray, List.set_cons_zero, List.set_cons_succ, i64_w, i32_w]
    rfl
  refine pure_ (i := 3) (N := some 47) (v := ?_) (a' := ?_) #[true, true, true, true, false, false, false, false, false, false, false, false, false, false, false, false, false, false, false, false, false] rfl rfl (by kernel_rfl) (fun _ _ _ h => h) (Or.inl ⟨by rfl, ?_⟩) ?_ ?_
  rotate_left
  · intro w'
    go_simp
    with_reducible rfl
  rotate_left
  · simp only [Act.put, List.setIfInBounds_toArray, List.set_cons_zero, List.set_cons_succ, i64_w, i32_w]
    rfl
  refine take_ (i := 4) (N := some 48) (v := ?_) (a' := ?_) #[true, true, true, true, true, false, false, false, false, false, false, false, false, false, false, false, false, false, false, false, false] rfl rfl (by kernel_rfl) (fun _ _ _ h => h) (Or.inl ⟨by rfl, ?_⟩) hHeld ?_ ?_
  rotate_left
  · rintro w' ⟨s0, s1, s2⟩
    go_simp
    with_reducible rfl
  rotate_left
  · simp only [Act.put, List.setIfInBounds_toArray, List.set_cons_zero, List.set_cons_succ, i64_w, i32_w]
    rfl
  refine pure_ (i := 5) (N := some 49) (v := ?_) (a' := ?_) #[true, true, true, true, true, true, false, false, false, false, false, false, false, false, false, false, false, false, false, false, false] rfl rfl (by kernel_rfl) (fun _ _ _ h => h) (Or.inl ⟨by rfl, ?_⟩) ?_ ?_
  rotate_left
  · intro w'
    go_simp
    with_reducible rfl
  rotate_left
  · simp only [Act.put, List.setIfInBounds_toArray, List.set_cons_zero, List.set_cons_succ, i64_w, i32_w]
    rfl
  refine pure_ (i := 6) (N := some 50) (v := ?_) (a' := ?_) #[true, true, true, true, true, true, true, false, false, false, false, false, false, false, false, false, false, false, false, false, false] rfl rfl (by kernel_rfl) (fun _ _ _ h => h) (Or.inl ⟨by rfl, ?_⟩) ?_ ?_
  rotate_left
  · intro w'
    go_simp
    try simp only [hq]
    with_reducible rfl
  rotate_left
  · simp only [Act.put, List.setIfInBounds_toArray, List.set_cons_zero, List.set_cons_succ, i64_w, i32_w]
    rfl
  refine pure_ (i := 7) (N := some 51) (v := ?_) (a' := ?_) #[true, true, true, true, true, true, true, true, false, false, false, false, false, false, false, false, false, false, false, false, false] rfl rfl (by kernel_rfl) (fun _ _ _ h => h) (Or.inl ⟨by rfl, ?_⟩) ?_ ?_
  rotate_left
  · intro w'
    go_simp
    with_reducible rfl
  rotate_left
  · simp only [Act.put, List.setIfInBounds_toArray, List.set_cons_zero, List.set_cons_succ, i64_w, i32_w]
    rfl
  refine pure_ (i := 8) (N := some 52) (v := ?_) (a' := ?_) #[true, true, true, true, true, true, true, true, true, false, false, false, false, false, false, false, false, false, false, false, false] rfl rfl (by kernel_rfl) (fun _ _ _ h => h) (Or.inl ⟨by rfl, ?_⟩) ?_ ?_
  rotate_left
  · intro w'
    go_simp
    with_reducible rfl
  rotate_left
  · simp only [Act.put, List.setIfInBounds_toArray, List.set_cons_zero, List.set_cons_succ, i64_w, i32_w]
    rfl
  refine pure_ (i := 9) (N := some 53) (v := ?_) (a' := ?_) #[true, true, true, true, true, true, true, true, true, true, false, false, false, false, false, false, false, false, false, false, false] rfl rfl (by kernel_rfl) (fun _ _ _ h => h) (Or.inl ⟨by rfl, ?_⟩) ?_ ?_
  rotate_left
  · intro w'
    go_simp
    with_reducible rfl
  rotate_left
  · simp only [Act.put, List.setIfInBounds_toArray, List.set_cons_zero, List.set_cons_succ, i64_w, i32_w]
    rfl
  refine pure_ (i := 10) (N := some 54) (v := ?_) (a' := ?_) #[true, true, true, true, true, true, true, true, true, true, true, false, false, false, false, false, false, false, false, false, false] rfl rfl (by kernel_rfl) (fun _ _ _ h => h) (Or.inl ⟨by rfl, ?_⟩) ?_ ?_
  rotate_left
  · intro w'
    go_simp
    with_reducible rfl
  rotate_left
  · simp only [Act.put, List.setIfInBounds_toArray, List.set_cons_zero, List.set_cons_succ, i64_w, i32_w]
    rfl
  refine take_ (i := 11) (N := some 55) (v := ?_) (a' := ?_) #[true, true, true, true, true, true, true, true, true, true, true, true, false, false, false, false, false, false, false, false, false] rfl rfl (by kernel_rfl) (fun _ _ _ h => h) (Or.inl ⟨by rfl, ?_⟩) hHeld ?_ ?_
  rotate_left
  · rintro w' ⟨s0, s1, s2⟩
    go_simp
    with_reducible rfl
  rotate_left
  · simp only [Act.put, List.setIfInBounds_toArray, List.set_cons_zero, List.set_cons_succ, i64_w, i32_w]
    rfl
  refine pure_ (i := 12) (N := some 56) (v := ?_) (a' := ?_) #[true, true, true, true, true, true, true, true, true, true, true, true, true, false, false, false, false, false, false, false, false] rfl rfl (by kernel_rfl) (fun _ _ _ h => h) (Or.inl ⟨by rfl, ?_⟩) ?_ ?_
  rotate_left
  · intro w'
    go_simp
    with_reducible rfl
  rotate_left
  · simp only [Act.put, List.setIfInBounds_toArray, List.set_cons_zero, List.set_cons_succ, i64_w, i32_w]
    rfl
  refine pure_ (i := 13) (N := some 57) (v := ?_) (a' := ?_) #[true, true, true, true, true, true, true, true, true, true, true, true, true, true, false, false, false, false, false, false, false] rfl rfl (by kernel_rfl) (fun _ _ _ h => h) (Or.inl ⟨by rfl, ?_⟩) ?_ ?_
  rotate_left
  · intro w'
    go_simp
    with_reducible rfl
  rotate_left
  · simp only [Act.put, List.setIfInBounds_toArray, List.set_cons_zero, List.set_cons_succ, i64_w, i32_w]
    rfl
  refine pure_ (i := 14) (N := some 58) (v := ?_) (a' := ?_) #[true, true, true, true, true, true, true, true, true, true, true, true, true, true, true, false, false, false, false, false, false] rfl rfl (by kernel_rfl) (fun _ _ _ h => h) (Or.inl ⟨by rfl, ?_⟩) ?_ ?_
  rotate_left
  · intro w'
    go_simp
    with_reducible rfl
  rotate_left
  · simp only [Act.put, List.setIfInBounds_toArray, List.set_cons_zero, List.set_cons_succ, i64_w, i32_w]
    rfl
  refine take_ (i := 15) (N := some 59) (v := ?_) (a' := ?_) #[true, true, true, true, true, true, true, true, true, true, true, true, true, true, true, true, false, false, false, false, false] rfl rfl (by kernel_rfl) (fun _ _ _ h => h) (Or.inl ⟨by rfl, ?_⟩) hHeld ?_ ?_
  rotate_left
  · rintro w' ⟨s0, s1, s2⟩
    go_simp
    with_reducible rfl
  rotate_left
  · simp only [Act.put, List.setIfInBounds_toArray, List.set_cons_zero, List.set_cons_succ, i64_w, i32_w]
    rfl
  refine pure_ (i := 16) (N := some 60) (v := ?_) (a' := ?_) #[true, true, true, true, true, true, true, true, true, true, true, true, true, true, true, true, true, false, false, false, false] rfl rfl (by kernel_rfl) (fun _ _ _ h => h) (Or.inl ⟨by rfl, ?_⟩) ?_ ?_
  rotate_left
  · intro w'
    go_simp
    with_reducible rfl
  rotate_left
  · simp only [Act.put, List.setIfInBounds_toArray, List.set_cons_zero, List.set_cons_succ, i64_w, i32_w]
    rfl
  refine pure_ (i := 17) (N := some 61) (v := ?_) (a' := ?_) #[true, true, true, true, true, true, true, true, true, true, true, true, true, true, true, true, true, true, false, false, false] rfl rfl (by kernel_rfl) (fun _ _ _ h => h) (Or.inl ⟨by rfl, ?_⟩) ?_ ?_
  rotate_left
  · intro w'
    go_simp
    with_reducible rfl
  rotate_left
  · simp only [Act.put, List.setIfInBounds_toArray, List.set_cons_zero, List.set_cons_succ, i64_w, i32_w]
    rfl
  refine pure_ (i := 18) (N := some 62) (v := ?_) (a' := ?_) #[true, true, true, true, true, true, true, true, true, true, true, true, true, true, true, true, true, true, true, false, false] rfl rfl (by kernel_rfl) (fun _ _ _ h => h) (Or.inl ⟨by rfl, ?_⟩) ?_ ?_
  rotate_left
  · intro w'
    go_simp
    with_reducible rfl
  rotate_left
  · simp only [Act.put, List.setIfInBounds_toArray, List.set_cons_zero, List.set_cons_succ, i64_w, i32_w]
    rfl
  refine pure_ (i := 19) (N := some 63) (v := ?_) (a' := ?_) #[true, true, true, true, true, true, true, true, true, true, true, true, true, true, true, true, true, true, true, true, false] rfl rfl (by kernel_rfl) (fun _ _ _ h => h) (Or.inl ⟨by rfl, ?_⟩) ?_ ?_
  rotate_left
  · intro w'
    go_simp
    with_reducible rfl
  rotate_left
  · simp only [Act.put, List.setIfInBounds_toArray, List.set_cons_zero, List.set_cons_succ, i64_w, i32_w]
    rfl
  refine last_ (i := 20) (N := none) #[true, true, true, true, true, true, true, true, true, true, true, true, true, true, true, true, true, true, true, true, true] rfl rfl (by kernel_rfl) (by decide) (fun K hK => ?_)
  refine skip_ (w1 := ?_) (by rfl) rfl ?_ ?_
  rotate_left
  · go_simp
    rfl
  refine hK.out _ _ ?_
  clear hK K
  refine done_ (by kernel_rfl) ?_
  go_wp2
  go_end0
  have hgz2 : g ≠ gz := by have := HF.out.2.2.2; have := HZ.out.2.2.2.2.1; omega
  exact ⟨rfl, g, HF.out.2.2.2, ⟨⟨_, (HB2.out.put0 _).drew, (HF.out.2.1.kept (P := fun k => k = gz) (KeptP.set (P := fun k => k = gz) (KeptP.refl W2 _) ⟨gz, 0, none⟩ (.inl rfl) (.bool false)) hgz2).drew⟩, (HF.out.1.set _ _).drew⟩, (KeptP.set (P := fun k => k = gz) HF.out.2.2.1 ⟨gz, 0, none⟩ (.inl rfl) (.bool false)).drew⟩
set_option maxHeartbeats 1000000 in
theorem IMul_new (gz gx ax gy ay n y : Nat) (w : World) (hz : Box w gz [.bool false, .slice none 0 0]) (hzb : Blk w gz) (hx : Zi w gx ax false n) (hy : Zi w gy ay false y) (hxy : gx ≠ gy) (hzx : gz ≠ gx) (hzy : gz ≠ gy) (h0 : n ≠ 0) (hy0 : 0 < y) (hy1 : y < 18446744073709551616) (hn : (W64.digs n).length ≤ 800) :
    Calls Tryz.prog 22 #[.pointer (some ⟨gz, 0, none⟩), .pointer (some ⟨gx, 0, none⟩), .pointer (some ⟨gy, 0, none⟩)] w fun e w' => e = .returned (.pointer (some ⟨gz, 0, none⟩)) ∧ ∃ az, w.heap.size ≤ az ∧ Zi w' gz az false (n * y) ∧ KeptP w w' (fun k => k = gz) := by
  have HM := Aside0.mk (imul_new gz gx ax gy ay n y w hz hzb hx hy hxy hzx hzy h0 hy0 hy1 hn)
  clear hz hzb hx hy hxy hzx hzy h0 hy0 hy1 hn
  go_enter Tryz.func22, Tryz.ntmps22
  go_wp2_with (go_at_call 47; (with_reducible refine HM.out.mono ?_); rintro e w1 ⟨rfl, h⟩; have HH := Aside0.mk h; clear h)
  go_ret
  exact ⟨rfl, HH.out⟩
end Go.Proofs.YteohmbannpbokaaGreatDoor.WordWalk

set_option linter.unusedVariables false
set_option linter.unusedSimpArgs false
namespace Go.Proofs.YteohmbannpbokaaGreatDoor.WordWalk
open Go.RowKit Go.Proofs.YteohmbannpbokaaGreatDoorW.PrintWords Go.Proofs.YteohmbannpbokaaGreatDoorW.PrintLast Go.Proofs.YteohmbannpbokaaGreatDoorW.PrintMore Go.Proofs.YteohmbannpbokaaGreatDoor.SpecWalk Go.Proofs.YteohmbannpbokaaGreatDoor.BigWalk

/-- A new number, with all that is old kept. -/
structure Fresh (w0 w : World) (g n : Nat) : Prop where
  mk :: (out : ∃ ga, Zi w g ga false n) (lo : w0.heap.size ≤ g) (bel : Below w0.heap.size w0 w)
theorem below_then {w0 w w1 : World} (h : Below w0.heap.size w0 w) (k : Below w.heap.size w w1) : Below w0.heap.size w0 w1 :=
  ⟨k.os.trans h.os, k.tape.trans h.tape, k.output.trans h.output, Nat.le_trans h.size k.size, fun i hi => (k.block i (Nat.lt_of_lt_of_le hi h.size)).trans (h.block i hi)⟩
theorem mul_ten_fresh (w wr w5 : World) (g g2 ga2 n : Nat) (hF : Fresh w wr g n)
    (hN : Box (wr.alloc (.cells #[.bool false, .slice none 0 0] 59)) wr.heap.size [.bool false, .slice none 0 0] ∧ Blk (wr.alloc (.cells #[.bool false, .slice none 0 0] 59)) wr.heap.size ∧ Below wr.heap.size wr (wr.alloc (.cells #[.bool false, .slice none 0 0] 59)))
    (h1 : wr.heap.size + 1 ≤ g2) (h2 : wr.heap.size + 1 ≤ ga2) (h3 : Zi w5 g2 ga2 false 10) (h4 : Below (wr.heap.size + 1) (wr.alloc (.cells #[.bool false, .slice none 0 0] 59)) w5) (h0 : n ≠ 0) (hn : (W64.digs n).length ≤ 800) :
    Calls Tryz.prog 22 #[.pointer (some ⟨wr.heap.size, 0, none⟩), .pointer (some ⟨g, 0, none⟩), .pointer (some ⟨g2, 0, none⟩)] w5 fun e w' => e = .returned (.pointer (some ⟨wr.heap.size, 0, none⟩)) ∧ Fresh w w' wr.heap.size (n * 10) := by
  obtain ⟨hb, hk, hA⟩ := hN
  obtain ⟨ga, hzi⟩ := hF.out
  have hsz : (wr.alloc (.cells #[.bool false, .slice none 0 0] 59)).heap.size = wr.heap.size + 1 := by simp
  rw [← hsz] at h4
  have hgl : g < wr.heap.size := hzi.blk.lt
  have hr5 : Below wr.heap.size wr w5 := below_then hA h4
  have hz5 := hzi.below hr5
  refine (IMul_new wr.heap.size g ga g2 ga2 n 10 w5 (hb.below h4) (hk.below h4) hz5 h3 (by omega) (by omega) (by omega) h0 (by decide) (by decide) hn).mono ?_
  rintro e w6 ⟨rfl, az, ha, hz6, hkp⟩
  refine ⟨rfl, ⟨az, hz6⟩, hF.bel.size, ?_⟩
  exact below_keptP (below_then hF.bel hr5) hkp (fun k hk => by rw [show k = wr.heap.size from hk]; exact hF.bel.size) (Nat.le_trans hF.bel.size hr5.size)
set_option maxHeartbeats 4000000 in
set_option maxRecDepth 100000 in
theorem pow10Table_n (n : Nat) (w : World) (hn : n < 128) :
    Calls Tryz.prog 81 #[.int .i64 n] w fun e w' => ∃ g, e = .returned (.pointer (some ⟨g, 0, none⟩)) ∧ Fresh w w' g (10 ^ n) := by
  have HN := Aside0.mk (NewInt_zi 1 w (by decide) (by decide))
  have e1 : ((1 : Nat) : Int) = 1 := rfl
  rw [e1] at HN
  have HT := Aside0.mk (fun w => tenInt_n w)
  have hni : (n : Int) < 128 := by omega
  have hn0 : ¬ ((n : Int) < 0) := by omega
  clear e1 hn
  go_enter Tryz.func81, Tryz.ntmps81
  go_wp2_with (go_at_call 23; (with_reducible refine HN.out.mono ?_); rintro e w1 ⟨g, ga, rfl, h1, h2, h3, h4⟩; have HF := Aside0.mk (Fresh.mk ⟨ga, h3⟩ h1 h4); clear h1 h2 h3 h4)
  clear HN
  go_loopg [3, 4] (n + 1) (fun gg v3 v4 w' => ∃ (i g : Nat), v3 = .pointer (some ⟨g, 0, none⟩) ∧ v4 = .int .i64 ((i : Int) + 1) ∧ Aside0 (i + gg = n + 1 ∧ i ≤ n) ∧ Aside0 (Fresh w w' g (10 ^ i)))
  case atStart => exact ⟨0, g, rfl, rfl, ⟨by omega, by omega⟩, HF⟩
  case round =>
    clear HF
    obtain ⟨i, g, rfl, rfl, HI, HF⟩ := hrel
    by_cases hi : (i : Int) + 1 ≤ (n : Int)
    · have hi0 : (i : Int) < 128 := by omega
      have hA : Below wr.heap.size wr (wr.alloc (.cells #[.bool false, .slice none 0 0] 59)) := (Below.refl _ _).alloc (Nat.le_refl _) _
      have HNB := Aside0.mk (And.intro (Box.new2 wr wr.heap.size (.bool false) (.slice none 0 0) 59 rfl) (And.intro (Blk.new wr #[.bool false, .slice none 0 0] 59 wr.heap.size rfl) hA))
      have HTA := Aside0.mk (tenInt_n (wr.alloc (.cells #[.bool false, .slice none 0 0] 59)))
      have hsz : (wr.alloc (.cells #[.bool false, .slice none 0 0] 59)).heap.size = wr.heap.size + 1 := by simp
      rw [hsz] at HTA
      clear hA
      go_wp2_with (first | (go_at_call 83; (with_reducible refine HTA.out.mono ?_); rintro e w5 ⟨g2, ga2, rfl, h1, h2, h3, h4⟩; have HIM := Aside0.mk (mul_ten_fresh w wr w5 g g2 ga2 (10 ^ i) HF.out HNB.out h1 h2 h3 h4 (ten_ne i) (Nat.le_trans (ten_len2 (by omega)) (by decide))); clear h1 h2 h3 h4) | (go_at_call 22; (with_reducible refine HIM.out.mono ?_); rintro e w6 ⟨rfl, h⟩; have HH := Aside0.mk h; clear h))
      go_roundg (gk - 1)
      case measure => have := HI.out; omega
      case rel => exact ⟨i + 1, wr.heap.size, rfl, by simp, ⟨by have := HI.out; omega, by omega⟩, ⟨by rw [Nat.pow_succ]; exact HH.out⟩⟩
    · have hin : i = n := by have := HI.out; have := hi; omega
      subst hin
      go_wp2
      go_ret
      exact ⟨g, rfl, HF.out⟩
set_option maxHeartbeats 4000000 in
set_option maxRecDepth 100000 in
/-- Ten to the power of a number of a word, by squares. -/
theorem exp_n (gz gx ax gy ay N : Nat) (w : World) (hz : Box w gz [.bool false, .slice none 0 0]) (hzb : Blk w gz) (hx : Zi w gx ax false 10) (hy : Zi w gy ay false N) (hzx : gz ≠ gx) (hzy : gz ≠ gy) (hN0 : 2 ≤ N) (hN : N ≤ 800) (hT : Thr w) (h3 : 3 ≤ w.heap.size) :
    Calls Tryz.prog 106 #[.pointer (some ⟨gz, 0, none⟩), .pointer (some ⟨gx, 0, none⟩), .pointer (some ⟨gy, 0, none⟩), .pointer none, .bool false] w fun e w' => e = .returned (.pointer (some ⟨gz, 0, none⟩)) ∧ ∃ az, Zi w' gz az false (10 ^ N) ∧ KeptP w w' (fun k => k = gz) := by
  obtain ⟨xv, hxb, hxn⟩ := hx.out
  obtain ⟨yv, hyb, hyn⟩ := hy.out
  have HE := Aside0.mk (expNN_n N ax ay xv yv w hxn hyn hN0 hN hT h3)
  have hzlt : gz < w.heap.size := World.block_lt_of_cell? w _ hz.c0
  have cz0 := hz.c0; have cz1 := hz.c1; have fz0 := hz.f0; have fz1 := hz.f1
  have cx0 := hxb.c0; have cx1 := hxb.c1; have cy0 := hyb.c0; have cy1 := hyb.c1
  have hpn : 0 < (W64.digs (10 ^ N)).length := W64.len_pos (ten_ne N)
  obtain ⟨xc, rfl, hxc1, hxc2, hxc3, _⟩ := hxn.words
  obtain ⟨yc, rfl, hyc1, hyc2, hyc3, _⟩ := hyn.words
  have HZ := Aside0.mk (And.intro hz (And.intro hzb (And.intro hzx (And.intro hzy (And.intro hzlt hpn)))))
  have HBX := Aside0.mk hxb
  clear hz hzb hx hy hzx hzy hN0 hN hT h3 hxn hyn hxb hyb hzlt hpn
  go_enter Tryz.func106, Tryz.ntmps106
  go_wp2_with (go_at_call 125; (with_reducible refine HE.out.mono ?_); rintro en w1 ⟨u, g, rfl, h1, h2, h3⟩; have hbz := HZ.out.1.below h3; have c1' := hbz.c1; have f1' := hbz.f1; have c0' := hbz.c0; have f0' := hbz.f0; have hbx := HBX.out.below h3; have x0' := hbx.c0; have HU := Aside0.mk (And.intro h1 (And.intro h2 h3)); obtain ⟨uc, rfl, hu1, hu2, hu3, hu4⟩ := h2.words; clear h1 h2 h3)
  all_goals
    go_ret
    have hgz : g ≠ gz := by have := HU.out.1; have := HZ.out.2.2.2.2.1; omega
    exact ⟨rfl, g, ⟨⟨_, hbz.put21b _ _, (HU.out.2.1.kept (P := fun k => k = gz) (KeptP.set (P := fun k => k = gz) (KeptP.set (P := fun k => k = gz) (KeptP.refl w1 _) ⟨gz, 1, none⟩ (.inl rfl) _) ⟨gz, 0, none⟩ (.inl rfl) _) hgz)⟩, ((HZ.out.2.1.below HU.out.2.2).set _ _).set _ _⟩, KeptP.set (P := fun k => k = gz) (KeptP.set (P := fun k => k = gz) (KeptP.ofBelow HU.out.2.2) ⟨gz, 1, none⟩ (.inl rfl) _) ⟨gz, 0, none⟩ (.inl rfl) _⟩
set_option maxHeartbeats 1000000 in
theorem Exp_n (gz gx ax gy ay N : Nat) (w : World) (hz : Box w gz [.bool false, .slice none 0 0]) (hzb : Blk w gz) (hx : Zi w gx ax false 10) (hy : Zi w gy ay false N) (hzx : gz ≠ gx) (hzy : gz ≠ gy) (hN0 : 2 ≤ N) (hN : N ≤ 800) (hT : Thr w) (h3 : 3 ≤ w.heap.size) :
    Calls Tryz.prog 82 #[.pointer (some ⟨gz, 0, none⟩), .pointer (some ⟨gx, 0, none⟩), .pointer (some ⟨gy, 0, none⟩), .pointer none] w fun e w' => e = .returned (.pointer (some ⟨gz, 0, none⟩)) ∧ ∃ az, Zi w' gz az false (10 ^ N) ∧ KeptP w w' (fun k => k = gz) := by
  have HM := Aside0.mk (exp_n gz gx ax gy ay N w hz hzb hx hy hzx hzy hN0 hN hT h3)
  clear hz hzb hx hy hzx hzy hN0 hN hT h3
  go_enter Tryz.func82, Tryz.ntmps82
  go_wp2_with (go_at_call 106; (with_reducible refine HM.out.mono ?_); rintro e w1 ⟨rfl, h⟩; have HH := Aside0.mk h; clear h)
  go_ret
  exact ⟨rfl, HH.out⟩
theorem exp_fresh (w w0 w5 w6 : World) (g2 a2 g3 a3 N : Nat) (hw0 : w0 = w.alloc (.cells #[.bool false, .slice none 0 0] 59))
    (h1 : w.heap.size + 1 ≤ g2) (h3 : Zi w5 g2 a2 false 10) (h4 : Below w0.heap.size w0 w5) (k1 : w5.heap.size ≤ g3) (k3 : Zi w6 g3 a3 false N) (k4 : Below w5.heap.size w5 w6) (hN0 : 2 ≤ N) (hN : N ≤ 800) (hT : Thr w) (hw3 : 3 ≤ w.heap.size) :
    Calls Tryz.prog 82 #[.pointer (some ⟨w.heap.size, 0, none⟩), .pointer (some ⟨g2, 0, none⟩), .pointer (some ⟨g3, 0, none⟩), .pointer none] w6 fun e w' => ∃ g, e = .returned (.pointer (some ⟨g, 0, none⟩)) ∧ Fresh w w' g (10 ^ N) := by
  subst hw0
  have hA : Below w.heap.size w (w.alloc (.cells #[.bool false, .slice none 0 0] 59)) := (Below.refl _ _).alloc (Nat.le_refl _) _
  have hb0 := Box.new2 w w.heap.size (.bool false) (.slice none 0 0) 59 rfl
  have hk0 := Blk.new w #[.bool false, .slice none 0 0] 59 w.heap.size rfl
  have hsz : (w.alloc (.cells #[.bool false, .slice none 0 0] 59)).heap.size = w.heap.size + 1 := by simp
  have h46 := below_then h4 k4
  have hw6 : Below w.heap.size w w6 := below_then hA h46
  have s5 := h4.size
  have g2l := h3.blk.lt
  refine (Exp_n w.heap.size g2 a2 g3 a3 N w6 (hb0.below h46) (hk0.below h46) (h3.below k4) k3 (by omega) (by omega) hN0 hN (hT.kept (P := fun _ => False) (KeptP.ofBelow hw6) (fun _ h => h.elim)) (by have := hw6.size; omega)).mono ?_
  rintro e w7 ⟨rfl, az, hz, hk⟩
  exact ⟨_, rfl, ⟨az, hz⟩, Nat.le_refl _, below_keptP hw6 hk (fun k hk => by rw [show k = w.heap.size from hk]; exact Nat.le_refl _) hw6.size⟩
set_option maxHeartbeats 4000000 in
set_option maxRecDepth 100000 in
/-- Ten to the power of a number. -/
theorem pow10b_n (n : Nat) (w : World) (hn : n ≤ 800) (hT : Thr w) (h3 : 3 ≤ w.heap.size) :
    Calls Tryz.prog 60 #[.int .i64 n] w fun e w' => ∃ g, e = .returned (.pointer (some ⟨g, 0, none⟩)) ∧ Fresh w w' g (10 ^ n) := by
  by_cases hs : n < 128
  · have HT := Aside0.mk (pow10Table_n n w hs)
    have hni : (n : Int) < 128 := by omega
    clear hs hn hT h3
    go_enter Tryz.func60, Tryz.ntmps60
    go_wp2_with (go_at_call 81; (with_reducible refine HT.out.mono ?_); rintro e w1 ⟨g, rfl, h⟩; have HH := Aside0.mk h; clear h)
    go_ret
    exact ⟨g, rfl, HH.out⟩
  · have HTA := Aside0.mk (tenInt_n (w.alloc (.cells #[.bool false, .slice none 0 0] 59)))
    have HNI := Aside0.mk (fun w => NewInt_zi n w (by omega) (by omega))
    have hni : ¬ (n : Int) < 128 := by omega
    have HC := Aside0.mk (fun w5 w6 g2 a2 g3 a3 h1 h3' h4 k1 k3 k4 => exp_fresh w _ w5 w6 g2 a2 g3 a3 n rfl h1 h3' h4 k1 k3 k4 (by omega) hn hT h3)
    have hsz : (w.alloc (.cells #[.bool false, .slice none 0 0] 59)).heap.size = w.heap.size + 1 := by simp
    have HSZ := Aside0.mk hsz
    clear hs hn hT h3 hsz
    go_enter Tryz.func60, Tryz.ntmps60
    go_wp2_with (first | (go_at_call 83; (with_reducible refine HTA.out.mono ?_); rintro e w5 ⟨g2, ga2, rfl, h1, h2, h3, h4⟩; have HA := Aside0.mk (And.intro (HSZ.out ▸ h1) (And.intro h3 h4)); clear h1 h2 h3 h4) | (go_at_call 23; (with_reducible refine (HNI.out _).mono ?_); rintro e w6 ⟨g3, ga3, rfl, h1, h2, h3, h4⟩; have HB := Aside0.mk (And.intro h1 (And.intro h3 h4)); clear h1 h2 h3 h4) | (go_at_call 82; (with_reducible refine (HC.out w5 w6 g2 ga2 g3 ga3 HA.out.1 HA.out.2.1 HA.out.2.2 HB.out.1 HB.out.2.1 HB.out.2.2).mono ?_); rintro e w7 ⟨g, rfl, h⟩; have HH := Aside0.mk h; clear h))
    go_ret
    exact ⟨g, rfl, HH.out⟩
theorem ZzPow10_n (n : Nat) (w : World) (hn : n ≤ 800) (hT : Thr w) (h3 : 3 ≤ w.heap.size) :
    Calls Tryz.prog 35 #[.int .i64 n] w fun e w' => ∃ g, e = .returned (.pointer (some ⟨g, 0, none⟩)) ∧ Fresh w w' g (10 ^ n) := by
  have HM := Aside0.mk (pow10b_n n w hn hT h3)
  clear hn hT h3
  go_enter Tryz.func35, Tryz.ntmps35
  go_wp2_with (go_at_call 60; (with_reducible refine HM.out.mono ?_); rintro e w1 ⟨g, rfl, h⟩; have HH := Aside0.mk h; clear h)
  go_ret
  exact ⟨g, rfl, HH.out⟩
end Go.Proofs.YteohmbannpbokaaGreatDoor.WordWalk
