/-
  The package's whole numbers of any length: normal form, copies, signs.
-/
import Derived.Test.YteohmbannpbokaaBigWalk1
import Derived.Outline
set_option linter.unusedVariables false
set_option linter.unusedSimpArgs false
namespace Go.Proofs.Yteohmbannpbokaa.BigWalk
open Go.RowKit Go.Proofs.YteohmbannpbokaaW.PrintWords Go.Proofs.YteohmbannpbokaaW.PrintLast Go.Proofs.YteohmbannpbokaaW.PrintMore Go.Proofs.Yteohmbannpbokaa.SpecWalk

/-- How far down the words are cut: what is above is 0. -/
structure Cut (l : List Int) (n : Nat) (t : Int) : Prop where
  mk :: (out : ∃ k : Nat, t = k ∧ k ≤ l.length ∧ W64.val (l.take k) = n)
theorem Cut.start {l : List Int} {n : Nat} (h : W64.val l = n) : Cut l n l.length := ⟨l.length, rfl, Nat.le_refl _, by rw [List.take_length]; exact h⟩
theorem Cut.bound {l : List Int} {n : Nat} {t : Int} (h : Cut l n t) : 0 ≤ t ∧ t ≤ l.length := by
  obtain ⟨k, rfl, h1, _⟩ := h
  omega
theorem Cut.step {l : List Int} {n : Nat} {t : Int} (h : Cut l n t) (h0 : 0 < t) (hz : rd l (t - 1) = 0) : Cut l n (t - 1) := by
  obtain ⟨k, rfl, h1, h2⟩ := h
  obtain ⟨m, rfl⟩ : ∃ m, k = m + 1 := ⟨k - 1, by omega⟩
  rw [show ((m + 1 : Nat) : Int) - 1 = (m : Int) by omega] at hz ⊢
  refine ⟨m, rfl, by omega, ?_⟩
  rw [W64.val_take_succ (by omega), hz] at h2
  omega
theorem Cut.done {l : List Int} {n : Nat} {t : Int} (h : Cut l n t) (hd : W64.Dig l) (hz : ¬ (0 < t ∧ rd l (t - 1) = 0)) : l.take t.toNat = W64.digs n ∧ (W64.digs n).length = t.toNat := by
  obtain ⟨k, rfl, h1, h2⟩ := h
  rw [Int.toNat_natCast]
  have htop : W64.Top (l.take k) := by
    intro hne hl
    apply hz
    have hk : 0 < k := by
      apply Classical.byContradiction
      intro h0
      obtain rfl : k = 0 := by omega
      exact hne rfl
    refine ⟨by omega, ?_⟩
    obtain ⟨m, rfl⟩ : ∃ m, k = m + 1 := ⟨k - 1, by omega⟩
    rw [show ((m + 1 : Nat) : Int) - 1 = (m : Int) by omega]
    rw [← hl, W64.rd_lt (by omega), List.getLast_eq_getElem]
    simp only [List.length_take, List.getElem_take]
    congr 1
    omega
  have he := W64.canon (hd.take k) htop h2
  refine ⟨he, ?_⟩
  rw [← he, List.length_take]
  omega
theorem cut_V {w : World} {ok : Nat → Prop} {A : Option Addr} {c n k : Nat} {l : List Int} (he : l.take k = W64.digs n ∧ (W64.digs n).length = k) (hk : k ≤ l.length) (hc : l.length ≤ c) (hF : Kd.F (Kd.int .u64) w ok A l.length l) : Wdv w ok (.slice A k c) n := by
  have h := Kd.F_take hF hk
  rw [he.1] at h
  refine ⟨A, c, by rw [he.2], by omega, h⟩
set_option maxHeartbeats 1000000 in
theorem norm_n (l : List Int) (n : Nat) (hd : W64.Dig l) (hl : l.length ≤ 100000) (hn : W64.val l = n) (ok : Nat → Prop) (v : Value) (w : World) (hv : Kd.V (Kd.int .u64) 0 w 0 ok v l) :
    Calls Try.prog 60 #[v] w fun e w' => ∃ u, e = .returned u ∧ Wdv w' ok u n ∧ w' = w := by
  obtain ⟨A, c, rfl⟩ := Kd.V_slice hv
  obtain ⟨_, hlc, hF⟩ := Kd.V_at hv
  have HC := Aside0.mk (Kd.F_now hF)
  have HST := Cut.start hn
  have HD := Aside0.mk hd
  have HF := Aside0.mk hF
  have HLC := Aside0.mk hlc
  have hli : (l.length : Int) ≤ 100000 := by omega
  clear hd hl hn hv hF hlc
  go_enter Try.func60, Try.ntmps60
  go_wp2
  go_loopg [3] l.length (fun g v3 w' => ∃ t : Int, v3 = .int .i64 t ∧ Cut l n t ∧ Aside0 (t = g) ∧ w' = w)
  case atStart => exact ⟨l.length, rfl, HST, ⟨rfl⟩, rfl⟩
  case round =>
    obtain ⟨t, rfl, HI, HG, rfl⟩ := hrel
    obtain ⟨t0, t1⟩ := HI.bound
    by_cases hpos : 0 < t
    · obtain ⟨ad, e0, hx⟩ := Kd.at_int HC.out (t - 1) (by omega) (by omega)
      cases e0
      rw [show (t - 1).toNat = t.toNat - 1 by omega] at hx
      have h1 : 1 ≤ t := by omega
      by_cases hz : rd l (t - 1) = 0
      · have HS := Aside0.mk (HI.step hpos hz)
        rw [hz] at hx
        clear HI hz
        go_wp2
        go_roundg (gk - 1)
        case measure => have := HG.out; omega
        case rel => exact ⟨t - 1, rfl, HS.out, ⟨by have := HG.out; omega⟩, rfl⟩
      · have HE := Aside0.mk (HI.done HD.out (fun h => hz h.2))
        have hz2 : (rd l (t - 1) == 0) = false := beq_eq_false_iff_ne.mpr hz
        generalize rd l (t - 1) = X at *
        have HT := Aside0.mk (And.intro t0 t1)
        have htc : t ≤ (c : Int) := by have := HLC.out; omega
        clear HI hz
        go_wp2
        go_ret
        exact ⟨_, rfl, cut_V HE.out (by have := HT.out; omega) HLC.out HF.out, rfl⟩
    · have HE := Aside0.mk (HI.done HD.out (fun h => hpos h.1))
      obtain rfl : t = 0 := by omega
      clear HI
      go_wp2
      go_ret
      exact ⟨_, rfl, cut_V HE.out (by omega) HLC.out HF.out, rfl⟩

theorem Wdv.far2 {w : World} {ok : Nat → Prop} {v : Value} {n g : Nat} (h : Wdv w ok v n) (ho : ∀ k, ok k → k ≠ g) (j k : Nat) (x y : Value) : Wdv ((w.setCell ⟨g, j, none⟩ x).setCell ⟨g, k, none⟩ y) ok v n :=
  (h.far (p := ⟨g, j, none⟩) ho x).far (p := ⟨g, k, none⟩) ho y
theorem Box.put21 {w : World} {g : Nat} {x y : Value} (h : Box w g [x, y]) (a b : Value) : Box ((w.setCell ⟨g, 1, none⟩ b).setCell ⟨g, 0, none⟩ a) g [a, b] := by
  have h0 := h.c0; have h1 := h.c1
  have k0 := h.f0; have k1 := h.f1
  refine Box.mk2 ?_ ?_ ?_ ?_ <;> simp [go_sem, h0, h1, k0, k1]
theorem Box.put1 {w : World} {g : Nat} {x y : Value} (h : Box w g [x, y]) (b : Value) : Box (w.setCell ⟨g, 1, none⟩ b) g [x, b] := by
  have h0 := h.c0; have h1 := h.c1
  have k0 := h.f0; have k1 := h.f1
  refine Box.mk2 ?_ ?_ ?_ ?_ <;> simp [go_sem, h0, h1, k0, k1]
theorem Box.put0 {w : World} {g : Nat} {x y : Value} (h : Box w g [x, y]) (a : Value) : Box (w.setCell ⟨g, 0, none⟩ a) g [a, y] := by
  have h0 := h.c0; have h1 := h.c1
  have k0 := h.f0; have k1 := h.f1
  refine Box.mk2 ?_ ?_ ?_ ?_ <;> simp [go_sem, h0, h1, k0, k1]
theorem run_ne (w : World) {g g2 : Nat} (hne : g ≠ g2) (h1 : Blk w g) (h2 : Blk w g2) : (binOp .neq 42 (.pointer (some ⟨g, 0, none⟩)) (.pointer (some ⟨g2, 0, none⟩))).run Try.prog w = .ok (.bool true) w := by
  obtain ⟨j, hj, hs⟩ := Option.map_eq_some_iff.1 (show (Try.prog.info? 66).map (·.size) = some 2 by kernel_rfl)
  exact run_neq_ptr_other w Try.underlying42 hj (by rw [hs]; decide) (by simp [hne]) h1 h2
set_option maxHeartbeats 4000000 in
/-- A new number is set to another one. -/
theorem ISet_n (g g2 : Nat) (b : Bool) (n : Nat) (ok : Nat → Prop) (w : World) (hz : Box w g [.bool false, .slice none 0 0]) (hzb : Blk w g) (h : Big w ok g2 b n) (hne : g ≠ g2) (hn : (W64.digs n).length ≤ 100000) :
    Calls Try.prog 43 #[.pointer (some ⟨g, 0, none⟩), .pointer (some ⟨g2, 0, none⟩)] w fun e w' => ∃ wm v, e = .returned (.pointer (some ⟨g, 0, none⟩)) ∧ w' = (wm.setCell ⟨g, 1, none⟩ v).setCell ⟨g, 0, none⟩ (.bool b) ∧ Wdv wm (fun k => w.heap.size ≤ k) v n ∧ Below w.heap.size w wm := by
  obtain ⟨v, hx, hv⟩ := h.out
  obtain ⟨A, c, rfl, _, _⟩ := hv.form
  have HS := Aside0.mk (fun w hv => set_n n ok (.slice A (W64.digs n).length c) w hv hn)
  have hneq := run_ne w hne hzb h.blk
  have hne2 := hne
  have HV := Aside0.mk hv
  clear hn h hv hne
  generalize (W64.digs n).length = l at *
  go_enter Try.func43, Try.ntmps43
  go_wp2_with fail
  have zx0 := hz.drew
  have xx0 := hx.drew
  have hB0 := (Below.refl w.heap.size w).drew
  have HV0 := Aside0.mk HV.out.drew
  have hlg := hzb.lt
  have hlg2 := World.block_lt_of_cell? w _ hx.c0
  simp at hlg2
  refine start_ (n := 13) (S := fun w' => w'.cell? ⟨g, 0, none⟩ = some (.bool false) ∧ w'.cell? ⟨g, 1, none⟩ = some (.slice none 0 0) ∧ w'.cell? ⟨g2, 0, none⟩ = some (.bool b) ∧ w'.cell? ⟨g2, 1, none⟩ = some (.slice A l c)) (ds := [12]) #[false, false, false, false, false, false, false, false, false, false, false, false, false] (by kernel_rfl) rfl rfl ⟨zx0.c0, zx0.c1, xx0.c0, xx0.c1⟩ (fun hHeld => ?_)
  refine pure_ (i := 0) (N := some 8) (v := ?_) (a' := ?_) #[true, false, false, false, false, false, false, false, false, false, false, false, false] rfl rfl (by kernel_rfl) (fun _ _ _ h => h) (Or.inl ⟨by rfl, ?_⟩) ?_ ?_
  rotate_left
  · intro w'
    go_simp
    with_reducible rfl
  rotate_left
  · simp only [Act.put, List.setIfInBounds_toArray, List.set_cons_zero, List.set_cons_succ, i64_w, i32_w]
    rfl
  refine pure_ (i := 1) (N := some 9) (v := ?_) (a' := ?_) #[true, true, false, false, false, false, false, false, false, false, false, false, false] rfl rfl (by kernel_rfl) (fun _ _ _ h => h) (Or.inl ⟨by rfl, ?_⟩) ?_ ?_
  rotate_left
  · intro w'
    go_simp
    with_reducible rfl
  rotate_left
  · simp only [Act.put, List.setIfInBounds_toArray, List.set_cons_zero, List.set_cons_succ, i64_w, i32_w]
    rfl
  refine pure_ (i := 2) (N := some 10) (v := ?_) (a' := ?_) #[true, true, true, false, false, false, false, false, false, false, false, false, false] rfl rfl (by kernel_rfl) (fun _ _ _ h => h) (Or.inl ⟨by rfl, ?_⟩) ?_ ?_
  rotate_left
  · intro w'
    go_simp
    with_reducible rfl
  rotate_left
  · simp only [Act.put, List.setIfInBounds_toArray, List.set_cons_zero, List.set_cons_succ, i64_w, i32_w]
    rfl
  refine pure_ (i := 3) (N := some 11) (v := ?_) (a' := ?_) #[true, true, true, true, false, false, false, false, false, false, false, false, false] rfl rfl (by kernel_rfl) (fun _ _ _ h => h) (Or.inl ⟨by rfl, ?_⟩) ?_ ?_
  rotate_left
  · intro w'
    go_simp
    with_reducible rfl
  rotate_left
  · simp only [Act.put, List.setIfInBounds_toArray, List.set_cons_zero, List.set_cons_succ, i64_w, i32_w]
    rfl
  refine take_ (i := 4) (N := some 12) (v := ?_) (a' := ?_) #[true, true, true, true, true, false, false, false, false, false, false, false, false] rfl rfl (by kernel_rfl) (fun _ _ _ h => h) (Or.inl ⟨by rfl, ?_⟩) hHeld ?_ ?_
  rotate_left
  · rintro w' ⟨s0, s1, s2, s3⟩
    go_simp
    with_reducible rfl
  rotate_left
  · simp only [Act.put, List.setIfInBounds_toArray, List.set_cons_zero, List.set_cons_succ, i64_w, i32_w]
    rfl
  refine pure_ (i := 5) (N := some 13) (v := ?_) (a' := ?_) #[true, true, true, true, true, true, false, false, false, false, false, false, false] rfl rfl (by kernel_rfl) (fun _ _ _ h => h) (Or.inl ⟨by rfl, ?_⟩) ?_ ?_
  rotate_left
  · intro w'
    go_simp
    with_reducible rfl
  rotate_left
  · simp only [Act.put, List.setIfInBounds_toArray, List.set_cons_zero, List.set_cons_succ, i64_w, i32_w]
    rfl
  refine pure_ (i := 6) (N := some 14) (v := ?_) (a' := ?_) #[true, true, true, true, true, true, true, false, false, false, false, false, false] rfl rfl (by kernel_rfl) (fun _ _ _ h => h) (Or.inl ⟨by rfl, ?_⟩) ?_ ?_
  rotate_left
  · intro w'
    go_simp
    with_reducible rfl
  rotate_left
  · simp only [Act.put, List.setIfInBounds_toArray, List.set_cons_zero, List.set_cons_succ, i64_w, i32_w]
    rfl
  refine pure_ (i := 7) (N := some 15) (v := ?_) (a' := ?_) #[true, true, true, true, true, true, true, true, false, false, false, false, false] rfl rfl (by kernel_rfl) (fun _ _ _ h => h) (Or.inl ⟨by rfl, ?_⟩) ?_ ?_
  rotate_left
  · intro w'
    go_simp
    with_reducible rfl
  rotate_left
  · simp only [Act.put, List.setIfInBounds_toArray, List.set_cons_zero, List.set_cons_succ, i64_w, i32_w]
    rfl
  refine take_ (i := 8) (N := some 16) (v := ?_) (a' := ?_) #[true, true, true, true, true, true, true, true, true, false, false, false, false] rfl rfl (by kernel_rfl) (fun _ _ _ h => h) (Or.inl ⟨by rfl, ?_⟩) hHeld ?_ ?_
  rotate_left
  · rintro w' ⟨s0, s1, s2, s3⟩
    go_simp
    with_reducible rfl
  rotate_left
  · simp only [Act.put, List.setIfInBounds_toArray, List.set_cons_zero, List.set_cons_succ, i64_w, i32_w]
    rfl
  refine one_ (i := 9) (N := some 17) #[true, true, true, true, true, true, true, true, true, true, false, false, false] rfl rfl (by kernel_rfl) (by decide) (fun K hK => ?_)
  refine goes_ Try.func56 (by kernel_rfl) rfl #[.slice none 0 0, .slice A l c] (by rfl) rfl rfl (by (try simp only [List.map_toArray, List.map_cons, List.map_nil]); first | done | rfl) ?_
  refine (HS.out _ HV0.out).mono ?_
  rintro e w1 ⟨v, rfl, hv, hb1⟩
  refine ⟨_, rfl, ?_⟩
  obtain ⟨A1, c1, rfl, _, _⟩ := hv.form
  have sz1 := hb1.size; simp at sz1
  have zx1 := zx0.below hb1
  have xzx10 := zx1.c0; have yzx10 := zx1.f0
  have xzx11 := zx1.c1; have yzx11 := zx1.f1
  have xx1 := xx0.below hb1
  refine hK.out _ _ ⟨zx1.c0, zx1.c1, xx1.c0, xx1.c1⟩ (fun hHeld => ?_)
  clear hK K
  refine norm_ (a' := ?_) ?_ ?_
  rotate_left
  · show Act.put _ (some 17) _ = _
    simp only [Act.put, List.setIfInBounds_toArray, List.set_cons_zero, List.set_cons_succ, i64_w, i32_w]
    rfl
  refine pure_ (i := 10) (N := some 18) (v := ?_) (a' := ?_) #[true, true, true, true, true, true, true, true, true, true, true, false, false] rfl rfl (by kernel_rfl) (fun _ _ _ h => h) (Or.inl ⟨by rfl, ?_⟩) ?_ ?_
  rotate_left
  · intro w'
    go_simp
    with_reducible rfl
  rotate_left
  · simp only [Act.put, List.setIfInBounds_toArray, List.set_cons_zero, List.set_cons_succ, i64_w, i32_w]
    rfl
  refine pure_ (i := 11) (N := some 19) (v := ?_) (a' := ?_) #[true, true, true, true, true, true, true, true, true, true, true, true, false] rfl rfl (by kernel_rfl) (fun _ _ _ h => h) (Or.inl ⟨by rfl, ?_⟩) ?_ ?_
  rotate_left
  · intro w'
    go_simp
    with_reducible rfl
  rotate_left
  · simp only [Act.put, List.setIfInBounds_toArray, List.set_cons_zero, List.set_cons_succ, i64_w, i32_w]
    rfl
  refine last_ (i := 12) (N := none) #[true, true, true, true, true, true, true, true, true, true, true, true, true] rfl rfl (by kernel_rfl) (by decide) (fun K hK => ?_)
  refine skip_ (w1 := ?_) (by rfl) rfl ?_ ?_
  rotate_left
  · go_simp
    rfl
  refine hK.out _ _ ?_
  clear hK K
  refine done_ (by kernel_rfl) ?_
  have zy0 := Box.put1 zx1 (.slice A1 (W64.digs n).length c1)
  have xy0 := xx1.far (p := ⟨g, 1, none⟩) (by simpa using Ne.symm hne2) (.slice A1 (W64.digs n).length c1)
  have kzy00 := zy0.c0; have kzy01 := zy0.c1; have qzy00 := zy0.f0; have qzy01 := zy0.f1; have kxy00 := xy0.c0; have kxy01 := xy0.c1; have qxy00 := xy0.f0; have qxy01 := xy0.f1
  have HV1 := Aside0.mk (hv.mono (ok' := fun k => w.heap.size ≤ k) (fun k hk => hk))
  have HB1 := Aside0.mk (below_step hB0 hb1)
  clear hv hb1 hB0 zx1 xx1
  generalize hW : w1.setCell ⟨g, 1, none⟩ (.slice A1 (W64.digs n).length c1) = W1 at *
  have HW := Aside0.mk hW
  clear hW
  go_wp2
  go_ret
  exact ⟨w1, _, rfl, by rw [← HW.out], HV1.out, HB1.out⟩

/-- All but one block is as it was. -/
structure KeptB (w w' : World) (g : Nat) : Prop where
  mk :: (os : w'.os = w.os) (tape : w'.tape = w.tape) (output : w'.output = w.output) (size : w.heap.size ≤ w'.heap.size) (block : ∀ k, k < w.heap.size → k ≠ g → w'.heap[k]? = w.heap[k]?)
theorem KeptB.of_below {w w' : World} {g : Nat} (h : Below w.heap.size w w') : KeptB w w' g := ⟨h.os, h.tape, h.output, h.size, fun k hk _ => h.block k hk⟩
theorem KeptB.set {w w' : World} {g j : Nat} (h : KeptB w w' g) (u : Value) : KeptB w (w'.setCell ⟨g, j, none⟩ u) g :=
  ⟨h.os, h.tape, h.output, by simpa using h.size, fun k hk hne => (Below.heap_setCell w' ⟨g, j, none⟩ u k hne).trans (h.block k hk hne)⟩
theorem KeptB.then {w w1 w2 : World} {g : Nat} (h : KeptB w w1 g) (k : KeptB w1 w2 g) : KeptB w w2 g :=
  ⟨k.os.trans h.os, k.tape.trans h.tape, k.output.trans h.output, Nat.le_trans h.size k.size, fun i hi hne => (k.block i (Nat.lt_of_lt_of_le hi h.size) hne).trans (h.block i hi hne)⟩
theorem KeptB.below {w w' w0 : World} {g : Nat} (h : KeptB w w' g) (hb : Below w0.heap.size w0 w) (hg : w0.heap.size ≤ g) : Below w0.heap.size w0 w' :=
  ⟨h.os.trans hb.os, h.tape.trans hb.tape, h.output.trans hb.output, Nat.le_trans hb.size h.size, fun k hk => (h.block k (Nat.lt_of_lt_of_le hk hb.size) (by omega)).trans (hb.block k hk)⟩
theorem Box.kept {w w' : World} {g g' : Nat} {l : List Value} (h : Box w g' l) (hk : KeptB w w' g) (hne : g' ≠ g) : Box w' g' l := by
  refine ⟨fun j v hj => ?_⟩
  obtain ⟨h1, h2⟩ := h.out j v hj
  have hb := hk.block g' (World.block_lt_of_cell? w _ h1) hne
  exact ⟨(World.cell?_of_block (a := ⟨g', j, none⟩) hb).trans h1, (World.frozen?_of_block (a := ⟨g', j, none⟩) hb).trans h2⟩
theorem Wdv.kept {w w' : World} {g n : Nat} {ok : Nat → Prop} {v : Value} (h : Wdv w ok v n) (hk : KeptB w w' g) (hne : ∀ k, ok k → k ≠ g) : Wdv w' ok v n :=
  ⟨Kd.V_step h.out (fun k ho hl => hk.block k hl (hne k ho))⟩
theorem Blk.kept {w w' : World} {g g' : Nat} (h : Blk w g') (hk : KeptB w w' g) (hne : g' ≠ g) : Blk w' g' := by
  obtain ⟨ca, ta, e⟩ := h.out
  exact ⟨ca, ta, (hk.block g' h.lt hne).trans e⟩
theorem Big.kept {w w' : World} {g g' n : Nat} {b : Bool} {ok : Nat → Prop} (h : Big w ok g' b n) (hk : KeptB w w' g) (hne : ∀ k, ok k → k ≠ g) (hg : g' ≠ g) : Big w' ok g' b n := by
  obtain ⟨v, h1, h2⟩ := h.out
  exact ⟨⟨v, Box.kept h1 hk hg, h2.kept hk hne⟩, h.blk.kept hk hg⟩
theorem _root_.Go.Proofs.Yteohmbannpbokaa.NatWalk.Rdv.kept {w w' : World} {g n : Nat} {ok : Nat → Prop} {v : Value} (h : NatWalk.Rdv w ok v n) (hk : KeptB w w' g) (hne : ∀ k, ok k → k ≠ g) : NatWalk.Rdv w' ok v n :=
  ⟨Kd.V_step h.out (fun k ho hl => hk.block k hl (hne k ho))⟩

/-- A new number is set to another one: what is left. -/
theorem ISet_k (g g2 : Nat) (b : Bool) (n : Nat) (ok : Nat → Prop) (w : World) (hz : Box w g [.bool false, .slice none 0 0]) (hzb : Blk w g) (h : Big w ok g2 b n) (hne : g ≠ g2) (hn : (W64.digs n).length ≤ 100000) :
    Calls Try.prog 43 #[.pointer (some ⟨g, 0, none⟩), .pointer (some ⟨g2, 0, none⟩)] w fun e w' => e = .returned (.pointer (some ⟨g, 0, none⟩)) ∧ Big w' (fun k => w.heap.size ≤ k) g b n ∧ KeptB w w' g := by
  refine (ISet_n g g2 b n ok w hz hzb h hne hn).mono ?_
  rintro e w' ⟨wm, v, rfl, rfl, hv, hb⟩
  have hlt := hzb.lt
  refine ⟨rfl, ⟨⟨v, Box.put21 (hz.below hb) _ _, hv.far2 (fun k hk => by have hk' : _ ≤ k := hk; omega) _ _ _ _⟩, ((hzb.below hb).set _ _).set _ _⟩, ((KeptB.of_below hb).set _).set _⟩

set_option maxHeartbeats 4000000 in
/-- A new number is the opposite of another one. -/
theorem INeg_k (g g2 : Nat) (b : Bool) (n : Nat) (ok : Nat → Prop) (w : World) (hz : Box w g [.bool false, .slice none 0 0]) (hzb : Blk w g) (h : Big w ok g2 b n) (hne : g ≠ g2) (hn : (W64.digs n).length ≤ 100000) :
    Calls Try.prog 38 #[.pointer (some ⟨g, 0, none⟩), .pointer (some ⟨g2, 0, none⟩)] w fun e w' => e = .returned (.pointer (some ⟨g, 0, none⟩)) ∧ Big w' (fun k => w.heap.size ≤ k) g (sgn (!b) n) n ∧ KeptB w w' g := by
  have HS := Aside0.mk (ISet_k g g2 b n ok w hz hzb h hne hn)
  have hlt := hzb.lt
  clear hn h hz hne
  have hsg : sgn (!b) n = (decide (0 < n) && !b) := by unfold sgn; cases b <;> simp
  rw [hsg]
  by_cases hn0 : n = 0
  · have hl : (W64.digs n).length = 0 := W64.len_zero.2 hn0
    have hd : decide (0 < n) = false := decide_eq_false (by omega)
    rw [hd, Bool.false_and]
    have HL := Aside0.mk hl
    clear hn0 hd hl hsg
    go_enter Try.func38, Try.ntmps38
    go_wp2_with (go_at_call 43; refine HS.out.mono ?_; rintro e w1 ⟨rfl, hbig, hk⟩; have HK := Aside0.mk hk; obtain ⟨v, hB, hv⟩ := hbig.out; have HBK := Aside0.mk hbig.blk; have HV := Aside0.mk hv; obtain ⟨A, c, rfl, _, _⟩ := hv.form; rw [HL.out] at hB; have HV0 := Aside0.mk HV.out; have khB0 := hB.c0; have khB1 := hB.c1; have qhB0 := hB.f0; have qhB1 := hB.f1; clear hbig hk hv)
    go_ret
    exact ⟨rfl, ⟨⟨_, Box.put0 hB _, (by have h := HV.out; rw [HL.out] at h; exact h.far (fun k hk => by have hk' : _ ≤ k := hk; show k ≠ g; omega) _)⟩, HBK.out.set _ _⟩, HK.out.set _⟩
  · have hl : 0 < (W64.digs n).length := W64.len_pos hn0
    have hd : decide (0 < n) = true := decide_eq_true (by omega)
    rw [hd, Bool.true_and]
    have hl2 : decide (0 < (W64.digs n).length) = true := decide_eq_true hl
    clear hn0 hd hsg
    go_enter Try.func38, Try.ntmps38
    go_wp2_with (go_at_call 43; refine HS.out.mono ?_; rintro e w1 ⟨rfl, hbig, hk⟩; have HK := Aside0.mk hk; obtain ⟨v, hB, hv⟩ := hbig.out; have HBK := Aside0.mk hbig.blk; have HV := Aside0.mk hv; obtain ⟨A, c, rfl, _, _⟩ := hv.form; have khB0 := hB.c0; have khB1 := hB.c1; have qhB0 := hB.f0; have qhB1 := hB.f1; clear hbig hk hv)
    go_ret
    exact ⟨rfl, ⟨⟨_, Box.put0 hB _, HV.out.far (fun k hk => by have hk' : _ ≤ k := hk; show k ≠ g; omega) _⟩, HBK.out.set _ _⟩, HK.out.set _⟩
/-- Set to itself: nothing is done. -/
theorem ISet_self (g : Nat) (w : World) : Calls Try.prog 43 #[.pointer (some ⟨g, 0, none⟩), .pointer (some ⟨g, 0, none⟩)] w fun e w' => e = .returned (.pointer (some ⟨g, 0, none⟩)) ∧ w' = w := by
  obtain ⟨j, hj, hs⟩ := Option.map_eq_some_iff.1 (show (Try.prog.info? 66).map (·.size) = some 2 by kernel_rfl)
  have hneq := Lib.run_neq_ptr_same (P := Try.prog) w ⟨g, 0, none⟩ Try.underlying42 hj
  clear hj hs
  go_enter Try.func43, Try.ntmps43
  go_wp2
  go_ret
  exact ⟨rfl, rfl⟩
set_option maxHeartbeats 4000000 in
/-- A number is made its opposite. -/
theorem INeg_self (g : Nat) (b : Bool) (n : Nat) (ok : Nat → Prop) (w : World) (h : Big w ok g b n) (ho : ∀ k, ok k → k ≠ g) :
    Calls Try.prog 38 #[.pointer (some ⟨g, 0, none⟩), .pointer (some ⟨g, 0, none⟩)] w fun e w' => e = .returned (.pointer (some ⟨g, 0, none⟩)) ∧ Big w' ok g (sgn (!b) n) n ∧ KeptB w w' g := by
  have HS := Aside0.mk ((ISet_self g w).mono (R' := fun e w' => e = .returned (.pointer (some ⟨g, 0, none⟩)) ∧ Big w' ok g b n ∧ KeptB w w' g) (fun e w' hh => ⟨hh.1, by rw [hh.2]; exact h, by rw [hh.2]; exact KeptB.of_below (Below.refl _ _)⟩))
  have HOK := Aside0.mk ho
  clear h ho
  have hsg : sgn (!b) n = (decide (0 < n) && !b) := by unfold sgn; cases b <;> simp
  rw [hsg]
  by_cases hn0 : n = 0
  · have hl : (W64.digs n).length = 0 := W64.len_zero.2 hn0
    have hd : decide (0 < n) = false := decide_eq_false (by omega)
    rw [hd, Bool.false_and]
    have HL := Aside0.mk hl
    clear hn0 hd hl hsg
    go_enter Try.func38, Try.ntmps38
    go_wp2_with (go_at_call 43; refine HS.out.mono ?_; rintro e w1 ⟨rfl, hbig, hk⟩; have HK := Aside0.mk hk; obtain ⟨v, hB, hv⟩ := hbig.out; have HBK := Aside0.mk hbig.blk; have HV := Aside0.mk hv; obtain ⟨A, c, rfl, _, _⟩ := hv.form; rw [HL.out] at hB; have HV0 := Aside0.mk HV.out; have khB0 := hB.c0; have khB1 := hB.c1; have qhB0 := hB.f0; have qhB1 := hB.f1; clear hbig hk hv)
    go_ret
    exact ⟨rfl, ⟨⟨_, Box.put0 hB _, (by have h := HV.out; rw [HL.out] at h; exact h.far HOK.out _)⟩, HBK.out.set _ _⟩, HK.out.set _⟩
  · have hl : 0 < (W64.digs n).length := W64.len_pos hn0
    have hd : decide (0 < n) = true := decide_eq_true (by omega)
    rw [hd, Bool.true_and]
    have hl2 : decide (0 < (W64.digs n).length) = true := decide_eq_true hl
    clear hn0 hd hsg
    go_enter Try.func38, Try.ntmps38
    go_wp2_with (go_at_call 43; refine HS.out.mono ?_; rintro e w1 ⟨rfl, hbig, hk⟩; have HK := Aside0.mk hk; obtain ⟨v, hB, hv⟩ := hbig.out; have HBK := Aside0.mk hbig.blk; have HV := Aside0.mk hv; obtain ⟨A, c, rfl, _, _⟩ := hv.form; have khB0 := hB.c0; have khB1 := hB.c1; have qhB0 := hB.f0; have qhB1 := hB.f1; clear hbig hk hv)
    go_ret
    exact ⟨rfl, ⟨⟨_, Box.put0 hB _, HV.out.far HOK.out _⟩, HBK.out.set _ _⟩, HK.out.set _⟩

set_option maxHeartbeats 4000000 in
/-- A new number is the amount of another one. -/
theorem IAbs_k (g g2 : Nat) (b : Bool) (n : Nat) (ok : Nat → Prop) (w : World) (hz : Box w g [.bool false, .slice none 0 0]) (hzb : Blk w g) (h : Big w ok g2 b n) (hne : g ≠ g2) (hn : (W64.digs n).length ≤ 100000) :
    Calls Try.prog 41 #[.pointer (some ⟨g, 0, none⟩), .pointer (some ⟨g2, 0, none⟩)] w fun e w' => e = .returned (.pointer (some ⟨g, 0, none⟩)) ∧ Big w' (fun k => w.heap.size ≤ k) g false n ∧ KeptB w w' g := by
  have HS := Aside0.mk (ISet_k g g2 b n ok w hz hzb h hne hn)
  have hlt := hzb.lt
  clear hn h hz hne
  go_enter Try.func41, Try.ntmps41
  go_wp2_with (go_at_call 43; refine HS.out.mono ?_; rintro e w1 ⟨rfl, hbig, hk⟩; have HK := Aside0.mk hk; obtain ⟨v, hB, hv⟩ := hbig.out; have HBK := Aside0.mk hbig.blk; have HV := Aside0.mk hv; obtain ⟨A, c, rfl, _, _⟩ := hv.form; have khB0 := hB.c0; have khB1 := hB.c1; have qhB0 := hB.f0; have qhB1 := hB.f1; clear hbig hk hv)
  go_ret
  exact ⟨rfl, ⟨⟨_, Box.put0 hB _, HV.out.far (fun k hk => by have hk' : _ ≤ k := hk; show k ≠ g; omega) _⟩, HBK.out.set _ _⟩, HK.out.set _⟩
set_option maxHeartbeats 4000000 in
/-- A new number of so many words. -/
theorem SetBits_k (g : Nat) (l : List Int) (n : Nat) (ok : Nat → Prop) (v : Value) (w : World) (hz : Box w g [.bool false, .slice none 0 0]) (hzb : Blk w g) (hd : W64.Dig l) (hl : l.length ≤ 100000) (hn : W64.val l = n) (hv : Kd.V (Kd.int .u64) 0 w 0 ok v l) (ho : ∀ k, ok k → k ≠ g) :
    Calls Try.prog 53 #[.pointer (some ⟨g, 0, none⟩), v] w fun e w' => e = .returned (.pointer (some ⟨g, 0, none⟩)) ∧ Big w' ok g false n ∧ KeptB w w' g := by
  have HN := Aside0.mk (norm_n l n hd hl hn ok v w hv)
  obtain ⟨A, c, rfl⟩ := Kd.V_slice hv
  have HO := Aside0.mk ho
  have hlt := hzb.lt
  clear hd hl hn hv ho
  have khz0 := hz.c0; have khz1 := hz.c1; have qhz0 := hz.f0; have qhz1 := hz.f1
  go_enter Try.func53, Try.ntmps53
  go_wp2_with (go_at_call 60; refine HN.out.mono ?_; rintro e w1 ⟨u, rfl, hu, rfl⟩; have HU := Aside0.mk hu; obtain ⟨A1, c1, rfl, _, _⟩ := hu.form; clear hu)
  go_ret
  exact ⟨rfl, ⟨⟨_, Box.put21 hz _ _, HU.out.far2 HO.out _ _ _ _⟩, (hzb.set _ _).set _ _⟩, ((KeptB.of_below (Below.refl _ _)).set _).set _⟩
end Go.Proofs.Yteohmbannpbokaa.BigWalk
