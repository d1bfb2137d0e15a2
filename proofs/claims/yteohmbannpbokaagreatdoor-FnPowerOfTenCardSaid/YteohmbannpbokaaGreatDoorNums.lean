/-
  Numbers in blocks of their own, and spare room for them.
  Numbers in blocks of their own: a number squared; a number times a word.
  Numbers in blocks of their own: a number times a word, laid elsewhere.
  Numbers in blocks of their own: a copy of one.
-/
import Derived.Test.YteohmbannpbokaaGreatDoorMulsC
set_option linter.unusedVariables false
set_option linter.unusedSimpArgs false
namespace Go.Proofs.YteohmbannpbokaaGreatDoor.WordWalk
open Go.RowKit Go.Proofs.YteohmbannpbokaaGreatDoorW.PrintWords Go.Proofs.YteohmbannpbokaaGreatDoorW.PrintLast Go.Proofs.YteohmbannpbokaaGreatDoorW.PrintMore Go.Proofs.YteohmbannpbokaaGreatDoor.SpecWalk Go.Proofs.YteohmbannpbokaaGreatDoor.BigWalk

/-- A number's words at the start of a block. -/
structure Num (w : World) (g n : Nat) (v : Value) : Prop where
  mk :: (out : ∃ cs : List Int, v = .slice (some ⟨g, 0, none⟩) (W64.digs n).length cs.length ∧ Buf w g cs ∧ (W64.digs n).length ≤ cs.length ∧ 0 < cs.length ∧ cs.length ≤ 1000 ∧ cs.take (W64.digs n).length = W64.digs n)
/-- No room, or a block that may be written. -/
structure Spare (w : World) (P : Nat → Prop) (v : Value) : Prop where
  mk :: (out : v = .slice none 0 0 ∨ ∃ (g l : Nat) (cs : List Int), P g ∧ v = .slice (some ⟨g, 0, none⟩) l cs.length ∧ Buf w g cs ∧ l ≤ cs.length ∧ 0 < cs.length ∧ cs.length ≤ 1000)
section
variable {w w1 : World} {P Q : Nat → Prop} {g n : Nat} {v : Value}
theorem Num.lt (h : Num w g n v) : g < w.heap.size := by obtain ⟨cs, _, h, _⟩ := h.out; exact h.lt
theorem Num.kept (h : Num w g n v) (hk : KeptP w w1 P) (hg : ¬ P g) : Num w1 g n v := by
  obtain ⟨cs, h1, h2, h3⟩ := h.out
  exact ⟨cs, h1, KeptP.buf h2 hk hg, h3⟩
theorem Num.drew (h : Num w g n v) : Num w.drew g n v := by
  obtain ⟨cs, h1, h2, h3⟩ := h.out
  exact ⟨cs, h1, h2.drew, h3⟩
theorem Num.spare (h : Num w g n v) (hg : P g) : Spare w P v := by
  obtain ⟨cs, h1, h2, h3, h4, h5, _⟩ := h.out
  exact ⟨.inr ⟨g, _, cs, hg, h1, h2, h3, h4, h5⟩⟩
theorem Spare.kept (h : Spare w P v) (hk : KeptP w w1 Q) (hg : ∀ k, P k → ¬ Q k) : Spare w1 P v := by
  rcases h.out with h | ⟨g, l, cs, h1, h2, h3, h4⟩
  · exact ⟨.inl h⟩
  · exact ⟨.inr ⟨g, l, cs, h1, h2, KeptP.buf h3 hk (hg g h1), h4⟩⟩
theorem Spare.mono (h : Spare w P v) (hg : ∀ k, P k → Q k) : Spare w Q v := by
  rcases h.out with h | ⟨g, l, cs, h1, h2, h3, h4⟩
  · exact ⟨.inl h⟩
  · exact ⟨.inr ⟨g, l, cs, hg g h1, h2, h3, h4⟩⟩
theorem Spare.drew (h : Spare w P v) : Spare w.drew P v := by
  rcases h.out with h | ⟨g, l, cs, h1, h2, h3, h4⟩
  · exact ⟨.inl h⟩
  · exact ⟨.inr ⟨g, l, cs, h1, h2, h3.drew, h4⟩⟩
theorem Spare.nil (w : World) (P : Nat → Prop) : Spare w P (.slice none 0 0) := ⟨.inl rfl⟩
theorem KeptP.ofBelow (h : Below w.heap.size w w1) : KeptP w w1 P := ⟨h.os, h.tape, h.output, h.size, fun k hk _ => h.block k hk⟩
/-- What a number's words read, one by one. -/
theorem Num.words (h : Num w g n v) : ∃ c, v = .slice (some ⟨g, 0, none⟩) (W64.digs n).length c ∧ (W64.digs n).length ≤ c ∧ 0 < c ∧ c ≤ 1000 ∧ ∀ i : Nat, i < (W64.digs n).length → w.cell? ⟨g, i, none⟩ = some (.int .u64 (rd (W64.digs n) (i : Int))) := by
  obtain ⟨cs, h1, h2, h3, h4, h5, h6⟩ := h.out
  refine ⟨cs.length, h1, h3, h4, h5, fun i hi => ?_⟩
  have e := h2.cell (j := i) (by omega)
  have e2 : rd (W64.digs n) (i : Int) = rd cs (i : Int) := by
    rw [← h6]
    exact rd_take hi h3
  rw [e2]; exact e
end
theorem make_any (P : Nat → Prop) (v : Value) (n : Nat) (w : World) (hs : Spare w P v) (h0 : 0 < n) (hn : n ≤ 900) :
    Calls Tryz.prog 68 #[v, .int .i64 n] w fun e w1 => ∃ (g : Nat) (zs : List Int), e = .returned (.slice (some ⟨g, 0, none⟩) n zs.length) ∧ (P g ∨ w.heap.size ≤ g) ∧ Buf w1 g zs ∧ n ≤ zs.length ∧ zs.length ≤ 1000 ∧ Below w.heap.size w w1 := by
  have hnew : ∀ A l c, c < n → v = .slice A l c → Calls Tryz.prog 68 #[v, .int .i64 n] w fun e w1 => ∃ (g : Nat) (zs : List Int), e = .returned (.slice (some ⟨g, 0, none⟩) n zs.length) ∧ (P g ∨ w.heap.size ≤ g) ∧ Buf w1 g zs ∧ n ≤ zs.length ∧ zs.length ≤ 1000 ∧ Below w.heap.size w w1 := by
    intro A l c hc hv
    subst hv
    refine (make_new A l n c w h0 (by omega) hc).mono ?_
    rintro e w1 ⟨cap, rfl, h1, h2, h3, h4, h5⟩
    exact ⟨w.heap.size, List.replicate cap 0, by rw [List.length_replicate], .inr (Nat.le_refl _), h3, by rw [List.length_replicate]; exact h1, by rw [List.length_replicate]; omega, h5⟩
  rcases hs.out with rfl | ⟨g, l, cs, h1, rfl, h3, h4, h5, h6⟩
  · exact hnew none 0 0 h0 rfl
  · by_cases hc : n ≤ cs.length
    · refine (make_in g l n cs.length w h4 hc (by omega)).mono ?_
      rintro e w1 ⟨rfl, rfl⟩
      exact ⟨g, cs, rfl, .inl h1, h3, hc, h6, Below.refl _ _⟩
    · exact hnew _ l cs.length (by omega) rfl
theorem norm_num (g N L : Nat) (cs l : List Int) (w : World) (hb : Buf w g cs) (ht : cs.take L = l) (hL : L ≤ cs.length) (hc : cs.length ≤ 1000) (h0 : 0 < cs.length) (hd : W64.Dig l) (hv : W64.val l = (N : Int)) :
    Calls Tryz.prog 61 #[.slice (some ⟨g, 0, none⟩) L cs.length] w fun e w' => ∃ u, e = .returned u ∧ Num w g N u ∧ w = w' := by
  have hl : l.length = L := by rw [← ht, List.length_take]; omega
  have hC := hb.reads (by omega) (n := L) hL
  rw [ht, ← hl] at hC
  have h := norm_b l N hd (by omega) hv (some ⟨g, 0, none⟩) cs.length w (by omega) (by rw [hl] at hC ⊢; exact hC)
  rw [hl] at h
  refine h.mono ?_
  rintro e w' ⟨rfl, h2, rfl⟩
  have hle : (W64.digs N).length ≤ L := by rw [← h2, List.length_take]; omega
  refine ⟨_, rfl, ⟨cs, rfl, hb, by omega, h0, hc, ?_⟩, rfl⟩
  have h3 : (cs.take L).take (W64.digs N).length = W64.digs N := by rw [ht]; exact h2
  rw [List.take_take, Nat.min_eq_left hle] at h3
  exact h3
theorem alias_sp (P : Nat → Prop) (v xv : Value) (gx n : Nat) (w : World) (hs : Spare w P v) (hx : Num w gx n xv) (hP : ¬ P gx) : Calls Tryz.prog 66 #[v, xv] w fun e w' => e = .returned (.bool false) ∧ w' = w.drew := by
  obtain ⟨xs, rfl, hxb, hx1, hx2, hx3, _⟩ := hx.out
  rcases hs.out with rfl | ⟨g, l, cs, h1, rfl, h3, h4, h5, h6⟩
  · exact alias_nil _ _ _ _ rfl w
  · exact alias_other g gx l _ cs.length xs.length w h3.blk hxb.blk (by rintro rfl; exact hP h1) h4 hx1 h5 hx2 (by omega) (by omega)
/-- The package's thresholds. -/
structure Thr (w : World) : Prop where
  mk :: (b : w.cell? ⟨0, 0, none⟩ = some (.int .i64 12)) (k : w.cell? ⟨1, 0, none⟩ = some (.int .i64 80)) (m : w.cell? ⟨2, 0, none⟩ = some (.int .i64 40))
theorem Thr.kept {w w1 : World} {P : Nat → Prop} (h : Thr w) (hk : KeptP w w1 P) (hP : ∀ k, P k → 3 ≤ k) : Thr w1 :=
  ⟨hk.cell (fun h => absurd (hP _ h) (by decide)) h.b, hk.cell (fun h => absurd (hP _ h) (by decide)) h.k, hk.cell (fun h => absurd (hP _ h) (by decide)) h.m⟩
theorem Thr.drew {w : World} (h : Thr w) : Thr w.drew := h.kept (P := fun _ => False) (KeptP.refl w _).drew (fun _ h => h.elim)
end Go.Proofs.YteohmbannpbokaaGreatDoor.WordWalk

set_option linter.unusedVariables false
set_option linter.unusedSimpArgs false
namespace Go.Proofs.YteohmbannpbokaaGreatDoor.WordWalk
open Go.RowKit Go.Proofs.YteohmbannpbokaaGreatDoorW.PrintWords Go.Proofs.YteohmbannpbokaaGreatDoorW.PrintLast Go.Proofs.YteohmbannpbokaaGreatDoorW.PrintMore Go.Proofs.YteohmbannpbokaaGreatDoor.SpecWalk Go.Proofs.YteohmbannpbokaaGreatDoor.BigWalk

/-- What a stack is: not yet made, or made and empty. -/
structure Stk1 (w : World) (gs lo : Nat) : Prop where
  mk :: (out : ∃ gi gt G : Nat, lo ≤ gi ∧ gi < gt ∧ (G : Int) ≤ 9223372036854775807 ∧ Box w gs [.pointer (some ⟨gi, 0, none⟩)] ∧ Box w gi [.slice (some ⟨gt, 0, none⟩) 0 G])
theorem norm_args {out zs : List Int} {a : Nat} (ho : out.length = a) (hl : a ≤ zs.length) : (out ++ zs.drop a).take a = out ∧ a ≤ (out ++ zs.drop a).length ∧ (out ++ zs.drop a).length = zs.length := by
  refine ⟨by rw [List.take_append_of_le_length (by omega), List.take_of_length_le (by omega)], by simp; omega, by simp; omega⟩
theorem norm_two (g N : Nat) (zs : List Int) (Q : Int) (w : World) (hb : Buf w g zs) (hl : 2 ≤ zs.length) (hlm : zs.length ≤ 1000) (hQ : 0 ≤ Q ∧ Q ≤ 18446744073709551615 * 18446744073709551615) (hN : Q = (N : Int)) :
    Calls Tryz.prog 61 #[.slice (some ⟨g, 0, none⟩) 2 zs.length] ((w.setCell ⟨g, 1, none⟩ (.int .u64 (Q / 18446744073709551616))).setCell ⟨g, 0, none⟩ (.int .u64 (Q % 18446744073709551616))) fun e w' => ∃ u, e = .returned u ∧ Num ((w.setCell ⟨g, 1, none⟩ (.int .u64 (Q / 18446744073709551616))).setCell ⟨g, 0, none⟩ (.int .u64 (Q % 18446744073709551616))) g N u ∧ (w.setCell ⟨g, 1, none⟩ (.int .u64 (Q / 18446744073709551616))).setCell ⟨g, 0, none⟩ (.int .u64 (Q % 18446744073709551616)) = w' := by
  have h := norm_num g N 2 ((zs.set 1 (Q / 18446744073709551616)).set 0 (Q % 18446744073709551616)) [Q % 18446744073709551616, Q / 18446744073709551616] _ ((hb.put 1 _).put 0 _) (by
    match zs, hl with
    | [], h => exact absurd h (by simp)
    | [a], h => exact absurd h (by simp)
    | a :: b :: zs, _ => rfl) (by simp; exact hl) (by simp; exact hlm) (by simp; omega) (dig_two hQ.1 hQ.2) (by rw [val_two, hN])
  have hl2 : ((zs.set 1 (Q / 18446744073709551616)).set 0 (Q % 18446744073709551616)).length = zs.length := by simp
  rw [hl2] at h
  exact h
theorem sqr_small (P : Nat → Prop) (zv xv : Value) (gx gs n : Nat) (w : World) (hz : Spare w P zv) (hx : Num w gx n xv) (hP : ¬ P gx) (h1 : (W64.digs n).length = 1) :
    Calls Tryz.prog 63 #[zv, .pointer (some ⟨gs, 0, none⟩), xv] w fun e w' => ∃ (u : Value) (g : Nat), e = .returned u ∧ (P g ∨ w.heap.size ≤ g) ∧ Num w' g (n * n) u ∧ KeptP w w' P := by
  obtain ⟨c, rfl, hc1, hc2, hc3, hxc⟩ := hx.words
  have hM := Aside0.mk (make_any P zv 2 w hz (by decide) (by decide))
  have hx0 := hxc 0 (by omega)
  have hd := W64.dig_rd (W64.dig_digs n) ((0 : Nat) : Int)
  have hval : W64.val (W64.digs n) = rd (W64.digs n) ((0 : Nat) : Int) := by
    match h : W64.digs n, h1 with
    | [a], _ => simp [W64.val, rd]
  rw [W64.val_digs] at hval
  have HMW := Aside0.mk (fun w => (mulWW_n _ _ ⟨hd.1, hd.2⟩ ⟨hd.1, hd.2⟩ w).mono (fun e w' h => And.intro h.1 h.2.symm))
  rw [← hval] at HMW hx0
  have HQ := Aside0.mk (mul_words (x := (n : Int)) (y := (n : Int)) ⟨by omega, by rw [hval]; exact hd.2⟩ ⟨by omega, by rw [hval]; exact hd.2⟩)
  rw [h1]
  have HX := Aside0.mk hx
  clear hz hx hd hval hxc
  go_enter Tryz.func63, Tryz.ntmps63
  go_wp2_with (first | (go_at_call 68; refine hM.out.mono ?_; rintro e w1 ⟨g, zs, rfl, hg, hb, hl, hlm, hbel⟩; have hcz1 := hb.cell (j := 1) (by omega); have hfz1 := hb.frozen 1; have hcz0 := hb.cell (j := 0) (by omega); have hfz0 := hb.frozen 0; have HG := Aside0.mk (And.intro hg (And.intro hb (And.intro hl (And.intro hlm hbel)))); clear hg hb hl hlm hbel) | (go_at_call 84; refine (HMW.out _).mono ?_; rintro e w2 ⟨rfl, rfl⟩) | (go_at_call 61; refine (norm_two g (n * n) zs ((n : Int) * n) _ HG.out.2.1 HG.out.2.2.1 HG.out.2.2.2.1 HQ.out (by simp)).mono ?_; rintro e w3 ⟨u, rfl, hu, rfl⟩; have HU := Aside0.mk hu; clear hu))
  go_ret
  exact ⟨u, g, rfl, HG.out.1, HU.out, ((KeptP.ofBelow HG.out.2.2.2.2).set ⟨g, 1, none⟩ HG.out.1 _).set ⟨g, 0, none⟩ HG.out.1 _⟩
set_option maxHeartbeats 2000000 in
theorem sqr_mid (P : Nat → Prop) (zv xv : Value) (gx gs n : Nat) (w : World) (hz : Spare w P zv) (hx : Num w gx n xv) (hP : ¬ P gx) (hP3 : ∀ k, P k → 3 ≤ k) (hT : Thr w) (h1 : 2 ≤ (W64.digs n).length) (h2 : (W64.digs n).length < 12) :
    Calls Tryz.prog 63 #[zv, .pointer (some ⟨gs, 0, none⟩), xv] w fun e w' => ∃ (u : Value) (g : Nat), e = .returned u ∧ (P g ∨ w.heap.size ≤ g) ∧ Num w' g (n * n) u ∧ KeptP w w' P := by
  have hxlt := hx.lt
  have HA := Aside0.mk (alias_sp P zv xv gx n w hz hx hP)
  have HM := Aside0.mk (make_any P zv ((W64.digs n).length + (W64.digs n).length) w.drew hz.drew (by omega) (by omega))
  obtain ⟨c, rfl, hc1, hc2, hc3, hxc⟩ := hx.words
  have hsz : w.drew.heap.size = w.heap.size := rfl
  have HB := Aside0.mk (fun (w1 : World) (g : Nat) (zs : List Int) (hg : P g ∨ w.heap.size ≤ g) (hb : Buf w1 g zs) (hl : (W64.digs n).length + (W64.digs n).length ≤ zs.length) (hlm : zs.length ≤ 1000) (hk : KeptP w.drew w1 (fun _ => False)) =>
    basicMul_n g gx gx c c zs (W64.digs n) (W64.digs n) w1 hb hl (by omega) (by omega) (W64.dig_digs n) (W64.dig_digs n) (by rintro rfl; rcases hg with hg | hg; exact hP hg; omega) (by rintro rfl; rcases hg with hg | hg; exact hP hg; omega)
      (fun i hi => hk.cell id (hxc i hi)) (fun i hi => hk.cell id (hxc i hi)))
  rw [W64.val_digs] at HB
  have hP2 := Aside0.mk (And.intro hP3 hT)
  clear hx hxc hz hP
  generalize hL : (W64.digs n).length = L at *
  have n0 : 2 ≤ (L : Int) := by omega
  have n1 : (L : Int) < 12 := by omega
  have n2 : ((L + L : Nat) : Int) = 2 * (L : Int) := by omega
  have n3 : (L : Int) < 80 := by omega
  have n4 : ((L : Int) == 0) = false := beq_eq_false_iff_ne.mpr (by omega)
  have n5 : ((L : Int) == 1) = false := beq_eq_false_iff_ne.mpr (by omega)
  rw [n2] at HM
  have HLL := Aside0.mk hL
  clear h1 h2 hL
  go_enter Tryz.func63, Tryz.ntmps63
  go_wp2_with (first | (go_at_call 66; refine HA.out.mono ?_; rintro e w0 ⟨rfl, rfl⟩) | (go_at_call 68; refine HM.out.mono ?_; rintro e w1 ⟨g, zs, rfl, hg, hb, hl, hlm, hbel⟩; have hT1 := (hP2.out.2.drew).kept (KeptP.ofBelow (P := fun _ => False) hbel) (fun _ h => h.elim); have t0 := hT1.b; have t1 := hT1.k; have HG := Aside0.mk (And.intro hg (And.intro hb (And.intro hl (And.intro hlm hbel)))); clear hg hb hl hlm hbel hT1) | (go_at_call 85; refine (HB.out _ g zs HG.out.1 HG.out.2.1 HG.out.2.2.1 HG.out.2.2.2.1 (KeptP.ofBelow HG.out.2.2.2.2)).mono ?_; rintro e w2 ⟨rfl, out, ho, hdo, hvo, hbo, hko⟩; have HO := Aside0.mk (And.intro ho (And.intro hdo (And.intro hvo (And.intro hbo hko)))); clear ho hdo hvo hbo hko) | (go_at_call 61; have hol := norm_args (a := L + L) HO.out.1 HG.out.2.2.1; have hnn := norm_num g (n * n) (L + L) _ out _ HO.out.2.2.2.1 hol.1 hol.2.1 (by rw [hol.2.2]; exact HG.out.2.2.2.1) (by rw [hol.2.2]; have := HG.out.2.2.1; omega) HO.out.2.1 (by rw [HO.out.2.2.1, Int.natCast_mul]); rw [hol.2.2] at hnn; refine hnn.mono ?_; rintro e w3 ⟨u, rfl, hu, rfl⟩; have HU := Aside0.mk hu; clear hu hnn hol))
  go_ret
  exact ⟨u, g, rfl, HG.out.1, HU.out, (((KeptP.refl w P).drew.then (KeptP.ofBelow HG.out.2.2.2.2)).thenB HO.out.2.2.2.2 HG.out.1)⟩
set_option maxHeartbeats 2000000 in
theorem sqr_big (P : Nat → Prop) (zv xv : Value) (gx gs n : Nat) (w : World) (hz : Spare w P zv) (hx : Num w gx n xv) (hP : ¬ P gx) (hP3 : ∀ k, P k → 3 ≤ k) (hPs : ¬ P gs) (hsx : gs ≠ gx) (hB : Box w gs [.pointer none]) (hT : Thr w) (h1 : 12 ≤ (W64.digs n).length) (h2 : (W64.digs n).length ≤ 40) :
    Calls Tryz.prog 63 #[zv, .pointer (some ⟨gs, 0, none⟩), xv] w fun e w' => ∃ (u : Value) (g : Nat), e = .returned u ∧ (P g ∨ w.heap.size ≤ g) ∧ Num w' g (n * n) u ∧ KeptP w w' (fun k => P k ∨ k = gs) ∧ Stk1 w' gs w.heap.size := by
  have hxlt := hx.lt
  have hslt : gs < w.heap.size := World.block_lt_of_cell? w _ hB.c0
  have HA := Aside0.mk (alias_sp P zv xv gx n w hz hx hP)
  have HM := Aside0.mk (make_any P zv (2 * (W64.digs n).length) w.drew hz.drew (by omega) (by omega))
  obtain ⟨c, rfl, hc1, hc2, hc3, hxc⟩ := hx.words
  have hsz : w.drew.heap.size = w.heap.size := rfl
  have HS := Aside0.mk (fun (w1 : World) (g : Nat) (zs : List Int) (hg : P g ∨ w.heap.size ≤ g) (hb : Buf w1 g zs) (hl : 2 * (W64.digs n).length ≤ zs.length) (hlm : zs.length ≤ 1000) (hk : KeptP w.drew w1 (fun _ => False)) =>
    basicSqr_n g gx gs c zs (W64.digs n) w1 hb hl hlm h1 h2 (W64.dig_digs n) (by rintro rfl; rcases hg with hg | hg; exact hP hg; omega) (by rintro rfl; rcases hg with hg | hg; exact hPs hg; omega) hsx (by have := hk.size; omega) hc1
      (fun i hi => hk.cell id (hxc i hi)) (KeptP.box hB.drew hk id) (hT.drew.kept hk (fun _ h => h.elim)).b)
  rw [W64.val_digs] at HS
  have hP2 := Aside0.mk (And.intro hP3 hT)
  clear hx hxc hz hP
  generalize hL : (W64.digs n).length = L at *
  have n0 : 12 ≤ (L : Int) := by omega
  have n1 : (L : Int) ≤ 40 := by omega
  have n2 : ((2 * L : Nat) : Int) = 2 * (L : Int) := by omega
  have n3 : (L : Int) < 80 := by omega
  have n4 : ((L : Int) == 0) = false := beq_eq_false_iff_ne.mpr (by omega)
  have n5 : ((L : Int) == 1) = false := beq_eq_false_iff_ne.mpr (by omega)
  rw [n2] at HM
  have HLL := Aside0.mk hL
  clear h1 h2 hL
  go_enter Tryz.func63, Tryz.ntmps63
  go_wp2_with (first | (go_at_call 66; refine HA.out.mono ?_; rintro e w0 ⟨rfl, rfl⟩) | (go_at_call 68; refine HM.out.mono ?_; rintro e w1 ⟨g, zs, rfl, hg, hb, hl, hlm, hbel⟩; have hT1 := (hP2.out.2.drew).kept (KeptP.ofBelow (P := fun _ => False) hbel) (fun _ h => h.elim); have t0 := hT1.b; have t1 := hT1.k; have HG := Aside0.mk (And.intro hg (And.intro hb (And.intro hl (And.intro hlm hbel)))); clear hg hb hl hlm hbel hT1) | (go_at_call 88; refine (HS.out _ g zs HG.out.1 HG.out.2.1 HG.out.2.2.1 HG.out.2.2.2.1 (KeptP.ofBelow HG.out.2.2.2.2)).mono ?_; rintro e w2 ⟨rfl, out, gi, gt, GG, ho, hdo, hvo, hbo, hst⟩; have HO := Aside0.mk (And.intro ho (And.intro hdo (And.intro hvo (And.intro hbo hst)))); clear ho hdo hvo hbo hst) | (go_at_call 61; have hol := norm_args (a := 2 * L) HO.out.1 HG.out.2.2.1; have hnn := norm_num g (n * n) (2 * L) _ out _ HO.out.2.2.2.1 hol.1 hol.2.1 (by rw [hol.2.2]; exact HG.out.2.2.2.1) (by rw [hol.2.2]; have := HG.out.2.2.1; omega) HO.out.2.1 (by rw [HO.out.2.2.1, Int.natCast_mul]); rw [hol.2.2] at hnn; refine hnn.mono ?_; rintro e w3 ⟨u, rfl, hu, rfl⟩; have HU := Aside0.mk hu; clear hu hnn hol))
  go_ret
  obtain ⟨_, _, _, _, s1, s2, s3, s4, s5, s6⟩ := HO.out
  have hG := HG.out
  refine ⟨u, g, rfl, hG.1, HU.out, ?_, ⟨gi, gt, GG, Nat.le_trans hG.2.2.2.2.size s1, s2, s3, s4, s5⟩⟩
  have k1 : KeptP w w1 (fun k => P k ∨ k = gs) := (KeptP.refl w _).drew.then (KeptP.ofBelow hG.2.2.2.2)
  exact ⟨s6.os.trans k1.os, s6.tape.trans k1.tape, s6.output.trans k1.output, Nat.le_trans k1.size s6.size, fun k hk hp => (s6.block k (Nat.lt_of_lt_of_le hk k1.size) (by rintro (h | h); (rcases hG.1 with h1 | h1; exact hp (.inl (h ▸ h1)); omega); exact hp (.inr h))).trans (k1.block k hk hp)⟩
end Go.Proofs.YteohmbannpbokaaGreatDoor.WordWalk

set_option linter.unusedVariables false
set_option linter.unusedSimpArgs false
namespace Go.Proofs.YteohmbannpbokaaGreatDoor.WordWalk
open Go.RowKit Go.Proofs.YteohmbannpbokaaGreatDoorW.PrintWords Go.Proofs.YteohmbannpbokaaGreatDoorW.PrintLast Go.Proofs.YteohmbannpbokaaGreatDoorW.PrintMore Go.Proofs.YteohmbannpbokaaGreatDoor.SpecWalk Go.Proofs.YteohmbannpbokaaGreatDoor.BigWalk

theorem norm_word (g N m : Nat) (zs out : List Int) (c : Int) (w : World) (hb : Buf w g (out ++ zs.drop m)) (ho : out.length = m) (hl : m + 1 ≤ zs.length) (hlm : zs.length ≤ 1000) (hd : W64.Dig (out ++ [c])) (hN : W64.val (out ++ [c]) = (N : Int)) :
    Calls Tryz.prog 61 #[.slice (some ⟨g, 0, none⟩) (m + 1) zs.length] (w.setCell ⟨g, m, none⟩ (.int .u64 c)) fun e w' => ∃ u, e = .returned u ∧ Num (w.setCell ⟨g, m, none⟩ (.int .u64 c)) g N u ∧ w.setCell ⟨g, m, none⟩ (.int .u64 c) = w' := by
  have h := norm_num g N (m + 1) _ (out ++ [c]) _ (hb.put m c) (take_set_end ho hl c) (by simp; omega) (by simp; omega) (by simp; omega) hd hN
  have hl2 : ((out ++ zs.drop m).set m c).length = zs.length := by simp; omega
  rw [hl2] at h
  exact h
set_option maxHeartbeats 2000000 in
theorem mulAddWW_sep (P : Nat → Prop) (zv xv : Value) (gx n y r : Nat) (w : World) (hz : Spare w P zv) (hx : Num w gx n xv) (hP : ¬ P gx) (h0 : n ≠ 0) (hy0 : 0 < y) (hy : y < 18446744073709551616) (hr : r < 18446744073709551616) (hn : (W64.digs n).length ≤ 800) :
    Calls Tryz.prog 90 #[zv, xv, .int .u64 y, .int .u64 r] w fun e w' => ∃ (u : Value) (g : Nat), e = .returned u ∧ (P g ∨ w.heap.size ≤ g) ∧ Num w' g (n * y + r) u ∧ KeptP w w' P := by
  have hxlt := hx.lt
  have HM := Aside0.mk (make_any P zv ((W64.digs n).length + 1) w hz (by omega) (by omega))
  obtain ⟨c, rfl, hc1, hc2, hc3, hxc⟩ := hx.words
  have hyw : Word (y : Int) := ⟨by omega, by omega⟩
  have hrw : Word (r : Int) := ⟨by omega, by omega⟩
  have HV := Aside0.mk (fun (w1 : World) (g : Nat) (zs : List Int) (hg : P g ∨ w.heap.size ≤ g) (hb : Buf w1 g zs) (hl : (W64.digs n).length + 1 ≤ zs.length) (hk : KeptP w w1 (fun _ => False)) =>
    mulAddVWW_n g gx zs.length c zs (W64.digs n) y r w1 hb (by omega) (by omega) (W64.dig_digs n) hyw hrw (.inl ⟨by rintro rfl; rcases hg with hg | hg; exact hP hg; omega, fun i hi => hk.cell id (hxc i hi)⟩))
  rw [W64.val_digs] at HV
  have hpos := W64.len_pos h0
  have hyne : ((y : Int) == 0) = false := beq_eq_false_iff_ne.mpr (by omega)
  have HN0 := Aside0.mk (show ((n * y + r : Nat) : Int) = (n : Int) * y + r by simp)
  clear hx hxc hz hP h0 hyw hrw hy0 hy hr
  generalize hL : (W64.digs n).length = L at *
  have n1 : (L : Int) ≤ 800 := by omega
  have n4 : ((L : Int) == 0) = false := beq_eq_false_iff_ne.mpr (by omega)
  rw [Int.natCast_add] at HM
  clear hpos hn
  generalize (y : Int) = Y at *
  generalize (r : Int) = R at *
  go_enter Tryz.func90, Tryz.ntmps90
  go_wp2_with (first | (go_at_call 68; refine HM.out.mono ?_; rintro e w1 ⟨g, zs, rfl, hg, hb, hl, hlm, hbel⟩; have hzl : (L : Int) + 1 ≤ (zs.length : Int) := (by omega); have hzs : (zs.length : Int) ≤ 1000 := (by omega); have HG := Aside0.mk (And.intro hg (And.intro hb (And.intro hl (And.intro hlm hbel)))); clear hg hb hl hlm hbel) | (go_at_call 113; refine (HV.out _ g zs HG.out.1 HG.out.2.1 HG.out.2.2.1 (KeptP.ofBelow HG.out.2.2.2.2)).mono ?_; rintro e w2 ⟨out, cc, rfl, h1, h2, h3, h4, h5, h6⟩; have hc2 := h5.cell (j := L) (by have := HG.out.2.2.1; simp; omega); have hf2 := h5.frozen L; have HO := Aside0.mk (And.intro h2 (And.intro h5 h6)); have HVW := Aside0.mk (val_word (N := n * y + r) h2 h3 h1 (h4.trans HN0.out.symm)); clear h1 h2 h3 h4 h5 h6) | (go_at_call 61; refine (norm_word g (n * y + r) L zs out cc _ HO.out.2.1 HO.out.1 HG.out.2.2.1 HG.out.2.2.2.1 HVW.out.1 HVW.out.2).mono ?_; rintro e w3 ⟨u, rfl, hu, rfl⟩; have HU := Aside0.mk hu; clear hu))
  go_ret
  exact ⟨u, g, rfl, HG.out.1, HU.out, ((KeptP.ofBelow HG.out.2.2.2.2).thenB HO.out.2.2 HG.out.1).set ⟨g, L, none⟩ HG.out.1 _⟩
set_option maxHeartbeats 1000000 in
/-- A number times one of a single word. -/
theorem mul1_n (P : Nat → Prop) (sv zv xv yv : Value) (gx gy n y : Nat) (w : World) (hz : Spare w P zv) (hx : Num w gx n xv) (hy : Num w gy y yv) (hP : ¬ P gx) (h0 : n ≠ 0) (hy0 : 0 < y) (hy1 : y < 18446744073709551616) (hn : (W64.digs n).length ≤ 800) :
    Calls Tryz.prog 64 #[zv, sv, xv, yv] w fun e w' => ∃ (u : Value) (g : Nat), e = .returned u ∧ (P g ∨ w.heap.size ≤ g) ∧ Num w' g (n * y) u ∧ KeptP w w' P := by
  have HM := Aside0.mk (mulAddWW_sep P zv xv gx n y 0 w hz hx hP h0 hy0 hy1 (by decide) hn)
  obtain ⟨c, rfl, hc1, hc2, hc3, hxc⟩ := hx.words
  obtain ⟨d, rfl, hd1, hd2, hd3, hyc⟩ := hy.words
  have hd : W64.digs y = [(y : Int)] := W64.digs_one (by omega) hy1
  have hy0c := hyc 0 (by rw [hd]; exact Nat.zero_lt_one)
  have e1 : rd (W64.digs y) ((0 : Nat) : Int) = (y : Int) := by rw [hd]; rfl
  rw [e1] at hy0c
  rw [hd] at *
  have hpos := W64.len_pos h0
  have e2 : [(y : Int)].length = 1 := rfl
  rw [e2] at *
  clear hx hy hz hP h0 hxc hyc hd e1 e2 hn
  generalize hL : (W64.digs n).length = L at *
  have n1 : 1 ≤ (L : Int) := by omega
  have n3 : ¬ ((L : Int) < 1) := by omega
  have n4 : ((L : Int) == 0) = false := beq_eq_false_iff_ne.mpr (by omega)
  clear hL hpos
  generalize (y : Int) = Y at *
  go_enter_defers Tryz.func64, Tryz.ntmps64
  go_wp2_with (go_at_call 90; refine HM.out.mono ?_; rintro e w1 ⟨u, g, rfl, hg, hu, hk⟩; have HU := Aside0.mk (And.intro hg (And.intro hu hk)); clear hg hu hk)
  exact ⟨_, results_tmp rfl _ _ _, u, g, rfl, HU.out.1, by have := HU.out.2.1; rwa [Nat.add_zero] at this, HU.out.2.2⟩
end Go.Proofs.YteohmbannpbokaaGreatDoor.WordWalk

set_option linter.unusedVariables false
set_option linter.unusedSimpArgs false
namespace Go.Proofs.YteohmbannpbokaaGreatDoor.WordWalk
open Go.RowKit Go.Proofs.YteohmbannpbokaaGreatDoorW.PrintWords Go.Proofs.YteohmbannpbokaaGreatDoorW.PrintLast Go.Proofs.YteohmbannpbokaaGreatDoorW.PrintMore Go.Proofs.YteohmbannpbokaaGreatDoor.SpecWalk Go.Proofs.YteohmbannpbokaaGreatDoor.BigWalk

theorem buf_splice {w : World} {g : Nat} {zs l : List Int} (h : w.heap[g]? = some (.cells (splice (nums .u64 zs) 0 (nums .u64 l)).toArray 89 (0, 0))) : Buf w g (l ++ zs.drop l.length) := by
  refine ⟨?_⟩
  rw [h]
  simp [splice, nums, List.map_drop]
theorem num_of (w : World) (g n : Nat) (zs : List Int) (hb : Buf w g (W64.digs n ++ zs.drop (W64.digs n).length)) (hl : (W64.digs n).length ≤ zs.length) (hc : zs.length ≤ 1000) (h0 : 0 < zs.length) : Num w g n (.slice (some ⟨g, 0, none⟩) (W64.digs n).length zs.length) := by
  have e := norm_args (out := W64.digs n) (zs := zs) rfl hl
  refine ⟨_, by rw [e.2.2], hb, e.2.1, by rw [e.2.2]; exact h0, by rw [e.2.2]; exact hc, e.1⟩
theorem nums_src {w : World} {g : Nat} {l : List Int} (h : ∀ i : Nat, i < l.length → w.cell? ⟨g, i, none⟩ = some (.int .u64 (rd l (i : Int)))) {j : Nat} {v : Value} (hj : (nums .u64 l)[j]? = some v) : w.cell? ⟨g, j, none⟩ = some v := by
  simp only [nums, List.getElem?_map, Option.map_eq_some_iff] at hj
  obtain ⟨x, hx, rfl⟩ := hj
  have hlt : j < l.length := (List.getElem?_eq_some_iff.1 hx).1
  rw [h j hlt, W64.rd_lt hlt]
  rw [List.getElem?_eq_getElem hlt] at hx
  injection hx with hx
  rw [hx]
set_option maxHeartbeats 4000000 in
set_option maxRecDepth 100000 in
theorem set_num (gx n : Nat) (xv : Value) (w : World) (hx : Num w gx n xv) (h0 : n ≠ 0) (hn : (W64.digs n).length ≤ 800) :
    Calls Tryz.prog 67 #[.slice none 0 0, xv] w fun e w' => ∃ (u : Value) (g : Nat), e = .returned u ∧ w.heap.size ≤ g ∧ Num w' g n u ∧ Below w.heap.size w w' := by
  have hpos := W64.len_pos h0
  have HM := Aside0.mk (make_any (fun _ => False) (.slice none 0 0) (W64.digs n).length w (Spare.nil _ _) hpos (by omega))
  obtain ⟨c, rfl, hc1, hc2, hc3, hxc⟩ := hx.words
  have HX := Aside0.mk (fun (w1 : World) (hb : Below w.heap.size w w1) => (fun i hi => pw_cell_below hb (hxc i hi) : ∀ i : Nat, i < (W64.digs n).length → w1.cell? ⟨gx, i, none⟩ = some (.int .u64 (rd (W64.digs n) (i : Int)))))
  have HP := Aside0.mk hpos
  have hl0 : ((W64.digs n).length : Int) ≤ 800 := by omega
  clear hx hxc h0 hn hpos
  generalize hl : W64.digs n = l at *
  have HL := Aside0.mk hl
  clear hl
  go_enter Tryz.func67, Tryz.ntmps67
  go_wp2_with (first | (go_at_call 68; refine HM.out.mono ?_; rintro e w1 ⟨g, zs, rfl, hg, hb, hl, hlm, hbel⟩; have HG := Aside0.mk (And.intro (hg.resolve_left id) (And.intro hb (And.intro hl (And.intro hlm hbel)))); clear hg hb hl hlm hbel) | ((with_reducible refine wpList_copy_splice rfl (.tmp 9) (.tmp 10) 57 57 rfl 89 Tryz.underlying57 sizeW _ _ _ _ _ _ rfl rfl g 0 (nums .u64 zs) 89 ?hg (nums .u64 l) ?hn ?hpos ?hfit ?h1 w.heap.size w ?hb ?hB ?_); (case hg => exact HG.out.2.1.out); (case hn => (rw [nums_length]; simp)); (case hpos => exact (fun _ => ⟨rfl, _, rfl, fun j v hj => by rw [add_plain]; exact nums_src (HX.out _ HG.out.2.2.2.2) hj⟩)); (case hfit => (rw [nums_length, nums_length]; have := HG.out.2.2.1; omega)); (case h1 => (intro v hv; simp only [nums, List.mem_map] at hv; obtain ⟨x, _, rfl⟩ := hv; rfl)); (case hb => exact HG.out.2.2.2.2); (case hB => exact HG.out.1); intro w2 hH hb2; have HH := Aside0.mk hH; have HB2 := Aside0.mk hb2; clear hH hb2))
  go_ret
  obtain ⟨g1, g2, g3, g4, g5⟩ := HG.out
  have hb := buf_splice HH.out
  have hlen := HL.out
  subst hlen
  exact ⟨_, g, rfl, g1, num_of _ g n zs hb g3 g4 (by have := HP.out; omega), HB2.out⟩
end Go.Proofs.YteohmbannpbokaaGreatDoor.WordWalk
