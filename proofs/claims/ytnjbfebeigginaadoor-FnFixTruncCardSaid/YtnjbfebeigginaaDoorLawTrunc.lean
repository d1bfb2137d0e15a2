/-
  The law over a decimal cut off: it holds for every input.
-/
import Derived.Test.YtnjbfebeigginaaDoorSpecRound
import Derived.Test.YtnjbfebeigginaaDoorSpecTrim
import Derived.Test.YtnjbfebeigginaaDoorGvDoorTrunc
set_option linter.unusedVariables false
set_option linter.unusedSimpArgs false
namespace Go.Proofs.YtnjbfebeigginaaDoor.LawTrunc
open Go.RowKit Go.Proofs.YtnjbfebeigginaaDoorW.PrintWords Go.Proofs.YtnjbfebeigginaaDoorW.PrintLast Go.Proofs.YtnjbfebeigginaaDoorW.PrintMore Go.Proofs.YtnjbfebeigginaaDoor.Digs Go.Proofs.YtnjbfebeigginaaDoor.StrLaw Go.Proofs.YtnjbfebeigginaaDoor.NatLaw Go.Proofs.YtnjbfebeigginaaDoor.NatWalk Go.Proofs.YtnjbfebeigginaaDoor.SpecWalk Go.Proofs.YtnjbfebeigginaaDoor.GvWalk

structure Rel (b : Bool) (n s : Nat) (l : Int) (c : Bool) (m k : Nat) : Prop where
  mk :: (sg : c = sgn b m) (num : m = n / 10 ^ (s - k)) (fit : (k : Int) = min (s : Int) (max l 0))
theorem Rel.own {b c : Bool} {n s m k : Nat} {l : Int} (h : Rel b n s l c m k) : sgn c m = c := by rw [h.sg]; cases b <;> simp [sgn]
theorem Rel.most {b c : Bool} {n s m k : Nat} {l : Int} (h : Rel b n s l c m k) (hn : n ≤ 9999999999999999999) : m ≤ 9999999999999999999 := by
  rw [h.num]; exact Nat.le_trans (Nat.div_le_self _ _) hn
theorem Rel.le {b c : Bool} {n s m k : Nat} {l : Int} (h : Rel b n s l c m k) : k ≤ s := by have := h.fit; omega
theorem target_ok (b : Bool) (n s : Nat) (t : Int) (hs : s ≤ 19) (hn : n ≤ 9999999999999999999) (w : World) (hp : Pows w) :
    Calls Tryd.prog 28 #[.agg #[.bool (sgn b n), .int .i8 s, .int .u64 n], .int .i64 t] w fun e w' => ∃ v, e = .returned v ∧ Dv (Rel (sgn b n) n s t) v ∧ Below w.heap.size w w' := by
  obtain ⟨k, hk⟩ : ∃ k : Nat, (k : Int) = min (s : Int) (max t 0) := ⟨(min (s : Int) (max t 0)).toNat, by omega⟩
  refine (trunc_n (sgn b n) n s k t w hp (by cases b <;> simp [sgn]) hs hn hk).mono ?_
  rintro e w' ⟨rfl, hb⟩
  exact ⟨_, rfl, ⟨_, _, _, rfl, by omega, rfl, rfl, hk⟩, hb⟩
theorem sgn_cut (b : Bool) (n q : Nat) (h : q ≤ n) : sgn (sgn b n) q = sgn b q := by
  unfold sgn
  cases b <;> simp
  omega
theorem cut_div (n s k : Nat) (hk : k ≤ s) : n * 10 ^ k / 10 ^ s = n / 10 ^ (s - k) := by
  have h : 10 ^ s = 10 ^ (s - k) * 10 ^ k := by rw [← Nat.pow_add]; congr 1; omega
  rw [h]
  exact Nat.mul_div_mul_right _ _ (Nat.pow_pos (by decide))
theorem rnd_cut (n d : Nat) : rnd false n d = n / d := by unfold rnd; split <;> rfl

set_option maxHeartbeats 4000000 in
/-- Kept: the scale is not less than the decimal's own. -/
theorem gvTo_keep (b s1 c : Bool) (n s m k : Nat) (t : Int) (w : World) (hs : s ≤ 19) (hn : n ≤ 9999999999999999999) (hR : Rel s1 n s t c m k) (ht : -9223372036854775808 ≤ t ∧ t ≤ 9223372036854775807) (hk : (s : Int) ≤ max t 0) (hb1 : sgn b n = s1) (hb : sgn s1 n = s1) :
    Calls Tryd.prog 9 #[.agg #[.bool b, .int .u64 n, .int .i64 s], .agg #[.bool c, .int .u64 m, .int .i64 k], .int .i64 0, .int .i64 t, .int .i64 0] w fun e w' => e = .returned (.bool true) ∧ Below w.heap.size w w' := by
  obtain rfl : k = s := by have := hR.fit; omega
  obtain rfl : m = n := by have := hR.num; rw [Nat.sub_self, Nat.pow_zero, Nat.div_one] at this; exact this
  obtain rfl : c = s1 := by rw [hR.sg, hb]
  have hd := fun w => FixDec_n b m k w (by omega) (by omega) (by omega)
  rw [hb1] at hd
  have HD := Aside0.mk hd
  have HF := Aside0.mk (fun oa v w hv => FixSame_n c m k oa v w hn hs hb hv)
  have hk2 : (t < 0 ∧ (k : Int) ≤ 0) ∨ (0 ≤ t ∧ (k : Int) ≤ t) := by omega
  clear hd hn hs hR hb hb1 hk ht
  generalize (m : Int) = M at *
  generalize (k : Int) = K at *
  rcases hk2 with ⟨ht, hk⟩ | ⟨ht, hk⟩
  · skip
    go_enter Tryd.func9, Tryd.ntmps9
    go_wp2_with fail
    have dx0 : Box ((w.alloc (Obj.cells #[Value.bool b, Value.int .u64 M, Value.int .i64 K] 24)).alloc (Obj.cells #[Value.bool c, Value.int .u64 M, Value.int .i64 K] 24)) w.heap.size [.bool b, .int .u64 M, .int .i64 K] := ((Box.new3 w _ _ _ _ _ (by simp)).alloc _)
    have ox0 : Box ((w.alloc (Obj.cells #[Value.bool b, Value.int .u64 M, Value.int .i64 K] 24)).alloc (Obj.cells #[Value.bool c, Value.int .u64 M, Value.int .i64 K] 24)) (w.heap.size + 1) [.bool c, .int .u64 M, .int .i64 K] := (Box.new3 (w.alloc (Obj.cells #[Value.bool b, Value.int .u64 M, Value.int .i64 K] 24)) _ _ _ _ _ (by simp))
    have hB0 : Below w.heap.size w ((w.alloc (Obj.cells #[Value.bool b, Value.int .u64 M, Value.int .i64 K] 24)).alloc (Obj.cells #[Value.bool c, Value.int .u64 M, Value.int .i64 K] 24)) := (((Below.refl _ _).alloc (Nat.le_refl _) _).alloc (by simp) _)
    have kdx00 := dx0.c0; have kdx01 := dx0.c1; have kdx02 := dx0.c2; have qdx00 := dx0.f0; have qdx01 := dx0.f1; have qdx02 := dx0.f2; have kox00 := ox0.c0; have kox01 := ox0.c1; have kox02 := ox0.c2; have qox00 := ox0.f0; have qox01 := ox0.f1; have qox02 := ox0.f2
    go_wp2_with (first | (go_at_call 22; (with_reducible refine (HD.out _).mono ?_); rintro e w1 ⟨v, rfl, hv, hb1⟩; have sz1 := hb1.size; (try simp at sz1); (with_reducible have dx1 := dx0.below hb1); have kdx10 := dx1.c0; have kdx11 := dx1.c1; have kdx12 := dx1.c2; have qdx10 := dx1.f0; have qdx11 := dx1.f1; have qdx12 := dx1.f2; (with_reducible have ox1 := ox0.below hb1); have kox10 := ox1.c0; have kox11 := ox1.c1; have kox12 := ox1.c2; have qox10 := ox1.f0; have qox11 := ox1.f1; have qox12 := ox1.f2; have HV := Aside0.mk hv; clear hv; obtain ⟨A1, c1, rfl, _, _⟩ := HV.out.form; have HW1 := Aside0.mk ((Below.refl w1.heap.size w1).alloc (Nat.le_refl _) (Obj.cells #[.bool c, .slice A1 (digs m).length c1, .int .i64 (-K)] 41)); have dx1 := dx1.alloc (Obj.cells #[.bool c, .slice A1 (digs m).length c1, .int .i64 (-K)] 41); have ox1 := ox1.alloc (Obj.cells #[.bool c, .slice A1 (digs m).length c1, .int .i64 (-K)] 41); have wx1 : Box (w1.alloc (Obj.cells #[.bool c, .slice A1 (digs m).length c1, .int .i64 (-K)] 41)) w1.heap.size [.bool c, .slice A1 (digs m).length c1, .int .i64 (-K)] := Box.new3 _ _ _ _ _ _ rfl; have kdx10 := dx1.c0; have kdx11 := dx1.c1; have kdx12 := dx1.c2; have qdx10 := dx1.f0; have qdx11 := dx1.f1; have qdx12 := dx1.f2; have kox10 := ox1.c0; have kox11 := ox1.c1; have kox12 := ox1.c2; have qox10 := ox1.f0; have qox11 := ox1.f1; have qox12 := ox1.f2; have kwx10 := wx1.c0; have kwx11 := wx1.c1; have kwx12 := wx1.c2; have qwx10 := wx1.f0; have qwx11 := wx1.f1; have qwx12 := wx1.f2) | (go_at_call 20; (with_reducible refine (HF.out _ _ _ (HV.out.below HW1.out)).mono ?_); rintro e w2 ⟨rfl, hb2⟩; have sz2 := hb2.size; (try simp at sz2); (with_reducible have dx2 := dx1.below hb2); have kdx20 := dx2.c0; have kdx21 := dx2.c1; have kdx22 := dx2.c2; have qdx20 := dx2.f0; have qdx21 := dx2.f1; have qdx22 := dx2.f2; (with_reducible have ox2 := ox1.below hb2); have kox20 := ox2.c0; have kox21 := ox2.c1; have kox22 := ox2.c2; have qox20 := ox2.f0; have qox21 := ox2.f1; have qox22 := ox2.f2))
    go_ret
    exact ⟨rfl, below_step (below_step (below_step hB0 hb1) HW1.out) hb2⟩
  · skip
    go_enter Tryd.func9, Tryd.ntmps9
    go_wp2_with fail
    have dx0 : Box ((w.alloc (Obj.cells #[Value.bool b, Value.int .u64 M, Value.int .i64 K] 24)).alloc (Obj.cells #[Value.bool c, Value.int .u64 M, Value.int .i64 K] 24)) w.heap.size [.bool b, .int .u64 M, .int .i64 K] := ((Box.new3 w _ _ _ _ _ (by simp)).alloc _)
    have ox0 : Box ((w.alloc (Obj.cells #[Value.bool b, Value.int .u64 M, Value.int .i64 K] 24)).alloc (Obj.cells #[Value.bool c, Value.int .u64 M, Value.int .i64 K] 24)) (w.heap.size + 1) [.bool c, .int .u64 M, .int .i64 K] := (Box.new3 (w.alloc (Obj.cells #[Value.bool b, Value.int .u64 M, Value.int .i64 K] 24)) _ _ _ _ _ (by simp))
    have hB0 : Below w.heap.size w ((w.alloc (Obj.cells #[Value.bool b, Value.int .u64 M, Value.int .i64 K] 24)).alloc (Obj.cells #[Value.bool c, Value.int .u64 M, Value.int .i64 K] 24)) := (((Below.refl _ _).alloc (Nat.le_refl _) _).alloc (by simp) _)
    have kdx00 := dx0.c0; have kdx01 := dx0.c1; have kdx02 := dx0.c2; have qdx00 := dx0.f0; have qdx01 := dx0.f1; have qdx02 := dx0.f2; have kox00 := ox0.c0; have kox01 := ox0.c1; have kox02 := ox0.c2; have qox00 := ox0.f0; have qox01 := ox0.f1; have qox02 := ox0.f2
    go_wp2_with (first | (go_at_call 22; (with_reducible refine (HD.out _).mono ?_); rintro e w1 ⟨v, rfl, hv, hb1⟩; have sz1 := hb1.size; (try simp at sz1); (with_reducible have dx1 := dx0.below hb1); have kdx10 := dx1.c0; have kdx11 := dx1.c1; have kdx12 := dx1.c2; have qdx10 := dx1.f0; have qdx11 := dx1.f1; have qdx12 := dx1.f2; (with_reducible have ox1 := ox0.below hb1); have kox10 := ox1.c0; have kox11 := ox1.c1; have kox12 := ox1.c2; have qox10 := ox1.f0; have qox11 := ox1.f1; have qox12 := ox1.f2; have HV := Aside0.mk hv; clear hv; obtain ⟨A1, c1, rfl, _, _⟩ := HV.out.form; have HW1 := Aside0.mk ((Below.refl w1.heap.size w1).alloc (Nat.le_refl _) (Obj.cells #[.bool c, .slice A1 (digs m).length c1, .int .i64 (-K)] 41)); have dx1 := dx1.alloc (Obj.cells #[.bool c, .slice A1 (digs m).length c1, .int .i64 (-K)] 41); have ox1 := ox1.alloc (Obj.cells #[.bool c, .slice A1 (digs m).length c1, .int .i64 (-K)] 41); have wx1 : Box (w1.alloc (Obj.cells #[.bool c, .slice A1 (digs m).length c1, .int .i64 (-K)] 41)) w1.heap.size [.bool c, .slice A1 (digs m).length c1, .int .i64 (-K)] := Box.new3 _ _ _ _ _ _ rfl; have kdx10 := dx1.c0; have kdx11 := dx1.c1; have kdx12 := dx1.c2; have qdx10 := dx1.f0; have qdx11 := dx1.f1; have qdx12 := dx1.f2; have kox10 := ox1.c0; have kox11 := ox1.c1; have kox12 := ox1.c2; have qox10 := ox1.f0; have qox11 := ox1.f1; have qox12 := ox1.f2; have kwx10 := wx1.c0; have kwx11 := wx1.c1; have kwx12 := wx1.c2; have qwx10 := wx1.f0; have qwx11 := wx1.f1; have qwx12 := wx1.f2) | (go_at_call 20; (with_reducible refine (HF.out _ _ _ (HV.out.below HW1.out)).mono ?_); rintro e w2 ⟨rfl, hb2⟩; have sz2 := hb2.size; (try simp at sz2); (with_reducible have dx2 := dx1.below hb2); have kdx20 := dx2.c0; have kdx21 := dx2.c1; have kdx22 := dx2.c2; have qdx20 := dx2.f0; have qdx21 := dx2.f1; have qdx22 := dx2.f2; (with_reducible have ox2 := ox1.below hb2); have kox20 := ox2.c0; have kox21 := ox2.c1; have kox22 := ox2.c2; have qox20 := ox2.f0; have qox21 := ox2.f1; have qox22 := ox2.f2))
    go_ret
    exact ⟨rfl, below_step (below_step (below_step hB0 hb1) HW1.out) hb2⟩

set_option maxHeartbeats 4000000 in
/-- Cut: the scale is less than the decimal's own. -/
theorem gvTo_cut (b s1 c : Bool) (n s m k : Nat) (t : Int) (w : World) (hs : s ≤ 19) (hn : n ≤ 9999999999999999999) (hR : Rel s1 n s t c m k) (ht : -9223372036854775808 ≤ t ∧ t ≤ 9223372036854775807) (hk : max t 0 < (s : Int)) (hb1 : sgn b n = s1) (hb : sgn s1 n = s1) :
    Calls Tryd.prog 9 #[.agg #[.bool b, .int .u64 n, .int .i64 s], .agg #[.bool c, .int .u64 m, .int .i64 k], .int .i64 0, .int .i64 t, .int .i64 0] w fun e w' => e = .returned (.bool true) ∧ Below w.heap.size w w' := by
  have hle := hR.le
  have hcm := hR.own
  have hmost := hR.most hn
  have hfit := hR.fit
  have hl3 := digs_len n 3 (by omega)
  have hd := fun w => FixDec_n b n s w (by omega) (by omega) (by omega)
  have hnum := fun w => FixNum_n b n s w (by omega) (by omega)
  have hrnd := fun oa od v x w hv hx => round_n s1 n (10 ^ s) k 0 false oa od v x w hv hx (Nat.pow_pos (by decide)) (by omega) (by omega) (by have := len_pow10 s; omega) rfl
  rw [rnd_cut, cut_div n s k hle, ← hR.num, ← hR.sg] at hrnd
  rw [hb1] at hd hnum
  have hf := fun oa v w hv => FixSame_n c m k oa v w hmost (by omega) hcm hv
  have hk2 : (t < 0 ∧ k = 0) ∨ (0 ≤ t ∧ t = (k : Int)) := by omega
  have hks : (k : Int) < (s : Int) := by omega
  have HD := Aside0.mk hd
  have HN := Aside0.mk hnum
  clear hd hnum hn hs hR hb hb1 hk ht hle hcm hmost hfit hl3
  generalize 10 ^ s = q10 at *
  generalize (n : Int) = N at *
  generalize (m : Int) = M at *
  generalize (s : Int) = S at *
  rcases hk2 with ⟨ht, rfl⟩ | ⟨ht, rfl⟩
  · rw [show ((0 : Nat) : Int) = 0 from rfl, show -(0 : Int) = 0 from rfl] at hrnd hf
    rw [show ((0 : Nat) : Int) = 0 from rfl] at hks ⊢
    have HO := Aside0.mk hrnd
    have HF := Aside0.mk hf
    clear hrnd hf
    go_enter Tryd.func9, Tryd.ntmps9
    go_wp2_with fail
    have dx0 : Box ((w.alloc (Obj.cells #[Value.bool b, Value.int .u64 N, Value.int .i64 S] 24)).alloc (Obj.cells #[Value.bool c, Value.int .u64 M, Value.int .i64 0] 24)) w.heap.size [.bool b, .int .u64 N, .int .i64 S] := ((Box.new3 w _ _ _ _ _ (by simp)).alloc _)
    have ox0 : Box ((w.alloc (Obj.cells #[Value.bool b, Value.int .u64 N, Value.int .i64 S] 24)).alloc (Obj.cells #[Value.bool c, Value.int .u64 M, Value.int .i64 0] 24)) (w.heap.size + 1) [.bool c, .int .u64 M, .int .i64 0] := (Box.new3 (w.alloc (Obj.cells #[Value.bool b, Value.int .u64 N, Value.int .i64 S] 24)) _ _ _ _ _ (by simp))
    have hB0 : Below w.heap.size w ((w.alloc (Obj.cells #[Value.bool b, Value.int .u64 N, Value.int .i64 S] 24)).alloc (Obj.cells #[Value.bool c, Value.int .u64 M, Value.int .i64 0] 24)) := (((Below.refl _ _).alloc (Nat.le_refl _) _).alloc (by simp) _)
    have kdx00 := dx0.c0; have kdx01 := dx0.c1; have kdx02 := dx0.c2; have qdx00 := dx0.f0; have qdx01 := dx0.f1; have qdx02 := dx0.f2; have kox00 := ox0.c0; have kox01 := ox0.c1; have kox02 := ox0.c2; have qox00 := ox0.f0; have qox01 := ox0.f1; have qox02 := ox0.f2
    go_wp2_with (first | (go_at_call 22; (with_reducible refine (HD.out _).mono ?_); rintro e w1 ⟨v, rfl, hv, hb1⟩; have sz1 := hb1.size; (try simp at sz1); (with_reducible have dx1 := dx0.below hb1); have kdx10 := dx1.c0; have kdx11 := dx1.c1; have kdx12 := dx1.c2; have qdx10 := dx1.f0; have qdx11 := dx1.f1; have qdx12 := dx1.f2; (with_reducible have ox1 := ox0.below hb1); have kox10 := ox1.c0; have kox11 := ox1.c1; have kox12 := ox1.c2; have qox10 := ox1.f0; have qox11 := ox1.f1; have qox12 := ox1.f2; have HV := Aside0.mk hv; clear hv; obtain ⟨A1, c1, rfl, _, _⟩ := HV.out.form; have HW1 := Aside0.mk ((Below.refl w1.heap.size w1).alloc (Nat.le_refl _) (Obj.cells #[.bool s1, .slice A1 (digs n).length c1, .int .i64 (-S)] 41)); have dx1 := dx1.alloc (Obj.cells #[.bool s1, .slice A1 (digs n).length c1, .int .i64 (-S)] 41); have ox1 := ox1.alloc (Obj.cells #[.bool s1, .slice A1 (digs n).length c1, .int .i64 (-S)] 41); have wx1 : Box (w1.alloc (Obj.cells #[.bool s1, .slice A1 (digs n).length c1, .int .i64 (-S)] 41)) w1.heap.size [.bool s1, .slice A1 (digs n).length c1, .int .i64 (-S)] := Box.new3 _ _ _ _ _ _ rfl; have kdx10 := dx1.c0; have kdx11 := dx1.c1; have kdx12 := dx1.c2; have qdx10 := dx1.f0; have qdx11 := dx1.f1; have qdx12 := dx1.f2; have kox10 := ox1.c0; have kox11 := ox1.c1; have kox12 := ox1.c2; have qox10 := ox1.f0; have qox11 := ox1.f1; have qox12 := ox1.f2; have kwx10 := wx1.c0; have kwx11 := wx1.c1; have kwx12 := wx1.c2; have qwx10 := wx1.f0; have qwx11 := wx1.f1; have qwx12 := wx1.f2) | (go_at_call 29; (with_reducible refine (HN.out _).mono ?_); rintro e w2 ⟨u, y, rfl, hu, hy, hb2⟩; have sz2 := hb2.size; (try simp at sz2); (with_reducible have dx2 := dx1.below hb2); have kdx20 := dx2.c0; have kdx21 := dx2.c1; have kdx22 := dx2.c2; have qdx20 := dx2.f0; have qdx21 := dx2.f1; have qdx22 := dx2.f2; (with_reducible have ox2 := ox1.below hb2); have kox20 := ox2.c0; have kox21 := ox2.c1; have kox22 := ox2.c2; have qox20 := ox2.f0; have qox21 := ox2.f1; have qox22 := ox2.f2; have HU := Aside0.mk hu; have HY := Aside0.mk hy; clear hu hy; obtain ⟨A2, c2, rfl, _, _⟩ := HU.out.form; obtain ⟨A3, c3, rfl, _, _⟩ := HY.out.form; have wx2 := wx1.below hb2; have kwx20 := wx2.c0; have kwx21 := wx2.c1; have kwx22 := wx2.c2; have qwx20 := wx2.f0; have qwx21 := wx2.f1; have qwx22 := wx2.f2) | (go_at_call 15; (with_reducible refine (HO.out _ _ _ _ _ HU.out HY.out).mono ?_); rintro e w3 ⟨z, rfl, hz, hb3⟩; have sz3 := hb3.size; (try simp at sz3); (with_reducible have dx3 := dx2.below hb3); have kdx30 := dx3.c0; have kdx31 := dx3.c1; have kdx32 := dx3.c2; have qdx30 := dx3.f0; have qdx31 := dx3.f1; have qdx32 := dx3.f2; (with_reducible have ox3 := ox2.below hb3); have kox30 := ox3.c0; have kox31 := ox3.c1; have kox32 := ox3.c2; have qox30 := ox3.f0; have qox31 := ox3.f1; have qox32 := ox3.f2; have HZ := Aside0.mk hz; clear hz; obtain ⟨A4, c4, rfl, _, _⟩ := HZ.out.form; have wx3 := wx2.below hb3; have kwx30 := wx3.c0; have kwx31 := wx3.c1; have kwx32 := wx3.c2; have qwx30 := wx3.f0; have qwx31 := wx3.f1; have qwx32 := wx3.f2; have ne1 : w.heap.size ≠ w1.heap.size := (by omega); have ne2 : w.heap.size + 1 ≠ w1.heap.size := (by omega); have SZ := Aside0.mk (show w1.heap.size < w2.heap.size by have := hb2.size; simp at this; omega); have dx3 := dx3.far3 ne1 (.bool c) (.slice A4 (digs m).length c4) (.int .i64 (0)); have ox3 := ox3.far3 ne2 (.bool c) (.slice A4 (digs m).length c4) (.int .i64 (0)); have wx3 := wx3.put3 (.bool c) (.slice A4 (digs m).length c4) (.int .i64 (0)); have kdx30 := dx3.c0; have kdx31 := dx3.c1; have kdx32 := dx3.c2; have qdx30 := dx3.f0; have qdx31 := dx3.f1; have qdx32 := dx3.f2; have kox30 := ox3.c0; have kox31 := ox3.c1; have kox32 := ox3.c2; have qox30 := ox3.f0; have qox31 := ox3.f1; have qox32 := ox3.f2; have kwx30 := wx3.c0; have kwx31 := wx3.c1; have kwx32 := wx3.c2; have qwx30 := wx3.f0; have qwx31 := wx3.f1; have qwx32 := wx3.f2; have HZ4 := Aside0.mk (HZ.out.far3 (g := w1.heap.size) (fun k hk => by have hk' : w2.heap.size ≤ k := hk; have := SZ.out; omega) (.bool c) (.slice A4 (digs m).length c4) (.int .i64 (0)))) | (go_at_call 20; (with_reducible refine (HF.out _ _ _ HZ4.out).mono ?_); rintro e w4 ⟨rfl, hb4⟩; have sz4 := hb4.size; (try simp at sz4); (with_reducible have dx4 := dx3.below hb4); have kdx40 := dx4.c0; have kdx41 := dx4.c1; have kdx42 := dx4.c2; have qdx40 := dx4.f0; have qdx41 := dx4.f1; have qdx42 := dx4.f2; (with_reducible have ox4 := ox3.below hb4); have kox40 := ox4.c0; have kox41 := ox4.c1; have kox42 := ox4.c2; have qox40 := ox4.f0; have qox41 := ox4.f1; have qox42 := ox4.f2))
    go_ret
    exact ⟨rfl, below_step (below3 (below_step (below_step (below_step (below_step hB0 hb1) HW1.out) hb2) hb3) (by have := (below_step hB0 hb1).size; omega) _ _ _) hb4⟩
  · have HO := Aside0.mk hrnd
    have HF := Aside0.mk hf
    clear hrnd hf
    generalize (k : Int) = K at *
    go_enter Tryd.func9, Tryd.ntmps9
    go_wp2_with fail
    have dx0 : Box ((w.alloc (Obj.cells #[Value.bool b, Value.int .u64 N, Value.int .i64 S] 24)).alloc (Obj.cells #[Value.bool c, Value.int .u64 M, Value.int .i64 K] 24)) w.heap.size [.bool b, .int .u64 N, .int .i64 S] := ((Box.new3 w _ _ _ _ _ (by simp)).alloc _)
    have ox0 : Box ((w.alloc (Obj.cells #[Value.bool b, Value.int .u64 N, Value.int .i64 S] 24)).alloc (Obj.cells #[Value.bool c, Value.int .u64 M, Value.int .i64 K] 24)) (w.heap.size + 1) [.bool c, .int .u64 M, .int .i64 K] := (Box.new3 (w.alloc (Obj.cells #[Value.bool b, Value.int .u64 N, Value.int .i64 S] 24)) _ _ _ _ _ (by simp))
    have hB0 : Below w.heap.size w ((w.alloc (Obj.cells #[Value.bool b, Value.int .u64 N, Value.int .i64 S] 24)).alloc (Obj.cells #[Value.bool c, Value.int .u64 M, Value.int .i64 K] 24)) := (((Below.refl _ _).alloc (Nat.le_refl _) _).alloc (by simp) _)
    have kdx00 := dx0.c0; have kdx01 := dx0.c1; have kdx02 := dx0.c2; have qdx00 := dx0.f0; have qdx01 := dx0.f1; have qdx02 := dx0.f2; have kox00 := ox0.c0; have kox01 := ox0.c1; have kox02 := ox0.c2; have qox00 := ox0.f0; have qox01 := ox0.f1; have qox02 := ox0.f2
    go_wp2_with (first | (go_at_call 22; (with_reducible refine (HD.out _).mono ?_); rintro e w1 ⟨v, rfl, hv, hb1⟩; have sz1 := hb1.size; (try simp at sz1); (with_reducible have dx1 := dx0.below hb1); have kdx10 := dx1.c0; have kdx11 := dx1.c1; have kdx12 := dx1.c2; have qdx10 := dx1.f0; have qdx11 := dx1.f1; have qdx12 := dx1.f2; (with_reducible have ox1 := ox0.below hb1); have kox10 := ox1.c0; have kox11 := ox1.c1; have kox12 := ox1.c2; have qox10 := ox1.f0; have qox11 := ox1.f1; have qox12 := ox1.f2; have HV := Aside0.mk hv; clear hv; obtain ⟨A1, c1, rfl, _, _⟩ := HV.out.form; have HW1 := Aside0.mk ((Below.refl w1.heap.size w1).alloc (Nat.le_refl _) (Obj.cells #[.bool s1, .slice A1 (digs n).length c1, .int .i64 (-S)] 41)); have dx1 := dx1.alloc (Obj.cells #[.bool s1, .slice A1 (digs n).length c1, .int .i64 (-S)] 41); have ox1 := ox1.alloc (Obj.cells #[.bool s1, .slice A1 (digs n).length c1, .int .i64 (-S)] 41); have wx1 : Box (w1.alloc (Obj.cells #[.bool s1, .slice A1 (digs n).length c1, .int .i64 (-S)] 41)) w1.heap.size [.bool s1, .slice A1 (digs n).length c1, .int .i64 (-S)] := Box.new3 _ _ _ _ _ _ rfl; have kdx10 := dx1.c0; have kdx11 := dx1.c1; have kdx12 := dx1.c2; have qdx10 := dx1.f0; have qdx11 := dx1.f1; have qdx12 := dx1.f2; have kox10 := ox1.c0; have kox11 := ox1.c1; have kox12 := ox1.c2; have qox10 := ox1.f0; have qox11 := ox1.f1; have qox12 := ox1.f2; have kwx10 := wx1.c0; have kwx11 := wx1.c1; have kwx12 := wx1.c2; have qwx10 := wx1.f0; have qwx11 := wx1.f1; have qwx12 := wx1.f2) | (go_at_call 29; (with_reducible refine (HN.out _).mono ?_); rintro e w2 ⟨u, y, rfl, hu, hy, hb2⟩; have sz2 := hb2.size; (try simp at sz2); (with_reducible have dx2 := dx1.below hb2); have kdx20 := dx2.c0; have kdx21 := dx2.c1; have kdx22 := dx2.c2; have qdx20 := dx2.f0; have qdx21 := dx2.f1; have qdx22 := dx2.f2; (with_reducible have ox2 := ox1.below hb2); have kox20 := ox2.c0; have kox21 := ox2.c1; have kox22 := ox2.c2; have qox20 := ox2.f0; have qox21 := ox2.f1; have qox22 := ox2.f2; have HU := Aside0.mk hu; have HY := Aside0.mk hy; clear hu hy; obtain ⟨A2, c2, rfl, _, _⟩ := HU.out.form; obtain ⟨A3, c3, rfl, _, _⟩ := HY.out.form; have wx2 := wx1.below hb2; have kwx20 := wx2.c0; have kwx21 := wx2.c1; have kwx22 := wx2.c2; have qwx20 := wx2.f0; have qwx21 := wx2.f1; have qwx22 := wx2.f2) | (go_at_call 15; (with_reducible refine (HO.out _ _ _ _ _ HU.out HY.out).mono ?_); rintro e w3 ⟨z, rfl, hz, hb3⟩; have sz3 := hb3.size; (try simp at sz3); (with_reducible have dx3 := dx2.below hb3); have kdx30 := dx3.c0; have kdx31 := dx3.c1; have kdx32 := dx3.c2; have qdx30 := dx3.f0; have qdx31 := dx3.f1; have qdx32 := dx3.f2; (with_reducible have ox3 := ox2.below hb3); have kox30 := ox3.c0; have kox31 := ox3.c1; have kox32 := ox3.c2; have qox30 := ox3.f0; have qox31 := ox3.f1; have qox32 := ox3.f2; have HZ := Aside0.mk hz; clear hz; obtain ⟨A4, c4, rfl, _, _⟩ := HZ.out.form; have wx3 := wx2.below hb3; have kwx30 := wx3.c0; have kwx31 := wx3.c1; have kwx32 := wx3.c2; have qwx30 := wx3.f0; have qwx31 := wx3.f1; have qwx32 := wx3.f2; have ne1 : w.heap.size ≠ w1.heap.size := (by omega); have ne2 : w.heap.size + 1 ≠ w1.heap.size := (by omega); have SZ := Aside0.mk (show w1.heap.size < w2.heap.size by have := hb2.size; simp at this; omega); have dx3 := dx3.far3 ne1 (.bool c) (.slice A4 (digs m).length c4) (.int .i64 (-K)); have ox3 := ox3.far3 ne2 (.bool c) (.slice A4 (digs m).length c4) (.int .i64 (-K)); have wx3 := wx3.put3 (.bool c) (.slice A4 (digs m).length c4) (.int .i64 (-K)); have kdx30 := dx3.c0; have kdx31 := dx3.c1; have kdx32 := dx3.c2; have qdx30 := dx3.f0; have qdx31 := dx3.f1; have qdx32 := dx3.f2; have kox30 := ox3.c0; have kox31 := ox3.c1; have kox32 := ox3.c2; have qox30 := ox3.f0; have qox31 := ox3.f1; have qox32 := ox3.f2; have kwx30 := wx3.c0; have kwx31 := wx3.c1; have kwx32 := wx3.c2; have qwx30 := wx3.f0; have qwx31 := wx3.f1; have qwx32 := wx3.f2; have HZ4 := Aside0.mk (HZ.out.far3 (g := w1.heap.size) (fun k hk => by have hk' : w2.heap.size ≤ k := hk; have := SZ.out; omega) (.bool c) (.slice A4 (digs m).length c4) (.int .i64 (-K)))) | (go_at_call 20; (with_reducible refine (HF.out _ _ _ HZ4.out).mono ?_); rintro e w4 ⟨rfl, hb4⟩; have sz4 := hb4.size; (try simp at sz4); (with_reducible have dx4 := dx3.below hb4); have kdx40 := dx4.c0; have kdx41 := dx4.c1; have kdx42 := dx4.c2; have qdx40 := dx4.f0; have qdx41 := dx4.f1; have qdx42 := dx4.f2; (with_reducible have ox4 := ox3.below hb4); have kox40 := ox4.c0; have kox41 := ox4.c1; have kox42 := ox4.c2; have qox40 := ox4.f0; have qox41 := ox4.f1; have qox42 := ox4.f2))
    go_ret
    exact ⟨rfl, below_step (below3 (below_step (below_step (below_step (below_step hB0 hb1) HW1.out) hb2) hb3) (by have := (below_step hB0 hb1).size; omega) _ _ _) hb4⟩

theorem gvTo_n (b s1 c : Bool) (n s m k : Nat) (t : Int) (w : World) (hs : s ≤ 19) (hn : n ≤ 9999999999999999999) (hR : Rel s1 n s t c m k) (ht : -9223372036854775808 ≤ t ∧ t ≤ 9223372036854775807) (hb1 : sgn b n = s1) (hb : sgn s1 n = s1) :
    Calls Tryd.prog 9 #[.agg #[.bool b, .int .u64 n, .int .i64 s], .agg #[.bool c, .int .u64 m, .int .i64 k], .int .i64 0, .int .i64 t, .int .i64 0] w fun e w' => e = .returned (.bool true) ∧ Below w.heap.size w w' := by
  by_cases hk : (s : Int) ≤ max t 0
  · exact gvTo_keep b s1 c n s m k t w hs hn hR ht hk hb1 hb
  · exact gvTo_cut b s1 c n s m k t w hs hn hR ht (by omega) hb1 hb

set_option maxHeartbeats 4000000 in
theorem law_ok (b : Bool) (n s : Nat) (t : Int) (w : World) (hp : Pows w) (hs : s ≤ 19) (hn : n ≤ 9999999999999999999) (ht : -9223372036854775808 ≤ t ∧ t ≤ 9223372036854775807) :
    Calls Tryd.prog 3 #[.agg #[.bool b, .int .u64 n, .int .i64 s], .int .i64 t] w fun e w' => e = .returned (.bool true) ∧ Below w.heap.size w w' := by
  have HG := Aside0.mk (fun w hp => door_trunc_ok b n s t (Rel (sgn b n) n s t) w hp hs hn (target_ok b n s t hs hn))
  have HI := Aside0.mk (fun w => FixIs_n b n s w hn hs)
  have HT := Aside0.mk (fun c m k w hR => gvTo_n b (sgn b n) c n s m k t w hs hn hR ht rfl (by cases b <;> simp [sgn]))
  clear hs hn ht
  generalize sgn b n = s1 at *
  go_enter Tryd.func3, Tryd.ntmps3
  go_wp2_with fail
  have dx0 : Box (w.alloc (Obj.cells #[Value.bool b, Value.int .u64 n, Value.int .i64 s] 24)) w.heap.size [.bool b, .int .u64 n, .int .i64 s] := (Box.new3 w _ _ _ _ _ (by simp))
  have hB0 : Below w.heap.size w (w.alloc (Obj.cells #[Value.bool b, Value.int .u64 n, Value.int .i64 s] 24)) := ((Below.refl _ _).alloc (Nat.le_refl _) _)
  have kdx00 := dx0.c0; have kdx01 := dx0.c1; have kdx02 := dx0.c2; have qdx00 := dx0.f0; have qdx01 := dx0.f1; have qdx02 := dx0.f2
  replace hp := hp.below hB0
  go_wp2_with (first | (go_at_call 7; (with_reducible refine (HG.out _ hp).mono ?_); rintro e w1 ⟨v, rfl, hF, hb1⟩; have sz1 := hb1.size; (try simp at sz1); (with_reducible have dx1 := dx0.below hb1); have kdx10 := dx1.c0; have kdx11 := dx1.c1; have kdx12 := dx1.c2; have qdx10 := dx1.f0; have qdx11 := dx1.f1; have qdx12 := dx1.f2; obtain ⟨c, m, k, rfl, hk, hR⟩ := hF.out; have HR := Aside0.mk hR; clear hR hk; have HW := Aside0.mk ((Below.refl w1.heap.size w1).alloc (Nat.le_refl _) (Obj.cells #[.bool c, .int .u64 m, .int .i64 k] 24)); have dx1 := dx1.alloc (Obj.cells #[.bool c, .int .u64 m, .int .i64 k] 24); have fx1 : Box (w1.alloc (Obj.cells #[.bool c, .int .u64 m, .int .i64 k] 24)) w1.heap.size [.bool c, .int .u64 m, .int .i64 k] := Box.new3 _ _ _ _ _ _ rfl; have kdx10 := dx1.c0; have kdx11 := dx1.c1; have kdx12 := dx1.c2; have qdx10 := dx1.f0; have qdx11 := dx1.f1; have qdx12 := dx1.f2; have kfx10 := fx1.c0; have kfx11 := fx1.c1; have kfx12 := fx1.c2; have qfx10 := fx1.f0; have qfx11 := fx1.f1; have qfx12 := fx1.f2) | (go_at_call 8; (with_reducible refine (HI.out _).mono ?_); rintro e w2 ⟨rfl, hb2⟩; have sz2 := hb2.size; (try simp at sz2); (with_reducible have dx2 := dx1.below hb2); have kdx20 := dx2.c0; have kdx21 := dx2.c1; have kdx22 := dx2.c2; have qdx20 := dx2.f0; have qdx21 := dx2.f1; have qdx22 := dx2.f2; have fx2 := fx1.below hb2; have kfx20 := fx2.c0; have kfx21 := fx2.c1; have kfx22 := fx2.c2; have qfx20 := fx2.f0; have qfx21 := fx2.f1; have qfx22 := fx2.f2) | (go_at_call 9; (with_reducible refine (HT.out c m k _ HR.out).mono ?_); rintro e w3 ⟨rfl, hb3⟩; have sz3 := hb3.size; (try simp at sz3); (with_reducible have dx3 := dx2.below hb3); have kdx30 := dx3.c0; have kdx31 := dx3.c1; have kdx32 := dx3.c2; have qdx30 := dx3.f0; have qdx31 := dx3.f1; have qdx32 := dx3.f2))
  go_ret
  exact ⟨rfl, below_step (below_step (below_step (below_step hB0 hb1) HW.out) hb2) hb3⟩

theorem FixIs_bad (b : Bool) (n s : Int) (w : World) (hr : ¬ (0 ≤ s ∧ s ≤ 19 ∧ n ≤ 9999999999999999999)) : Calls Tryd.prog 8 #[.agg #[.bool b, .int .u64 n, .int .i64 s]] w fun en w' => en = .returned (.bool false) ∧ Below w.heap.size w w' := by
  refine Go.Proofs.YtnjbfebeigginaaDoor.PFnFixTrunc.spec_FixIs.calls b n s false w ?_
  simp only [Go.Proofs.YtnjbfebeigginaaDoor.PFnFixTrunc.spec_FixIs.f]
  by_cases h1 : n ≤ 9999999999999999999
  · rw [if_pos h1]
    by_cases h2 : s ≥ 0
    · rw [if_pos h2, decide_eq_false (by omega)]
    · rw [if_neg h2]
  · rw [if_neg h1]
set_option maxHeartbeats 4000000 in
theorem law_bad (b : Bool) (n s t : Int) (w : World) (he : Errs w) (hn : 0 ≤ n ∧ n ≤ 18446744073709551615) (hr : ¬ (0 ≤ s ∧ s ≤ 19 ∧ n ≤ 9999999999999999999)) :
    Calls Tryd.prog 3 #[.agg #[.bool b, .int .u64 n, .int .i64 s], .int .i64 t] w fun e w' => e = .returned (.bool true) ∧ Below w.heap.size w w' := by
  have HG := Aside0.mk (fun w he => door_trunc_bad b n s t w he hn hr)
  have HI := Aside0.mk (fun w => FixIs_bad b n s w hr)
  clear hn hr
  go_enter Tryd.func3, Tryd.ntmps3
  go_wp2_with fail
  have dx0 : Box (w.alloc (Obj.cells #[Value.bool b, Value.int .u64 n, Value.int .i64 s] 24)) w.heap.size [.bool b, .int .u64 n, .int .i64 s] := (Box.new3 w _ _ _ _ _ (by simp))
  have hB0 : Below w.heap.size w (w.alloc (Obj.cells #[Value.bool b, Value.int .u64 n, Value.int .i64 s] 24)) := ((Below.refl _ _).alloc (Nat.le_refl _) _)
  have kdx00 := dx0.c0; have kdx01 := dx0.c1; have kdx02 := dx0.c2; have qdx00 := dx0.f0; have qdx01 := dx0.f1; have qdx02 := dx0.f2
  replace he := he.below hB0
  go_wp2_with (first | (go_at_call 7; (with_reducible refine (HG.out _ he).mono ?_); rintro e w1 ⟨rfl, hb1⟩; have sz1 := hb1.size; (try simp at sz1); (with_reducible have dx1 := dx0.below hb1); have kdx10 := dx1.c0; have kdx11 := dx1.c1; have kdx12 := dx1.c2; have qdx10 := dx1.f0; have qdx11 := dx1.f1; have qdx12 := dx1.f2; have HW := Aside0.mk ((Below.refl w1.heap.size w1).alloc (Nat.le_refl _) (Obj.cells #[.bool false, .int .u64 0, .int .i64 0] 24)); have dx1 := dx1.alloc (Obj.cells #[.bool false, .int .u64 0, .int .i64 0] 24); have fx1 : Box (w1.alloc (Obj.cells #[.bool false, .int .u64 0, .int .i64 0] 24)) w1.heap.size [.bool false, .int .u64 0, .int .i64 0] := Box.new3 _ _ _ _ _ _ rfl; have kdx10 := dx1.c0; have kdx11 := dx1.c1; have kdx12 := dx1.c2; have qdx10 := dx1.f0; have qdx11 := dx1.f1; have qdx12 := dx1.f2; have kfx10 := fx1.c0; have kfx11 := fx1.c1; have kfx12 := fx1.c2; have qfx10 := fx1.f0; have qfx11 := fx1.f1; have qfx12 := fx1.f2) | (go_at_call 8; (with_reducible refine (HI.out _).mono ?_); rintro e w2 ⟨rfl, hb2⟩; have sz2 := hb2.size; (try simp at sz2); (with_reducible have dx2 := dx1.below hb2); have kdx20 := dx2.c0; have kdx21 := dx2.c1; have kdx22 := dx2.c2; have qdx20 := dx2.f0; have qdx21 := dx2.f1; have qdx22 := dx2.f2))
  go_ret
  exact ⟨rfl, below_step (below_step (below_step hB0 hb1) HW.out) hb2⟩
end Go.Proofs.YtnjbfebeigginaaDoor.LawTrunc
