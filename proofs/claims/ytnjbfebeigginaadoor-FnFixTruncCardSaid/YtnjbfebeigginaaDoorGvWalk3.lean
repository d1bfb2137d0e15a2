/-
  The package's decimals cut off, trimmed, padded.
-/
import Derived.Test.YtnjbfebeigginaaDoorGvWalk2
set_option linter.unusedVariables false
set_option linter.unusedSimpArgs false
namespace Go.Proofs.YtnjbfebeigginaaDoor.GvWalk
open Go.RowKit Go.Proofs.YtnjbfebeigginaaDoorW.PrintWords Go.Proofs.YtnjbfebeigginaaDoorW.PrintLast Go.Proofs.YtnjbfebeigginaaDoorW.PrintMore Go.Proofs.YtnjbfebeigginaaDoor.Digs Go.Proofs.YtnjbfebeigginaaDoor.StrLaw Go.Proofs.YtnjbfebeigginaaDoor.NatLaw Go.Proofs.YtnjbfebeigginaaDoor.NatWalk Go.Proofs.YtnjbfebeigginaaDoor.SpecWalk
open Go.Proofs.YtnjbfebeigginaaDoor.PFnFixTrunc

set_option maxHeartbeats 800000 in
/-- Cut off at a scale. -/
theorem trunc_n (b : Bool) (n s k : Nat) (t : Int) (w : World) (hp : Pows w) (hb : sgn b n = b) (hs : s ≤ 19) (hn : n ≤ 9999999999999999999) (hk : (k : Int) = min (s : Int) (max t 0)) :
    Calls Tryd.prog 28 #[.agg #[.bool b, .int .i8 s, .int .u64 n], .int .i64 t] w fun e w' => e = .returned (.agg #[.bool (sgn b (n / 10 ^ (s - k))), .int .i8 k, .int .u64 ((n / 10 ^ (s - k) : Nat) : Int)]) ∧ Below w.heap.size w w' := by
  have HS := Aside0.mk (fun w => scale_n b n s w hs)
  by_cases ht : 0 ≤ t
  · replace hk : (k : Int) = min (s : Int) t := by omega
    by_cases hks : (s : Int) ≤ t
    · obtain rfl : k = s := by omega
      rw [Nat.sub_self, Nat.pow_zero, Nat.div_one, hb]
      clear hk hb hs hn
      go_enter Tryd.func28, Tryd.ntmps28
      go_wp2_with fail
      have bx0 : Box ((w.alloc (Obj.cells #[Value.bool b, Value.int .i8 k, Value.int .u64 n] 52)).alloc (Obj.cells #[Value.bool false, Value.int .i8 0, Value.int .u64 0] 52)) w.heap.size [.bool b, .int .i8 k, .int .u64 n] := ((Box.new3 w _ _ _ _ _ (by simp)).alloc _)
      have rx0 : Box ((w.alloc (Obj.cells #[Value.bool b, Value.int .i8 k, Value.int .u64 n] 52)).alloc (Obj.cells #[Value.bool false, Value.int .i8 0, Value.int .u64 0] 52)) (w.heap.size + 1) [.bool false, .int .i8 0, .int .u64 0] := (Box.new3 (w.alloc (Obj.cells #[Value.bool b, Value.int .i8 k, Value.int .u64 n] 52)) _ _ _ _ _ (by simp))
      have hB0 : Below w.heap.size w ((w.alloc (Obj.cells #[Value.bool b, Value.int .i8 k, Value.int .u64 n] 52)).alloc (Obj.cells #[Value.bool false, Value.int .i8 0, Value.int .u64 0] 52)) := (((Below.refl _ _).alloc (Nat.le_refl _) _).alloc (by simp) _)
      have kbx00 := bx0.c0; have kbx01 := bx0.c1; have kbx02 := bx0.c2; have qbx00 := bx0.f0; have qbx01 := bx0.f1; have qbx02 := bx0.f2; have krx00 := rx0.c0; have krx01 := rx0.c1; have krx02 := rx0.c2; have qrx00 := rx0.f0; have qrx01 := rx0.f1; have qrx02 := rx0.f2
      go_wp2_with (first | (go_at_call 50; (with_reducible refine (HS.out _).mono ?_); rintro e w1 ⟨rfl, hb1⟩; have sz1 := hb1.size; (try simp at sz1); (with_reducible have bx1 := bx0.below hb1); have kbx10 := bx1.c0; have kbx11 := bx1.c1; have kbx12 := bx1.c2; have qbx10 := bx1.f0; have qbx11 := bx1.f1; have qbx12 := bx1.f2; (with_reducible have rx1 := rx0.below hb1); have krx10 := rx1.c0; have krx11 := rx1.c1; have krx12 := rx1.c2; have qrx10 := rx1.f0; have qrx11 := rx1.f1; have qrx12 := rx1.f2))
      go_wp2
      refine bodyPost_ret (v := .agg #[.bool b, .int .i8 k, .int .u64 n]) (by simp [results, Tryd.results28, go_sem, krx10, krx11, krx12] <;> omega) rfl ⟨rfl, ?_⟩
      exact below3 (below_step hB0 hb1) (by omega) _ _ _
    · replace hks : t < (s : Int) := by omega
      obtain rfl : t = (k : Int) := by omega
      have hsub : wrap64 ((s - k : Nat) : Int) = ((s - k : Nat) : Int) := w64_in _ (by omega)
      have hsub' : (s : Int) - (k : Int) = ((s - k : Nat) : Int) := by omega
      have HR := Aside0.mk (fun w hp => rshDown_n n (s - k) w hp hn (by omega))
      have HU := Aside0.mk (fun w => newUnsafe_n b (n / 10 ^ (s - k)) k w (by omega))
      have HN := Aside0.mk (fun w => isNeg_n b n s w)
      clear hk hb hn hs
      generalize hq : ((n / 10 ^ (s - k) : Nat) : Int) = q at *
      generalize sgn b (n / 10 ^ (s - k)) = b2 at *
      clear hq
      generalize hd : ((s - k : Nat) : Int) = d at *
      clear hd
      go_enter Tryd.func28, Tryd.ntmps28
      go_wp2_with fail
      have bx0 : Box ((w.alloc (Obj.cells #[Value.bool b, Value.int .i8 s, Value.int .u64 n] 52)).alloc (Obj.cells #[Value.bool false, Value.int .i8 0, Value.int .u64 0] 52)) w.heap.size [.bool b, .int .i8 s, .int .u64 n] := ((Box.new3 w _ _ _ _ _ (by simp)).alloc _)
      have rx0 : Box ((w.alloc (Obj.cells #[Value.bool b, Value.int .i8 s, Value.int .u64 n] 52)).alloc (Obj.cells #[Value.bool false, Value.int .i8 0, Value.int .u64 0] 52)) (w.heap.size + 1) [.bool false, .int .i8 0, .int .u64 0] := (Box.new3 (w.alloc (Obj.cells #[Value.bool b, Value.int .i8 s, Value.int .u64 n] 52)) _ _ _ _ _ (by simp))
      have hB0 : Below w.heap.size w ((w.alloc (Obj.cells #[Value.bool b, Value.int .i8 s, Value.int .u64 n] 52)).alloc (Obj.cells #[Value.bool false, Value.int .i8 0, Value.int .u64 0] 52)) := (((Below.refl _ _).alloc (Nat.le_refl _) _).alloc (by simp) _)
      have kbx00 := bx0.c0; have kbx01 := bx0.c1; have kbx02 := bx0.c2; have qbx00 := bx0.f0; have qbx01 := bx0.f1; have qbx02 := bx0.f2; have krx00 := rx0.c0; have krx01 := rx0.c1; have krx02 := rx0.c2; have qrx00 := rx0.f0; have qrx01 := rx0.f1; have qrx02 := rx0.f2
      replace hp := hp.below hB0
      go_wp2_with (first | (go_at_call 50; (with_reducible refine (HS.out _).mono ?_); rintro e w1 ⟨rfl, hb1⟩; have sz1 := hb1.size; (try simp at sz1); (with_reducible have bx1 := bx0.below hb1); have kbx10 := bx1.c0; have kbx11 := bx1.c1; have kbx12 := bx1.c2; have qbx10 := bx1.f0; have qbx11 := bx1.f1; have qbx12 := bx1.f2; (with_reducible have rx1 := rx0.below hb1); have krx10 := rx1.c0; have krx11 := rx1.c1; have krx12 := rx1.c2; have qrx10 := rx1.f0; have qrx11 := rx1.f1; have qrx12 := rx1.f2; (with_reducible replace hp := hp.below hb1)) | (go_at_call 50; (with_reducible refine (HS.out _).mono ?_); rintro e w2 ⟨rfl, hb2⟩; have sz2 := hb2.size; (try simp at sz2); (with_reducible have bx2 := bx1.below hb2); have kbx20 := bx2.c0; have kbx21 := bx2.c1; have kbx22 := bx2.c2; have qbx20 := bx2.f0; have qbx21 := bx2.f1; have qbx22 := bx2.f2; (with_reducible have rx2 := rx1.below hb2); have krx20 := rx2.c0; have krx21 := rx2.c1; have krx22 := rx2.c2; have qrx20 := rx2.f0; have qrx21 := rx2.f1; have qrx22 := rx2.f2; (with_reducible replace hp := hp.below hb2)) | (go_at_call 51; (with_reducible refine (HR.out _ hp).mono ?_); rintro e w0 ⟨rfl, rfl⟩) | (go_at_call 48; (with_reducible refine (HN.out _).mono ?_); rintro e w3 ⟨rfl, hb3⟩; have sz3 := hb3.size; (try simp at sz3); (with_reducible have bx3 := bx2.below hb3); have kbx30 := bx3.c0; have kbx31 := bx3.c1; have kbx32 := bx3.c2; have qbx30 := bx3.f0; have qbx31 := bx3.f1; have qbx32 := bx3.f2; (with_reducible have rx3 := rx2.below hb3); have krx30 := rx3.c0; have krx31 := rx3.c1; have krx32 := rx3.c2; have qrx30 := rx3.f0; have qrx31 := rx3.f1; have qrx32 := rx3.f2) | (go_at_call 52; (with_reducible refine (HU.out _).mono ?_); rintro e w4 ⟨rfl, hb4⟩; have sz4 := hb4.size; (try simp at sz4); (with_reducible have bx4 := bx3.below hb4); have kbx40 := bx4.c0; have kbx41 := bx4.c1; have kbx42 := bx4.c2; have qbx40 := bx4.f0; have qbx41 := bx4.f1; have qbx42 := bx4.f2; (with_reducible have rx4 := rx3.below hb4); have krx40 := rx4.c0; have krx41 := rx4.c1; have krx42 := rx4.c2; have qrx40 := rx4.f0; have qrx41 := rx4.f1; have qrx42 := rx4.f2))
      refine bodyPost_ret (v := .agg #[.bool b2, .int .i8 k, .int .u64 q]) (by simp [results, Tryd.results28, go_sem, krx40, krx41, krx42]) rfl ⟨by rfl, ?_⟩
      exact below3 (below_step (below_step (below_step (below_step hB0 hb1) hb2) hb3) hb4) (by omega) _ _ _
  · replace hk : (k : Int) = min (s : Int) 0 := by omega
    by_cases hks : (s : Int) ≤ 0
    · obtain rfl : k = s := by omega
      rw [Nat.sub_self, Nat.pow_zero, Nat.div_one, hb]
      clear hk hb hs hn
      go_enter Tryd.func28, Tryd.ntmps28
      go_wp2_with fail
      have bx0 : Box ((w.alloc (Obj.cells #[Value.bool b, Value.int .i8 k, Value.int .u64 n] 52)).alloc (Obj.cells #[Value.bool false, Value.int .i8 0, Value.int .u64 0] 52)) w.heap.size [.bool b, .int .i8 k, .int .u64 n] := ((Box.new3 w _ _ _ _ _ (by simp)).alloc _)
      have rx0 : Box ((w.alloc (Obj.cells #[Value.bool b, Value.int .i8 k, Value.int .u64 n] 52)).alloc (Obj.cells #[Value.bool false, Value.int .i8 0, Value.int .u64 0] 52)) (w.heap.size + 1) [.bool false, .int .i8 0, .int .u64 0] := (Box.new3 (w.alloc (Obj.cells #[Value.bool b, Value.int .i8 k, Value.int .u64 n] 52)) _ _ _ _ _ (by simp))
      have hB0 : Below w.heap.size w ((w.alloc (Obj.cells #[Value.bool b, Value.int .i8 k, Value.int .u64 n] 52)).alloc (Obj.cells #[Value.bool false, Value.int .i8 0, Value.int .u64 0] 52)) := (((Below.refl _ _).alloc (Nat.le_refl _) _).alloc (by simp) _)
      have kbx00 := bx0.c0; have kbx01 := bx0.c1; have kbx02 := bx0.c2; have qbx00 := bx0.f0; have qbx01 := bx0.f1; have qbx02 := bx0.f2; have krx00 := rx0.c0; have krx01 := rx0.c1; have krx02 := rx0.c2; have qrx00 := rx0.f0; have qrx01 := rx0.f1; have qrx02 := rx0.f2
      go_wp2_with (first | (go_at_call 50; (with_reducible refine (HS.out _).mono ?_); rintro e w1 ⟨rfl, hb1⟩; have sz1 := hb1.size; (try simp at sz1); (with_reducible have bx1 := bx0.below hb1); have kbx10 := bx1.c0; have kbx11 := bx1.c1; have kbx12 := bx1.c2; have qbx10 := bx1.f0; have qbx11 := bx1.f1; have qbx12 := bx1.f2; (with_reducible have rx1 := rx0.below hb1); have krx10 := rx1.c0; have krx11 := rx1.c1; have krx12 := rx1.c2; have qrx10 := rx1.f0; have qrx11 := rx1.f1; have qrx12 := rx1.f2))
      go_wp2
      refine bodyPost_ret (v := .agg #[.bool b, .int .i8 k, .int .u64 n]) (by simp [results, Tryd.results28, go_sem, krx10, krx11, krx12] <;> omega) rfl ⟨rfl, ?_⟩
      exact below3 (below_step hB0 hb1) (by omega) _ _ _
    · replace hks : 0 < (s : Int) := by omega
      obtain rfl : k = 0 := by omega
      have hsub := w64_in s hs
      rw [Nat.sub_zero]
      have HR := Aside0.mk (fun w hp => rshDown_n n s w hp hn (by omega))
      have HU := Aside0.mk (fun w => newUnsafe_n b (n / 10 ^ s) 0 w (by omega))
      have HN := Aside0.mk (fun w => isNeg_n b n s w)
      clear hk hb hn hs
      generalize hq : ((n / 10 ^ s : Nat) : Int) = q at *
      generalize sgn b (n / 10 ^ s) = b2 at *
      clear hq
      rw [show ((0 : Nat) : Int) = 0 from rfl] at HU
      go_enter Tryd.func28, Tryd.ntmps28
      go_wp2_with fail
      have bx0 : Box ((w.alloc (Obj.cells #[Value.bool b, Value.int .i8 s, Value.int .u64 n] 52)).alloc (Obj.cells #[Value.bool false, Value.int .i8 0, Value.int .u64 0] 52)) w.heap.size [.bool b, .int .i8 s, .int .u64 n] := ((Box.new3 w _ _ _ _ _ (by simp)).alloc _)
      have rx0 : Box ((w.alloc (Obj.cells #[Value.bool b, Value.int .i8 s, Value.int .u64 n] 52)).alloc (Obj.cells #[Value.bool false, Value.int .i8 0, Value.int .u64 0] 52)) (w.heap.size + 1) [.bool false, .int .i8 0, .int .u64 0] := (Box.new3 (w.alloc (Obj.cells #[Value.bool b, Value.int .i8 s, Value.int .u64 n] 52)) _ _ _ _ _ (by simp))
      have hB0 : Below w.heap.size w ((w.alloc (Obj.cells #[Value.bool b, Value.int .i8 s, Value.int .u64 n] 52)).alloc (Obj.cells #[Value.bool false, Value.int .i8 0, Value.int .u64 0] 52)) := (((Below.refl _ _).alloc (Nat.le_refl _) _).alloc (by simp) _)
      have kbx00 := bx0.c0; have kbx01 := bx0.c1; have kbx02 := bx0.c2; have qbx00 := bx0.f0; have qbx01 := bx0.f1; have qbx02 := bx0.f2; have krx00 := rx0.c0; have krx01 := rx0.c1; have krx02 := rx0.c2; have qrx00 := rx0.f0; have qrx01 := rx0.f1; have qrx02 := rx0.f2
      replace hp := hp.below hB0
      go_wp2_with (first | (go_at_call 50; (with_reducible refine (HS.out _).mono ?_); rintro e w1 ⟨rfl, hb1⟩; have sz1 := hb1.size; (try simp at sz1); (with_reducible have bx1 := bx0.below hb1); have kbx10 := bx1.c0; have kbx11 := bx1.c1; have kbx12 := bx1.c2; have qbx10 := bx1.f0; have qbx11 := bx1.f1; have qbx12 := bx1.f2; (with_reducible have rx1 := rx0.below hb1); have krx10 := rx1.c0; have krx11 := rx1.c1; have krx12 := rx1.c2; have qrx10 := rx1.f0; have qrx11 := rx1.f1; have qrx12 := rx1.f2; (with_reducible replace hp := hp.below hb1)) | (go_at_call 50; (with_reducible refine (HS.out _).mono ?_); rintro e w2 ⟨rfl, hb2⟩; have sz2 := hb2.size; (try simp at sz2); (with_reducible have bx2 := bx1.below hb2); have kbx20 := bx2.c0; have kbx21 := bx2.c1; have kbx22 := bx2.c2; have qbx20 := bx2.f0; have qbx21 := bx2.f1; have qbx22 := bx2.f2; (with_reducible have rx2 := rx1.below hb2); have krx20 := rx2.c0; have krx21 := rx2.c1; have krx22 := rx2.c2; have qrx20 := rx2.f0; have qrx21 := rx2.f1; have qrx22 := rx2.f2; (with_reducible replace hp := hp.below hb2)) | (go_at_call 51; (with_reducible refine (HR.out _ hp).mono ?_); rintro e w0 ⟨rfl, rfl⟩) | (go_at_call 48; (with_reducible refine (HN.out _).mono ?_); rintro e w3 ⟨rfl, hb3⟩; have sz3 := hb3.size; (try simp at sz3); (with_reducible have bx3 := bx2.below hb3); have kbx30 := bx3.c0; have kbx31 := bx3.c1; have kbx32 := bx3.c2; have qbx30 := bx3.f0; have qbx31 := bx3.f1; have qbx32 := bx3.f2; (with_reducible have rx3 := rx2.below hb3); have krx30 := rx3.c0; have krx31 := rx3.c1; have krx32 := rx3.c2; have qrx30 := rx3.f0; have qrx31 := rx3.f1; have qrx32 := rx3.f2) | (go_at_call 52; (with_reducible refine (HU.out _).mono ?_); rintro e w4 ⟨rfl, hb4⟩; have sz4 := hb4.size; (try simp at sz4); (with_reducible have bx4 := bx3.below hb4); have kbx40 := bx4.c0; have kbx41 := bx4.c1; have kbx42 := bx4.c2; have qbx40 := bx4.f0; have qbx41 := bx4.f1; have qbx42 := bx4.f2; (with_reducible have rx4 := rx3.below hb4); have krx40 := rx4.c0; have krx41 := rx4.c1; have krx42 := rx4.c2; have qrx40 := rx4.f0; have qrx41 := rx4.f1; have qrx42 := rx4.f2))
      refine bodyPost_ret (v := .agg #[.bool b2, .int .i8 0, .int .u64 q]) (by simp [results, Tryd.results28, go_sem, krx40, krx41, krx42]) rfl ⟨by rfl, ?_⟩
      exact below3 (below_step (below_step (below_step (below_step hB0 hb1) hb2) hb3) hb4) (by omega) _ _ _

theorem isZero_n (b : Bool) (n s : Nat) (w : World) : Calls Tryd.prog 69 #[.agg #[.bool b, .int .i8 s, .int .u64 n]] w fun e w' => e = .returned (.bool (decide (n = 0))) ∧ Below w.heap.size w w' := by
  have h : ((n : Int) == 0) = decide (n = 0) := by
    by_cases h0 : n = 0
    · subst h0; rfl
    · rw [decide_eq_false h0, beq_eq_false_iff_ne]; omega
  go_enter Tryd.func69, Tryd.ntmps69
  go_wp2
  go_ret
  exact ⟨by rw [← h]; rfl, (Below.refl _ _).alloc (Nat.le_refl _) _⟩

/-- The least scale to which a coefficient can be brought. -/
structure Least (n s m : Nat) : Prop where
  mk :: (le : m ≤ s) (dvd : 10 ^ (s - m) ∣ n) (stop : m = 0 ∨ ¬ 10 ^ (s - m + 1) ∣ n)
theorem Least.of_ntz {n s t : Nat} (h1 : 10 ^ t ∣ n) (h2 : ¬ 10 ^ (t + 1) ∣ n) : Least n s (s - t) := by
  by_cases h : t < s
  · exact ⟨by omega, by rw [show s - (s - t) = t by omega]; exact h1, .inr (by rw [show s - (s - t) = t by omega]; exact h2)⟩
  · exact ⟨by omega, by rw [show s - (s - t) = s by omega]; exact Nat.dvd_trans (Nat.pow_dvd_pow 10 (by omega)) h1, .inl (by omega)⟩

set_option maxHeartbeats 2000000 in
theorem minScale_n (b : Bool) (n s : Nat) (w : World) (hp : Pows w) (hs : s ≤ 19) (hn : n ≤ 9999999999999999999) :
    Calls Tryd.prog 62 #[.agg #[.bool b, .int .i8 s, .int .u64 n]] w fun e w' => ∃ m : Nat, e = .returned (.int .i64 m) ∧ Least n s m ∧ Below w.heap.size w w' := by
  have HZ := Aside0.mk (fun w => isZero_n b n s w)
  by_cases hn0 : n = 0
  · subst hn0
    rw [show decide ((0 : Nat) = 0) = true from rfl, show ((0 : Nat) : Int) = 0 from rfl] at HZ
    rw [show ((0 : Nat) : Int) = 0 from rfl]
    clear hs hn
    go_enter Tryd.func62, Tryd.ntmps62
    go_wp2_with fail
    have bx0 : Box (w.alloc (Obj.cells #[Value.bool b, Value.int .i8 s, Value.int .u64 0] 52)) w.heap.size [.bool b, .int .i8 s, .int .u64 0] := (Box.new3 w _ _ _ _ _ (by simp))
    have hB0 : Below w.heap.size w (w.alloc (Obj.cells #[Value.bool b, Value.int .i8 s, Value.int .u64 0] 52)) := ((Below.refl _ _).alloc (Nat.le_refl _) _)
    have kbx00 := bx0.c0; have kbx01 := bx0.c1; have kbx02 := bx0.c2; have qbx00 := bx0.f0; have qbx01 := bx0.f1; have qbx02 := bx0.f2
    go_wp2_with (first | (go_at_call 69; (with_reducible refine (HZ.out _).mono ?_); rintro e w1 ⟨rfl, hb1⟩; have sz1 := hb1.size; (try simp at sz1); (with_reducible have bx1 := bx0.below hb1); have kbx10 := bx1.c0; have kbx11 := bx1.c1; have kbx12 := bx1.c2; have qbx10 := bx1.f0; have qbx11 := bx1.f1; have qbx12 := bx1.f2))
    go_ret
    exact ⟨0, rfl, ⟨Nat.zero_le _, Nat.dvd_zero _, .inl rfl⟩, (below_step hB0 hb1)⟩
  · rw [decide_eq_false hn0] at HZ
    have HS := Aside0.mk (fun w => scale_n b n s w hs)
    have HT := Aside0.mk (fun w hp => ntz_n n w hp (by omega) hn)
    have HS19 := Aside0.mk hs
    clear hs hn
    go_enter Tryd.func62, Tryd.ntmps62
    go_wp2_with fail
    have bx0 : Box (w.alloc (Obj.cells #[Value.bool b, Value.int .i8 s, Value.int .u64 n] 52)) w.heap.size [.bool b, .int .i8 s, .int .u64 n] := (Box.new3 w _ _ _ _ _ (by simp))
    have hB0 : Below w.heap.size w (w.alloc (Obj.cells #[Value.bool b, Value.int .i8 s, Value.int .u64 n] 52)) := ((Below.refl _ _).alloc (Nat.le_refl _) _)
    have kbx00 := bx0.c0; have kbx01 := bx0.c1; have kbx02 := bx0.c2; have qbx00 := bx0.f0; have qbx01 := bx0.f1; have qbx02 := bx0.f2
    replace hp := hp.below hB0
    go_wp2_with (first | (go_at_call 69; (with_reducible refine (HZ.out _).mono ?_); rintro e w1 ⟨rfl, hb1⟩; have sz1 := hb1.size; (try simp at sz1); (with_reducible have bx1 := bx0.below hb1); have kbx10 := bx1.c0; have kbx11 := bx1.c1; have kbx12 := bx1.c2; have qbx10 := bx1.f0; have qbx11 := bx1.f1; have qbx12 := bx1.f2; (with_reducible replace hp := hp.below hb1)) | (go_at_call 50; (with_reducible refine (HS.out _).mono ?_); rintro e w2 ⟨rfl, hb2⟩; have sz2 := hb2.size; (try simp at sz2); (with_reducible have bx2 := bx1.below hb2); have kbx20 := bx2.c0; have kbx21 := bx2.c1; have kbx22 := bx2.c2; have qbx20 := bx2.f0; have qbx21 := bx2.f1; have qbx22 := bx2.f2; (with_reducible replace hp := hp.below hb2)) | (go_at_call 70; (with_reducible refine (HT.out _ hp).mono ?_); rintro e w0 ⟨t, rfl, ⟨ht1, ht2, ht3⟩, rfl⟩; have HST := Aside0.mk ht3; have hst : wrap64 ((s : Int) - (t : Int)) = (s : Int) - (t : Int) := (by have := HS19.out; simp only [wrap64]; omega); clear ht3))
    all_goals go_ret
    all_goals refine ⟨s - t, ?_, Least.of_ntz ht1 ht2, (below_step (below_step hB0 hb1) hb2)⟩
    all_goals simp
    all_goals omega

/-- What is left of a decimal that is cut off, its values by names. -/
structure Cut (b : Bool) (n j : Nat) (b2 : Bool) (q : Int) : Prop where
  mk :: (sg : b2 = sgn b (n / 10 ^ j)) (num : q = ((n / 10 ^ j : Nat) : Int))
theorem trunc_q (b : Bool) (n s k : Nat) (t : Int) (w : World) (hp : Pows w) (hb : sgn b n = b) (hs : s ≤ 19) (hn : n ≤ 9999999999999999999) (hk : (k : Int) = min (s : Int) (max t 0)) :
    Calls Tryd.prog 28 #[.agg #[.bool b, .int .i8 s, .int .u64 n], .int .i64 t] w fun e w' => ∃ (b2 : Bool) (q : Int), Cut b n (s - k) b2 q ∧ e = .returned (.agg #[.bool b2, .int .i8 k, .int .u64 q]) ∧ Below w.heap.size w w' :=
  (trunc_n b n s k t w hp hb hs hn hk).mono fun e w' ⟨h1, h2⟩ => ⟨_, _, ⟨rfl, rfl⟩, h1, h2⟩

/-- To what scale a decimal is trimmed. -/
structure TrimTo (n s : Nat) (l : Int) (k : Nat) : Prop where
  mk :: (le : k ≤ s) (dvd : 10 ^ (s - k) ∣ n) (far : k = s ∨ l ≤ k) (stop : (k : Int) ≤ l ∨ ¬ 10 ^ (s - k + 1) ∣ n)
theorem TrimTo.one {n s : Nat} {l : Int} {j k : Nat} (hj : TrimTo n s l j) (hk : TrimTo n s l k) : j = k := by
  have key : ∀ j k : Nat, TrimTo n s l j → TrimTo n s l k → ¬ j < k := by
    intro j k hj hk hlt
    have h1 : 10 ^ (s - k + 1) ∣ n := Nat.dvd_trans (Nat.pow_dvd_pow 10 (by have := hk.le; omega)) hj.dvd
    have h2 : (k : Int) ≤ l := hk.stop.resolve_right (fun h => h h1)
    rcases hj.far with h | h
    · have := hk.le; omega
    · omega
  exact Nat.le_antisymm (Nat.not_lt.mp (key k j hk hj)) (Nat.not_lt.mp (key j k hj hk))

/-- A decimal that is trimmed. -/
structure Trimmed (b : Bool) (n s : Nat) (l : Int) (v : Value) : Prop where
  mk :: (out : ∃ k, v = .agg #[.bool (sgn b (n / 10 ^ (s - k))), .int .i8 (k : Nat), .int .u64 ((n / 10 ^ (s - k) : Nat) : Int)] ∧ TrimTo n s l k)
theorem Trimmed.of {b b2 : Bool} {n s k : Nat} {l q : Int} (h : Cut b n (s - k) b2 q) (hk : TrimTo n s l k) : Trimmed b n s l (.agg #[.bool b2, .int .i8 k, .int .u64 q]) :=
  ⟨k, by rw [h.sg, h.num], hk⟩
theorem TrimTo.of_least {n s m k : Nat} {t : Int} (hL : Least n s m) (hk : k = (max t (m : Int)).toNat) (ht : t < (s : Int)) : TrimTo n s (max t 0) k := by
  have h1 := hL.le
  refine ⟨by omega, Nat.dvd_trans (Nat.pow_dvd_pow 10 (by omega)) hL.dvd, .inr (by omega), ?_⟩
  by_cases h : (m : Int) ≤ t
  · exact .inl (by omega)
  · have : k = m := by omega
    subst this
    rcases hL.stop with h2 | h2
    · exact .inl (by omega)
    · exact .inr h2

set_option maxHeartbeats 2000000 in
theorem trim_n (b : Bool) (n s : Nat) (t : Int) (w : World) (hp : Pows w) (hb : sgn b n = b) (hs : s ≤ 19) (hn : n ≤ 9999999999999999999) :
    Calls Tryd.prog 45 #[.agg #[.bool b, .int .i8 s, .int .u64 n], .int .i64 t] w fun e w' => ∃ v, e = .returned v ∧ Trimmed b n s (max t 0) v ∧ Below w.heap.size w w' := by
  have HS := Aside0.mk (fun w => scale_n b n s w hs)
  by_cases hst : (s : Int) ≤ t
  · have HK : TrimTo n s (max t 0) s := ⟨Nat.le_refl _, by rw [Nat.sub_self]; exact Nat.one_dvd _, .inl rfl, .inl (by omega)⟩
    have HQ : Cut b n (s - s) b n := ⟨by rw [Nat.sub_self, Nat.pow_zero, Nat.div_one, hb], by rw [Nat.sub_self, Nat.pow_zero, Nat.div_one]⟩
    clear hb hs hn
    go_enter Tryd.func45, Tryd.ntmps45
    go_wp2_with fail
    have bx0 : Box ((w.alloc (Obj.cells #[Value.bool b, Value.int .i8 s, Value.int .u64 n] 52)).alloc (Obj.cells #[Value.bool false, Value.int .i8 0, Value.int .u64 0] 52)) w.heap.size [.bool b, .int .i8 s, .int .u64 n] := ((Box.new3 w _ _ _ _ _ (by simp)).alloc _)
    have rx0 : Box ((w.alloc (Obj.cells #[Value.bool b, Value.int .i8 s, Value.int .u64 n] 52)).alloc (Obj.cells #[Value.bool false, Value.int .i8 0, Value.int .u64 0] 52)) (w.heap.size + 1) [.bool false, .int .i8 0, .int .u64 0] := (Box.new3 (w.alloc (Obj.cells #[Value.bool b, Value.int .i8 s, Value.int .u64 n] 52)) _ _ _ _ _ (by simp))
    have hB0 : Below w.heap.size w ((w.alloc (Obj.cells #[Value.bool b, Value.int .i8 s, Value.int .u64 n] 52)).alloc (Obj.cells #[Value.bool false, Value.int .i8 0, Value.int .u64 0] 52)) := (((Below.refl _ _).alloc (Nat.le_refl _) _).alloc (by simp) _)
    have kbx00 := bx0.c0; have kbx01 := bx0.c1; have kbx02 := bx0.c2; have qbx00 := bx0.f0; have qbx01 := bx0.f1; have qbx02 := bx0.f2; have krx00 := rx0.c0; have krx01 := rx0.c1; have krx02 := rx0.c2; have qrx00 := rx0.f0; have qrx01 := rx0.f1; have qrx02 := rx0.f2
    go_wp2_with (first | (go_at_call 50; (with_reducible refine (HS.out _).mono ?_); rintro e w1 ⟨rfl, hb1⟩; have sz1 := hb1.size; (try simp at sz1); (with_reducible have bx1 := bx0.below hb1); have kbx10 := bx1.c0; have kbx11 := bx1.c1; have kbx12 := bx1.c2; have qbx10 := bx1.f0; have qbx11 := bx1.f1; have qbx12 := bx1.f2; (with_reducible have rx1 := rx0.below hb1); have krx10 := rx1.c0; have krx11 := rx1.c1; have krx12 := rx1.c2; have qrx10 := rx1.f0; have qrx11 := rx1.f1; have qrx12 := rx1.f2))
    refine bodyPost_ret (v := .agg #[.bool b, .int .i8 s, .int .u64 n]) (by simp [results, Tryd.results45, go_sem, krx10, krx11, krx12]) rfl ⟨_, rfl, Trimmed.of HQ HK, ?_⟩
    exact below3 (below_step hB0 hb1) (by omega) _ _ _
  · have HM := Aside0.mk (fun w hp => minScale_n b n s w hp hs hn)
    have HT := Aside0.mk (fun k t w hp hk => trunc_q b n s k t w hp hb hs hn hk)
    clear hb hs hn
    replace hst : t < (s : Int) := by omega
    go_enter Tryd.func45, Tryd.ntmps45
    go_wp2_with fail
    have bx0 : Box ((w.alloc (Obj.cells #[Value.bool b, Value.int .i8 s, Value.int .u64 n] 52)).alloc (Obj.cells #[Value.bool false, Value.int .i8 0, Value.int .u64 0] 52)) w.heap.size [.bool b, .int .i8 s, .int .u64 n] := ((Box.new3 w _ _ _ _ _ (by simp)).alloc _)
    have rx0 : Box ((w.alloc (Obj.cells #[Value.bool b, Value.int .i8 s, Value.int .u64 n] 52)).alloc (Obj.cells #[Value.bool false, Value.int .i8 0, Value.int .u64 0] 52)) (w.heap.size + 1) [.bool false, .int .i8 0, .int .u64 0] := (Box.new3 (w.alloc (Obj.cells #[Value.bool b, Value.int .i8 s, Value.int .u64 n] 52)) _ _ _ _ _ (by simp))
    have hB0 : Below w.heap.size w ((w.alloc (Obj.cells #[Value.bool b, Value.int .i8 s, Value.int .u64 n] 52)).alloc (Obj.cells #[Value.bool false, Value.int .i8 0, Value.int .u64 0] 52)) := (((Below.refl _ _).alloc (Nat.le_refl _) _).alloc (by simp) _)
    have kbx00 := bx0.c0; have kbx01 := bx0.c1; have kbx02 := bx0.c2; have qbx00 := bx0.f0; have qbx01 := bx0.f1; have qbx02 := bx0.f2; have krx00 := rx0.c0; have krx01 := rx0.c1; have krx02 := rx0.c2; have qrx00 := rx0.f0; have qrx01 := rx0.f1; have qrx02 := rx0.f2
    replace hp := hp.below hB0
    go_wp2_with (first | (go_at_call 50; (with_reducible refine (HS.out _).mono ?_); rintro e w1 ⟨rfl, hb1⟩; have sz1 := hb1.size; (try simp at sz1); (with_reducible have bx1 := bx0.below hb1); have kbx10 := bx1.c0; have kbx11 := bx1.c1; have kbx12 := bx1.c2; have qbx10 := bx1.f0; have qbx11 := bx1.f1; have qbx12 := bx1.f2; (with_reducible have rx1 := rx0.below hb1); have krx10 := rx1.c0; have krx11 := rx1.c1; have krx12 := rx1.c2; have qrx10 := rx1.f0; have qrx11 := rx1.f1; have qrx12 := rx1.f2; (with_reducible replace hp := hp.below hb1)) | (go_at_call 62; (with_reducible refine (HM.out _ hp).mono ?_); rintro e w2 ⟨m, rfl, hL, hb2⟩; have sz2 := hb2.size; (try simp at sz2); (with_reducible have bx2 := bx1.below hb2); have kbx20 := bx2.c0; have kbx21 := bx2.c1; have kbx22 := bx2.c2; have qbx20 := bx2.f0; have qbx21 := bx2.f1; have qbx22 := bx2.f2; (with_reducible have rx2 := rx1.below hb2); have krx20 := rx2.c0; have krx21 := rx2.c1; have krx22 := rx2.c2; have qrx20 := rx2.f0; have qrx21 := rx2.f1; have qrx22 := rx2.f2; (with_reducible replace hp := hp.below hb2); have hml := hL.le; obtain ⟨k, hk⟩ : ∃ k : Nat, k = (max t (m : Int)).toNat := ⟨_, rfl⟩; have HK := Aside0.mk hk; clear hk) | (go_at_call 28; (with_reducible refine (HT.out k _ _ hp (by have := HK.out; omega)).mono ?_); rintro e w3 ⟨b2, q, hC, rfl, hb3⟩; have sz3 := hb3.size; (try simp at sz3); (with_reducible have bx3 := bx2.below hb3); have kbx30 := bx3.c0; have kbx31 := bx3.c1; have kbx32 := bx3.c2; have qbx30 := bx3.f0; have qbx31 := bx3.f1; have qbx32 := bx3.f2; (with_reducible have rx3 := rx2.below hb3); have krx30 := rx3.c0; have krx31 := rx3.c1; have krx32 := rx3.c2; have qrx30 := rx3.f0; have qrx31 := rx3.f1; have qrx32 := rx3.f2))
    all_goals refine bodyPost_ret (v := .agg #[.bool b2, .int .i8 k, .int .u64 q]) (by simp [results, Tryd.results45, go_sem, krx30, krx31, krx32]) rfl ⟨_, rfl, Trimmed.of hC ?_, below3 (below_step (below_step (below_step hB0 hb1) hb2) hb3) (by omega) _ _ _⟩
    all_goals exact TrimTo.of_least hL HK.out hst
end Go.Proofs.YtnjbfebeigginaaDoor.GvWalk
