/-
  The package's decimals padded.
-/
import Derived.Test.YtnjbfebeigginaaDoorGvWalk3
import Derived.Deep.RegionHeld3
set_option linter.unusedVariables false
set_option linter.unusedSimpArgs false
namespace Go.Proofs.YtnjbfebeigginaaDoor.GvWalk
open Go.RowKit Go.Proofs.YtnjbfebeigginaaDoorW.PrintWords Go.Proofs.YtnjbfebeigginaaDoorW.PrintLast Go.Proofs.YtnjbfebeigginaaDoorW.PrintMore Go.Proofs.YtnjbfebeigginaaDoor.Digs Go.Proofs.YtnjbfebeigginaaDoor.StrLaw Go.Proofs.YtnjbfebeigginaaDoor.NatLaw Go.Proofs.YtnjbfebeigginaaDoor.NatWalk Go.Proofs.YtnjbfebeigginaaDoor.SpecWalk
open Go.Proofs.YtnjbfebeigginaaDoor.PFnFixTrunc

/-- To what scale a decimal is padded. -/
structure PadTo (n s : Nat) (t : Int) (k : Nat) : Prop where
  mk :: (le : s ≤ k) (far : k = s ∨ ((k : Int) ≤ t ∧ k ≤ 19)) (room : n * 10 ^ (k - s) ≤ 9999999999999999999) (stop : min t 19 ≤ (k : Int) ∨ 10000000000000000000 ≤ n * 10 ^ (k - s + 1))
theorem PadTo.one {n s : Nat} {t : Int} {j k : Nat} (hj : PadTo n s t j) (hk : PadTo n s t k) : j = k := by
  have key : ∀ j k : Nat, PadTo n s t j → PadTo n s t k → ¬ j < k := by
    intro j k hj hk hlt
    have h1 : n * 10 ^ (j - s + 1) ≤ n * 10 ^ (k - s) := Nat.mul_le_mul_left _ (pow_mono (by have := hj.le; omega))
    have h2 := hk.room
    have h3 : min t 19 ≤ (j : Int) := hj.stop.resolve_right (by omega)
    rcases hk.far with h | h
    · have := hj.le; omega
    · omega
  exact Nat.le_antisymm (Nat.not_lt.mp (key k j hk hj)) (Nat.not_lt.mp (key j k hj hk))
theorem PadTo.stays {n s p : Nat} {t : Int} (hs : s ≤ 19) (hn : n ≤ 9999999999999999999) (h : min (min t 19) (19 - (p : Int) + s) ≤ (s : Int)) (hp : p ≤ 19 ∧ (p = 0 ∨ 10 ^ (p - 1) ≤ n) ∧ n < 10 ^ p) : PadTo n s t s := by
  refine ⟨Nat.le_refl _, .inl rfl, by rw [Nat.sub_self, Nat.pow_zero, Nat.mul_one]; exact hn, ?_⟩
  by_cases h1 : min t 19 ≤ (s : Int)
  · exact .inl h1
  · have : p = 19 := by omega
    subst this
    rcases hp.2.1 with h2 | h2
    · omega
    · rw [Nat.sub_self]; exact .inr (by omega)
theorem PadTo.goes {n s p k : Nat} {t : Int} (hs : s ≤ 19) (h : (k : Int) = min (min t 19) (19 - (p : Int) + s)) (hk : s < k) (hp : p ≤ 19 ∧ (p = 0 ∨ 10 ^ (p - 1) ≤ n) ∧ n < 10 ^ p) : PadTo n s t k := by
  refine ⟨by omega, .inr (by omega), ?_, ?_⟩
  · have h1 : n * 10 ^ (k - s) < 10 ^ p * 10 ^ (k - s) := Nat.mul_lt_mul_of_pos_right hp.2.2 (Nat.pow_pos (by decide))
    rw [← Nat.pow_add] at h1
    have h2 : 10 ^ (p + (k - s)) ≤ 10 ^ 19 := pow_mono (by omega)
    omega
  · by_cases h1 : min t 19 ≤ (k : Int)
    · exact .inl h1
    · rcases hp.2.1 with h2 | h2
      · omega
      · have h3 : 10 ^ (p - 1) * 10 ^ (k - s + 1) ≤ n * 10 ^ (k - s + 1) := Nat.mul_le_mul_right _ h2
        rw [← Nat.pow_add, show p - 1 + (k - s + 1) = 19 by omega] at h3
        exact .inr (by omega)
/-- A decimal that is padded. -/
structure Padv (b : Bool) (n s : Nat) (t : Int) (v : Value) : Prop where
  mk :: (out : ∃ k : Nat, v = .agg #[.bool b, .int .i8 k, .int .u64 ((n * 10 ^ (k - s) : Nat) : Int)] ∧ PadTo n s t k)
set_option maxHeartbeats 1000000 in
theorem precD_n (b : Bool) (n s : Nat) (w : World) (hp : Pows w) (hn : n ≤ 9999999999999999999) :
    Calls Tryd.prog 58 #[.agg #[.bool b, .int .i8 s, .int .u64 n]] w fun e w' => ∃ p : Nat, e = .returned (.int .i64 p) ∧ (p ≤ 19 ∧ (p = 0 ∨ 10 ^ (p - 1) ≤ n) ∧ n < 10 ^ p) ∧ Below w.heap.size w w' := by
  have HP := Aside0.mk (fun w hp => prec_n n w hp hn)
  clear hn
  go_enter Tryd.func58, Tryd.ntmps58
  go_wp2_with fail
  have bx0 : Box (w.alloc (Obj.cells #[Value.bool b, Value.int .i8 s, Value.int .u64 n] 52)) w.heap.size [.bool b, .int .i8 s, .int .u64 n] := (Box.new3 w _ _ _ _ _ (by simp))
  have hB0 : Below w.heap.size w (w.alloc (Obj.cells #[Value.bool b, Value.int .i8 s, Value.int .u64 n] 52)) := ((Below.refl _ _).alloc (Nat.le_refl _) _)
  have kbx00 := bx0.c0; have kbx01 := bx0.c1; have kbx02 := bx0.c2; have qbx00 := bx0.f0; have qbx01 := bx0.f1; have qbx02 := bx0.f2
  replace hp := hp.below hB0
  go_wp2_with (first | (go_at_call 65; (with_reducible refine (HP.out _ hp).mono ?_); rintro e w0 ⟨p, rfl, hpp, rfl⟩))
  go_ret
  exact ⟨p, rfl, hpp, hB0⟩
set_option maxHeartbeats 2000000 in
theorem pad_n (b : Bool) (n s : Nat) (t : Int) (w : World) (hp : Pows w) (hb : sgn b n = b) (hs : s ≤ 19) (hn : n ≤ 9999999999999999999) :
    Calls Tryd.prog 40 #[.agg #[.bool b, .int .i8 s, .int .u64 n], .int .i64 t] w fun e w' => ∃ v, e = .returned v ∧ Padv b n s t v ∧ Below w.heap.size w w' := by
  have HS := Aside0.mk (fun w => scale_n b n s w hs)
  have HP := Aside0.mk (fun w hp => precD_n b n s w hp hn)
  have HL := Aside0.mk (fun x k w hp h1 h2 h3 => lsh_n x k w hp h1 h2 h3)
  have HN := Aside0.mk (And.intro hs (And.intro hn hb))
  clear hb hn
  go_enter Tryd.func40, Tryd.ntmps40
  go_wp2_with fail
  have bx0 : Box ((w.alloc (Obj.cells #[Value.bool b, Value.int .i8 s, Value.int .u64 n] 52)).alloc (Obj.cells #[Value.bool false, Value.int .i8 0, Value.int .u64 0] 52)).drew w.heap.size [.bool b, .int .i8 s, .int .u64 n] := ((Box.new3 w _ _ _ _ _ (by simp)).alloc _).drew
  have rx0 : Box ((w.alloc (Obj.cells #[Value.bool b, Value.int .i8 s, Value.int .u64 n] 52)).alloc (Obj.cells #[Value.bool false, Value.int .i8 0, Value.int .u64 0] 52)).drew (w.heap.size + 1) [.bool false, .int .i8 0, .int .u64 0] := (Box.new3 (w.alloc (Obj.cells #[Value.bool b, Value.int .i8 s, Value.int .u64 n] 52)) _ _ _ _ _ (by simp)).drew
  have hB0 : Below w.heap.size w ((w.alloc (Obj.cells #[Value.bool b, Value.int .i8 s, Value.int .u64 n] 52)).alloc (Obj.cells #[Value.bool false, Value.int .i8 0, Value.int .u64 0] 52)).drew := (((Below.refl _ _).alloc (Nat.le_refl _) _).alloc (by simp) _).drew
  have kbx00 := bx0.c0; have kbx01 := bx0.c1; have kbx02 := bx0.c2; have qbx00 := bx0.f0; have qbx01 := bx0.f1; have qbx02 := bx0.f2; have krx00 := rx0.c0; have krx01 := rx0.c1; have krx02 := rx0.c2; have qrx00 := rx0.f0; have qrx01 := rx0.f1; have qrx02 := rx0.f2
  replace hp := hp.below hB0
  go_region_held3 (fun w' => w'.cell? ⟨w.heap.size, 0, none⟩ = some (.bool b) ∧ w'.cell? ⟨w.heap.size, 1, none⟩ = some (.int .i8 s) ∧ w'.cell? ⟨w.heap.size, 2, none⟩ = some (.int .u64 n))
      (first
        | (go_keep; done)
        | exact ⟨bx2.c0, bx2.c1, bx2.c2⟩
        | exact ⟨bx1.c0, bx1.c1, bx1.c2⟩)
      (first
        | (go_at_call 58; refine (HP.out _ hp).mono ?_; rintro e w1 ⟨p, rfl, hpp, hb1⟩; replace hp := hp.below hb1; have hp19 := hpp.1; have sz1 := hb1.size; simp at sz1; have bx1 := bx0.below hb1; have xbx10 := bx1.c0; have xbx11 := bx1.c1; have xbx12 := bx1.c2; have rx1 := rx0.below hb1; have xrx10 := rx1.c0; have xrx11 := rx1.c1; have xrx12 := rx1.c2)
        | (go_at_call 50; refine (HS.out _).mono ?_; rintro e w2 ⟨rfl, hb2⟩; replace hp := hp.below hb2; have sz2 := hb2.size; have bx2 := bx1.below hb2; have xbx20 := bx2.c0; have xbx21 := bx2.c1; have xbx22 := bx2.c2; have rx2 := rx1.below hb2; have xrx20 := rx2.c0; have xrx21 := rx2.c1; have xrx22 := rx2.c2))
  have hs19 := HN.out.1
  have hw1 : IntKind.i64.wrap (IntKind.i64.wrap (19 - (p : Int)) + (s : Int)) = 19 - (p : Int) + s := by
    rw [IntWalk.i64_in (19 - (p : Int)) (by omega), IntWalk.i64_in _ (by omega)]
  rw [hw1]
  generalize hK0 : (if 19 - (p : Int) + s < (if 19 < t then 19 else t) then 19 - (p : Int) + s else if 19 < t then 19 else t) = K
  have hK : K = min (min t 19) (19 - (p : Int) + s) := by rw [← hK0]; split <;> split at * <;> omega
  clear hK0 hw1
  have hB2 := below_step (below_step hB0 hb1) hb2
  by_cases hks : K ≤ (s : Int)
  · have HQ := Aside0.mk (PadTo.stays hs19 HN.out.2.1 (by rw [← hK]; exact hks) hpp)
    clear hK hpp hs19
    have kbx20 := bx2.c0; have kbx21 := bx2.c1; have kbx22 := bx2.c2; have qbx20 := bx2.f0; have qbx21 := bx2.f1; have qbx22 := bx2.f2; have krx20 := rx2.c0; have krx21 := rx2.c1; have krx22 := rx2.c2; have qrx20 := rx2.f0; have qrx21 := rx2.f1; have qrx22 := rx2.f2
    go_wp2_with (first | (go_at_call 50; (with_reducible refine (HS.out _).mono ?_); rintro e w3 ⟨rfl, hb3⟩; have sz3 := hb3.size; (try simp at sz3); (with_reducible have bx3 := bx2.below hb3); have kbx30 := bx3.c0; have kbx31 := bx3.c1; have kbx32 := bx3.c2; have qbx30 := bx3.f0; have qbx31 := bx3.f1; have qbx32 := bx3.f2; (with_reducible have rx3 := rx2.below hb3); have krx30 := rx3.c0; have krx31 := rx3.c1; have krx32 := rx3.c2; have qrx30 := rx3.f0; have qrx31 := rx3.f1; have qrx32 := rx3.f2))
    refine bodyPost_ret (v := .agg #[.bool b, .int .i8 s, .int .u64 n]) (by simp [results, Tryd.results40, go_sem, krx30, krx31, krx32]) rfl ⟨_, rfl, ⟨s, by rw [Nat.sub_self, Nat.pow_zero, Nat.mul_one], HQ.out⟩, ?_⟩
    exact below3 (below_step hB2 hb3) (by omega) _ _ _
  · obtain ⟨k, rfl⟩ := Int.eq_ofNat_of_zero_le (show 0 ≤ K by omega)
    have HQ := Aside0.mk (PadTo.goes hs19 hK (by omega) hpp)
    have hroom := HQ.out.room
    have hk19 : k ≤ 19 := by omega
    replace hks : (s : Int) < (k : Int) := by omega
    have hsub : wrap64 ((k - s : Nat) : Int) = ((k - s : Nat) : Int) := w64_in _ (by omega)
    have hsub' : (k : Int) - (s : Int) = ((k - s : Nat) : Int) := by omega
    have HL2 := Aside0.mk (fun w hp => HL.out n (k - s) w hp (by omega) (by omega) hroom)
    have hsg : sgn b (n * 10 ^ (k - s)) = b := by
      have := HN.out.2.2
      rw [← this]
      by_cases h0 : n = 0
      · subst h0; rw [Nat.zero_mul]; cases b <;> rfl
      · have : n * 10 ^ (k - s) ≠ 0 := Nat.mul_ne_zero h0 (by have := Nat.pow_pos (n := k - s) (show 0 < 10 by decide); omega)
        rw [sgn_pos b h0, sgn_pos b this]
    have hu := fun w => newUnsafe_n b (n * 10 ^ (k - s)) k w hk19
    rw [hsg] at hu
    have HU := Aside0.mk hu
    have HG := Aside0.mk (fun w => isNeg_n b n s w)
    clear hK hpp hs19 hroom hk19 hsg hu
    obtain ⟨q, hq⟩ : ∃ q : Int, q = ((n * 10 ^ (k - s) : Nat) : Int) := ⟨_, rfl⟩
    rw [← hq] at HL2 HU
    have HQ2 := Aside0.mk hq
    clear hq
    generalize hd : ((k - s : Nat) : Int) = d at *
    clear hd
    have kbx20 := bx2.c0; have kbx21 := bx2.c1; have kbx22 := bx2.c2; have qbx20 := bx2.f0; have qbx21 := bx2.f1; have qbx22 := bx2.f2; have krx20 := rx2.c0; have krx21 := rx2.c1; have krx22 := rx2.c2; have qrx20 := rx2.f0; have qrx21 := rx2.f1; have qrx22 := rx2.f2
    go_wp2_with (first | (go_at_call 50; (with_reducible refine (HS.out _).mono ?_); rintro e w3 ⟨rfl, hb3⟩; have sz3 := hb3.size; (try simp at sz3); (with_reducible have bx3 := bx2.below hb3); have kbx30 := bx3.c0; have kbx31 := bx3.c1; have kbx32 := bx3.c2; have qbx30 := bx3.f0; have qbx31 := bx3.f1; have qbx32 := bx3.f2; (with_reducible have rx3 := rx2.below hb3); have krx30 := rx3.c0; have krx31 := rx3.c1; have krx32 := rx3.c2; have qrx30 := rx3.f0; have qrx31 := rx3.f1; have qrx32 := rx3.f2; (with_reducible replace hp := hp.below hb3)) | (go_at_call 50; (with_reducible refine (HS.out _).mono ?_); rintro e w4 ⟨rfl, hb4⟩; have sz4 := hb4.size; (try simp at sz4); (with_reducible have bx4 := bx3.below hb4); have kbx40 := bx4.c0; have kbx41 := bx4.c1; have kbx42 := bx4.c2; have qbx40 := bx4.f0; have qbx41 := bx4.f1; have qbx42 := bx4.f2; (with_reducible have rx4 := rx3.below hb4); have krx40 := rx4.c0; have krx41 := rx4.c1; have krx42 := rx4.c2; have qrx40 := rx4.f0; have qrx41 := rx4.f1; have qrx42 := rx4.f2; (with_reducible replace hp := hp.below hb4)) | (go_at_call 59; (with_reducible refine (HL2.out _ hp).mono ?_); rintro e w0 ⟨rfl, rfl⟩) | (go_at_call 48; (with_reducible refine (HG.out _).mono ?_); rintro e w5 ⟨rfl, hb5⟩; have sz5 := hb5.size; (try simp at sz5); (with_reducible have bx5 := bx4.below hb5); have kbx50 := bx5.c0; have kbx51 := bx5.c1; have kbx52 := bx5.c2; have qbx50 := bx5.f0; have qbx51 := bx5.f1; have qbx52 := bx5.f2; (with_reducible have rx5 := rx4.below hb5); have krx50 := rx5.c0; have krx51 := rx5.c1; have krx52 := rx5.c2; have qrx50 := rx5.f0; have qrx51 := rx5.f1; have qrx52 := rx5.f2) | (go_at_call 52; (with_reducible refine (HU.out _).mono ?_); rintro e w6 ⟨rfl, hb6⟩; have sz6 := hb6.size; (try simp at sz6); (with_reducible have bx6 := bx5.below hb6); have kbx60 := bx6.c0; have kbx61 := bx6.c1; have kbx62 := bx6.c2; have qbx60 := bx6.f0; have qbx61 := bx6.f1; have qbx62 := bx6.f2; (with_reducible have rx6 := rx5.below hb6); have krx60 := rx6.c0; have krx61 := rx6.c1; have krx62 := rx6.c2; have qrx60 := rx6.f0; have qrx61 := rx6.f1; have qrx62 := rx6.f2))
    refine bodyPost_ret (v := .agg #[.bool b, .int .i8 k, .int .u64 q]) (by simp [results, Tryd.results40, go_sem, krx60, krx61, krx62]) rfl ⟨_, rfl, ⟨k, by rw [HQ2.out], HQ.out⟩, ?_⟩
    exact below3 (below_step (below_step (below_step (below_step hB2 hb3) hb4) hb5) hb6) (by omega) _ _ _
end Go.Proofs.YtnjbfebeigginaaDoor.GvWalk
