/-
  FnPowerOfTen: the law's walk.
-/
import Derived.Test.YteohmbannpbokaaGreatDoorInts
import Derived.Test.YteohmbannpbokaaGreatDoorBigWalk3
set_option linter.unusedVariables false
set_option linter.unusedSimpArgs false
namespace Go.Proofs.YteohmbannpbokaaGreatDoor.LawPow
open Go.RowKit Go.Proofs.YteohmbannpbokaaGreatDoorW.PrintWords Go.Proofs.YteohmbannpbokaaGreatDoorW.PrintLast Go.Proofs.YteohmbannpbokaaGreatDoorW.PrintMore Go.Proofs.YteohmbannpbokaaGreatDoor.SpecWalk Go.Proofs.YteohmbannpbokaaGreatDoor.BigWalk Go.Proofs.YteohmbannpbokaaGreatDoor.WordWalk Go.Proofs.YteohmbannpbokaaGreatDoor.NatWalk Go.Proofs.YteohmbannpbokaaGreatDoor.TextLaw Go.Proofs.YteohmbannpbokaaGreatDoor.StrLaw Go.Proofs.YteohmbannpbokaaGreatDoor.Digs

set_option maxHeartbeats 2000000 in
theorem PowerOfTen_n (n : Nat) (w : World) (hn : n ≤ 800) (hT : Thr w) (h3 : 3 ≤ w.heap.size) :
    Calls Tryz.prog 12 #[.int .i64 n] w fun e w' => e = .returned (.string (text (10 ^ n))) ∧ Below w.heap.size w w' := by
  have HM := Aside0.mk (ZzPow10_n n w hn hT h3)
  have HD := Aside0.mk (fun (w1 : World) (g : Nat) (h : Fresh w w1 g (10 ^ n)) => (digits_n g false (10 ^ n) (fun k => k = h.out.choose) w1 h.out.choose_spec.big rfl (Nat.le_trans (ten_len2 hn) (by decide))))
  have n0 : ¬ ((n : Int) < 0) := by omega
  have n1 : (n : Int) ≤ 800 := by omega
  clear hn hT h3
  go_enter Tryz.func12, Tryz.ntmps12
  go_wp2_with (first | (go_at_call 35; (with_reducible refine HM.out.mono ?_); rintro e w1 ⟨g, rfl, h⟩; have HF := Aside0.mk h; clear h) | (go_at_call 27; (with_reducible refine (HD.out w1 g HF.out).mono ?_); rintro e w2 ⟨rfl, h⟩; have HB := Aside0.mk h; clear h))
  go_ret
  exact ⟨rfl, below_then HF.out.bel HB.out⟩
theorem len_ten {n : Nat} (h : n ≤ 800) : (digs (10 ^ n)).length ≤ 90 :=
  len_digs_le (Nat.lt_of_le_of_lt (Nat.pow_le_pow_right (by decide) h) (by decide +kernel))
set_option maxHeartbeats 2000000 in
theorem law_calls (z : Int) (w : World) (hT : Thr w) (h3 : 3 ≤ w.heap.size) :
    Calls Tryz.prog 4 #[.int .i64 z] w fun e w' => e = .returned (.bool true) ∧ Below w.heap.size w w' := by
  have hu : 0 ≤ IntKind.u64.wrap z ∧ IntKind.u64.wrap z < 18446744073709551616 := by rw [u64_w]; omega
  obtain ⟨n, hn, hn8⟩ : ∃ n : Nat, (n : Int) = IntKind.u64.wrap z % 801 ∧ n ≤ 800 := ⟨(IntKind.u64.wrap z % 801).toNat, by omega, by omega⟩
  have HP := Aside0.mk (PowerOfTen_n n w hn8 hT h3)
  have HT := Aside0.mk (fun w => pow10_n n w (by omega))
  have HS := Aside0.mk (fun (A0 : Option Addr) (c0 : Nat) (w : World) hr hc => StrWalk.string_calls (10 ^ n) A0 c0 w hr hc (by have := len_ten hn8; omega))
  have hm : wrap64 ((IntKind.u64.wrap z).tmod 801) = (n : Int) := by
    rw [Int.tmod_eq_emod_of_nonneg hu.1, ← hn]; unfold wrap64; omega
  clear hT h3 hn hu
  go_enter Tryz.func4, Tryz.ntmps4
  go_wp2_with (first | (go_at_call 12; (with_reducible refine HP.out.mono ?_); rintro e w1 ⟨rfl, h⟩; have HB := Aside0.mk h; clear h) | (go_at_call 13; (with_reducible refine (HT.out _).mono ?_); rintro e w2 ⟨v, rfl, hv, h⟩; obtain ⟨A, c, rfl, hvl, hvc⟩ := hv.form; have HV := Aside0.mk (And.intro hvl (And.intro hvc h)); clear hv h hvl hvc) | (go_at_call 14; (with_reducible refine (HS.out A c _ HV.out.2.1 HV.out.1).mono ?_); rintro e w3 ⟨rfl, h⟩; have HB3 := Aside0.mk h; clear h))
  go_ret
  exact ⟨rfl, below_then (below_then HB.out HV.out.2.2) HB3.out⟩
end Go.Proofs.YteohmbannpbokaaGreatDoor.LawPow
