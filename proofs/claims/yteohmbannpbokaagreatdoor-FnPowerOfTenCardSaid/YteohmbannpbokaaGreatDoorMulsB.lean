/-
  Whether two numbers lie in one block; two rows multiplied.
  Two rows of words multiplied.
  Room for a calculation: a stack that is made when it is first needed.
  Room for a calculation: taken, and given back.
-/
import Derived.Test.YteohmbannpbokaaGreatDoorMuls
import Derived.Lib.SliceRun
import Derived.Lib.AppendZerosOnto
import Derived.Lib.AppendZeros
set_option linter.unusedVariables false
set_option linter.unusedSimpArgs false
namespace Go.Proofs.YteohmbannpbokaaGreatDoor.WordWalk
open Go.RowKit Go.Proofs.YteohmbannpbokaaGreatDoorW.PrintWords Go.Proofs.YteohmbannpbokaaGreatDoorW.PrintLast Go.Proofs.YteohmbannpbokaaGreatDoorW.PrintMore Go.Proofs.YteohmbannpbokaaGreatDoor.SpecWalk Go.Proofs.YteohmbannpbokaaGreatDoor.BigWalk

theorem _root_.Go.Proofs.YteohmbannpbokaaGreatDoor.BigWalk.Blk.drew {w : World} {g : Nat} (h : Blk w g) : Blk w.drew g := ⟨h.out⟩
theorem run_eq_same (a : Addr) (w : World) : (binOp .eql 128 (.pointer (some a)) (.pointer (some a))).run Tryz.prog w = .ok (.bool true) w := by
  obtain ⟨j, hj, hs⟩ := Option.map_eq_some_iff.1 sizeW
  exact run_eql_ptr_same w a Tryz.underlying128 hj
theorem run_eq_other (w : World) {g g2 j k : Nat} (hne : g ≠ g2) (h1 : Blk w g) (h2 : Blk w g2) : (binOp .eql 128 (.pointer (some ⟨g, j, none⟩)) (.pointer (some ⟨g2, k, none⟩))).run Tryz.prog w = .ok (.bool false) w := by
  obtain ⟨i, hi, hs⟩ := Option.map_eq_some_iff.1 sizeW
  obtain ⟨ca, ta, ha⟩ := h1.out
  obtain ⟨cb, tb, hb⟩ := h2.out
  exact run_eql_ptr_other w Tryz.underlying128 hi (by rw [hs]; decide) (by simp [hne]) ha hb
set_option maxHeartbeats 1000000 in
/-- A number without a block of its own is no other's. -/
theorem alias_nil (l : Nat) (v : Value) (A : Option Addr) (c : Nat) (hv : v = .slice A l c) (w : World) : Calls Tryz.prog 66 #[.slice none 0 0, v] w fun e w' => e = .returned (.bool false) ∧ w' = w.drew := by
  subst hv
  go_enter Tryz.func66, Tryz.ntmps66
  go_wp2_with fail
  refine start_ (n := 28) (S := fun _ => True) (ds := []) #[false, false, false, false, false, false, false, false, false, false, false, false, false, false, false, false, false, false, false, false, false, false, false, false, false, false, false, false] (by kernel_rfl) rfl rfl (trivial) (fun hHeld => ?_)
  refine pure_ (i := 0) (N := some 5) (v := ?_) (a' := ?_) #[true, false, false, false, false, false, false, false, false, false, false, false, false, false, false, false, false, false, false, false, false, false, false, false, false, false, false, false] rfl rfl (by kernel_rfl) (fun _ _ _ h => h) (Or.inl ⟨by rfl, ?_⟩) ?_ ?_
  rotate_left
  · intro w'
    go_simp
    with_reducible rfl
  rotate_left
  · simp only [Act.put, List.setIfInBounds_toArray, List.set_cons_zero, List.set_cons_succ, i64_w, i32_w]
    rfl
  refine pure_ (i := 1) (N := some 6) (v := ?_) (a' := ?_) #[true, true, false, false, false, false, false, false, false, false, false, false, false, false, false, false, false, false, false, false, false, false, false, false, false, false, false, false] rfl rfl (by kernel_rfl) (fun _ _ _ h => h) (Or.inl ⟨by rfl, ?_⟩) ?_ ?_
  rotate_left
  · intro w'
    go_simp
    with_reducible rfl
  rotate_left
  · simp only [Act.put, List.setIfInBounds_toArray, List.set_cons_zero, List.set_cons_succ, i64_w, i32_w]
    rfl
  refine pure_ (i := 2) (N := some 7) (v := ?_) (a' := ?_) #[true, true, true, false, false, false, false, false, false, false, false, false, false, false, false, false, false, false, false, false, false, false, false, false, false, false, false, false] rfl rfl (by kernel_rfl) (fun _ _ _ h => h) (Or.inl ⟨by rfl, ?_⟩) ?_ ?_
  rotate_left
  · intro w'
    go_simp
    with_reducible rfl
  rotate_left
  · simp only [Act.put, List.setIfInBounds_toArray, List.set_cons_zero, List.set_cons_succ, i64_w, i32_w]
    rfl
  refine pure_ (i := 3) (N := some 8) (v := ?_) (a' := ?_) #[true, true, true, true, false, false, false, false, false, false, false, false, false, false, false, false, false, false, false, false, false, false, false, false, false, false, false, false] rfl rfl (by kernel_rfl) (fun _ _ _ h => h) (Or.inl ⟨by rfl, ?_⟩) ?_ ?_
  rotate_left
  · intro w'
    go_simp
    with_reducible rfl
  rotate_left
  · simp only [Act.put, List.setIfInBounds_toArray, List.set_cons_zero, List.set_cons_succ, i64_w, i32_w]
    rfl
  refine pure_ (i := 4) (N := some 9) (v := undef) (a' := ?_) #[true, true, true, true, true, false, false, false, false, false, false, false, false, false, false, false, false, false, false, false, false, false, false, false, false, false, false, false] rfl rfl (by kernel_rfl) (fun _ _ _ h => h) (Or.inr ⟨by rfl, rfl⟩) ?_ ?_
  rotate_left
  · simp only [Act.put, List.setIfInBounds_toArray, List.set_cons_zero, List.set_cons_succ, i64_w, i32_w]
    rfl
  refine pure_ (i := 5) (N := some 10) (v := undef) (a' := ?_) #[true, true, true, true, true, true, false, false, false, false, false, false, false, false, false, false, false, false, false, false, false, false, false, false, false, false, false, false] rfl rfl (by kernel_rfl) (fun _ _ _ h => h) (Or.inr ⟨by rfl, rfl⟩) ?_ ?_
  rotate_left
  · simp only [Act.put, List.setIfInBounds_toArray, List.set_cons_zero, List.set_cons_succ, i64_w, i32_w]
    rfl
  refine pure_ (i := 6) (N := some 11) (v := undef) (a' := ?_) #[true, true, true, true, true, true, true, false, false, false, false, false, false, false, false, false, false, false, false, false, false, false, false, false, false, false, false, false] rfl rfl (by kernel_rfl) (fun _ _ _ h => h) (Or.inr ⟨by rfl, rfl⟩) ?_ ?_
  rotate_left
  · simp only [Act.put, List.setIfInBounds_toArray, List.set_cons_zero, List.set_cons_succ, i64_w, i32_w]
    rfl
  refine pure_ (i := 7) (N := some 12) (v := ?_) (a' := ?_) #[true, true, true, true, true, true, true, true, false, false, false, false, false, false, false, false, false, false, false, false, false, false, false, false, false, false, false, false] rfl rfl (by kernel_rfl) (fun _ _ _ h => h) (Or.inl ⟨by rfl, ?_⟩) ?_ ?_
  rotate_left
  · intro w'
    go_simp
    with_reducible rfl
  rotate_left
  · simp only [Act.put, List.setIfInBounds_toArray, List.set_cons_zero, List.set_cons_succ, i64_w, i32_w]
    rfl
  refine pure_ (i := 8) (N := some 13) (v := ?_) (a' := ?_) #[true, true, true, true, true, true, true, true, true, false, false, false, false, false, false, false, false, false, false, false, false, false, false, false, false, false, false, false] rfl rfl (by kernel_rfl) (fun _ _ _ h => h) (Or.inl ⟨by rfl, ?_⟩) ?_ ?_
  rotate_left
  · intro w'
    go_simp
    with_reducible rfl
  rotate_left
  · simp only [Act.put, List.setIfInBounds_toArray, List.set_cons_zero, List.set_cons_succ, i64_w, i32_w]
    rfl
  refine pure_ (i := 9) (N := some 14) (v := undef) (a' := ?_) #[true, true, true, true, true, true, true, true, true, true, false, false, false, false, false, false, false, false, false, false, false, false, false, false, false, false, false, false] rfl rfl (by kernel_rfl) (fun _ _ _ h => h) (Or.inr ⟨by rfl, rfl⟩) ?_ ?_
  rotate_left
  · simp only [Act.put, List.setIfInBounds_toArray, List.set_cons_zero, List.set_cons_succ, i64_w, i32_w]
    rfl
  refine pure_ (i := 10) (N := some 15) (v := undef) (a' := ?_) #[true, true, true, true, true, true, true, true, true, true, true, false, false, false, false, false, false, false, false, false, false, false, false, false, false, false, false, false] rfl rfl (by kernel_rfl) (fun _ _ _ h => h) (Or.inr ⟨by rfl, rfl⟩) ?_ ?_
  rotate_left
  · simp only [Act.put, List.setIfInBounds_toArray, List.set_cons_zero, List.set_cons_succ, i64_w, i32_w]
    rfl
  refine pure_ (i := 11) (N := some 16) (v := undef) (a' := ?_) #[true, true, true, true, true, true, true, true, true, true, true, true, false, false, false, false, false, false, false, false, false, false, false, false, false, false, false, false] rfl rfl (by kernel_rfl) (fun _ _ _ h => h) (Or.inr ⟨by rfl, rfl⟩) ?_ ?_
  rotate_left
  · simp only [Act.put, List.setIfInBounds_toArray, List.set_cons_zero, List.set_cons_succ, i64_w, i32_w]
    rfl
  refine pure_ (i := 12) (N := some 17) (v := undef) (a' := ?_) #[true, true, true, true, true, true, true, true, true, true, true, true, true, false, false, false, false, false, false, false, false, false, false, false, false, false, false, false] rfl rfl (by kernel_rfl) (fun _ _ _ h => h) (Or.inr ⟨by rfl, rfl⟩) ?_ ?_
  rotate_left
  · simp only [Act.put, List.setIfInBounds_toArray, List.set_cons_zero, List.set_cons_succ, i64_w, i32_w]
    rfl
  refine pure_ (i := 13) (N := some 18) (v := undef) (a' := ?_) #[true, true, true, true, true, true, true, true, true, true, true, true, true, true, false, false, false, false, false, false, false, false, false, false, false, false, false, false] rfl rfl (by kernel_rfl) (fun _ _ _ h => h) (Or.inr ⟨by rfl, rfl⟩) ?_ ?_
  rotate_left
  · simp only [Act.put, List.setIfInBounds_toArray, List.set_cons_zero, List.set_cons_succ, i64_w, i32_w]
    rfl
  refine pure_ (i := 14) (N := some 19) (v := undef) (a' := ?_) #[true, true, true, true, true, true, true, true, true, true, true, true, true, true, true, false, false, false, false, false, false, false, false, false, false, false, false, false] rfl rfl (by kernel_rfl) (fun _ _ _ h => h) (Or.inr ⟨by rfl, rfl⟩) ?_ ?_
  rotate_left
  · simp only [Act.put, List.setIfInBounds_toArray, List.set_cons_zero, List.set_cons_succ, i64_w, i32_w]
    rfl
  refine pure_ (i := 15) (N := some 20) (v := undef) (a' := ?_) #[true, true, true, true, true, true, true, true, true, true, true, true, true, true, true, true, false, false, false, false, false, false, false, false, false, false, false, false] rfl rfl (by kernel_rfl) (fun _ _ _ h => h) (Or.inr ⟨by rfl, rfl⟩) ?_ ?_
  rotate_left
  · simp only [Act.put, List.setIfInBounds_toArray, List.set_cons_zero, List.set_cons_succ, i64_w, i32_w]
    rfl
  refine pure_ (i := 16) (N := some 21) (v := undef) (a' := ?_) #[true, true, true, true, true, true, true, true, true, true, true, true, true, true, true, true, true, false, false, false, false, false, false, false, false, false, false, false] rfl rfl (by kernel_rfl) (fun _ _ _ h => h) (Or.inr ⟨by rfl, rfl⟩) ?_ ?_
  rotate_left
  · simp only [Act.put, List.setIfInBounds_toArray, List.set_cons_zero, List.set_cons_succ, i64_w, i32_w]
    rfl
  refine pure_ (i := 17) (N := some 22) (v := undef) (a' := ?_) #[true, true, true, true, true, true, true, true, true, true, true, true, true, true, true, true, true, true, false, false, false, false, false, false, false, false, false, false] rfl rfl (by kernel_rfl) (fun _ _ _ h => h) (Or.inr ⟨by rfl, rfl⟩) ?_ ?_
  rotate_left
  · simp only [Act.put, List.setIfInBounds_toArray, List.set_cons_zero, List.set_cons_succ, i64_w, i32_w]
    rfl
  refine pure_ (i := 18) (N := some 23) (v := undef) (a' := ?_) #[true, true, true, true, true, true, true, true, true, true, true, true, true, true, true, true, true, true, true, false, false, false, false, false, false, false, false, false] rfl rfl (by kernel_rfl) (fun _ _ _ h => h) (Or.inr ⟨by rfl, rfl⟩) ?_ ?_
  rotate_left
  · simp only [Act.put, List.setIfInBounds_toArray, List.set_cons_zero, List.set_cons_succ, i64_w, i32_w]
    rfl
  refine pure_ (i := 19) (N := some 24) (v := undef) (a' := ?_) #[true, true, true, true, true, true, true, true, true, true, true, true, true, true, true, true, true, true, true, true, false, false, false, false, false, false, false, false] rfl rfl (by kernel_rfl) (fun _ _ _ h => h) (Or.inr ⟨by rfl, rfl⟩) ?_ ?_
  rotate_left
  · simp only [Act.put, List.setIfInBounds_toArray, List.set_cons_zero, List.set_cons_succ, i64_w, i32_w]
    rfl
  refine pure_ (i := 20) (N := some 25) (v := undef) (a' := ?_) #[true, true, true, true, true, true, true, true, true, true, true, true, true, true, true, true, true, true, true, true, true, false, false, false, false, false, false, false] rfl rfl (by kernel_rfl) (fun _ _ _ h => h) (Or.inr ⟨by rfl, rfl⟩) ?_ ?_
  rotate_left
  · simp only [Act.put, List.setIfInBounds_toArray, List.set_cons_zero, List.set_cons_succ, i64_w, i32_w]
    rfl
  refine pure_ (i := 21) (N := some 26) (v := undef) (a' := ?_) #[true, true, true, true, true, true, true, true, true, true, true, true, true, true, true, true, true, true, true, true, true, true, false, false, false, false, false, false] rfl rfl (by kernel_rfl) (fun _ _ _ h => h) (Or.inr ⟨by rfl, rfl⟩) ?_ ?_
  rotate_left
  · simp only [Act.put, List.setIfInBounds_toArray, List.set_cons_zero, List.set_cons_succ, i64_w, i32_w]
    rfl
  refine pure_ (i := 22) (N := some 27) (v := undef) (a' := ?_) #[true, true, true, true, true, true, true, true, true, true, true, true, true, true, true, true, true, true, true, true, true, true, true, false, false, false, false, false] rfl rfl (by kernel_rfl) (fun _ _ _ h => h) (Or.inr ⟨by rfl, rfl⟩) ?_ ?_
  rotate_left
  · simp only [Act.put, List.setIfInBounds_toArray, List.set_cons_zero, List.set_cons_succ, i64_w, i32_w]
    rfl
  refine pure_ (i := 23) (N := some 28) (v := undef) (a' := ?_) #[true, true, true, true, true, true, true, true, true, true, true, true, true, true, true, true, true, true, true, true, true, true, true, true, false, false, false, false] rfl rfl (by kernel_rfl) (fun _ _ _ h => h) (Or.inr ⟨by rfl, rfl⟩) ?_ ?_
  rotate_left
  · simp only [Act.put, List.setIfInBounds_toArray, List.set_cons_zero, List.set_cons_succ, i64_w, i32_w]
    rfl
  refine pure_ (i := 24) (N := some 29) (v := undef) (a' := ?_) #[true, true, true, true, true, true, true, true, true, true, true, true, true, true, true, true, true, true, true, true, true, true, true, true, true, false, false, false] rfl rfl (by kernel_rfl) (fun _ _ _ h => h) (Or.inr ⟨by rfl, rfl⟩) ?_ ?_
  rotate_left
  · simp only [Act.put, List.setIfInBounds_toArray, List.set_cons_zero, List.set_cons_succ, i64_w, i32_w]
    rfl
  refine pure_ (i := 25) (N := some 30) (v := undef) (a' := ?_) #[true, true, true, true, true, true, true, true, true, true, true, true, true, true, true, true, true, true, true, true, true, true, true, true, true, true, false, false] rfl rfl (by kernel_rfl) (fun _ _ _ h => h) (Or.inr ⟨by rfl, rfl⟩) ?_ ?_
  rotate_left
  · simp only [Act.put, List.setIfInBounds_toArray, List.set_cons_zero, List.set_cons_succ, i64_w, i32_w]
    rfl
  refine pure_ (i := 26) (N := some 31) (v := ?_) (a' := ?_) #[true, true, true, true, true, true, true, true, true, true, true, true, true, true, true, true, true, true, true, true, true, true, true, true, true, true, true, false] rfl rfl (by kernel_rfl) (fun _ _ _ h => h) (Or.inl ⟨by rfl, ?_⟩) ?_ ?_
  rotate_left
  · intro w'
    go_simp
    with_reducible rfl
  rotate_left
  · simp only [Act.put, List.setIfInBounds_toArray, List.set_cons_zero, List.set_cons_succ, i64_w, i32_w]
    rfl
  refine pure_ (i := 27) (N := some 4) (v := ?_) (a' := ?_) #[true, true, true, true, true, true, true, true, true, true, true, true, true, true, true, true, true, true, true, true, true, true, true, true, true, true, true, true] rfl rfl (by kernel_rfl) (fun _ _ _ h => h) (Or.inl ⟨by rfl, ?_⟩) ?_ ?_
  rotate_left
  · intro w'
    go_simp
    with_reducible rfl
  rotate_left
  · simp only [Act.put, List.setIfInBounds_toArray, List.set_cons_zero, List.set_cons_succ, i64_w, i32_w]
    rfl
  refine done_ (by kernel_rfl) ?_
  go_wp2
  go_ret
  exact ⟨rfl, rfl⟩
set_option maxHeartbeats 2000000 in
/-- Numbers in blocks of their own. -/
theorem alias_other (g g2 l l2 c c2 : Nat) (w : World) (h1 : Blk w g) (h2 : Blk w g2) (hne : g ≠ g2) (hl : l ≤ c) (hl2 : l2 ≤ c2) (hc : 0 < c) (hc2 : 0 < c2) (hcm : c ≤ 1000000) (hcm2 : c2 ≤ 1000000) :
    Calls Tryz.prog 66 #[.slice (some ⟨g, 0, none⟩) l c, .slice (some ⟨g2, 0, none⟩) l2 c2] w fun e w' => e = .returned (.bool false) ∧ w' = w.drew := by
  have p1 : 0 < (c : Int) := by omega
  have p2 : 0 < (c2 : Int) := by omega
  have p3 : (c : Int) ≤ 1000000 := by omega
  have p4 : (c2 : Int) ≤ 1000000 := by omega
  have q1 : decide (0 < c) = true := decide_eq_true hc
  have q2 : decide (0 < c2) = true := decide_eq_true hc2
  have p5 : 1 ≤ (c : Int) := by omega
  have p6 : 1 ≤ (c2 : Int) := by omega
  have w1 : wrap64 ((c : Int) - 1) = (c : Int) - 1 := by unfold wrap64; omega
  have w2 : wrap64 ((c2 : Int) - 1) = (c2 : Int) - 1 := by unfold wrap64; omega
  have b1 : 0 ≤ (c : Int) - 1 ∧ (c : Int) - 1 < (c : Int) := by omega
  have b2 : 0 ≤ (c2 : Int) - 1 ∧ (c2 : Int) - 1 < (c2 : Int) := by omega
  have HE := Aside0.mk (fun (w : World) (h1 : Blk w g) (h2 : Blk w g2) (j k : Nat) => run_eq_other w (j := j) (k := k) hne h1 h2)
  have HB1 := Aside0.mk h1
  have HB2 := Aside0.mk h2
  clear h1 h2 hne hl hl2 hc hc2 hcm hcm2
  go_enter Tryz.func66, Tryz.ntmps66
  go_wp2_with fail
  refine start_ (n := 28) (S := fun w' => Blk w' g ∧ Blk w' g2) (ds := []) #[false, false, false, false, false, false, false, false, false, false, false, false, false, false, false, false, false, false, false, false, false, false, false, false, false, false, false, false] (by kernel_rfl) rfl rfl (⟨HB1.out.drew, HB2.out.drew⟩) (fun hHeld => ?_)
  refine pure_ (i := 0) (N := some 5) (v := ?_) (a' := ?_) #[true, false, false, false, false, false, false, false, false, false, false, false, false, false, false, false, false, false, false, false, false, false, false, false, false, false, false, false] rfl rfl (by kernel_rfl) (fun _ _ _ h => h) (Or.inl ⟨by rfl, ?_⟩) ?_ ?_
  rotate_left
  · intro w'
    go_simp
    with_reducible rfl
  rotate_left
  · simp only [Act.put, List.setIfInBounds_toArray, List.set_cons_zero, List.set_cons_succ, i64_w, i32_w]
    rfl
  refine pure_ (i := 1) (N := some 6) (v := ?_) (a' := ?_) #[true, true, false, false, false, false, false, false, false, false, false, false, false, false, false, false, false, false, false, false, false, false, false, false, false, false, false, false] rfl rfl (by kernel_rfl) (fun _ _ _ h => h) (Or.inl ⟨by rfl, ?_⟩) ?_ ?_
  rotate_left
  · intro w'
    go_simp
    with_reducible rfl
  rotate_left
  · simp only [Act.put, List.setIfInBounds_toArray, List.set_cons_zero, List.set_cons_succ, i64_w, i32_w]
    rfl
  refine pure_ (i := 2) (N := some 7) (v := ?_) (a' := ?_) #[true, true, true, false, false, false, false, false, false, false, false, false, false, false, false, false, false, false, false, false, false, false, false, false, false, false, false, false] rfl rfl (by kernel_rfl) (fun _ _ _ h => h) (Or.inl ⟨by rfl, ?_⟩) ?_ ?_
  rotate_left
  · intro w'
    go_simp
    try simp only [q1]
    with_reducible rfl
  rotate_left
  · simp only [Act.put, List.setIfInBounds_toArray, List.set_cons_zero, List.set_cons_succ, i64_w, i32_w]
    rfl
  refine pure_ (i := 3) (N := some 8) (v := ?_) (a' := ?_) #[true, true, true, true, false, false, false, false, false, false, false, false, false, false, false, false, false, false, false, false, false, false, false, false, false, false, false, false] rfl rfl (by kernel_rfl) (fun _ _ _ h => h) (Or.inl ⟨by rfl, ?_⟩) ?_ ?_
  rotate_left
  · intro w'
    go_simp
    with_reducible rfl
  rotate_left
  · simp only [Act.put, List.setIfInBounds_toArray, List.set_cons_zero, List.set_cons_succ, i64_w, i32_w]
    rfl
  refine pure_ (i := 4) (N := some 9) (v := ?_) (a' := ?_) #[true, true, true, true, true, false, false, false, false, false, false, false, false, false, false, false, false, false, false, false, false, false, false, false, false, false, false, false] rfl rfl (by kernel_rfl) (fun _ _ _ h => h) (Or.inl ⟨by rfl, ?_⟩) ?_ ?_
  rotate_left
  · intro w'
    go_simp
    with_reducible rfl
  rotate_left
  · simp only [Act.put, List.setIfInBounds_toArray, List.set_cons_zero, List.set_cons_succ, i64_w, i32_w]
    rfl
  refine pure_ (i := 5) (N := some 10) (v := ?_) (a' := ?_) #[true, true, true, true, true, true, false, false, false, false, false, false, false, false, false, false, false, false, false, false, false, false, false, false, false, false, false, false] rfl rfl (by kernel_rfl) (fun _ _ _ h => h) (Or.inl ⟨by rfl, ?_⟩) ?_ ?_
  rotate_left
  · intro w'
    go_simp
    with_reducible rfl
  rotate_left
  · simp only [Act.put, List.setIfInBounds_toArray, List.set_cons_zero, List.set_cons_succ, i64_w, i32_w]
    rfl
  refine pure_ (i := 6) (N := some 11) (v := ?_) (a' := ?_) #[true, true, true, true, true, true, true, false, false, false, false, false, false, false, false, false, false, false, false, false, false, false, false, false, false, false, false, false] rfl rfl (by kernel_rfl) (fun _ _ _ h => h) (Or.inl ⟨by rfl, ?_⟩) ?_ ?_
  rotate_left
  · intro w'
    go_simp
    try simp only [q2]
    with_reducible rfl
  rotate_left
  · simp only [Act.put, List.setIfInBounds_toArray, List.set_cons_zero, List.set_cons_succ, i64_w, i32_w]
    rfl
  refine pure_ (i := 7) (N := some 12) (v := ?_) (a' := ?_) #[true, true, true, true, true, true, true, true, false, false, false, false, false, false, false, false, false, false, false, false, false, false, false, false, false, false, false, false] rfl rfl (by kernel_rfl) (fun _ _ _ h => h) (Or.inl ⟨by rfl, ?_⟩) ?_ ?_
  rotate_left
  · intro w'
    go_simp
    with_reducible rfl
  rotate_left
  · simp only [Act.put, List.setIfInBounds_toArray, List.set_cons_zero, List.set_cons_succ, i64_w, i32_w]
    rfl
  refine pure_ (i := 8) (N := some 13) (v := ?_) (a' := ?_) #[true, true, true, true, true, true, true, true, true, false, false, false, false, false, false, false, false, false, false, false, false, false, false, false, false, false, false, false] rfl rfl (by kernel_rfl) (fun _ _ _ h => h) (Or.inl ⟨by rfl, ?_⟩) ?_ ?_
  rotate_left
  · intro w'
    go_simp
    with_reducible rfl
  rotate_left
  · simp only [Act.put, List.setIfInBounds_toArray, List.set_cons_zero, List.set_cons_succ, i64_w, i32_w]
    rfl
  refine pure_ (i := 9) (N := some 14) (v := ?_) (a' := ?_) #[true, true, true, true, true, true, true, true, true, true, false, false, false, false, false, false, false, false, false, false, false, false, false, false, false, false, false, false] rfl rfl (by kernel_rfl) (fun _ _ _ h => h) (Or.inl ⟨by rfl, ?_⟩) ?_ ?_
  rotate_left
  · intro w'
    go_simp
    with_reducible rfl
  rotate_left
  · simp only [Act.put, List.setIfInBounds_toArray, List.set_cons_zero, List.set_cons_succ, i64_w, i32_w]
    rfl
  refine pure_ (i := 10) (N := some 15) (v := ?_) (a' := ?_) #[true, true, true, true, true, true, true, true, true, true, true, false, false, false, false, false, false, false, false, false, false, false, false, false, false, false, false, false] rfl rfl (by kernel_rfl) (fun _ _ _ h => h) (Or.inl ⟨by rfl, ?_⟩) ?_ ?_
  rotate_left
  · intro w'
    go_simp
    with_reducible rfl
  rotate_left
  · simp only [Act.put, List.setIfInBounds_toArray, List.set_cons_zero, List.set_cons_succ, i64_w, i32_w]
    rfl
  refine pure_ (i := 11) (N := some 16) (v := ?_) (a' := ?_) #[true, true, true, true, true, true, true, true, true, true, true, true, false, false, false, false, false, false, false, false, false, false, false, false, false, false, false, false] rfl rfl (by kernel_rfl) (fun _ _ _ h => h) (Or.inl ⟨by rfl, ?_⟩) ?_ ?_
  rotate_left
  · intro w'
    go_simp
    with_reducible rfl
  rotate_left
  · simp only [Act.put, List.setIfInBounds_toArray, List.set_cons_zero, List.set_cons_succ, i64_w, i32_w]
    rfl
  refine pure_ (i := 12) (N := some 17) (v := ?_) (a' := ?_) #[true, true, true, true, true, true, true, true, true, true, true, true, true, false, false, false, false, false, false, false, false, false, false, false, false, false, false, false] rfl rfl (by kernel_rfl) (fun _ _ _ h => h) (Or.inl ⟨by rfl, ?_⟩) ?_ ?_
  rotate_left
  · intro w'
    go_simp
    with_reducible rfl
  rotate_left
  · simp only [Act.put, List.setIfInBounds_toArray, List.set_cons_zero, List.set_cons_succ, i64_w, i32_w]
    rfl
  refine pure_ (i := 13) (N := some 18) (v := ?_) (a' := ?_) #[true, true, true, true, true, true, true, true, true, true, true, true, true, true, false, false, false, false, false, false, false, false, false, false, false, false, false, false] rfl rfl (by kernel_rfl) (fun _ _ _ h => h) (Or.inl ⟨by rfl, ?_⟩) ?_ ?_
  rotate_left
  · intro w'
    go_simp
    with_reducible rfl
  rotate_left
  · simp only [Act.put, List.setIfInBounds_toArray, List.set_cons_zero, List.set_cons_succ, i64_w, i32_w]
    rfl
  refine pure_ (i := 14) (N := some 19) (v := ?_) (a' := ?_) #[true, true, true, true, true, true, true, true, true, true, true, true, true, true, true, false, false, false, false, false, false, false, false, false, false, false, false, false] rfl rfl (by kernel_rfl) (fun _ _ _ h => h) (Or.inl ⟨by rfl, ?_⟩) ?_ ?_
  rotate_left
  · intro w'
    go_simp
    with_reducible rfl
  rotate_left
  · simp only [Act.put, List.setIfInBounds_toArray, List.set_cons_zero, List.set_cons_succ, i64_w, i32_w]
    rfl
  refine pure_ (i := 15) (N := some 20) (v := ?_) (a' := ?_) #[true, true, true, true, true, true, true, true, true, true, true, true, true, true, true, true, false, false, false, false, false, false, false, false, false, false, false, false] rfl rfl (by kernel_rfl) (fun _ _ _ h => h) (Or.inl ⟨by rfl, ?_⟩) ?_ ?_
  rotate_left
  · intro w'
    go_simp
    try simp only [w1]
    with_reducible rfl
  rotate_left
  · simp only [Act.put, List.setIfInBounds_toArray, List.set_cons_zero, List.set_cons_succ, i64_w, i32_w]
    rfl
  refine pure_ (i := 16) (N := some 21) (v := ?_) (a' := ?_) #[true, true, true, true, true, true, true, true, true, true, true, true, true, true, true, true, true, false, false, false, false, false, false, false, false, false, false, false] rfl rfl (by kernel_rfl) (fun _ _ _ h => h) (Or.inl ⟨by rfl, ?_⟩) ?_ ?_
  rotate_left
  · intro w'
    go_simp
    try simp only [if_pos b1]
    with_reducible rfl
  rotate_left
  · simp only [Act.put, List.setIfInBounds_toArray, List.set_cons_zero, List.set_cons_succ, i64_w, i32_w]
    rfl
  refine pure_ (i := 17) (N := some 22) (v := ?_) (a' := ?_) #[true, true, true, true, true, true, true, true, true, true, true, true, true, true, true, true, true, true, false, false, false, false, false, false, false, false, false, false] rfl rfl (by kernel_rfl) (fun _ _ _ h => h) (Or.inl ⟨by rfl, ?_⟩) ?_ ?_
  rotate_left
  · intro w'
    go_simp
    with_reducible rfl
  rotate_left
  · simp only [Act.put, List.setIfInBounds_toArray, List.set_cons_zero, List.set_cons_succ, i64_w, i32_w]
    rfl
  refine pure_ (i := 18) (N := some 23) (v := ?_) (a' := ?_) #[true, true, true, true, true, true, true, true, true, true, true, true, true, true, true, true, true, true, true, false, false, false, false, false, false, false, false, false] rfl rfl (by kernel_rfl) (fun _ _ _ h => h) (Or.inl ⟨by rfl, ?_⟩) ?_ ?_
  rotate_left
  · intro w'
    go_simp
    with_reducible rfl
  rotate_left
  · simp only [Act.put, List.setIfInBounds_toArray, List.set_cons_zero, List.set_cons_succ, i64_w, i32_w]
    rfl
  refine pure_ (i := 19) (N := some 24) (v := ?_) (a' := ?_) #[true, true, true, true, true, true, true, true, true, true, true, true, true, true, true, true, true, true, true, true, false, false, false, false, false, false, false, false] rfl rfl (by kernel_rfl) (fun _ _ _ h => h) (Or.inl ⟨by rfl, ?_⟩) ?_ ?_
  rotate_left
  · intro w'
    go_simp
    with_reducible rfl
  rotate_left
  · simp only [Act.put, List.setIfInBounds_toArray, List.set_cons_zero, List.set_cons_succ, i64_w, i32_w]
    rfl
  refine pure_ (i := 20) (N := some 25) (v := ?_) (a' := ?_) #[true, true, true, true, true, true, true, true, true, true, true, true, true, true, true, true, true, true, true, true, true, false, false, false, false, false, false, false] rfl rfl (by kernel_rfl) (fun _ _ _ h => h) (Or.inl ⟨by rfl, ?_⟩) ?_ ?_
  rotate_left
  · intro w'
    go_simp
    with_reducible rfl
  rotate_left
  · simp only [Act.put, List.setIfInBounds_toArray, List.set_cons_zero, List.set_cons_succ, i64_w, i32_w]
    rfl
  refine pure_ (i := 21) (N := some 26) (v := ?_) (a' := ?_) #[true, true, true, true, true, true, true, true, true, true, true, true, true, true, true, true, true, true, true, true, true, true, false, false, false, false, false, false] rfl rfl (by kernel_rfl) (fun _ _ _ h => h) (Or.inl ⟨by rfl, ?_⟩) ?_ ?_
  rotate_left
  · intro w'
    go_simp
    with_reducible rfl
  rotate_left
  · simp only [Act.put, List.setIfInBounds_toArray, List.set_cons_zero, List.set_cons_succ, i64_w, i32_w]
    rfl
  refine pure_ (i := 22) (N := some 27) (v := ?_) (a' := ?_) #[true, true, true, true, true, true, true, true, true, true, true, true, true, true, true, true, true, true, true, true, true, true, true, false, false, false, false, false] rfl rfl (by kernel_rfl) (fun _ _ _ h => h) (Or.inl ⟨by rfl, ?_⟩) ?_ ?_
  rotate_left
  · intro w'
    go_simp
    with_reducible rfl
  rotate_left
  · simp only [Act.put, List.setIfInBounds_toArray, List.set_cons_zero, List.set_cons_succ, i64_w, i32_w]
    rfl
  refine pure_ (i := 23) (N := some 28) (v := ?_) (a' := ?_) #[true, true, true, true, true, true, true, true, true, true, true, true, true, true, true, true, true, true, true, true, true, true, true, true, false, false, false, false] rfl rfl (by kernel_rfl) (fun _ _ _ h => h) (Or.inl ⟨by rfl, ?_⟩) ?_ ?_
  rotate_left
  · intro w'
    go_simp
    try simp only [w2]
    with_reducible rfl
  rotate_left
  · simp only [Act.put, List.setIfInBounds_toArray, List.set_cons_zero, List.set_cons_succ, i64_w, i32_w]
    rfl
  refine pure_ (i := 24) (N := some 29) (v := ?_) (a' := ?_) #[true, true, true, true, true, true, true, true, true, true, true, true, true, true, true, true, true, true, true, true, true, true, true, true, true, false, false, false] rfl rfl (by kernel_rfl) (fun _ _ _ h => h) (Or.inl ⟨by rfl, ?_⟩) ?_ ?_
  rotate_left
  · intro w'
    go_simp
    try simp only [if_pos b2]
    with_reducible rfl
  rotate_left
  · simp only [Act.put, List.setIfInBounds_toArray, List.set_cons_zero, List.set_cons_succ, i64_w, i32_w]
    rfl
  refine take_ (i := 25) (N := some 30) (v := ?_) (a' := ?_) #[true, true, true, true, true, true, true, true, true, true, true, true, true, true, true, true, true, true, true, true, true, true, true, true, true, true, false, false] rfl rfl (by kernel_rfl) (fun _ _ _ h => h) (Or.inl ⟨by rfl, ?_⟩) hHeld ?_ ?_
  rotate_left
  · rintro w' ⟨s0, s1⟩
    have he := HE.out w' s0 s1 (c - 1) (c2 - 1)
    go_simp
    with_reducible rfl
  rotate_left
  · simp only [Act.put, List.setIfInBounds_toArray, List.set_cons_zero, List.set_cons_succ, i64_w, i32_w]
    rfl
  refine pure_ (i := 26) (N := some 31) (v := ?_) (a' := ?_) #[true, true, true, true, true, true, true, true, true, true, true, true, true, true, true, true, true, true, true, true, true, true, true, true, true, true, true, false] rfl rfl (by kernel_rfl) (fun _ _ _ h => h) (Or.inl ⟨by rfl, ?_⟩) ?_ ?_
  rotate_left
  · intro w'
    go_simp
    with_reducible rfl
  rotate_left
  · simp only [Act.put, List.setIfInBounds_toArray, List.set_cons_zero, List.set_cons_succ, i64_w, i32_w]
    rfl
  refine pure_ (i := 27) (N := some 4) (v := ?_) (a' := ?_) #[true, true, true, true, true, true, true, true, true, true, true, true, true, true, true, true, true, true, true, true, true, true, true, true, true, true, true, true] rfl rfl (by kernel_rfl) (fun _ _ _ h => h) (Or.inl ⟨by rfl, ?_⟩) ?_ ?_
  rotate_left
  · intro w'
    go_simp
    with_reducible rfl
  rotate_left
  · simp only [Act.put, List.setIfInBounds_toArray, List.set_cons_zero, List.set_cons_succ, i64_w, i32_w]
    rfl
  refine done_ (by kernel_rfl) ?_
  go_wp2
  go_ret
  exact ⟨rfl, rfl⟩
set_option maxHeartbeats 2000000 in
/-- A number's block is its own. -/
theorem alias_same (g l l2 c : Nat) (w : World) (hl : l ≤ c) (hl2 : l2 ≤ c) (hc : 0 < c) (hcm : c ≤ 1000000) :
    Calls Tryz.prog 66 #[.slice (some ⟨g, 0, none⟩) l c, .slice (some ⟨g, 0, none⟩) l2 c] w fun e w' => e = .returned (.bool true) ∧ w' = w.drew := by
  have p1 : 0 < (c : Int) := by omega
  have p3 : (c : Int) ≤ 1000000 := by omega
  have q1 : decide (0 < c) = true := decide_eq_true hc
  have p5 : 1 ≤ (c : Int) := by omega
  have w1 : wrap64 ((c : Int) - 1) = (c : Int) - 1 := by unfold wrap64; omega
  have b1 : 0 ≤ (c : Int) - 1 ∧ (c : Int) - 1 < (c : Int) := by omega
  have HE := Aside0.mk (fun (w : World) (j : Nat) => run_eq_same ⟨g, j, none⟩ w)
  clear hl hl2 hc hcm
  go_enter Tryz.func66, Tryz.ntmps66
  go_wp2_with fail
  refine start_ (n := 28) (S := fun w' => True) (ds := []) #[false, false, false, false, false, false, false, false, false, false, false, false, false, false, false, false, false, false, false, false, false, false, false, false, false, false, false, false] (by kernel_rfl) rfl rfl (trivial) (fun hHeld => ?_)
  refine pure_ (i := 0) (N := some 5) (v := ?_) (a' := ?_) #[true, false, false, false, false, false, false, false, false, false, false, false, false, false, false, false, false, false, false, false, false, false, false, false, false, false, false, false] rfl rfl (by kernel_rfl) (fun _ _ _ h => h) (Or.inl ⟨by rfl, ?_⟩) ?_ ?_
  rotate_left
  · intro w'
    go_simp
    with_reducible rfl
  rotate_left
  · simp only [Act.put, List.setIfInBounds_toArray, List.set_cons_zero, List.set_cons_succ, i64_w, i32_w]
    rfl
  refine pure_ (i := 1) (N := some 6) (v := ?_) (a' := ?_) #[true, true, false, false, false, false, false, false, false, false, false, false, false, false, false, false, false, false, false, false, false, false, false, false, false, false, false, false] rfl rfl (by kernel_rfl) (fun _ _ _ h => h) (Or.inl ⟨by rfl, ?_⟩) ?_ ?_
  rotate_left
  · intro w'
    go_simp
    with_reducible rfl
  rotate_left
  · simp only [Act.put, List.setIfInBounds_toArray, List.set_cons_zero, List.set_cons_succ, i64_w, i32_w]
    rfl
  refine pure_ (i := 2) (N := some 7) (v := ?_) (a' := ?_) #[true, true, true, false, false, false, false, false, false, false, false, false, false, false, false, false, false, false, false, false, false, false, false, false, false, false, false, false] rfl rfl (by kernel_rfl) (fun _ _ _ h => h) (Or.inl ⟨by rfl, ?_⟩) ?_ ?_
  rotate_left
  · intro w'
    go_simp
    try simp only [q1]
    with_reducible rfl
  rotate_left
  · simp only [Act.put, List.setIfInBounds_toArray, List.set_cons_zero, List.set_cons_succ, i64_w, i32_w]
    rfl
  refine pure_ (i := 3) (N := some 8) (v := ?_) (a' := ?_) #[true, true, true, true, false, false, false, false, false, false, false, false, false, false, false, false, false, false, false, false, false, false, false, false, false, false, false, false] rfl rfl (by kernel_rfl) (fun _ _ _ h => h) (Or.inl ⟨by rfl, ?_⟩) ?_ ?_
  rotate_left
  · intro w'
    go_simp
    with_reducible rfl
  rotate_left
  · simp only [Act.put, List.setIfInBounds_toArray, List.set_cons_zero, List.set_cons_succ, i64_w, i32_w]
    rfl
  refine pure_ (i := 4) (N := some 9) (v := ?_) (a' := ?_) #[true, true, true, true, true, false, false, false, false, false, false, false, false, false, false, false, false, false, false, false, false, false, false, false, false, false, false, false] rfl rfl (by kernel_rfl) (fun _ _ _ h => h) (Or.inl ⟨by rfl, ?_⟩) ?_ ?_
  rotate_left
  · intro w'
    go_simp
    with_reducible rfl
  rotate_left
  · simp only [Act.put, List.setIfInBounds_toArray, List.set_cons_zero, List.set_cons_succ, i64_w, i32_w]
    rfl
  refine pure_ (i := 5) (N := some 10) (v := ?_) (a' := ?_) #[true, true, true, true, true, true, false, false, false, false, false, false, false, false, false, false, false, false, false, false, false, false, false, false, false, false, false, false] rfl rfl (by kernel_rfl) (fun _ _ _ h => h) (Or.inl ⟨by rfl, ?_⟩) ?_ ?_
  rotate_left
  · intro w'
    go_simp
    with_reducible rfl
  rotate_left
  · simp only [Act.put, List.setIfInBounds_toArray, List.set_cons_zero, List.set_cons_succ, i64_w, i32_w]
    rfl
  refine pure_ (i := 6) (N := some 11) (v := ?_) (a' := ?_) #[true, true, true, true, true, true, true, false, false, false, false, false, false, false, false, false, false, false, false, false, false, false, false, false, false, false, false, false] rfl rfl (by kernel_rfl) (fun _ _ _ h => h) (Or.inl ⟨by rfl, ?_⟩) ?_ ?_
  rotate_left
  · intro w'
    go_simp
    try simp only [q1]
    with_reducible rfl
  rotate_left
  · simp only [Act.put, List.setIfInBounds_toArray, List.set_cons_zero, List.set_cons_succ, i64_w, i32_w]
    rfl
  refine pure_ (i := 7) (N := some 12) (v := ?_) (a' := ?_) #[true, true, true, true, true, true, true, true, false, false, false, false, false, false, false, false, false, false, false, false, false, false, false, false, false, false, false, false] rfl rfl (by kernel_rfl) (fun _ _ _ h => h) (Or.inl ⟨by rfl, ?_⟩) ?_ ?_
  rotate_left
  · intro w'
    go_simp
    with_reducible rfl
  rotate_left
  · simp only [Act.put, List.setIfInBounds_toArray, List.set_cons_zero, List.set_cons_succ, i64_w, i32_w]
    rfl
  refine pure_ (i := 8) (N := some 13) (v := ?_) (a' := ?_) #[true, true, true, true, true, true, true, true, true, false, false, false, false, false, false, false, false, false, false, false, false, false, false, false, false, false, false, false] rfl rfl (by kernel_rfl) (fun _ _ _ h => h) (Or.inl ⟨by rfl, ?_⟩) ?_ ?_
  rotate_left
  · intro w'
    go_simp
    with_reducible rfl
  rotate_left
  · simp only [Act.put, List.setIfInBounds_toArray, List.set_cons_zero, List.set_cons_succ, i64_w, i32_w]
    rfl
  refine pure_ (i := 9) (N := some 14) (v := ?_) (a' := ?_) #[true, true, true, true, true, true, true, true, true, true, false, false, false, false, false, false, false, false, false, false, false, false, false, false, false, false, false, false] rfl rfl (by kernel_rfl) (fun _ _ _ h => h) (Or.inl ⟨by rfl, ?_⟩) ?_ ?_
  rotate_left
  · intro w'
    go_simp
    with_reducible rfl
  rotate_left
  · simp only [Act.put, List.setIfInBounds_toArray, List.set_cons_zero, List.set_cons_succ, i64_w, i32_w]
    rfl
  refine pure_ (i := 10) (N := some 15) (v := ?_) (a' := ?_) #[true, true, true, true, true, true, true, true, true, true, true, false, false, false, false, false, false, false, false, false, false, false, false, false, false, false, false, false] rfl rfl (by kernel_rfl) (fun _ _ _ h => h) (Or.inl ⟨by rfl, ?_⟩) ?_ ?_
  rotate_left
  · intro w'
    go_simp
    with_reducible rfl
  rotate_left
  · simp only [Act.put, List.setIfInBounds_toArray, List.set_cons_zero, List.set_cons_succ, i64_w, i32_w]
    rfl
  refine pure_ (i := 11) (N := some 16) (v := ?_) (a' := ?_) #[true, true, true, true, true, true, true, true, true, true, true, true, false, false, false, false, false, false, false, false, false, false, false, false, false, false, false, false] rfl rfl (by kernel_rfl) (fun _ _ _ h => h) (Or.inl ⟨by rfl, ?_⟩) ?_ ?_
  rotate_left
  · intro w'
    go_simp
    with_reducible rfl
  rotate_left
  · simp only [Act.put, List.setIfInBounds_toArray, List.set_cons_zero, List.set_cons_succ, i64_w, i32_w]
    rfl
  refine pure_ (i := 12) (N := some 17) (v := ?_) (a' := ?_) #[true, true, true, true, true, true, true, true, true, true, true, true, true, false, false, false, false, false, false, false, false, false, false, false, false, false, false, false] rfl rfl (by kernel_rfl) (fun _ _ _ h => h) (Or.inl ⟨by rfl, ?_⟩) ?_ ?_
  rotate_left
  · intro w'
    go_simp
    with_reducible rfl
  rotate_left
  · simp only [Act.put, List.setIfInBounds_toArray, List.set_cons_zero, List.set_cons_succ, i64_w, i32_w]
    rfl
  refine pure_ (i := 13) (N := some 18) (v := ?_) (a' := ?_) #[true, true, true, true, true, true, true, true, true, true, true, true, true, true, false, false, false, false, false, false, false, false, false, false, false, false, false, false] rfl rfl (by kernel_rfl) (fun _ _ _ h => h) (Or.inl ⟨by rfl, ?_⟩) ?_ ?_
  rotate_left
  · intro w'
    go_simp
    with_reducible rfl
  rotate_left
  · simp only [Act.put, List.setIfInBounds_toArray, List.set_cons_zero, List.set_cons_succ, i64_w, i32_w]
    rfl
  refine pure_ (i := 14) (N := some 19) (v := ?_) (a' := ?_) #[true, true, true, true, true, true, true, true, true, true, true, true, true, true, true, false, false, false, false, false, false, false, false, false, false, false, false, false] rfl rfl (by kernel_rfl) (fun _ _ _ h => h) (Or.inl ⟨by rfl, ?_⟩) ?_ ?_
  rotate_left
  · intro w'
    go_simp
    with_reducible rfl
  rotate_left
  · simp only [Act.put, List.setIfInBounds_toArray, List.set_cons_zero, List.set_cons_succ, i64_w, i32_w]
    rfl
  refine pure_ (i := 15) (N := some 20) (v := ?_) (a' := ?_) #[true, true, true, true, true, true, true, true, true, true, true, true, true, true, true, true, false, false, false, false, false, false, false, false, false, false, false, false] rfl rfl (by kernel_rfl) (fun _ _ _ h => h) (Or.inl ⟨by rfl, ?_⟩) ?_ ?_
  rotate_left
  · intro w'
    go_simp
    try simp only [w1]
    with_reducible rfl
  rotate_left
  · simp only [Act.put, List.setIfInBounds_toArray, List.set_cons_zero, List.set_cons_succ, i64_w, i32_w]
    rfl
  refine pure_ (i := 16) (N := some 21) (v := ?_) (a' := ?_) #[true, true, true, true, true, true, true, true, true, true, true, true, true, true, true, true, true, false, false, false, false, false, false, false, false, false, false, false] rfl rfl (by kernel_rfl) (fun _ _ _ h => h) (Or.inl ⟨by rfl, ?_⟩) ?_ ?_
  rotate_left
  · intro w'
    go_simp
    try simp only [if_pos b1]
    with_reducible rfl
  rotate_left
  · simp only [Act.put, List.setIfInBounds_toArray, List.set_cons_zero, List.set_cons_succ, i64_w, i32_w]
    rfl
  refine pure_ (i := 17) (N := some 22) (v := ?_) (a' := ?_) #[true, true, true, true, true, true, true, true, true, true, true, true, true, true, true, true, true, true, false, false, false, false, false, false, false, false, false, false] rfl rfl (by kernel_rfl) (fun _ _ _ h => h) (Or.inl ⟨by rfl, ?_⟩) ?_ ?_
  rotate_left
  · intro w'
    go_simp
    with_reducible rfl
  rotate_left
  · simp only [Act.put, List.setIfInBounds_toArray, List.set_cons_zero, List.set_cons_succ, i64_w, i32_w]
    rfl
  refine pure_ (i := 18) (N := some 23) (v := ?_) (a' := ?_) #[true, true, true, true, true, true, true, true, true, true, true, true, true, true, true, true, true, true, true, false, false, false, false, false, false, false, false, false] rfl rfl (by kernel_rfl) (fun _ _ _ h => h) (Or.inl ⟨by rfl, ?_⟩) ?_ ?_
  rotate_left
  · intro w'
    go_simp
    with_reducible rfl
  rotate_left
  · simp only [Act.put, List.setIfInBounds_toArray, List.set_cons_zero, List.set_cons_succ, i64_w, i32_w]
    rfl
  refine pure_ (i := 19) (N := some 24) (v := ?_) (a' := ?_) #[true, true, true, true, true, true, true, true, true, true, true, true, true, true, true, true, true, true, true, true, false, false, false, false, false, false, false, false] rfl rfl (by kernel_rfl) (fun _ _ _ h => h) (Or.inl ⟨by rfl, ?_⟩) ?_ ?_
  rotate_left
  · intro w'
    go_simp
    with_reducible rfl
  rotate_left
  · simp only [Act.put, List.setIfInBounds_toArray, List.set_cons_zero, List.set_cons_succ, i64_w, i32_w]
    rfl
  refine pure_ (i := 20) (N := some 25) (v := ?_) (a' := ?_) #[true, true, true, true, true, true, true, true, true, true, true, true, true, true, true, true, true, true, true, true, true, false, false, false, false, false, false, false] rfl rfl (by kernel_rfl) (fun _ _ _ h => h) (Or.inl ⟨by rfl, ?_⟩) ?_ ?_
  rotate_left
  · intro w'
    go_simp
    with_reducible rfl
  rotate_left
  · simp only [Act.put, List.setIfInBounds_toArray, List.set_cons_zero, List.set_cons_succ, i64_w, i32_w]
    rfl
  refine pure_ (i := 21) (N := some 26) (v := ?_) (a' := ?_) #[true, true, true, true, true, true, true, true, true, true, true, true, true, true, true, true, true, true, true, true, true, true, false, false, false, false, false, false] rfl rfl (by kernel_rfl) (fun _ _ _ h => h) (Or.inl ⟨by rfl, ?_⟩) ?_ ?_
  rotate_left
  · intro w'
    go_simp
    with_reducible rfl
  rotate_left
  · simp only [Act.put, List.setIfInBounds_toArray, List.set_cons_zero, List.set_cons_succ, i64_w, i32_w]
    rfl
  refine pure_ (i := 22) (N := some 27) (v := ?_) (a' := ?_) #[true, true, true, true, true, true, true, true, true, true, true, true, true, true, true, true, true, true, true, true, true, true, true, false, false, false, false, false] rfl rfl (by kernel_rfl) (fun _ _ _ h => h) (Or.inl ⟨by rfl, ?_⟩) ?_ ?_
  rotate_left
  · intro w'
    go_simp
    with_reducible rfl
  rotate_left
  · simp only [Act.put, List.setIfInBounds_toArray, List.set_cons_zero, List.set_cons_succ, i64_w, i32_w]
    rfl
  refine pure_ (i := 23) (N := some 28) (v := ?_) (a' := ?_) #[true, true, true, true, true, true, true, true, true, true, true, true, true, true, true, true, true, true, true, true, true, true, true, true, false, false, false, false] rfl rfl (by kernel_rfl) (fun _ _ _ h => h) (Or.inl ⟨by rfl, ?_⟩) ?_ ?_
  rotate_left
  · intro w'
    go_simp
    try simp only [w1]
    with_reducible rfl
  rotate_left
  · simp only [Act.put, List.setIfInBounds_toArray, List.set_cons_zero, List.set_cons_succ, i64_w, i32_w]
    rfl
  refine pure_ (i := 24) (N := some 29) (v := ?_) (a' := ?_) #[true, true, true, true, true, true, true, true, true, true, true, true, true, true, true, true, true, true, true, true, true, true, true, true, true, false, false, false] rfl rfl (by kernel_rfl) (fun _ _ _ h => h) (Or.inl ⟨by rfl, ?_⟩) ?_ ?_
  rotate_left
  · intro w'
    go_simp
    try simp only [if_pos b1]
    with_reducible rfl
  rotate_left
  · simp only [Act.put, List.setIfInBounds_toArray, List.set_cons_zero, List.set_cons_succ, i64_w, i32_w]
    rfl
  refine take_ (i := 25) (N := some 30) (v := ?_) (a' := ?_) #[true, true, true, true, true, true, true, true, true, true, true, true, true, true, true, true, true, true, true, true, true, true, true, true, true, true, false, false] rfl rfl (by kernel_rfl) (fun _ _ _ h => h) (Or.inl ⟨by rfl, ?_⟩) hHeld ?_ ?_
  rotate_left
  · rintro w' _
    have he := HE.out w' (c - 1)
    go_simp
    with_reducible rfl
  rotate_left
  · simp only [Act.put, List.setIfInBounds_toArray, List.set_cons_zero, List.set_cons_succ, i64_w, i32_w]
    rfl
  refine pure_ (i := 26) (N := some 31) (v := ?_) (a' := ?_) #[true, true, true, true, true, true, true, true, true, true, true, true, true, true, true, true, true, true, true, true, true, true, true, true, true, true, true, false] rfl rfl (by kernel_rfl) (fun _ _ _ h => h) (Or.inl ⟨by rfl, ?_⟩) ?_ ?_
  rotate_left
  · intro w'
    go_simp
    with_reducible rfl
  rotate_left
  · simp only [Act.put, List.setIfInBounds_toArray, List.set_cons_zero, List.set_cons_succ, i64_w, i32_w]
    rfl
  refine pure_ (i := 27) (N := some 4) (v := ?_) (a' := ?_) #[true, true, true, true, true, true, true, true, true, true, true, true, true, true, true, true, true, true, true, true, true, true, true, true, true, true, true, true] rfl rfl (by kernel_rfl) (fun _ _ _ h => h) (Or.inl ⟨by rfl, ?_⟩) ?_ ?_
  rotate_left
  · intro w'
    go_simp
    with_reducible rfl
  rotate_left
  · simp only [Act.put, List.setIfInBounds_toArray, List.set_cons_zero, List.set_cons_succ, i64_w, i32_w]
    rfl
  refine done_ (by kernel_rfl) ?_
  go_wp2
  go_ret
  exact ⟨rfl, rfl⟩
theorem zeroW (w : World) : (zeroValue 89).run Tryz.prog w = .ok (.int .u64 0) w := by
  obtain ⟨i0, hi, hzz⟩ := Option.map_eq_some_iff.1 infoW
  simp only [Prod.mk.injEq] at hzz
  simp [zeroValue, typeInfo, hi, hzz.1]
/-- Words of a block written one after the other. -/
theorem Buf.puts {g : Nat} {post : List Int} : ∀ (ys xs pre : List Int) (w : World), ys.length = xs.length → Buf w g (pre ++ (xs ++ post)) → Buf (w.setCells g pre.length (nums .u64 ys)) g (pre ++ (ys ++ post))
  | [], [], pre, w, _, h => h
  | [], x :: xs, _, _, h, _ => absurd h (by simp)
  | y :: ys, [], _, _, h, _ => absurd h (by simp)
  | y :: ys, x :: xs, pre, w, hl, h => by
    have h1 := h.put pre.length y
    have e1 : (pre ++ (x :: xs ++ post)).set pre.length y = (pre ++ [y]) ++ (xs ++ post) := by simp
    rw [e1] at h1
    have h2 := Buf.puts ys xs (pre ++ [y]) _ (by simpa using hl) h1
    have e2 : (pre ++ [y]).length = pre.length + 1 := by simp
    rw [e2] at h2
    have e3 : (pre ++ [y]) ++ (ys ++ post) = pre ++ (y :: ys ++ post) := by simp
    rw [e3] at h2
    exact h2
theorem kept_puts {w0 : World} {g : Nat} : ∀ (vs : List Value) (o : Nat) (w : World), KeptB w0 w g → KeptB w0 (w.setCells g o vs) g
  | [], _, _, h => h
  | v :: vs, o, w, h => kept_puts vs (o + 1) _ (h.set v)
/-- Words of a block cleared. -/
theorem run_clear (w : World) (g n c : Nat) (pre xs post : List Int) (hz : Buf w g (pre ++ (xs ++ post))) (hn : 0 < n) (hl : xs.length = n) (ty : TypeId) :
    (Builtin.clear_ #[57] ty #[.slice (some ⟨g, pre.length, none⟩) n c]).run Tryz.prog w = .ok (.tuple #[]) (w.setCells g pre.length (nums .u64 (List.replicate n 0))) := by
  have h := Lib.run_clear_slice (P := Tryz.prog) w 57 89 ty (.int .u64 0) Tryz.underlying57 zeroW rfl rfl g pre.length n c hn (fun j hj => by rw [hz.cell (by simp; omega)]; rfl) (fun j hj => hz.frozen _)
  rw [h]
  simp [nums]
end Go.Proofs.YteohmbannpbokaaGreatDoor.WordWalk

set_option linter.unusedVariables false
set_option linter.unusedSimpArgs false
namespace Go.Proofs.YteohmbannpbokaaGreatDoor.WordWalk
open Go.RowKit Go.Proofs.YteohmbannpbokaaGreatDoorW.PrintWords Go.Proofs.YteohmbannpbokaaGreatDoorW.PrintLast Go.Proofs.YteohmbannpbokaaGreatDoorW.PrintMore Go.Proofs.YteohmbannpbokaaGreatDoor.SpecWalk Go.Proofs.YteohmbannpbokaaGreatDoor.BigWalk

theorem W64.val_zeros (n : Nat) : W64.val (List.replicate n 0) = 0 := by
  induction n with
  | zero => rfl
  | succ n ih => simp [List.replicate_succ, W64.val, ih]
/-- The product so far: m words and one more for each word of ys that is done; zeros behind. -/
structure Prods (xs ys : List Int) (n : Nat) (i : Int) (zs : List Int) : Prop where
  mk :: (out : ∃ k a, i = ((k : Nat) : Int) ∧ k ≤ n ∧ zs = a ++ List.replicate (n - k) 0 ∧ a.length = xs.length + k ∧ W64.Dig a ∧ W64.val a = W64.val xs * W64.val (ys.take k))
theorem Prods.start (xs ys : List Int) : Prods xs ys ys.length 0 (List.replicate (xs.length + ys.length) 0) :=
  ⟨0, List.replicate xs.length 0, rfl, Nat.zero_le _, by rw [Nat.sub_zero, List.replicate_append_replicate], by simp, by intro z hz; rw [List.eq_of_mem_replicate hz]; decide, by simp [W64.val_zeros, W64.val]⟩
theorem Prods.bound {xs ys : List Int} {n : Nat} {i : Int} {zs : List Int} (h : Prods xs ys n i zs) : 0 ≤ i ∧ i ≤ n ∧ zs.length = xs.length + n := by
  obtain ⟨k, a, rfl, h1, rfl, h2, _⟩ := h
  refine ⟨by omega, by omega, ?_⟩
  simp [h2]; omega
theorem Prods.skip {xs ys : List Int} {i : Int} {zs : List Int} (h : Prods xs ys ys.length i zs) (hi : i < ys.length) (hz : rd ys i = 0) : Prods xs ys ys.length (i + 1) zs := by
  obtain ⟨k, a, rfl, h1, rfl, h2, h3, h4⟩ := h
  have hk : k < ys.length := by omega
  refine ⟨k + 1, a ++ [0], by omega, by omega, ?_, by simp [h2]; omega, h3.append (by intro z hz; rw [List.mem_singleton] at hz; subst hz; decide), ?_⟩
  · rw [show ys.length - k = (ys.length - (k + 1)) + 1 by omega, List.replicate_succ, List.append_assoc]
    rfl
  · rw [W64.val_append, W64.val_take_succ hk, hz, h4]
    simp [W64.val]
/-- What the step is given, and what it leaves. -/
theorem Prods.parts {xs ys : List Int} {i : Int} {zs : List Int} (h : Prods xs ys ys.length i zs) (hi : i < ys.length) :
    ∃ pre mid, zs = pre ++ (mid ++ List.replicate (ys.length - i.toNat) 0) ∧ pre.length = i.toNat ∧ mid.length = xs.length ∧ W64.Dig mid ∧
      ∀ out c, out.length = xs.length → W64.Dig out → Word c → W64.val out + c * 18446744073709551616 ^ xs.length = W64.val mid + W64.val xs * rd ys i →
        Prods xs ys ys.length (i + 1) (pre ++ (out ++ List.replicate (ys.length - i.toNat) 0) |>.set (xs.length + i.toNat) c) := by
  obtain ⟨k, a, rfl, h1, rfl, h2, h3, h4⟩ := h
  have hk : k < ys.length := by omega
  rw [Int.toNat_natCast]
  refine ⟨a.take k, a.drop k, by rw [← List.append_assoc, List.take_append_drop], by rw [List.length_take]; omega, by rw [List.length_drop]; omega, fun z hz => h3 z (List.mem_of_mem_drop hz), ?_⟩
  intro out c ho hd hc hv
  refine ⟨k + 1, a.take k ++ (out ++ [c]), by omega, by omega, ?_, by simp [ho]; omega, ?_, ?_⟩
  · have hl : (a.take k ++ out).length = xs.length + k := by simp [ho]; omega
    rw [show ys.length - k = (ys.length - (k + 1)) + 1 by omega, List.replicate_succ, ← List.append_assoc, ← List.append_assoc, List.set_append_right _ _ (by omega), hl, Nat.sub_self, List.set_cons_zero]
    simp
  · exact (h3.take k).append (hd.append (by intro z hz; rw [List.mem_singleton] at hz; subst hz; exact ⟨hc.lo, hc.hi⟩))
  · have e0 : W64.val a = W64.val (a.take k) + 18446744073709551616 ^ k * W64.val (a.drop k) := by
      have := W64.val_append (a.take k) (a.drop k)
      rw [List.take_append_drop, List.length_take, Nat.min_eq_left (by omega)] at this
      exact this
    rw [W64.val_append, W64.val_append, List.length_take, Nat.min_eq_left (by omega), ho, W64.val_take_succ hk]
    have e1 : W64.val [c] = c := by simp [W64.val]
    rw [e1]
    have e2 : W64.val out + 18446744073709551616 ^ xs.length * c = W64.val (a.drop k) + W64.val xs * rd ys (k : Int) := by rw [← hv, Int.mul_comm c]
    rw [e2, Int.mul_add, ← Int.add_assoc, ← e0, h4, Int.mul_add]
    congr 1
    rw [← Int.mul_assoc, Int.mul_comm _ (W64.val xs), Int.mul_assoc, Int.mul_comm (_ ^ _) (rd ys _)]
theorem Prods.done {xs ys : List Int} {i : Int} {zs : List Int} (h : Prods xs ys ys.length i zs) (hi : ¬ i < ys.length) : zs.length = xs.length + ys.length ∧ W64.Dig zs ∧ W64.val zs = W64.val xs * W64.val ys := by
  obtain ⟨k, a, rfl, h1, rfl, h2, h3, h4⟩ := h
  obtain rfl : k = ys.length := by omega
  rw [Nat.sub_self, List.replicate_zero, List.append_nil]
  rw [List.take_length] at h4
  exact ⟨h2, h3, h4⟩

theorem lt_mid {pre out rest : List Int} {a m k : Nat} (h1 : pre.length = a) (h2 : out.length = m) (hk : 0 < k) : m + a < (pre ++ (out ++ (List.replicate k 0 ++ rest))).length := by
  simp only [List.length_append, List.length_replicate]; omega
set_option maxHeartbeats 4000000 in
set_option maxRecDepth 100000 in
theorem basicMul_n (g gx gy cx cy : Nat) (cs xs ys : List Int) (w : World) (hz : Buf w g cs) (hl : xs.length + ys.length ≤ cs.length) (hlm : cs.length ≤ 1000000) (hx0 : 0 < xs.length) (hdx : W64.Dig xs) (hdy : W64.Dig ys) (hnx : gx ≠ g) (hny : gy ≠ g)
    (hxc : ∀ i : Nat, i < xs.length → w.cell? ⟨gx, i, none⟩ = some (.int .u64 (rd xs (i : Int))))
    (hyc : ∀ i : Nat, i < ys.length → w.cell? ⟨gy, i, none⟩ = some (.int .u64 (rd ys (i : Int)))) :
    Calls Tryz.prog 85 #[.slice (some ⟨g, 0, none⟩) (xs.length + ys.length) cs.length, .slice (some ⟨gx, 0, none⟩) xs.length cx, .slice (some ⟨gy, 0, none⟩) ys.length cy] w fun e w' => e = .returned (.tuple #[]) ∧ ∃ out, out.length = xs.length + ys.length ∧ W64.Dig out ∧ W64.val out = W64.val xs * W64.val ys ∧ Buf w' g (out ++ cs.drop (xs.length + ys.length)) ∧ KeptB w w' g := by
  have HX := Aside0.mk (And.intro hnx hxc)
  have HY := Aside0.mk (And.intro hny hyc)
  have HDX := Aside0.mk hdx
  have HDY := Aside0.mk hdy
  have HS := Aside0.mk (Prods.start xs ys)
  have hlen : ([] : List Int).length = 0 := rfl
  have hsplit : cs = [] ++ (cs.take (xs.length + ys.length) ++ cs.drop (xs.length + ys.length)) := by rw [List.nil_append, List.take_append_drop]
  have hz2 := hz
  rw [hsplit] at hz2
  have hclr := fun ty => run_clear w g (xs.length + ys.length) cs.length [] _ _ hz2 (by omega) (by rw [List.length_take]; omega) ty
  have hbuf := Buf.puts (List.replicate (xs.length + ys.length) 0) _ [] w (by rw [List.length_replicate, List.length_take]; omega) hz2
  have hk0 := kept_puts (nums .u64 (List.replicate (xs.length + ys.length) 0)) 0 w (KeptB.refl w g)
  rw [hlen] at hclr hbuf
  rw [List.nil_append] at hbuf
  clear hsplit hlen hz2 hz
  generalize w.setCells g 0 (nums .u64 (List.replicate (xs.length + ys.length) 0)) = W1 at *
  have HB := Aside0.mk hbuf
  have HK := Aside0.mk hk0
  have HCL := Aside0.mk (And.intro hl hlm)
  have hmi : (xs.length : Int) + (ys.length : Int) ≤ (cs.length : Int) := by omega
  have hci : (cs.length : Int) ≤ 1000000 := by omega
  have hm0 : 0 < (xs.length : Int) := by omega
  clear hdx hdy hnx hny hxc hyc hl hlm hx0 hbuf hk0
  generalize hm : xs.length = m at *
  generalize hn : ys.length = n at *
  have HML := Aside0.mk (And.intro hm hn)
  clear hm hn
  go_enter Tryz.func85, Tryz.ntmps85
  go_wp2_with (simp only [hclr])
  go_loopg [6, 7, 17] n (fun gg v6 v7 v17 w' => ∃ (i : Int) (zs : List Int), v17 = .int .i64 i ∧ Prods xs ys n i zs ∧ Aside0 (i + (gg : Int) = n) ∧ Aside0 (Buf w' g (zs ++ cs.drop (m + n))) ∧ Aside0 (KeptB w w' g))
  case atStart => exact ⟨0, _, rfl, HS.out, ⟨by simp⟩, HB, HK⟩
  case round =>
    clear HS HB HK hclr
    obtain ⟨i, zs, rfl, HI, HG, HB, HK⟩ := hrel
    obtain ⟨i0, i1, hzl⟩ := HI.bound
    by_cases hi : i < (n : Int)
    · have hyr := W64.dig_rd HDY.out i
      have hcy : wr.cell? ⟨gy, i.toNat, none⟩ = some (.int .u64 (rd ys i)) := by
        have hin : ((i.toNat : Nat) : Int) = i := by omega
        have := KeptB.cell HK.out HY.out.1 (HY.out.2 i.toNat (by omega))
        rwa [hin] at this
      have hnl : ys.length = n := HML.out.2
      by_cases hd0 : rd ys i = 0
      · rw [hd0] at hcy
        subst hnl
        have HST := Aside0.mk (HI.skip hi hd0)
        clear HI hd0 hyr
        go_wp2
        go_roundg (gk - 1)
        case measure => have := HG.out; omega
        case rel => exact ⟨i + 1, zs, rfl, HST.out, ⟨by have := HG.out; omega⟩, HB, HK⟩
      · have hd1 : (rd ys i == 0) = false := beq_eq_false_iff_ne.mpr hd0
        subst hnl
        obtain ⟨pre, mid, rfl, hpl, hml, hmd, hstep⟩ := HI.parts hi
        have HW : Word (rd ys i) := ⟨hyr.1, hyr.2⟩
        have hzb := HB.out
        rw [List.append_assoc, List.append_assoc] at hzb
        have hmm : xs.length = m := HML.out.1
        have HC := Aside0.mk (fun (w1 : World) (k : KeptB wr w1 g) (hzb : Buf w1 g (pre ++ (mid ++ (List.replicate (ys.length - i.toNat) 0 ++ cs.drop (m + ys.length))))) => addMulVVWW_n g gx i.toNat (cs.length - i.toNat) (cs.length - i.toNat) cx pre mid _ xs (rd ys i) w1 hzb hpl (by rw [hml]) (by rw [hml]; have := HCL.out; omega) hmd HDX.out HW HX.out.1 (fun j hj => KeptB.cell (HK.out.then k) HX.out.1 (HX.out.2 j (by omega))))
        rw [hml, hmm] at HC
        rw [hmm] at hstep
        have HPL := Aside0.mk hpl
        have HML2 := Aside0.mk hml
        have HSTP := Aside0.mk hstep
        clear HI hyr hd0 hmd HW hstep hml hmm hpl
        generalize rd ys i = y at *
        have KD := Aside0.mk (KeptB.drew (KeptB.refl wr g))
        have HZD := Aside0.mk hzb.drew
        clear hzb
        have HNI := Aside0.mk (show 0 < ys.length - i.toNat by omega)
        have c1 : 0 ≤ i + (m : Int) ∧ i + (m : Int) ≤ (cs.length : Int) := by omega
        have c2 : i ≤ max (i + (m : Int)) 0 := by omega
        have c3 : ¬ (cs.length = i.toNat) := by omega
        have c4 : (i + (m : Int)).toNat - i.toNat = m := by omega
        have c5 : 0 ≤ (m : Int) + i := by omega
        have c6 : ((m : Int) + i).toNat = m + i.toNat := by omega
        have wa : wrap64 ((m : Int) + i) = (m : Int) + i := by unfold wrap64; omega
        have wb : wrap64 (i + (m : Int)) = i + (m : Int) := by unfold wrap64; omega
        go_wp2_with fail
        refine start_ (n := 24) (S := fun w' => True) (ds := [23]) #[false, false, false, false, false, false, false, false, false, false, false, false, false, false, false, false, false, false, false, false, false, false, false, false] (by kernel_rfl) rfl rfl (trivial) (fun hHeld => ?_)
        refine pure_ (i := 0) (N := some 24) (v := ?_) (a' := ?_) #[true, false, false, false, false, false, false, false, false, false, false, false, false, false, false, false, false, false, false, false, false, false, false, false] rfl rfl (by kernel_rfl) (fun _ _ _ h => h) (Or.inl ⟨by rfl, ?_⟩) ?_ ?_
        rotate_left
        · intro w'
          go_simp
          with_reducible rfl
        rotate_left
        · simp only [Act.put, List.setIfInBounds_toArray, List.set_cons_zero, List.set_cons_succ, i64_w, i32_w]
          rfl
        refine pure_ (i := 1) (N := some 25) (v := ?_) (a' := ?_) #[true, true, false, false, false, false, false, false, false, false, false, false, false, false, false, false, false, false, false, false, false, false, false, false] rfl rfl (by kernel_rfl) (fun _ _ _ h => h) (Or.inl ⟨by rfl, ?_⟩) ?_ ?_
        rotate_left
        · intro w'
          go_simp
          with_reducible rfl
        rotate_left
        · simp only [Act.put, List.setIfInBounds_toArray, List.set_cons_zero, List.set_cons_succ, i64_w, i32_w]
          rfl
        refine pure_ (i := 2) (N := some 26) (v := ?_) (a' := ?_) #[true, true, true, false, false, false, false, false, false, false, false, false, false, false, false, false, false, false, false, false, false, false, false, false] rfl rfl (by kernel_rfl) (fun _ _ _ h => h) (Or.inl ⟨by rfl, ?_⟩) ?_ ?_
        rotate_left
        · intro w'
          go_simp
          with_reducible rfl
        rotate_left
        · simp only [Act.put, List.setIfInBounds_toArray, List.set_cons_zero, List.set_cons_succ, i64_w, i32_w]
          rfl
        refine pure_ (i := 3) (N := some 27) (v := ?_) (a' := ?_) #[true, true, true, true, false, false, false, false, false, false, false, false, false, false, false, false, false, false, false, false, false, false, false, false] rfl rfl (by kernel_rfl) (fun _ _ _ h => h) (Or.inl ⟨by rfl, ?_⟩) ?_ ?_
        rotate_left
        · intro w'
          go_simp
          with_reducible rfl
        rotate_left
        · simp only [Act.put, List.setIfInBounds_toArray, List.set_cons_zero, List.set_cons_succ, i64_w, i32_w]
          rfl
        refine pure_ (i := 4) (N := some 28) (v := ?_) (a' := ?_) #[true, true, true, true, true, false, false, false, false, false, false, false, false, false, false, false, false, false, false, false, false, false, false, false] rfl rfl (by kernel_rfl) (fun _ _ _ h => h) (Or.inl ⟨by rfl, ?_⟩) ?_ ?_
        rotate_left
        · intro w'
          go_simp
          try simp only [wa]
          with_reducible rfl
        rotate_left
        · simp only [Act.put, List.setIfInBounds_toArray, List.set_cons_zero, List.set_cons_succ, i64_w, i32_w]
          rfl
        refine pure_ (i := 5) (N := some 29) (v := ?_) (a' := ?_) #[true, true, true, true, true, true, false, false, false, false, false, false, false, false, false, false, false, false, false, false, false, false, false, false] rfl rfl (by kernel_rfl) (fun _ _ _ h => h) (Or.inl ⟨by rfl, ?_⟩) ?_ ?_
        rotate_left
        · intro w'
          go_simp
          with_reducible rfl
        rotate_left
        · simp only [Act.put, List.setIfInBounds_toArray, List.set_cons_zero, List.set_cons_succ, i64_w, i32_w]
          rfl
        refine pure_ (i := 6) (N := some 30) (v := ?_) (a' := ?_) #[true, true, true, true, true, true, true, false, false, false, false, false, false, false, false, false, false, false, false, false, false, false, false, false] rfl rfl (by kernel_rfl) (fun _ _ _ h => h) (Or.inl ⟨by rfl, ?_⟩) ?_ ?_
        rotate_left
        · intro w'
          go_simp
          with_reducible rfl
        rotate_left
        · simp only [Act.put, List.setIfInBounds_toArray, List.set_cons_zero, List.set_cons_succ, i64_w, i32_w]
          rfl
        refine pure_ (i := 7) (N := some 31) (v := ?_) (a' := ?_) #[true, true, true, true, true, true, true, true, false, false, false, false, false, false, false, false, false, false, false, false, false, false, false, false] rfl rfl (by kernel_rfl) (fun _ _ _ h => h) (Or.inl ⟨by rfl, ?_⟩) ?_ ?_
        rotate_left
        · intro w'
          go_simp
          with_reducible rfl
        rotate_left
        · simp only [Act.put, List.setIfInBounds_toArray, List.set_cons_zero, List.set_cons_succ, i64_w, i32_w]
          rfl
        refine pure_ (i := 8) (N := some 32) (v := ?_) (a' := ?_) #[true, true, true, true, true, true, true, true, true, false, false, false, false, false, false, false, false, false, false, false, false, false, false, false] rfl rfl (by kernel_rfl) (fun _ _ _ h => h) (Or.inl ⟨by rfl, ?_⟩) ?_ ?_
        rotate_left
        · intro w'
          go_simp
          with_reducible rfl
        rotate_left
        · simp only [Act.put, List.setIfInBounds_toArray, List.set_cons_zero, List.set_cons_succ, i64_w, i32_w]
          rfl
        refine pure_ (i := 9) (N := some 33) (v := ?_) (a' := ?_) #[true, true, true, true, true, true, true, true, true, true, false, false, false, false, false, false, false, false, false, false, false, false, false, false] rfl rfl (by kernel_rfl) (fun _ _ _ h => h) (Or.inl ⟨by rfl, ?_⟩) ?_ ?_
        rotate_left
        · intro w'
          go_simp
          with_reducible rfl
        rotate_left
        · simp only [Act.put, List.setIfInBounds_toArray, List.set_cons_zero, List.set_cons_succ, i64_w, i32_w]
          rfl
        refine pure_ (i := 10) (N := some 34) (v := ?_) (a' := ?_) #[true, true, true, true, true, true, true, true, true, true, true, false, false, false, false, false, false, false, false, false, false, false, false, false] rfl rfl (by kernel_rfl) (fun _ _ _ h => h) (Or.inl ⟨by rfl, ?_⟩) ?_ ?_
        rotate_left
        · intro w'
          go_simp
          try simp only [wb]
          with_reducible rfl
        rotate_left
        · simp only [Act.put, List.setIfInBounds_toArray, List.set_cons_zero, List.set_cons_succ, i64_w, i32_w]
          rfl
        refine pure_ (i := 11) (N := some 35) (v := ?_) (a' := ?_) #[true, true, true, true, true, true, true, true, true, true, true, true, false, false, false, false, false, false, false, false, false, false, false, false] rfl rfl (by kernel_rfl) (fun _ _ _ h => h) (Or.inl ⟨by rfl, ?_⟩) ?_ ?_
        rotate_left
        · intro w'
          go_simp
          try simp only [if_pos c1, if_pos c2, if_neg c3, c4]
          with_reducible rfl
        rotate_left
        · simp only [Act.put, List.setIfInBounds_toArray, List.set_cons_zero, List.set_cons_succ, i64_w, i32_w]
          rfl
        refine pure_ (i := 12) (N := some 36) (v := ?_) (a' := ?_) #[true, true, true, true, true, true, true, true, true, true, true, true, true, false, false, false, false, false, false, false, false, false, false, false] rfl rfl (by kernel_rfl) (fun _ _ _ h => h) (Or.inl ⟨by rfl, ?_⟩) ?_ ?_
        rotate_left
        · intro w'
          go_simp
          with_reducible rfl
        rotate_left
        · simp only [Act.put, List.setIfInBounds_toArray, List.set_cons_zero, List.set_cons_succ, i64_w, i32_w]
          rfl
        refine pure_ (i := 13) (N := some 37) (v := ?_) (a' := ?_) #[true, true, true, true, true, true, true, true, true, true, true, true, true, true, false, false, false, false, false, false, false, false, false, false] rfl rfl (by kernel_rfl) (fun _ _ _ h => h) (Or.inl ⟨by rfl, ?_⟩) ?_ ?_
        rotate_left
        · intro w'
          go_simp
          with_reducible rfl
        rotate_left
        · simp only [Act.put, List.setIfInBounds_toArray, List.set_cons_zero, List.set_cons_succ, i64_w, i32_w]
          rfl
        refine pure_ (i := 14) (N := some 38) (v := ?_) (a' := ?_) #[true, true, true, true, true, true, true, true, true, true, true, true, true, true, true, false, false, false, false, false, false, false, false, false] rfl rfl (by kernel_rfl) (fun _ _ _ h => h) (Or.inl ⟨by rfl, ?_⟩) ?_ ?_
        rotate_left
        · intro w'
          go_simp
          with_reducible rfl
        rotate_left
        · simp only [Act.put, List.setIfInBounds_toArray, List.set_cons_zero, List.set_cons_succ, i64_w, i32_w]
          rfl
        refine pure_ (i := 15) (N := some 39) (v := ?_) (a' := ?_) #[true, true, true, true, true, true, true, true, true, true, true, true, true, true, true, true, false, false, false, false, false, false, false, false] rfl rfl (by kernel_rfl) (fun _ _ _ h => h) (Or.inl ⟨by rfl, ?_⟩) ?_ ?_
        rotate_left
        · intro w'
          go_simp
          with_reducible rfl
        rotate_left
        · simp only [Act.put, List.setIfInBounds_toArray, List.set_cons_zero, List.set_cons_succ, i64_w, i32_w]
          rfl
        refine pure_ (i := 16) (N := some 40) (v := ?_) (a' := ?_) #[true, true, true, true, true, true, true, true, true, true, true, true, true, true, true, true, true, false, false, false, false, false, false, false] rfl rfl (by kernel_rfl) (fun _ _ _ h => h) (Or.inl ⟨by rfl, ?_⟩) ?_ ?_
        rotate_left
        · intro w'
          go_simp
          with_reducible rfl
        rotate_left
        · simp only [Act.put, List.setIfInBounds_toArray, List.set_cons_zero, List.set_cons_succ, i64_w, i32_w]
          rfl
        refine pure_ (i := 17) (N := some 41) (v := ?_) (a' := ?_) #[true, true, true, true, true, true, true, true, true, true, true, true, true, true, true, true, true, true, false, false, false, false, false, false] rfl rfl (by kernel_rfl) (fun _ _ _ h => h) (Or.inl ⟨by rfl, ?_⟩) ?_ ?_
        rotate_left
        · intro w'
          go_simp
          try simp only [wb]
          with_reducible rfl
        rotate_left
        · simp only [Act.put, List.setIfInBounds_toArray, List.set_cons_zero, List.set_cons_succ, i64_w, i32_w]
          rfl
        refine pure_ (i := 18) (N := some 42) (v := ?_) (a' := ?_) #[true, true, true, true, true, true, true, true, true, true, true, true, true, true, true, true, true, true, true, false, false, false, false, false] rfl rfl (by kernel_rfl) (fun _ _ _ h => h) (Or.inl ⟨by rfl, ?_⟩) ?_ ?_
        rotate_left
        · intro w'
          go_simp
          try simp only [if_pos c1, if_pos c2, if_neg c3, c4]
          with_reducible rfl
        rotate_left
        · simp only [Act.put, List.setIfInBounds_toArray, List.set_cons_zero, List.set_cons_succ, i64_w, i32_w]
          rfl
        refine pure_ (i := 19) (N := some 43) (v := ?_) (a' := ?_) #[true, true, true, true, true, true, true, true, true, true, true, true, true, true, true, true, true, true, true, true, false, false, false, false] rfl rfl (by kernel_rfl) (fun _ _ _ h => h) (Or.inl ⟨by rfl, ?_⟩) ?_ ?_
        rotate_left
        · intro w'
          go_simp
          with_reducible rfl
        rotate_left
        · simp only [Act.put, List.setIfInBounds_toArray, List.set_cons_zero, List.set_cons_succ, i64_w, i32_w]
          rfl
        refine pure_ (i := 20) (N := some 44) (v := ?_) (a' := ?_) #[true, true, true, true, true, true, true, true, true, true, true, true, true, true, true, true, true, true, true, true, true, false, false, false] rfl rfl (by kernel_rfl) (fun _ _ _ h => h) (Or.inl ⟨by rfl, ?_⟩) ?_ ?_
        rotate_left
        · intro w'
          go_simp
          with_reducible rfl
        rotate_left
        · simp only [Act.put, List.setIfInBounds_toArray, List.set_cons_zero, List.set_cons_succ, i64_w, i32_w]
          rfl
        refine one_ (i := 21) (N := some 45) #[true, true, true, true, true, true, true, true, true, true, true, true, true, true, true, true, true, true, true, true, true, true, false, false] rfl rfl (by kernel_rfl) (by decide) (fun K hK => ?_)
        refine goes_ Tryz.func108 (by kernel_rfl) rfl #[.slice (some ⟨g, i.toNat, none⟩) m (cs.length - i.toNat), .slice (some ⟨g, i.toNat, none⟩) m (cs.length - i.toNat), .slice (some ⟨gx, 0, none⟩) m cx, .int .u64 y, .int .u64 0] (by rfl) rfl rfl (by (try simp only [List.map_toArray, List.map_cons, List.map_nil]); first | done | rfl) ?_
        refine (HC.out _ KD.out HZD.out).mono ?_
        rintro e w1 ⟨out, c, rfl, h⟩
        refine ⟨_, rfl, ?_⟩
        have HH := Aside0.mk h
        have hc0 := h.2.2.2.2.1.cell (j := m + i.toNat) (lt_mid HPL.out h.2.1 HNI.out)
        have hf0 := h.2.2.2.2.1.frozen (m + i.toNat)
        clear h
        refine hK.out _ _ (trivial) (fun hHeld => ?_)
        clear hK K
        refine norm_ (a' := ?_) ?_ ?_
        rotate_left
        · show Act.put _ (some 45) _ = _
          simp only [Act.put, List.setIfInBounds_toArray, List.set_cons_zero, List.set_cons_succ, i64_w, i32_w]
          rfl
        refine pure_ (i := 22) (N := some 46) (v := ?_) (a' := ?_) #[true, true, true, true, true, true, true, true, true, true, true, true, true, true, true, true, true, true, true, true, true, true, true, false] rfl rfl (by kernel_rfl) (fun _ _ _ h => h) (Or.inl ⟨by rfl, ?_⟩) ?_ ?_
        rotate_left
        · intro w'
          go_simp
          try simp only [if_pos c5, c6]
          with_reducible rfl
        rotate_left
        · simp only [Act.put, List.setIfInBounds_toArray, List.set_cons_zero, List.set_cons_succ, i64_w, i32_w]
          rfl
        refine last_ (i := 23) (N := none) #[true, true, true, true, true, true, true, true, true, true, true, true, true, true, true, true, true, true, true, true, true, true, true, true] rfl rfl (by kernel_rfl) (by decide) (fun K hK => ?_)
        refine skip_ (w1 := ?_) (by rfl) rfl ?_ ?_
        rotate_left
        · go_simp
          rfl
        refine hK.out _ _ ?_
        clear hK K
        refine done_ (by kernel_rfl) ?_
        go_wp2
        go_roundg (gk - 1)
        case measure => have := HG.out; omega
        case rel =>
          obtain ⟨hw, ho, hd, hv, hb, hk⟩ := HH.out
          refine ⟨i + 1, _, rfl, HSTP.out out c ho hd hw hv, ⟨by have := HG.out; omega⟩, ⟨?_⟩, ⟨((HK.out.drew.then hk).set _)⟩⟩
          have hb2 := hb.put (m + i.toNat) c
          have hle : m + i.toNat < (pre ++ (out ++ List.replicate (ys.length - i.toNat) 0)).length := by
            have := HPL.out; have := HNI.out; simp only [List.length_append, List.length_replicate]; omega
          rw [← List.append_assoc out, ← List.append_assoc pre, List.set_append_left _ _ hle] at hb2
          exact hb2
    · have hnl : ys.length = n := HML.out.2
      subst hnl
      obtain ⟨e1, e2, e3⟩ := HI.done hi
      rw [HML.out.1] at e1
      have HE := Aside0.mk (And.intro e1 (And.intro e2 e3))
      clear HI e1 e2 e3
      go_wp2
      go_end0
      obtain ⟨e1, e2, e3⟩ := HE.out
      exact ⟨rfl, zs, e1, e2, e3, HB.out, HK.out⟩
end Go.Proofs.YteohmbannpbokaaGreatDoor.WordWalk

set_option linter.unusedVariables false
set_option linter.unusedSimpArgs false
namespace Go.Proofs.YteohmbannpbokaaGreatDoor.WordWalk
open Go.RowKit Go.Proofs.YteohmbannpbokaaGreatDoorW.PrintWords Go.Proofs.YteohmbannpbokaaGreatDoorW.PrintLast Go.Proofs.YteohmbannpbokaaGreatDoorW.PrintMore Go.Proofs.YteohmbannpbokaaGreatDoor.SpecWalk Go.Proofs.YteohmbannpbokaaGreatDoor.BigWalk

theorem run_grow0 (n : Nat) (h0 : 0 < n) (hn : n ≤ 100000) (w : World) (ty : TypeId) : (Builtin.append_ #[56, 3] ty #[.slice none 0 0, .int .i64 (n : Int)]).run Tryz.prog w =
    .ok (.slice (some ⟨w.heap.size, 0, none⟩) n (grownCap w n 0 89)) (w.drew.alloc (.cells (nums .u64 (List.replicate (grownCap w n 0 89) 0)).toArray 89)) := by
  obtain ⟨i0, hi, hzz⟩ := Option.map_eq_some_iff.1 infoW
  simp only [Prod.mk.injEq] at hzz
  obtain ⟨hz0, hz1, hz2⟩ := hzz
  have hge : n ≤ grownCap w n 0 89 := grownCap_ge w _ _ _
  have h := Lib.run_append_grow_zeros (P := Tryz.prog) w 56 3 ty 89 i0 (.int .u64 0) .i64 .i64 Tryz.underlying56 Tryz.underlying3 hi hz0 none 0 0 [] (run_firstCells_none w.drew i0.size 0 0 0) n h0 (by rw [hz1]; decide) (by omega) (by omega) (by rw [hz2]; omega)
    (growslice_fits (by omega) (by rw [hz2]; omega))
  rw [Nat.zero_add] at h
  rw [h]
  have e : ∀ m, Builtin.zeroCells (Value.int .u64 0).cells m = (nums .u64 (List.replicate m 0)).toArray := by
    intro m
    apply Array.ext
    · simp [Builtin.zeroCells, nums, Value.cells]
    · intro i h1 h2
      simp [Builtin.zeroCells, nums, Value.cells, Nat.mod_one]
  have e2 : ([] : List Value).toArray ++ Builtin.zeroCells (Value.int .u64 0).cells n ++ Builtin.zeroCells (Value.int .u64 0).cells (grownCap w n 0 89 - n) = (nums .u64 (List.replicate (grownCap w n 0 89) 0)).toArray := by
    rw [e, e]
    have : grownCap w n 0 89 = n + (grownCap w n 0 89 - n) := by omega
    generalize hk : grownCap w n 0 89 - n = k at *
    rw [this]
    simp [nums, List.replicate_append_replicate]
  rw [e2]
set_option maxHeartbeats 1000000 in
theorem grow_nil (n : Nat) (w : World) (h0 : 0 < n) (hn : n ≤ 100000) : Calls Tryz.prog 131 #[.slice none 0 0, .int .i64 n] w fun e w' => ∃ G, e = .returned (.slice (some ⟨w.heap.size, 0, none⟩) 0 G) ∧ n ≤ G ∧ (G : Int) ≤ 9223372036854775807 ∧ Buf w' w.heap.size (List.replicate G 0) ∧ Below w.heap.size w w' ∧ w'.heap.size = w.heap.size + 1 := by
  have hap := fun ty => run_grow0 n h0 hn w ty
  have hge : n ≤ grownCap w n 0 89 := grownCap_ge w _ _ _
  have hle := grownCap_le_maxLen w n 0 89 (by unfold maxLen; omega)
  unfold maxLen at hle
  have HB := Aside0.mk (Buf.lit w.drew (List.replicate (grownCap w n 0 89) 0) rfl)
  have HL := Aside0.mk (((Below.refl w.heap.size w).drew).alloc (Nat.le_refl _) (.cells (nums .u64 (List.replicate (grownCap w n 0 89) 0)).toArray 89))
  have HS : Aside0 ((w.drew.alloc (.cells (nums .u64 (List.replicate (grownCap w n 0 89) 0)).toArray 89)).heap.size = w.heap.size + 1) := ⟨by simp⟩
  generalize w.drew.alloc (.cells (nums .u64 (List.replicate (grownCap w n 0 89) 0)).toArray 89) = W1 at *
  generalize grownCap w n 0 89 = G at *
  have h1 : ¬ ((n : Int) < 0) := by omega
  have h4 : 0 < (n : Int) := by omega
  have h5 : (n : Int) ≤ 100000 := by omega
  have hg1 : (G : Int) ≤ 9223372036854775807 := by omega
  have hg2 : (n : Int) ≤ (G : Int) := by omega
  clear hle
  go_enter Tryz.func131, Tryz.ntmps131
  go_wp2_with (at_builtin; refine Lib.wpList_append_run _ rfl _ _ _ _ rfl _ _ rfl rfl _ _ (hap _) ?_)
  go_ret
  exact ⟨G, rfl, hge, hg1, HB.out, HL.out, HS.out⟩
end Go.Proofs.YteohmbannpbokaaGreatDoor.WordWalk

set_option linter.unusedVariables false
set_option linter.unusedSimpArgs false
namespace Go.Proofs.YteohmbannpbokaaGreatDoor.WordWalk
open Go.RowKit Go.Proofs.YteohmbannpbokaaGreatDoorW.PrintWords Go.Proofs.YteohmbannpbokaaGreatDoorW.PrintLast Go.Proofs.YteohmbannpbokaaGreatDoorW.PrintMore Go.Proofs.YteohmbannpbokaaGreatDoor.SpecWalk Go.Proofs.YteohmbannpbokaaGreatDoor.BigWalk

theorem _root_.Go.Proofs.YteohmbannpbokaaGreatDoor.SpecWalk.Box.mk1 {w : World} {g : Nat} {x : Value} (h0 : w.cell? ⟨g, 0, none⟩ = some x) (k0 : w.frozen? ⟨g, 0, none⟩ = false) : Box w g [x] := by
  refine ⟨fun j v hj => ?_⟩
  match j, hj with
  | 0, hj => injection hj with hj; subst hj; exact ⟨h0, k0⟩
theorem _root_.Go.Proofs.YteohmbannpbokaaGreatDoor.SpecWalk.Box.put1c {w : World} {g : Nat} {x : Value} (h : Box w g [x]) (a : Value) : Box (w.setCell ⟨g, 0, none⟩ a) g [a] := by
  have h0 := h.c0
  have k0 := h.f0
  refine Box.mk1 ?_ ?_ <;> simp [go_sem, h0, k0]
theorem _root_.Go.Proofs.YteohmbannpbokaaGreatDoor.SpecWalk.Box.new1 (w : World) (g : Nat) (x : Value) (t : TypeId) (hg : w.heap.size = g) : Box (w.alloc (.cells #[x] t)) g [x] := by
  subst hg
  exact Box.mk1 (by simp) (by simp)
theorem _root_.Go.Proofs.YteohmbannpbokaaGreatDoor.BigWalk.KeptB.set_new {w w' : World} {g g2 j : Nat} (h : KeptB w w' g) (hg : w.heap.size ≤ g2) (u : Value) : KeptB w (w'.setCell ⟨g2, j, none⟩ u) g :=
  ⟨h.os, h.tape, h.output, by simpa using h.size, fun k hk hne => (Below.heap_setCell w' ⟨g2, j, none⟩ u k (by show k ≠ g2; omega)).trans (h.block k hk hne)⟩
set_option maxHeartbeats 1000000 in
theorem isave_n (g l c : Nat) (A : Option Addr) (w : World) (h : Box w g [.slice A l c]) : Calls Tryz.prog 115 #[.pointer (some ⟨g, 0, none⟩)] w fun e w' => e = .returned (.int .i64 l) ∧ w' = w := by
  have h0 := h.c0
  go_enter Tryz.func115, Tryz.ntmps115
  go_wp2
  go_ret
  exact ⟨rfl, rfl⟩
set_option maxHeartbeats 1000000 in
theorem save_nil (g : Nat) (w : World) (h : Box w g [.pointer none]) : Calls Tryz.prog 93 #[.pointer (some ⟨g, 0, none⟩)] w fun e w' => e = .returned (.int .i64 0) ∧ w' = w := by
  have h0 := h.c0
  go_enter Tryz.func93, Tryz.ntmps93
  go_wp2
  go_ret
  exact ⟨rfl, rfl⟩
set_option maxHeartbeats 1000000 in
theorem irest_n (g l c gt : Nat) (w : World) (h : Box w g [.slice (some ⟨gt, 0, none⟩) l c]) (hc : (c : Int) ≤ 9223372036854775807) : Calls Tryz.prog 114 #[.pointer (some ⟨g, 0, none⟩), .int .i64 0] w fun e w' => e = .returned (.tuple #[]) ∧ w' = w.setCell ⟨g, 0, none⟩ (.slice (some ⟨gt, 0, none⟩) 0 c) := by
  have h0 := h.c0
  have k0 := h.f0
  go_enter Tryz.func114, Tryz.ntmps114
  go_wp2
  go_end0
  exact ⟨rfl, rfl⟩
set_option maxHeartbeats 1000000 in
theorem ifree_n (g l c gt : Nat) (w : World) (h : Box w g [.slice (some ⟨gt, 0, none⟩) l c]) (hc : (c : Int) ≤ 9223372036854775807) : Calls Tryz.prog 109 #[.pointer (some ⟨g, 0, none⟩)] w fun e w' => e = .returned (.tuple #[]) ∧ w' = w.setCell ⟨g, 0, none⟩ (.slice (some ⟨gt, 0, none⟩) 0 c) := by
  have h0 := h.c0
  have k0 := h.f0
  go_enter Tryz.func109, Tryz.ntmps109
  go_wp2
  go_end0
  exact ⟨rfl, rfl⟩
set_option maxHeartbeats 1000000 in
theorem rest_n (gs g l c gt : Nat) (w : World) (hs : Box w gs [.pointer (some ⟨g, 0, none⟩)]) (h : Box w g [.slice (some ⟨gt, 0, none⟩) l c]) (hc : (c : Int) ≤ 9223372036854775807) : Calls Tryz.prog 92 #[.pointer (some ⟨gs, 0, none⟩), .int .i64 0] w fun e w' => e = .returned (.tuple #[]) ∧ w' = w.setCell ⟨g, 0, none⟩ (.slice (some ⟨gt, 0, none⟩) 0 c) := by
  have h0 := hs.c0
  have HI := Aside0.mk (irest_n g l c gt w h hc)
  clear h hc
  go_enter Tryz.func92, Tryz.ntmps92
  go_wp2_with (go_at_call 114; refine HI.out.mono ?_; rintro e w1 ⟨rfl, rfl⟩)
  go_end0
  exact ⟨rfl, rfl⟩
set_option maxHeartbeats 1000000 in
theorem free_nil (g : Nat) (w : World) (h : Box w g [.pointer none]) : Calls Tryz.prog 87 #[.pointer (some ⟨g, 0, none⟩)] w fun e w' => e = .returned (.tuple #[]) ∧ w' = w := by
  have h0 := h.c0
  go_enter Tryz.func87, Tryz.ntmps87
  go_wp2
  go_end0
  exact ⟨rfl, rfl⟩
set_option maxHeartbeats 1000000 in
theorem free_n (gs g l c gt : Nat) (w : World) (hs : Box w gs [.pointer (some ⟨g, 0, none⟩)]) (h : Box w g [.slice (some ⟨gt, 0, none⟩) l c]) (hc : (c : Int) ≤ 9223372036854775807) : Calls Tryz.prog 87 #[.pointer (some ⟨gs, 0, none⟩)] w fun e w' => e = .returned (.tuple #[]) ∧ w' = w.setCell ⟨g, 0, none⟩ (.slice (some ⟨gt, 0, none⟩) 0 c) := by
  have h0 := hs.c0
  have HI := Aside0.mk (ifree_n g l c gt w h hc)
  clear h hc
  go_enter Tryz.func87, Tryz.ntmps87
  go_wp2_with (go_at_call 109; refine HI.out.mono ?_; rintro e w1 ⟨rfl, rfl⟩)
  go_end0
  exact ⟨rfl, rfl⟩
theorem zero_rd (G : Nat) : rd (List.replicate G 0) ((0 : Nat) : Int) = 0 := by
  cases G <;> simp [rd, List.replicate_succ]
set_option maxHeartbeats 2000000 in
theorem inat_n (n nr gi : Nat) (w : World) (hB : Box w gi [.slice none 0 0]) (hnr : bits .andNot .i64 ((n : Int) + 3) 3 = nr) (h0 : 0 < n) (h1 : n ≤ nr) (h2 : nr ≤ 100000) :
    Calls Tryz.prog 117 #[.pointer (some ⟨gi, 0, none⟩), .int .i64 n] w fun e w' => ∃ gt G, e = .returned (.slice (some ⟨gt, 0, none⟩) n n) ∧ w.heap.size ≤ gt ∧ nr ≤ G ∧ (G : Int) ≤ 9223372036854775807 ∧ Box w' gi [.slice (some ⟨gt, 0, none⟩) nr G] ∧ Buf w' gt ((List.replicate G 0).set 0 1043915) ∧ KeptB w w' gi := by
  have c0 := hB.c0
  have k0 := hB.f0
  have HG := Aside0.mk (grow_nil nr w (by omega) h2)
  have HBX := Aside0.mk hB
  have n0 : 0 < (n : Int) := by omega
  have n1 : (n : Int) ≤ (nr : Int) := by omega
  have n2 : (nr : Int) ≤ 100000 := by omega
  clear hB h0 h1 h2
  go_enter Tryz.func117, Tryz.ntmps117
  go_wp2_with (go_at_call 131; refine HG.out.mono ?_; rintro e w1 ⟨G, rfl, g1, g2, g3, g4, g5⟩; have hlt : gi < w.heap.size := World.block_lt_of_cell? w _ c0; have hne : gi ≠ w.heap.size := (by omega); have b1 := HBX.out.below g4; have c1 := b1.c0; have k1 := b1.f0; have HB1 := Aside0.mk b1; have HB3 := Aside0.mk g3; have HB4 := Aside0.mk g4; have g6 : (nr : Int) ≤ (G : Int) := (by omega); have hne2 : w.heap.size ≠ gi := (by omega); have ct := g3.cell (j := 0) (by simp; omega); have kt := g3.frozen 0; rw [zero_rd] at ct; clear g3 g4 b1)
  go_ret
  exact ⟨w.heap.size, G, rfl, Nat.le_refl _, g1, g2, ((HB1.out.put1c _).put1c _).far (p := ⟨w.heap.size, 0, none⟩) hne _, ((HB3.out.far (p := ⟨gi, 0, none⟩) hne2 _).far (p := ⟨gi, 0, none⟩) hne2 _).put 0 _, (((KeptB.of_below HB4.out).set _).set _).set_new (Nat.le_refl _) _⟩
set_option maxHeartbeats 2000000 in
/-- The first room that is taken of a stack. -/
theorem snat_new (n nr gs : Nat) (w : World) (hB : Box w gs [.pointer none]) (hnr : bits .andNot .i64 ((n : Int) + 3) 3 = nr) (h0 : 4 < n) (h1 : n ≤ nr) (h2 : nr ≤ 100000) :
    Calls Tryz.prog 94 #[.pointer (some ⟨gs, 0, none⟩), .int .i64 n] w fun e w' => ∃ gi gt G, e = .returned (.slice (some ⟨gt, 0, none⟩) n n) ∧ w.heap.size ≤ gi ∧ gi < gt ∧ nr ≤ G ∧ (G : Int) ≤ 9223372036854775807 ∧ Box w' gs [.pointer (some ⟨gi, 0, none⟩)] ∧ Box w' gi [.slice (some ⟨gt, 0, none⟩) nr G] ∧ Buf w' gt ((List.replicate G 0).set 0 1043915) ∧ KeptB w w' gs := by
  have c0 := hB.c0
  have k0 := hB.f0
  have hlt : gs < w.heap.size := World.block_lt_of_cell? w _ c0
  have hne : gs ≠ w.heap.size := by omega
  have hne2 : w.heap.size ≠ gs := by omega
  have HBX := Aside0.mk hB
  have n0 : 4 < (n : Int) := by omega
  have hset := Box.new1 (w.setCell ⟨gs, 0, none⟩ (.pointer (some ⟨w.heap.size, 0, none⟩))) w.heap.size (.slice none 0 0) 147 (by simp)
  have HI := Aside0.mk (inat_n n nr w.heap.size _ hset hnr (by omega) h1 h2)
  have HN := Aside0.mk h2
  clear hB h0 h1 h2 hset hnr
  go_enter Tryz.func94, Tryz.ntmps94
  go_wp2_with (go_at_call 117; refine HI.out.mono ?_; rintro e w1 ⟨gt, G, rfl, g1, g2, g3, g4, g5, g6⟩)
  go_ret
  have hsz : ((w.setCell ⟨gs, 0, none⟩ (.pointer (some ⟨w.heap.size, 0, none⟩))).alloc (.cells #[.slice none 0 0] 147)).heap.size = w.heap.size + 1 := by simp
  rw [hsz] at g1
  have hk : KeptB w ((w.setCell ⟨gs, 0, none⟩ (.pointer (some ⟨w.heap.size, 0, none⟩))).alloc (.cells #[.slice none 0 0] 147)) gs := ((KeptB.refl w gs).set _).then (KeptB.of_below ((Below.refl _ _).alloc (Nat.le_refl _) _))
  have hb : Box ((w.setCell ⟨gs, 0, none⟩ (.pointer (some ⟨w.heap.size, 0, none⟩))).alloc (.cells #[.slice none 0 0] 147)) gs [.pointer (some ⟨w.heap.size, 0, none⟩)] := (HBX.out.put1c _).alloc _
  refine ⟨w.heap.size, gt, G, rfl, Nat.le_refl _, by omega, g2, g3, Box.kept hb g6 (by omega), g4, g5, ?_⟩
  exact ⟨g6.os.trans hk.os, g6.tape.trans hk.tape, g6.output.trans hk.output, Nat.le_trans hk.size g6.size, fun k hk1 hk2 => (g6.block k (by rw [hsz]; omega) (by omega)).trans (hk.block k hk1 hk2)⟩
end Go.Proofs.YteohmbannpbokaaGreatDoor.WordWalk
