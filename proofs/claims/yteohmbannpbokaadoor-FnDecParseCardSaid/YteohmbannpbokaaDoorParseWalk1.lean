/-
  A whole number of a word; a text without the other minus sign.
-/
import Derived.Test.YteohmbannpbokaaDoorScan
set_option linter.unusedVariables false
set_option linter.unusedSimpArgs false
namespace Go.Proofs.YteohmbannpbokaaDoor.ParseWalk
open Go.RowKit Go.Proofs.YteohmbannpbokaaDoorW.PrintWords Go.Proofs.YteohmbannpbokaaDoorW.PrintLast Go.Proofs.YteohmbannpbokaaDoorW.PrintMore Go.Proofs.YteohmbannpbokaaDoor.SpecWalk Go.Proofs.YteohmbannpbokaaDoor.BigWalk Go.Proofs.YteohmbannpbokaaDoor.WordWalk Go.Proofs.YteohmbannpbokaaDoor.TextLaw Go.Proofs.YteohmbannpbokaaDoor.ScanWalk

/-- A word with a sign. -/
def sint (b : Bool) (N : Nat) : Int := if b then -(N : Int) else N
theorem newInt_big (b : Bool) (N : Nat) (w : World) (h0 : 0 < N) (h1 : N < 18446744073709551616) :
    Big ((w.alloc (.cells #[.int .u64 (N : Int)] 77)).alloc (.cells #[.bool b, .slice (some ⟨w.heap.size, 0, none⟩) 1 1] 64)) (fun k => w.heap.size ≤ k ∧ k ≠ w.heap.size + 1) (w.heap.size + 1) b N := by
  have hd : W64.digs N = [(N : Int)] := W64.digs_one (by omega) h1
  have hB : Buf (w.alloc (.cells #[.int .u64 (N : Int)] 77)) w.heap.size [(N : Int)] := Buf.lit w [(N : Int)] rfl
  have hv := Buf.V (e := 0) (base := 0) hB (by simp) (n := 1) (cap := 1) (by simp) (by simp)
  have hw : Wdv (w.alloc (.cells #[.int .u64 (N : Int)] 77)) (fun k => k = w.heap.size) (.slice (some ⟨w.heap.size, 0, none⟩) 1 1) N := ⟨by rw [hd]; exact hv⟩
  refine ⟨⟨_, Box.new2 _ _ _ _ _ (by simp), ?_⟩, Blk.new _ _ _ _ (by simp)⟩
  exact (hw.below ((Below.refl _ _).alloc (Nat.le_refl _) _)).mono (fun k hk => by omega)
theorem newInt_below (w : World) (c1 c2 : Array Value) {t1 t2 : TypeId} : Below w.heap.size w ((w.alloc (.cells c1 t1)).alloc (.cells c2 t2)) :=
  ((Below.refl _ _).alloc (Nat.le_refl _) _).alloc (by simp) _
set_option maxHeartbeats 1000000 in
theorem NewInt_n (b : Bool) (N : Nat) (w : World) (hb : sgn b N = b) (hN : N < 1000000000000000000) :
    Calls Tryd.prog 22 #[.int .i64 (sint b N)] w fun e w' => ∃ g, e = .returned (.pointer (some ⟨g, 0, none⟩)) ∧ w.heap.size ≤ g ∧ Big w' (fun k => w.heap.size ≤ k ∧ k ≠ g) g b N ∧ Below w.heap.size w w' := by
  by_cases h0 : N = 0
  · subst h0
    have hbf : b = false := by rw [← hb]; cases b <;> rfl
    subst hbf
    show Calls Tryd.prog 22 #[.int .i64 0] w _
    clear hb hN
    go_enter Tryd.func22, Tryd.ntmps22
    go_wp2
    go_ret
    exact ⟨_, rfl, Nat.le_refl _, ⟨⟨_, Box.new2 _ _ _ _ _ rfl, (Wdv.nil _).mono (fun k hk => hk.elim)⟩, Blk.new _ _ _ _ rfl⟩, (Below.refl _ _).alloc (Nat.le_refl _) _⟩
  · have HNP := Aside0.mk (Nat.pos_of_ne_zero h0)
    have hn1 : (N : Int) < 1000000000000000000 := by omega
    have hn0 : 0 < (N : Int) := by omega
    cases b
    · show Calls Tryd.prog 22 #[.int .i64 (N : Int)] w _
      have p0 : ((N : Int) == 0) = false := beq_eq_false_iff_ne.mpr (by omega)
      have p1 : ¬ ((N : Int) < 0) := by omega
      clear hb hN h0
      go_enter Tryd.func22, Tryd.ntmps22
      go_wp2
      go_ret
      exact ⟨_, rfl, by omega, newInt_big false N w HNP.out (by omega), newInt_below _ _ _⟩
    · show Calls Tryd.prog 22 #[.int .i64 (-(N : Int))] w _
      have x0 : -(N : Int) < 0 := by omega
      have x1 : -1000000000000000000 < -(N : Int) := by omega
      have hx : (N : Int) = -(-(N : Int)) := by omega
      have HX := Aside0.mk hx
      have HN := Aside0.mk hN
      clear hb hN h0 hn1 hn0 hx
      generalize -(N : Int) = x at *
      have p0 : (x == 0) = false := beq_eq_false_iff_ne.mpr (by omega)
      go_enter Tryd.func22, Tryd.ntmps22
      go_wp2
      go_ret
      have hw : IntKind.u64.wrap (-IntKind.u64.wrap x) = (N : Int) := by rw [u64_w, u64_w, HX.out]; omega
      rw [hw]
      exact ⟨_, rfl, by omega, newInt_big true N w HNP.out (by have := HN.out; omega), newInt_below _ _ _⟩
end Go.Proofs.YteohmbannpbokaaDoor.ParseWalk
