/-
  The decimal's small calls.
  A decimal told as text.
-/
import Derived.Test.YteohmbannpbokaaDoorBigWalk3
set_option linter.unusedVariables false
set_option linter.unusedSimpArgs false
namespace Go.Proofs.YteohmbannpbokaaDoor.DecWalk
open Go.RowKit Go.Proofs.YteohmbannpbokaaDoorW.PrintWords Go.Proofs.YteohmbannpbokaaDoorW.PrintLast Go.Proofs.YteohmbannpbokaaDoorW.PrintMore Go.Proofs.YteohmbannpbokaaDoor.SpecWalk Go.Proofs.YteohmbannpbokaaDoor.StrLaw Go.Proofs.YteohmbannpbokaaDoor.TextLaw Go.Proofs.YteohmbannpbokaaDoor.BigLaw Go.Proofs.YteohmbannpbokaaDoor.BigWalk

/-- A decimal of the package. -/
abbrev dv (g : Nat) (x : Int) : Value := .agg #[.pointer (some ⟨g, 0, none⟩), .int .i32 x]
set_option maxHeartbeats 4000000 in
theorem Exponent_n (g : Nat) (x : Int) (w : World) : Calls Tryd.prog 26 #[dv g x] w fun r w' => r = .returned (.int .i32 x) ∧ Below w.heap.size w w' := by
  go_enter Tryd.func26, Tryd.ntmps26
  go_wp2_with fail
  have ax0 : Box (w.alloc (Obj.cells #[Value.pointer (some ⟨g, 0, none⟩), Value.int .i32 x] 44)) w.heap.size [.pointer (some ⟨g, 0, none⟩), .int .i32 x] := (Box.new2 w _ _ _ _ (by simp))
  have hB0 : Below w.heap.size w (w.alloc (Obj.cells #[Value.pointer (some ⟨g, 0, none⟩), Value.int .i32 x] 44)) := ((Below.refl _ _).alloc (Nat.le_refl _) _)
  have kax00 := ax0.c0; have kax01 := ax0.c1; have qax00 := ax0.f0; have qax01 := ax0.f1
  go_wp2
  go_ret
  exact ⟨rfl, hB0⟩
set_option maxHeartbeats 4000000 in
theorem getValue_n (g : Nat) (x : Int) (w : World) : Calls Tryd.prog 34 #[dv g x] w fun r w' => r = .returned (.pointer (some ⟨g, 0, none⟩)) ∧ Below w.heap.size w w' := by
  go_enter Tryd.func34, Tryd.ntmps34
  go_wp2_with fail
  have ax0 : Box (w.alloc (Obj.cells #[Value.pointer (some ⟨g, 0, none⟩), Value.int .i32 x] 44)) w.heap.size [.pointer (some ⟨g, 0, none⟩), .int .i32 x] := (Box.new2 w _ _ _ _ (by simp))
  have hB0 : Below w.heap.size w (w.alloc (Obj.cells #[Value.pointer (some ⟨g, 0, none⟩), Value.int .i32 x] 44)) := ((Below.refl _ _).alloc (Nat.le_refl _) _)
  have kax00 := ax0.c0; have kax01 := ax0.c1; have qax00 := ax0.f0; have qax01 := ax0.f1
  go_wp2
  go_ret
  exact ⟨rfl, hB0⟩
set_option maxHeartbeats 4000000 in
theorem ZzValue_n (g : Nat) (x : Int) (w : World) : Calls Tryd.prog 25 #[dv g x] w fun r w' => r = .returned (.pointer (some ⟨g, 0, none⟩)) ∧ Below w.heap.size w w' := by
  go_enter Tryd.func25, Tryd.ntmps25
  go_wp2_with fail
  have ax0 : Box (w.alloc (Obj.cells #[Value.pointer (some ⟨g, 0, none⟩), Value.int .i32 x] 44)) w.heap.size [.pointer (some ⟨g, 0, none⟩), .int .i32 x] := (Box.new2 w _ _ _ _ (by simp))
  have hB0 : Below w.heap.size w (w.alloc (Obj.cells #[Value.pointer (some ⟨g, 0, none⟩), Value.int .i32 x] 44)) := ((Below.refl _ _).alloc (Nat.le_refl _) _)
  have kax00 := ax0.c0; have kax01 := ax0.c1; have qax00 := ax0.f0; have qax01 := ax0.f1
  go_wp2_with (first | (go_at_call 34; (with_reducible refine (getValue_n _ _ _).mono ?_); rintro e w1 ⟨rfl, hb1⟩; have sz1 := hb1.size; (try simp at sz1); (with_reducible have ax1 := ax0.below hb1); have kax10 := ax1.c0; have kax11 := ax1.c1; have qax10 := ax1.f0; have qax11 := ax1.f1))
  go_ret
  exact ⟨rfl, below_step hB0 hb1⟩
def sgv (b : Bool) (n : Nat) : Int := if n = 0 then 0 else if b then -1 else 1
end Go.Proofs.YteohmbannpbokaaDoor.DecWalk

set_option linter.unusedVariables false
set_option linter.unusedSimpArgs false
namespace Go.Proofs.YteohmbannpbokaaDoor.DecWalk
open Go.RowKit Go.Proofs.YteohmbannpbokaaDoorW.PrintWords Go.Proofs.YteohmbannpbokaaDoorW.PrintLast Go.Proofs.YteohmbannpbokaaDoorW.PrintMore Go.Proofs.YteohmbannpbokaaDoor.SpecWalk Go.Proofs.YteohmbannpbokaaDoor.StrLaw Go.Proofs.YteohmbannpbokaaDoor.TextLaw Go.Proofs.YteohmbannpbokaaDoor.BigLaw Go.Proofs.YteohmbannpbokaaDoor.BigWalk

theorem _root_.Go.Proofs.YteohmbannpbokaaDoor.SpecWalk.Box.new1 (w : World) (g : Nat) (x : Value) (t : TypeId) (hg : w.heap.size = g) : Box (w.alloc (.cells #[x] t)) g [x] := by
  subst hg
  exact ⟨fun j v hj => by match j, hj with | 0, hj => cases hj; exact ⟨by simp, by simp⟩⟩
set_option maxHeartbeats 4000000 in
theorem dec_n (g : Nat) (b : Bool) (N : Nat) (x : Int) (ok : Nat → Prop) (w : World) (h : Big w ok g b N) (hsg : sgn b N = b) (hN : (W64.digs N).length ≤ 10000) (h0 : -2147483648 ≤ x) (h1 : x ≤ 2147483647) :
    Calls Tryd.prog 14 #[dv g x] w fun r w' => r = .returned (.agg #[.string (stext b N), .int .i64 x]) ∧ Below w.heap.size w w' := by
  have HD := Aside0.mk (fun w1 (hb : Below w.heap.size w w1) => digits_n g b N ok w1 (h.below hb) hsg hN)
  generalize stext b N = s at *
  clear hsg hN h
  go_enter Tryd.func14, Tryd.ntmps14
  go_wp2_with fail
  have ax0 : Box ((w.alloc (Obj.cells #[Value.pointer (some ⟨g, 0, none⟩), Value.int .i32 x] 44)).alloc (Obj.cells #[Value.string ⟨#[]⟩, Value.int .i64 0] 32)).drew w.heap.size [.pointer (some ⟨g, 0, none⟩), .int .i32 x] := ((Box.new2 w _ _ _ _ (by simp)).alloc _).drew
  have rx0 : Box ((w.alloc (Obj.cells #[Value.pointer (some ⟨g, 0, none⟩), Value.int .i32 x] 44)).alloc (Obj.cells #[Value.string ⟨#[]⟩, Value.int .i64 0] 32)).drew (w.heap.size + 1) [.string ⟨#[]⟩, .int .i64 0] := (Box.new2 (w.alloc (Obj.cells #[Value.pointer (some ⟨g, 0, none⟩), Value.int .i32 x] 44)) _ _ _ _ (by simp)).drew
  have hB0 : Below w.heap.size w ((w.alloc (Obj.cells #[Value.pointer (some ⟨g, 0, none⟩), Value.int .i32 x] 44)).alloc (Obj.cells #[Value.string ⟨#[]⟩, Value.int .i64 0] 32)).drew := (((Below.refl _ _).alloc (Nat.le_refl _) _).alloc (by simp) _).drew
  have neax : w.heap.size ≠ (w.heap.size + 1) := by omega
  go_region_held3 (fun w' => w'.cell? ⟨w.heap.size, 0, none⟩ = some (.pointer (some ⟨g, 0, none⟩)) ∧ w'.cell? ⟨w.heap.size, 1, none⟩ = some (.int .i32 x))
      (first
        | (go_keep; done)
        | exact ⟨ax3.c0, ax3.c1⟩
        | exact ⟨ax2.c0, ax2.c1⟩
        | exact ⟨ax1.c0, ax1.c1⟩
        | exact ⟨(ax3.far2 neax _ _).c0, (ax3.far2 neax _ _).c1⟩)
      (first
        | (go_at_call 25; refine (ZzValue_n _ _ _).mono ?_; rintro e w1 ⟨rfl, hb1⟩; have sz1 := hb1.size; simp at sz1; have ax1 := ax0.below hb1; have xax10 := ax1.c0; have xax11 := ax1.c1; have rx1 := rx0.below hb1; have xrx10 := rx1.c0; have xrx11 := rx1.c1; have yrx10 := rx1.f0; have yrx11 := rx1.f1)
        | (go_at_call 24; refine (HD.out _ (below_step hB0 hb1)).mono ?_; rintro e w2 ⟨rfl, hb2⟩; have sz2 := hb2.size; have ax2 := ax1.below hb2; have xax20 := ax2.c0; have xax21 := ax2.c1; have rx2 := rx1.below hb2; have xrx20 := rx2.c0; have xrx21 := rx2.c1; have yrx20 := rx2.f0; have yrx21 := rx2.f1)
        | (go_at_call 26; refine (Exponent_n _ _ _).mono ?_; rintro e w3 ⟨rfl, hb3⟩; have sz3 := hb3.size; have ax3 := ax2.below hb3; have xax30 := ax3.c0; have xax31 := ax3.c1; have rx3 := rx2.below hb3; have xrx30 := rx3.c0; have xrx31 := rx3.c1; have yrx30 := rx3.f0; have yrx31 := rx3.f1))
  go_wp2
  have hwx : IntKind.i64.wrap x = x := by have h := Digs.w64 x (by omega) (by omega); first | exact h | (rw [i64_w]; exact h) | (unfold IntKind.wrap; simp [IntKind.bits, IntKind.signed]; omega) | (rw [← h]; rfl) | (show _ = _; simp [IntKind.wrap]; omega)
  refine bodyPost_ret (v := .agg #[.string s, .int .i64 x]) (by simp [hwx, results, Tryd.results14, go_sem, rx3.c0, rx3.c1]) rfl ?_
  exact ⟨rfl, below2 (below_step (below_step (below_step hB0 hb1) hb2) hb3) (by omega) _ _⟩
end Go.Proofs.YteohmbannpbokaaDoor.DecWalk
