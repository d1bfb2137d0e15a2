/-
  The decimal's small calls.
  The decimal's opposite and amount.
  The thin package's decimal out of text and back.
  A decimal told as text.
  A door of the thin package over a decimal; where nothing panics its deferred closure does nothing.
  A door of the thin package over a decimal; where nothing panics its deferred closure does nothing.
  A decimal's copy.
  A door of the thin package over a decimal; where nothing panics its deferred closure does nothing.
  The thin package's door to a decimal's sign.
-/
import Derived.Test.YteohmbannpbokaaBigWalk4
import Derived.Test.YteohmbannpbokaaPplacesx1
import Derived.Defers
import Derived.Recover
set_option linter.unusedVariables false
set_option linter.unusedSimpArgs false
namespace Go.Proofs.Yteohmbannpbokaa.DecWalk
open Go.RowKit Go.Proofs.YteohmbannpbokaaW.PrintWords Go.Proofs.YteohmbannpbokaaW.PrintLast Go.Proofs.YteohmbannpbokaaW.PrintMore Go.Proofs.Yteohmbannpbokaa.SpecWalk Go.Proofs.Yteohmbannpbokaa.StrLaw Go.Proofs.Yteohmbannpbokaa.TextLaw Go.Proofs.Yteohmbannpbokaa.TextWalk Go.Proofs.Yteohmbannpbokaa.BigLaw Go.Proofs.Yteohmbannpbokaa.BigWalk

/-- A decimal of the package. -/
abbrev dv (g : Nat) (x : Int) : Value := .agg #[.pointer (some ⟨g, 0, none⟩), .int .i32 x]
set_option maxHeartbeats 4000000 in
theorem Exponent_n (g : Nat) (x : Int) (w : World) : Calls Try.prog 37 #[dv g x] w fun r w' => r = .returned (.int .i32 x) ∧ Below w.heap.size w w' := by
  go_enter Try.func37, Try.ntmps37
  go_wp2_with fail
  have ax0 : Box (w.alloc (Obj.cells #[Value.pointer (some ⟨g, 0, none⟩), Value.int .i32 x] 44)) w.heap.size [.pointer (some ⟨g, 0, none⟩), .int .i32 x] := (Box.new2 w _ _ _ _ (by simp))
  have hB0 : Below w.heap.size w (w.alloc (Obj.cells #[Value.pointer (some ⟨g, 0, none⟩), Value.int .i32 x] 44)) := ((Below.refl _ _).alloc (Nat.le_refl _) _)
  have kax00 := ax0.c0; have kax01 := ax0.c1; have qax00 := ax0.f0; have qax01 := ax0.f1
  go_wp2
  go_ret
  exact ⟨rfl, hB0⟩
set_option maxHeartbeats 4000000 in
theorem getValue_n (g : Nat) (x : Int) (w : World) : Calls Try.prog 39 #[dv g x] w fun r w' => r = .returned (.pointer (some ⟨g, 0, none⟩)) ∧ Below w.heap.size w w' := by
  go_enter Try.func39, Try.ntmps39
  go_wp2_with fail
  have ax0 : Box (w.alloc (Obj.cells #[Value.pointer (some ⟨g, 0, none⟩), Value.int .i32 x] 44)) w.heap.size [.pointer (some ⟨g, 0, none⟩), .int .i32 x] := (Box.new2 w _ _ _ _ (by simp))
  have hB0 : Below w.heap.size w (w.alloc (Obj.cells #[Value.pointer (some ⟨g, 0, none⟩), Value.int .i32 x] 44)) := ((Below.refl _ _).alloc (Nat.le_refl _) _)
  have kax00 := ax0.c0; have kax01 := ax0.c1; have qax00 := ax0.f0; have qax01 := ax0.f1
  go_wp2
  go_ret
  exact ⟨rfl, hB0⟩
set_option maxHeartbeats 4000000 in
theorem ZzValue_n (g : Nat) (x : Int) (w : World) : Calls Try.prog 36 #[dv g x] w fun r w' => r = .returned (.pointer (some ⟨g, 0, none⟩)) ∧ Below w.heap.size w w' := by
  go_enter Try.func36, Try.ntmps36
  go_wp2_with fail
  have ax0 : Box (w.alloc (Obj.cells #[Value.pointer (some ⟨g, 0, none⟩), Value.int .i32 x] 44)) w.heap.size [.pointer (some ⟨g, 0, none⟩), .int .i32 x] := (Box.new2 w _ _ _ _ (by simp))
  have hB0 : Below w.heap.size w (w.alloc (Obj.cells #[Value.pointer (some ⟨g, 0, none⟩), Value.int .i32 x] 44)) := ((Below.refl _ _).alloc (Nat.le_refl _) _)
  have kax00 := ax0.c0; have kax01 := ax0.c1; have qax00 := ax0.f0; have qax01 := ax0.f1
  go_wp2_with (first | (go_at_call 39; (with_reducible refine (getValue_n _ _ _).mono ?_); rintro e w1 ⟨rfl, hb1⟩; have sz1 := hb1.size; (try simp at sz1); (with_reducible have ax1 := ax0.below hb1); have kax10 := ax1.c0; have kax11 := ax1.c1; have qax10 := ax1.f0; have qax11 := ax1.f1))
  go_ret
  exact ⟨rfl, below_step hB0 hb1⟩
set_option maxHeartbeats 4000000 in
theorem ZzMake_n (g : Nat) (x : Int) (w : World) : Calls Try.prog 34 #[.pointer (some ⟨g, 0, none⟩), .int .i32 x] w fun r w' => r = .returned (dv g x) ∧ Below w.heap.size w w' := by
  go_enter Try.func34, Try.ntmps34
  go_wp2_with fail
  have rx0 : Box (w.alloc (Obj.cells #[Value.pointer none, Value.int .i32 0] 44)) w.heap.size [.pointer none, .int .i32 0] := (Box.new2 w _ _ _ _ (by simp))
  have hB0 : Below w.heap.size w (w.alloc (Obj.cells #[Value.pointer none, Value.int .i32 0] 44)) := ((Below.refl _ _).alloc (Nat.le_refl _) _)
  have krx00 := rx0.c0; have krx01 := rx0.c1; have qrx00 := rx0.f0; have qrx01 := rx0.f1
  go_wp2
  refine bodyPost_ret (v := dv g x) (by simp [results, Try.results34, go_sem, krx00, krx01]) rfl ?_
  exact ⟨rfl, (Below.refl _ _).alloc (Nat.le_refl _) _⟩
def sgv (b : Bool) (n : Nat) : Int := if n = 0 then 0 else if b then -1 else 1
set_option maxHeartbeats 4000000 in
theorem Sign_n (g : Nat) (b : Bool) (n : Nat) (x : Int) (ok : Nat → Prop) (w : World) (h : Big w ok g b n) : Calls Try.prog 23 #[dv g x] w fun r w' => r = .returned (.int .i64 (sgv b n)) ∧ Below w.heap.size w w' := by
  have HBG := Aside0.mk h
  have HS := Aside0.mk (fun w (h : Big w ok g b n) => (ISign_n g b n ok w h).mono (R' := fun e w' => e = .returned (.int .i64 (sgv b n)) ∧ Below w.heap.size w w') (fun e w' hh => ⟨hh.1, by rw [hh.2]; exact Below.refl _ _⟩))
  clear h
  generalize sgv b n = s at *
  go_enter Try.func23, Try.ntmps23
  go_wp2_with fail
  have ax0 : Box (w.alloc (Obj.cells #[Value.pointer (some ⟨g, 0, none⟩), Value.int .i32 x] 44)) w.heap.size [.pointer (some ⟨g, 0, none⟩), .int .i32 x] := (Box.new2 w _ _ _ _ (by simp))
  have hB0 : Below w.heap.size w (w.alloc (Obj.cells #[Value.pointer (some ⟨g, 0, none⟩), Value.int .i32 x] 44)) := ((Below.refl _ _).alloc (Nat.le_refl _) _)
  have kax00 := ax0.c0; have kax01 := ax0.c1; have qax00 := ax0.f0; have qax01 := ax0.f1
  go_wp2_with (first | (go_at_call 39; (with_reducible refine (getValue_n _ _ _).mono ?_); rintro e w1 ⟨rfl, hb1⟩; have sz1 := hb1.size; (try simp at sz1); (with_reducible have ax1 := ax0.below hb1); have kax10 := ax1.c0; have kax11 := ax1.c1; have qax10 := ax1.f0; have qax11 := ax1.f1) | (go_at_call 42; (with_reducible refine (HS.out _ (HBG.out.below (below_step hB0 hb1))).mono ?_); rintro e w2 ⟨rfl, hb2⟩; have sz2 := hb2.size; (try simp at sz2); (with_reducible have ax2 := ax1.below hb2); have kax20 := ax2.c0; have kax21 := ax2.c1; have qax20 := ax2.f0; have qax21 := ax2.f1))
  go_ret
  exact ⟨rfl, below_step (below_step hB0 hb1) hb2⟩
set_option maxHeartbeats 4000000 in
theorem IsNegative_n (g : Nat) (b : Bool) (n : Nat) (x : Int) (ok : Nat → Prop) (w : World) (h : Big w ok g b n) (hsg : sgn b n = b) : Calls Try.prog 40 #[dv g x] w fun r w' => r = .returned (.bool b) ∧ Below w.heap.size w w' := by
  have HS := Aside0.mk (fun w1 (hb : Below w.heap.size w w1) => Sign_n g b n x ok w1 (h.below hb))
  have hv : (sgv b n == -1) = b := by
    unfold sgv
    cases b
    · by_cases h0 : n = 0 <;> simp [h0]
    · have h0 : n ≠ 0 := by intro h0; subst h0; exact absurd hsg (by decide)
      simp [h0]
  clear h hsg
  generalize sgv b n = s at *
  go_enter Try.func40, Try.ntmps40
  go_wp2_with fail
  have ax0 : Box (w.alloc (Obj.cells #[Value.pointer (some ⟨g, 0, none⟩), Value.int .i32 x] 44)) w.heap.size [.pointer (some ⟨g, 0, none⟩), .int .i32 x] := (Box.new2 w _ _ _ _ (by simp))
  have hB0 : Below w.heap.size w (w.alloc (Obj.cells #[Value.pointer (some ⟨g, 0, none⟩), Value.int .i32 x] 44)) := ((Below.refl _ _).alloc (Nat.le_refl _) _)
  have kax00 := ax0.c0; have kax01 := ax0.c1; have qax00 := ax0.f0; have qax01 := ax0.f1
  go_wp2_with (first | (go_at_call 23; (with_reducible refine (HS.out _ hB0).mono ?_); rintro e w1 ⟨rfl, hb1⟩; have sz1 := hb1.size; (try simp at sz1); (with_reducible have ax1 := ax0.below hb1); have kax10 := ax1.c0; have kax11 := ax1.c1; have qax10 := ax1.f0; have qax11 := ax1.f1))
  go_ret
  exact ⟨rfl, below_step hB0 hb1⟩
end Go.Proofs.Yteohmbannpbokaa.DecWalk

set_option linter.unusedVariables false
set_option linter.unusedSimpArgs false
namespace Go.Proofs.Yteohmbannpbokaa.DecWalk
open Go.RowKit Go.Proofs.YteohmbannpbokaaW.PrintWords Go.Proofs.YteohmbannpbokaaW.PrintLast Go.Proofs.YteohmbannpbokaaW.PrintMore Go.Proofs.Yteohmbannpbokaa.SpecWalk Go.Proofs.Yteohmbannpbokaa.StrLaw Go.Proofs.Yteohmbannpbokaa.TextLaw Go.Proofs.Yteohmbannpbokaa.TextWalk Go.Proofs.Yteohmbannpbokaa.BigLaw Go.Proofs.Yteohmbannpbokaa.BigWalk

/-- A new decimal of so much: made from w on. -/
structure Dnew (w w' : World) (v : Value) (x : Int) (b : Bool) (n : Nat) : Prop where
  mk :: (out : ∃ g, v = dv g x ∧ ∃ ok, Big w' ok g b n)
set_option maxHeartbeats 4000000 in
theorem DNeg_n (g : Nat) (b : Bool) (n : Nat) (x : Int) (ok : Nat → Prop) (w : World) (h : Big w ok g b n) (hn : (W64.digs n).length ≤ 100000) :
    Calls Try.prog 19 #[dv g x] w fun r w' => ∃ v, r = .returned v ∧ Dnew w w' v x (sgn (!b) n) n ∧ Below w.heap.size w w' := by
  have HBG := Aside0.mk h
  have hlt := h.blk.lt
  have HN := Aside0.mk hn
  clear h hn
  go_enter Try.func19, Try.ntmps19
  go_wp2_with fail
  have ax0 : Box (((w.alloc (Obj.cells #[Value.pointer (some ⟨g, 0, none⟩), Value.int .i32 x] 44)).alloc (Obj.cells #[Value.pointer none, Value.int .i32 0] 44)).alloc (Obj.cells #[Value.bool false, Value.slice none 0 0] 66)) w.heap.size [.pointer (some ⟨g, 0, none⟩), .int .i32 x] := (((Box.new2 w _ _ _ _ (by simp)).alloc _).alloc _)
  have rx0 : Box (((w.alloc (Obj.cells #[Value.pointer (some ⟨g, 0, none⟩), Value.int .i32 x] 44)).alloc (Obj.cells #[Value.pointer none, Value.int .i32 0] 44)).alloc (Obj.cells #[Value.bool false, Value.slice none 0 0] 66)) (w.heap.size + 1) [.pointer none, .int .i32 0] := ((Box.new2 (w.alloc (Obj.cells #[Value.pointer (some ⟨g, 0, none⟩), Value.int .i32 x] 44)) _ _ _ _ (by simp)).alloc _)
  have zx0 : Box (((w.alloc (Obj.cells #[Value.pointer (some ⟨g, 0, none⟩), Value.int .i32 x] 44)).alloc (Obj.cells #[Value.pointer none, Value.int .i32 0] 44)).alloc (Obj.cells #[Value.bool false, Value.slice none 0 0] 66)) (w.heap.size + 1 + 1) [.bool false, .slice none 0 0] := (Box.new2 ((w.alloc (Obj.cells #[Value.pointer (some ⟨g, 0, none⟩), Value.int .i32 x] 44)).alloc (Obj.cells #[Value.pointer none, Value.int .i32 0] 44)) _ _ _ _ (by simp))
  have hB0 : Below w.heap.size w (((w.alloc (Obj.cells #[Value.pointer (some ⟨g, 0, none⟩), Value.int .i32 x] 44)).alloc (Obj.cells #[Value.pointer none, Value.int .i32 0] 44)).alloc (Obj.cells #[Value.bool false, Value.slice none 0 0] 66)) := ((((Below.refl _ _).alloc (Nat.le_refl _) _).alloc (by simp) _).alloc (by simp; omega) _)
  have zb0 : Blk (((w.alloc (Obj.cells #[Value.pointer (some ⟨g, 0, none⟩), Value.int .i32 x] 44)).alloc (Obj.cells #[Value.pointer none, Value.int .i32 0] 44)).alloc (Obj.cells #[Value.bool false, Value.slice none 0 0] 66)) (w.heap.size + 1 + 1) := Blk.new _ _ _ _ (by simp)
  have hs0 : (((w.alloc (Obj.cells #[Value.pointer (some ⟨g, 0, none⟩), Value.int .i32 x] 44)).alloc (Obj.cells #[Value.pointer none, Value.int .i32 0] 44)).alloc (Obj.cells #[Value.bool false, Value.slice none 0 0] 66)).heap.size = w.heap.size + 1 + 1 + 1 := by simp
  generalize (((w.alloc (Obj.cells #[Value.pointer (some ⟨g, 0, none⟩), Value.int .i32 x] 44)).alloc (Obj.cells #[Value.pointer none, Value.int .i32 0] 44)).alloc (Obj.cells #[Value.bool false, Value.slice none 0 0] 66)) = W0 at *
  have HI := Aside0.mk (fun w1 (hb : Below W0.heap.size W0 w1) => INeg_k (w.heap.size + 1 + 1) g b n ok w1 (zx0.below hb) (zb0.below hb) (HBG.out.below (below_step hB0 hb)) (by omega) HN.out)
  have kax00 := ax0.c0; have kax01 := ax0.c1; have qax00 := ax0.f0; have qax01 := ax0.f1; have krx00 := rx0.c0; have krx01 := rx0.c1; have qrx00 := rx0.f0; have qrx01 := rx0.f1
  go_wp2_with (first | (go_at_call 39; (with_reducible refine (getValue_n _ _ _).mono ?_); rintro e w1 ⟨rfl, hb1⟩; have sz1 := hb1.size; have HB1 := Aside0.mk hb1; have ax1 := ax0.below hb1; have rx1 := rx0.below hb1; clear hb1; have kax10 := ax1.c0; have kax11 := ax1.c1; have qax10 := ax1.f0; have qax11 := ax1.f1; have krx10 := rx1.c0; have krx11 := rx1.c1; have qrx10 := rx1.f0; have qrx11 := rx1.f1) | (go_at_call 38; refine (HI.out _ HB1.out).mono ?_; rintro e w2 ⟨rfl, hbig, hk⟩; have ax2 := Box.kept ax1 hk (by omega); have rx2 := Box.kept rx1 hk (by omega); have HBI := Aside0.mk hbig; have HK := Aside0.mk hk; clear hbig hk; have kax20 := ax2.c0; have kax21 := ax2.c1; have qax20 := ax2.f0; have qax21 := ax2.f1; have krx20 := rx2.c0; have krx21 := rx2.c1; have qrx20 := rx2.f0; have qrx21 := rx2.f1))
  refine bodyPost_ret (v := dv (w.heap.size + 1 + 1) x) (by simp [results, Try.results19, go_sem, krx20, krx21]) rfl ?_
  refine ⟨_, rfl, ⟨_, rfl, _, (HBI.out.far (p := ⟨w.heap.size + 1, 0, none⟩) (fun k hk => by have hk' : _ ≤ k := hk; show k ≠ w.heap.size + 1; omega) (by show _ ≠ w.heap.size + 1; omega) _).far (p := ⟨w.heap.size + 1, 1, none⟩) (fun k hk => by have hk' : _ ≤ k := hk; show k ≠ w.heap.size + 1; omega) (by show _ ≠ w.heap.size + 1; omega) _⟩, below2 (HK.out.below (below_step hB0 HB1.out) (by omega)) (by omega) _ _⟩
theorem _root_.Go.Proofs.Yteohmbannpbokaa.BigWalk.Big.bound {w : World} {ok : Nat → Prop} {g : Nat} {b : Bool} {n : Nat} (h : Big w ok g b n) : Big w (fun k => ok k ∧ k < w.heap.size) g b n := by
  obtain ⟨v, h1, h2⟩ := h.out
  exact ⟨⟨v, h1, h2.bound⟩, h.blk⟩
set_option maxHeartbeats 4000000 in
theorem DAbs_plain (g : Nat) (n : Nat) (x : Int) (ok : Nat → Prop) (w : World) (h : Big w ok g false n) :
    Calls Try.prog 21 #[dv g x] w fun r w' => ∃ v, r = .returned v ∧ Dnew w w' v x false n ∧ Below w.heap.size w w' := by
  have HBG := Aside0.mk h.bound
  have hlt := h.blk.lt
  clear h
  go_enter Try.func21, Try.ntmps21
  go_wp2_with fail
  have ax0 : Box ((w.alloc (Obj.cells #[Value.pointer (some ⟨g, 0, none⟩), Value.int .i32 x] 44)).alloc (Obj.cells #[Value.pointer none, Value.int .i32 0] 44)) w.heap.size [.pointer (some ⟨g, 0, none⟩), .int .i32 x] := ((Box.new2 w _ _ _ _ (by simp)).alloc _)
  have rx0 : Box ((w.alloc (Obj.cells #[Value.pointer (some ⟨g, 0, none⟩), Value.int .i32 x] 44)).alloc (Obj.cells #[Value.pointer none, Value.int .i32 0] 44)) (w.heap.size + 1) [.pointer none, .int .i32 0] := (Box.new2 (w.alloc (Obj.cells #[Value.pointer (some ⟨g, 0, none⟩), Value.int .i32 x] 44)) _ _ _ _ (by simp))
  have hB0 : Below w.heap.size w ((w.alloc (Obj.cells #[Value.pointer (some ⟨g, 0, none⟩), Value.int .i32 x] 44)).alloc (Obj.cells #[Value.pointer none, Value.int .i32 0] 44)) := (((Below.refl _ _).alloc (Nat.le_refl _) _).alloc (by simp) _)
  have kax00 := ax0.c0; have kax01 := ax0.c1; have qax00 := ax0.f0; have qax01 := ax0.f1; have krx00 := rx0.c0; have krx01 := rx0.c1; have qrx00 := rx0.f0; have qrx01 := rx0.f1
  go_wp2_with (first | (go_at_call 40; (with_reducible refine (IsNegative_n _ _ _ _ _ _ (HBG.out.below hB0) rfl).mono ?_); rintro e w1 ⟨rfl, hb1⟩; have sz1 := hb1.size; (try simp at sz1); (with_reducible have ax1 := ax0.below hb1); have kax10 := ax1.c0; have kax11 := ax1.c1; have qax10 := ax1.f0; have qax11 := ax1.f1; (with_reducible have rx1 := rx0.below hb1); have krx10 := rx1.c0; have krx11 := rx1.c1; have qrx10 := rx1.f0; have qrx11 := rx1.f1))
  refine bodyPost_ret (v := dv g x) (by simp [results, Try.results21, go_sem, krx10, krx11]) rfl ?_
  exact ⟨_, rfl, ⟨_, rfl, _, ((HBG.out.below (below_step hB0 hb1)).far (p := ⟨w.heap.size + 1, 0, none⟩) (fun k hk => by have := hk.2; show k ≠ w.heap.size + 1; omega) (by show g ≠ w.heap.size + 1; omega) _).far (p := ⟨w.heap.size + 1, 1, none⟩) (fun k hk => by have := hk.2; show k ≠ w.heap.size + 1; omega) (by show g ≠ w.heap.size + 1; omega) _⟩, below2 (below_step hB0 hb1) (by omega) _ _⟩
set_option maxHeartbeats 4000000 in
theorem DAbs_minus (g : Nat) (n : Nat) (x : Int) (ok : Nat → Prop) (w : World) (h : Big w ok g true n) (hsg : sgn true n = true) (hn : (W64.digs n).length ≤ 100000) :
    Calls Try.prog 21 #[dv g x] w fun r w' => ∃ v, r = .returned v ∧ Dnew w w' v x false n ∧ Below w.heap.size w w' := by
  have HBG := Aside0.mk h
  have hlt := h.blk.lt
  have HN := Aside0.mk hn
  have HSG := Aside0.mk hsg
  clear h hn hsg
  go_enter Try.func21, Try.ntmps21
  go_wp2_with fail
  have ax0 : Box ((w.alloc (Obj.cells #[Value.pointer (some ⟨g, 0, none⟩), Value.int .i32 x] 44)).alloc (Obj.cells #[Value.pointer none, Value.int .i32 0] 44)) w.heap.size [.pointer (some ⟨g, 0, none⟩), .int .i32 x] := ((Box.new2 w _ _ _ _ (by simp)).alloc _)
  have rx0 : Box ((w.alloc (Obj.cells #[Value.pointer (some ⟨g, 0, none⟩), Value.int .i32 x] 44)).alloc (Obj.cells #[Value.pointer none, Value.int .i32 0] 44)) (w.heap.size + 1) [.pointer none, .int .i32 0] := (Box.new2 (w.alloc (Obj.cells #[Value.pointer (some ⟨g, 0, none⟩), Value.int .i32 x] 44)) _ _ _ _ (by simp))
  have hB0 : Below w.heap.size w ((w.alloc (Obj.cells #[Value.pointer (some ⟨g, 0, none⟩), Value.int .i32 x] 44)).alloc (Obj.cells #[Value.pointer none, Value.int .i32 0] 44)) := (((Below.refl _ _).alloc (Nat.le_refl _) _).alloc (by simp) _)
  have HI := Aside0.mk (fun (w1 : World) (z : Nat) (hz : Box w1 z [.bool false, .slice none 0 0]) (hzb : Blk w1 z) (hb : Below w.heap.size w w1) (hne : z ≠ g) => IAbs_k z g true n ok w1 hz hzb (HBG.out.below hb) hne HN.out)
  have kax00 := ax0.c0; have kax01 := ax0.c1; have qax00 := ax0.f0; have qax01 := ax0.f1; have krx00 := rx0.c0; have krx01 := rx0.c1; have qrx00 := rx0.f0; have qrx01 := rx0.f1
  go_wp2_with (first | (go_at_call 40; refine (IsNegative_n _ _ _ _ _ _ (HBG.out.below hB0) HSG.out).mono ?_; rintro e w1 ⟨rfl, hb1⟩; have sz1 := hb1.size; (try simp at sz1); have ax1 := (ax0.below hb1).alloc (Obj.cells #[Value.bool false, Value.slice none 0 0] 66); have rx1 := (rx0.below hb1).alloc (Obj.cells #[Value.bool false, Value.slice none 0 0] 66); have zx1 : Box (w1.alloc (Obj.cells #[Value.bool false, Value.slice none 0 0] 66)) w1.heap.size [.bool false, .slice none 0 0] := Box.new2 _ _ _ _ _ rfl; have zb1 : Blk (w1.alloc (Obj.cells #[Value.bool false, Value.slice none 0 0] 66)) w1.heap.size := Blk.new _ _ _ _ rfl; have HB1 := Aside0.mk ((below_step hB0 hb1).alloc (by omega) (Obj.cells #[Value.bool false, Value.slice none 0 0] 66)); have hs1 : (w1.alloc (Obj.cells #[Value.bool false, Value.slice none 0 0] 66)).heap.size = w1.heap.size + 1 := (by simp); have kax10 := ax1.c0; have kax11 := ax1.c1; have qax10 := ax1.f0; have qax11 := ax1.f1; have krx10 := rx1.c0; have krx11 := rx1.c1; have qrx10 := rx1.f0; have qrx11 := rx1.f1) | (go_at_call 39; (with_reducible refine (getValue_n _ _ _).mono ?_); rintro e w2 ⟨rfl, hb2⟩; have sz2 := hb2.size; have HB2 := Aside0.mk (below_step HB1.out hb2); have ax2 := ax1.below hb2; have rx2 := rx1.below hb2; have zx2 := zx1.below hb2; have zb2 := zb1.below hb2; clear hb2; have kax20 := ax2.c0; have kax21 := ax2.c1; have qax20 := ax2.f0; have qax21 := ax2.f1; have krx20 := rx2.c0; have krx21 := rx2.c1; have qrx20 := rx2.f0; have qrx21 := rx2.f1) | (go_at_call 41; refine (HI.out _ _ zx2 zb2 HB2.out (by omega)).mono ?_; rintro e w3 ⟨rfl, hbig, hk⟩; have ax3 := Box.kept ax2 hk (by omega); have rx3 := Box.kept rx2 hk (by omega); have HBI := Aside0.mk hbig; have HK := Aside0.mk hk; clear hbig hk; have kax30 := ax3.c0; have kax31 := ax3.c1; have qax30 := ax3.f0; have qax31 := ax3.f1; have krx30 := rx3.c0; have krx31 := rx3.c1; have qrx30 := rx3.f0; have qrx31 := rx3.f1))
  refine bodyPost_ret (v := dv w1.heap.size x) (by simp [results, Try.results21, go_sem, krx30, krx31]) rfl ?_
  exact ⟨_, rfl, ⟨_, rfl, _, (HBI.out.far (p := ⟨w.heap.size + 1, 0, none⟩) (fun k hk => by have hk' : _ ≤ k := hk; show k ≠ w.heap.size + 1; omega) (by show _ ≠ w.heap.size + 1; omega) _).far (p := ⟨w.heap.size + 1, 1, none⟩) (fun k hk => by have hk' : _ ≤ k := hk; show k ≠ w.heap.size + 1; omega) (by show _ ≠ w.heap.size + 1; omega) _⟩, below2 (HK.out.below HB2.out (by omega)) (by omega) _ _⟩
end Go.Proofs.Yteohmbannpbokaa.DecWalk

set_option linter.unusedVariables false
set_option linter.unusedSimpArgs false
namespace Go.Proofs.Yteohmbannpbokaa.DecWalk
open Go.RowKit Go.Proofs.YteohmbannpbokaaW.PrintWords Go.Proofs.YteohmbannpbokaaW.PrintLast Go.Proofs.YteohmbannpbokaaW.PrintMore Go.Proofs.Yteohmbannpbokaa.SpecWalk Go.Proofs.Yteohmbannpbokaa.StrLaw Go.Proofs.Yteohmbannpbokaa.TextLaw Go.Proofs.Yteohmbannpbokaa.TextWalk Go.Proofs.Yteohmbannpbokaa.BigLaw Go.Proofs.Yteohmbannpbokaa.BigWalk

theorem places_n (x : Int) (w : World) (h0 : -400 ≤ x) (h1 : x ≤ 400) : Calls Try.prog 33 #[.int .i64 x] w fun e w' => e = .returned (.bool true) ∧ Below w.heap.size w w' := by
  refine (Pplaces.impl_places.calls x true w (by unfold Pplaces.impl_places.f; rw [if_pos h0, decide_eq_true h1])).mono ?_
  rintro e w' ⟨he, hb⟩
  exact ⟨he, hb.below⟩
set_option maxHeartbeats 4000000 in
theorem made_n (b : Bool) (N : Nat) (x : Int) (w : World) (hsg : sgn b N = b) (hn : nd N ≤ 400) (h0 : -400 ≤ x) (h1 : x ≤ 400) :
    Calls Try.prog 17 #[.agg #[.string (stext b N), .int .i64 x]] w fun r w' => ∃ v, r = .returned (.tuple #[v, .bool true]) ∧ Dnew w w' v x b N ∧ Below w.heap.size w w' := by
  have HW := Aside0.mk (fun w => whole_n b N w hsg hn)
  have HP := Aside0.mk (fun w => places_n x w h0 h1)
  generalize stext b N = s at *
  clear hsg hn
  go_enter Try.func17, Try.ntmps17
  go_wp2_with fail
  have ax0 : Box ((w.alloc (Obj.cells #[Value.string s, Value.int .i64 x] 23)).alloc (Obj.cells #[Value.pointer none, Value.int .i32 0] 44)) w.heap.size [.string s, .int .i64 x] := ((Box.new2 w _ _ _ _ (by simp)).alloc _)
  have rx0 : Box ((w.alloc (Obj.cells #[Value.string s, Value.int .i64 x] 23)).alloc (Obj.cells #[Value.pointer none, Value.int .i32 0] 44)) (w.heap.size + 1) [.pointer none, .int .i32 0] := (Box.new2 (w.alloc (Obj.cells #[Value.string s, Value.int .i64 x] 23)) _ _ _ _ (by simp))
  have hB0 : Below w.heap.size w ((w.alloc (Obj.cells #[Value.string s, Value.int .i64 x] 23)).alloc (Obj.cells #[Value.pointer none, Value.int .i32 0] 44)) := (((Below.refl _ _).alloc (Nat.le_refl _) _).alloc (by simp) _)
  have kax00 := ax0.c0; have kax01 := ax0.c1; have qax00 := ax0.f0; have qax01 := ax0.f1; have krx00 := rx0.c0; have krx01 := rx0.c1; have qrx00 := rx0.f0; have qrx01 := rx0.f1
  go_wp2_with (first | (go_at_call 32; (with_reducible refine (HW.out _).mono ?_); rintro e w1 ⟨g, rfl, hgs, hbig, hb1⟩; have sz1 := hb1.size; (try simp at sz1); (with_reducible have ax1 := ax0.below hb1); have kax10 := ax1.c0; have kax11 := ax1.c1; have qax10 := ax1.f0; have qax11 := ax1.f1; (with_reducible have rx1 := rx0.below hb1); have krx10 := rx1.c0; have krx11 := rx1.c1; have qrx10 := rx1.f0; have qrx11 := rx1.f1; have HGS := Aside0.mk hgs; have HBI := Aside0.mk hbig.bound; clear hgs hbig) | (go_at_call 33; (with_reducible refine (HP.out _).mono ?_); rintro e w2 ⟨rfl, hb2⟩; have sz2 := hb2.size; (try simp at sz2); (with_reducible have ax2 := ax1.below hb2); have kax20 := ax2.c0; have kax21 := ax2.c1; have qax20 := ax2.f0; have qax21 := ax2.f1; (with_reducible have rx2 := rx1.below hb2); have krx20 := rx2.c0; have krx21 := rx2.c1; have qrx20 := rx2.f0; have qrx21 := rx2.f1) | (go_at_call 34; (with_reducible refine (ZzMake_n _ _ _).mono ?_); rintro e w3 ⟨rfl, hb3⟩; have sz3 := hb3.size; (try simp at sz3); (with_reducible have ax3 := ax2.below hb3); have kax30 := ax3.c0; have kax31 := ax3.c1; have qax30 := ax3.f0; have qax31 := ax3.f1; (with_reducible have rx3 := rx2.below hb3); have krx30 := rx3.c0; have krx31 := rx3.c1; have qrx30 := rx3.f0; have qrx31 := rx3.f1))
  refine bodyPost_ret (v := .tuple #[dv g x, .bool true]) (by simp [results, Try.results17, go_sem, krx30, krx31]) rfl ?_
  have hgs := HGS.out
  simp at hgs
  have hbig := (HBI.out.below hb2).below hb3
  exact ⟨_, rfl, ⟨g, rfl, _, (hbig.far (p := ⟨w.heap.size + 1, 0, none⟩) (fun k hk => by have h := hk.1.1; simp at h; show k ≠ w.heap.size + 1; omega) (by show g ≠ w.heap.size + 1; omega) _).far (p := ⟨w.heap.size + 1, 1, none⟩) (fun k hk => by have h := hk.1.1; simp at h; show k ≠ w.heap.size + 1; omega) (by show g ≠ w.heap.size + 1; omega) _⟩, below2 (below_step (below_step (below_step hB0 hb1) hb2) hb3) (by omega) _ _⟩
end Go.Proofs.Yteohmbannpbokaa.DecWalk

set_option linter.unusedVariables false
set_option linter.unusedSimpArgs false
namespace Go.Proofs.Yteohmbannpbokaa.DecWalk
open Go.RowKit Go.Proofs.YteohmbannpbokaaW.PrintWords Go.Proofs.YteohmbannpbokaaW.PrintLast Go.Proofs.YteohmbannpbokaaW.PrintMore Go.Proofs.Yteohmbannpbokaa.SpecWalk Go.Proofs.Yteohmbannpbokaa.StrLaw Go.Proofs.Yteohmbannpbokaa.TextLaw Go.Proofs.Yteohmbannpbokaa.TextWalk Go.Proofs.Yteohmbannpbokaa.BigLaw Go.Proofs.Yteohmbannpbokaa.BigWalk

theorem _root_.Go.Proofs.Yteohmbannpbokaa.SpecWalk.Box.new1 (w : World) (g : Nat) (x : Value) (t : TypeId) (hg : w.heap.size = g) : Box (w.alloc (.cells #[x] t)) g [x] := by
  subst hg
  exact ⟨fun j v hj => by match j, hj with | 0, hj => cases hj; exact ⟨by simp, by simp⟩⟩
set_option maxHeartbeats 4000000 in
theorem dec_n (g : Nat) (b : Bool) (N : Nat) (x : Int) (ok : Nat → Prop) (w : World) (h : Big w ok g b N) (hsg : sgn b N = b) (hN : (W64.digs N).length ≤ 10000) (h0 : -2147483648 ≤ x) (h1 : x ≤ 2147483647) :
    Calls Try.prog 18 #[dv g x] w fun r w' => r = .returned (.agg #[.string (stext b N), .int .i64 x]) ∧ Below w.heap.size w w' := by
  have HD := Aside0.mk (fun w1 (hb : Below w.heap.size w w1) => digits_n g b N ok w1 (h.below hb) hsg hN)
  generalize stext b N = s at *
  clear hsg hN h
  go_enter Try.func18, Try.ntmps18
  go_wp2_with fail
  have ax0 : Box ((w.alloc (Obj.cells #[Value.pointer (some ⟨g, 0, none⟩), Value.int .i32 x] 44)).alloc (Obj.cells #[Value.string ⟨#[]⟩, Value.int .i64 0] 23)).drew w.heap.size [.pointer (some ⟨g, 0, none⟩), .int .i32 x] := ((Box.new2 w _ _ _ _ (by simp)).alloc _).drew
  have rx0 : Box ((w.alloc (Obj.cells #[Value.pointer (some ⟨g, 0, none⟩), Value.int .i32 x] 44)).alloc (Obj.cells #[Value.string ⟨#[]⟩, Value.int .i64 0] 23)).drew (w.heap.size + 1) [.string ⟨#[]⟩, .int .i64 0] := (Box.new2 (w.alloc (Obj.cells #[Value.pointer (some ⟨g, 0, none⟩), Value.int .i32 x] 44)) _ _ _ _ (by simp)).drew
  have hB0 : Below w.heap.size w ((w.alloc (Obj.cells #[Value.pointer (some ⟨g, 0, none⟩), Value.int .i32 x] 44)).alloc (Obj.cells #[Value.string ⟨#[]⟩, Value.int .i64 0] 23)).drew := (((Below.refl _ _).alloc (Nat.le_refl _) _).alloc (by simp) _).drew
  have neax : w.heap.size ≠ (w.heap.size + 1) := by omega
  go_region_held3 (fun w' => w'.cell? ⟨w.heap.size, 0, none⟩ = some (.pointer (some ⟨g, 0, none⟩)) ∧ w'.cell? ⟨w.heap.size, 1, none⟩ = some (.int .i32 x))
      (first
        | (go_keep; done)
        | exact ⟨ax3.c0, ax3.c1⟩
        | exact ⟨ax2.c0, ax2.c1⟩
        | exact ⟨ax1.c0, ax1.c1⟩
        | exact ⟨(ax3.far2 neax _ _).c0, (ax3.far2 neax _ _).c1⟩)
      (first
        | (go_at_call 36; refine (ZzValue_n _ _ _).mono ?_; rintro e w1 ⟨rfl, hb1⟩; have sz1 := hb1.size; simp at sz1; have ax1 := ax0.below hb1; have xax10 := ax1.c0; have xax11 := ax1.c1; have rx1 := rx0.below hb1; have xrx10 := rx1.c0; have xrx11 := rx1.c1; have yrx10 := rx1.f0; have yrx11 := rx1.f1)
        | (go_at_call 35; refine (HD.out _ (below_step hB0 hb1)).mono ?_; rintro e w2 ⟨rfl, hb2⟩; have sz2 := hb2.size; have ax2 := ax1.below hb2; have xax20 := ax2.c0; have xax21 := ax2.c1; have rx2 := rx1.below hb2; have xrx20 := rx2.c0; have xrx21 := rx2.c1; have yrx20 := rx2.f0; have yrx21 := rx2.f1)
        | (go_at_call 37; refine (Exponent_n _ _ _).mono ?_; rintro e w3 ⟨rfl, hb3⟩; have sz3 := hb3.size; have ax3 := ax2.below hb3; have xax30 := ax3.c0; have xax31 := ax3.c1; have rx3 := rx2.below hb3; have xrx30 := rx3.c0; have xrx31 := rx3.c1; have yrx30 := rx3.f0; have yrx31 := rx3.f1))
  go_wp2
  have hwx : IntKind.i64.wrap x = x := by have h := Digs.w64 x (by omega) (by omega); first | exact h | (rw [i64_w]; exact h) | (unfold IntKind.wrap; simp [IntKind.bits, IntKind.signed]; omega) | (rw [← h]; rfl) | (show _ = _; simp [IntKind.wrap]; omega)
  refine bodyPost_ret (v := .agg #[.string s, .int .i64 x]) (by simp [hwx, results, Try.results18, go_sem, rx3.c0, rx3.c1]) rfl ?_
  exact ⟨rfl, below2 (below_step (below_step (below_step hB0 hb1) hb2) hb3) (by omega) _ _⟩
end Go.Proofs.Yteohmbannpbokaa.DecWalk

set_option linter.unusedVariables false
set_option linter.unusedSimpArgs false
namespace Go.Proofs.Yteohmbannpbokaa.DecWalk
open Go.RowKit Go.Proofs.YteohmbannpbokaaW.PrintWords Go.Proofs.YteohmbannpbokaaW.PrintLast Go.Proofs.YteohmbannpbokaaW.PrintMore Go.Proofs.Yteohmbannpbokaa.SpecWalk Go.Proofs.Yteohmbannpbokaa.StrLaw Go.Proofs.Yteohmbannpbokaa.TextLaw Go.Proofs.Yteohmbannpbokaa.TextWalk Go.Proofs.Yteohmbannpbokaa.BigLaw Go.Proofs.Yteohmbannpbokaa.BigWalk

theorem catch_neg (x y : Value) (w : World) :
    CallsD Try.prog 16 #[x, y] .returning w fun e u' w' => e = .returned (.tuple #[]) ∧ u' = .returning ∧ w' = w := by
  refine callsD_of_wpS Try.func16 rfl fun c₀ cs hu => ?_
  apply wpS_seq
  apply wpS_region
  simp [wpOpsS, go_sem, recoverD, hu, Try.ntmps16, Exit.thenS]
  refine wpS_cond (t := false) (by simp [Act.eval, Array.replicate]) ?_
  simp only [Bool.false_eq_true, if_false]
  refine wpS_of_wp (wp_skip ?_)
  cases c₀
  simp_all [bodyPostS, results, Try.results16]

set_option maxHeartbeats 4000000 in
/-- A decimal that is one goes through, with no fault. -/
theorem door_neg (b b2 : Bool) (N : Nat) (x : Int) (w : World) (hsg : sgn b N = b) (hsg2 : sgn b2 N = b2) (hn : nd N ≤ 400) (hN : (W64.digs N).length ≤ 10000) (h0 : -400 ≤ x) (h1 : x ≤ 400)
    (ht : ∀ g ok w, Big w ok g b N → Calls Try.prog 19 #[dv g x] w fun r w' => ∃ v, r = .returned v ∧ Dnew w w' v x b2 N ∧ Below w.heap.size w w') :
    Calls Try.prog 6 #[.agg #[.string (stext b N), .int .i64 x]] w fun e w' => e = .returned (.tuple #[.agg #[.string (stext b2 N), .int .i64 x], .int .i64 0]) ∧ Below w.heap.size w w' := by
  have hmf : ∀ (fn : Fn) (first cap : Array Value) (w : World), (Instr.makeFunc fn first cap).run Try.prog w = .ok (.func fn first cap) w := fun _ _ _ _ => rfl
  have HF := Aside0.mk (fun w => made_n b N x w hsg hn h0 h1)
  have HD := Aside0.mk (fun g ok w h => dec_n g b2 N x ok w h hsg2 hN (by omega) (by omega))
  have HT := Aside0.mk ht
  generalize stext b N = s at *
  generalize stext b2 N = s2 at *
  clear ht hsg hsg2 hn hN
  go_enter_defers Try.func6, Try.ntmps6
  go_wp2_with fail
  have bx0 : Box (((w.alloc (Obj.cells #[Value.string s, Value.int .i64 x] 23)).alloc (Obj.cells #[Value.string ⟨#[]⟩, Value.int .i64 0] 23)).alloc (Obj.cells #[Value.int .i64 0] 3)) w.heap.size [.string s, .int .i64 x] := (((Box.new2 w _ _ _ _ (by simp)).alloc _).alloc _)
  have ox0 : Box (((w.alloc (Obj.cells #[Value.string s, Value.int .i64 x] 23)).alloc (Obj.cells #[Value.string ⟨#[]⟩, Value.int .i64 0] 23)).alloc (Obj.cells #[Value.int .i64 0] 3)) (w.heap.size + 1) [.string ⟨#[]⟩, .int .i64 0] := ((Box.new2 (w.alloc (Obj.cells #[Value.string s, Value.int .i64 x] 23)) _ _ _ _ (by simp)).alloc _)
  have ex0 : Box (((w.alloc (Obj.cells #[Value.string s, Value.int .i64 x] 23)).alloc (Obj.cells #[Value.string ⟨#[]⟩, Value.int .i64 0] 23)).alloc (Obj.cells #[Value.int .i64 0] 3)) (w.heap.size + 1 + 1) [.int .i64 0] := (Box.new1 ((w.alloc (Obj.cells #[Value.string s, Value.int .i64 x] 23)).alloc (Obj.cells #[Value.string ⟨#[]⟩, Value.int .i64 0] 23)) _ _ _ (by simp))
  have hB0 : Below w.heap.size w (((w.alloc (Obj.cells #[Value.string s, Value.int .i64 x] 23)).alloc (Obj.cells #[Value.string ⟨#[]⟩, Value.int .i64 0] 23)).alloc (Obj.cells #[Value.int .i64 0] 3)) := ((((Below.refl _ _).alloc (Nat.le_refl _) _).alloc (by simp) _).alloc (by simp; omega) _)
  have kbx00 := bx0.c0; have kbx01 := bx0.c1; have qbx00 := bx0.f0; have qbx01 := bx0.f1; have kox00 := ox0.c0; have kox01 := ox0.c1; have qox00 := ox0.f0; have qox01 := ox0.f1; have kex00 := ex0.c0; have qex00 := ex0.f0
  go_wp2_with (first | (go_at_call 17; (with_reducible refine (HF.out _).mono ?_); rintro e w1 ⟨v, rfl, hd, hb1⟩; have sz1 := hb1.size; (try simp at sz1); (with_reducible have bx1 := bx0.below hb1); have kbx10 := bx1.c0; have kbx11 := bx1.c1; have qbx10 := bx1.f0; have qbx11 := bx1.f1; (with_reducible have ox1 := ox0.below hb1); have kox10 := ox1.c0; have kox11 := ox1.c1; have qox10 := ox1.f0; have qox11 := ox1.f1; (with_reducible have ex1 := ex0.below hb1); have kex10 := ex1.c0; have qex10 := ex1.f0; obtain ⟨g, rfl, ok, hbig⟩ := hd.out; have HBG := Aside0.mk hbig; clear hd hbig))
  have xy1 : Box (w1.alloc (Obj.cells #[.pointer (some ⟨g, 0, none⟩), .int .i32 x] 44)) w1.heap.size [.pointer (some ⟨g, 0, none⟩), .int .i32 x] := Box.new2 _ _ _ _ _ rfl
  have oy1 := ox1.alloc (Obj.cells #[.pointer (some ⟨g, 0, none⟩), .int .i32 x] 44)
  have ey1 := ex1.alloc (Obj.cells #[.pointer (some ⟨g, 0, none⟩), .int .i32 x] 44)
  have hA1 : Below w1.heap.size w1 (w1.alloc (Obj.cells #[.pointer (some ⟨g, 0, none⟩), .int .i32 x] 44)) := (Below.refl _ _).alloc (Nat.le_refl _) _
  have kxy10 := xy1.c0; have kxy11 := xy1.c1; have qxy10 := xy1.f0; have qxy11 := xy1.f1; have koy10 := oy1.c0; have koy11 := oy1.c1; have qoy10 := oy1.f0; have qoy11 := oy1.f1; have key10 := ey1.c0; have qey10 := ey1.f0
  go_wp2_with (first | (go_at_call 19; (with_reducible refine (HT.out _ _ _ (HBG.out.below hA1)).mono ?_); rintro e w2 ⟨v2, rfl, hd2, hb2⟩; have sz2 := hb2.size; (try simp at sz2); (with_reducible have xy2 := xy1.below hb2); have kxy20 := xy2.c0; have kxy21 := xy2.c1; have qxy20 := xy2.f0; have qxy21 := xy2.f1; (with_reducible have oy2 := oy1.below hb2); have koy20 := oy2.c0; have koy21 := oy2.c1; have qoy20 := oy2.f0; have qoy21 := oy2.f1; (with_reducible have ey2 := ey1.below hb2); have key20 := ey2.c0; have qey20 := ey2.f0; obtain ⟨g2, rfl, ok2, hbig2⟩ := hd2.out; have HBG2 := Aside0.mk hbig2; clear hd2 hbig2) | (go_at_call 18; (with_reducible refine (HD.out _ _ _ HBG2.out).mono ?_); rintro e w3 ⟨rfl, hb3⟩; have sz3 := hb3.size; (try simp at sz3); (with_reducible have xy3 := xy2.below hb3); have kxy30 := xy3.c0; have kxy31 := xy3.c1; have qxy30 := xy3.f0; have qxy31 := xy3.f1; (with_reducible have oy3 := oy2.below hb3); have koy30 := oy3.c0; have koy31 := oy3.c1; have qoy30 := oy3.f0; have qoy31 := oy3.f1; (with_reducible have ey3 := ey2.below hb3); have key30 := ey3.c0; have qey30 := ey3.f0))
  refine leaves_cons (f := 16) (args := #[.pointer (some ⟨w.heap.size + 1, 0, none⟩), .pointer (some ⟨w.heap.size + 1 + 1, 0, none⟩)]) (by simp) (by simp [go_sem]) ?_
  refine (catch_neg _ _ _).mono ?_
  rintro e u' w'' ⟨rfl, rfl, rfl⟩
  simp [Leaves, settle, results, Try.results6, go_sem, koy30, koy31, key30]
  exact (below2 (below_step (below_step (below_step (below_step hB0 hb1) hA1) hb2) hb3) (by omega) _ _).setCell (by show _ ≤ _ + 1 + 1; omega) _
end Go.Proofs.Yteohmbannpbokaa.DecWalk

set_option linter.unusedVariables false
set_option linter.unusedSimpArgs false
namespace Go.Proofs.Yteohmbannpbokaa.DecWalk
open Go.RowKit Go.Proofs.YteohmbannpbokaaW.PrintWords Go.Proofs.YteohmbannpbokaaW.PrintLast Go.Proofs.YteohmbannpbokaaW.PrintMore Go.Proofs.Yteohmbannpbokaa.SpecWalk Go.Proofs.Yteohmbannpbokaa.StrLaw Go.Proofs.Yteohmbannpbokaa.TextLaw Go.Proofs.Yteohmbannpbokaa.TextWalk Go.Proofs.Yteohmbannpbokaa.BigLaw Go.Proofs.Yteohmbannpbokaa.BigWalk

theorem catch_abs (x y : Value) (w : World) :
    CallsD Try.prog 20 #[x, y] .returning w fun e u' w' => e = .returned (.tuple #[]) ∧ u' = .returning ∧ w' = w := by
  refine callsD_of_wpS Try.func20 rfl fun c₀ cs hu => ?_
  apply wpS_seq
  apply wpS_region
  simp [wpOpsS, go_sem, recoverD, hu, Try.ntmps20, Exit.thenS]
  refine wpS_cond (t := false) (by simp [Act.eval, Array.replicate]) ?_
  simp only [Bool.false_eq_true, if_false]
  refine wpS_of_wp (wp_skip ?_)
  cases c₀
  simp_all [bodyPostS, results, Try.results20]

set_option maxHeartbeats 4000000 in
/-- A decimal that is one goes through, with no fault. -/
theorem door_abs (b b2 : Bool) (N : Nat) (x : Int) (w : World) (hsg : sgn b N = b) (hsg2 : sgn b2 N = b2) (hn : nd N ≤ 400) (hN : (W64.digs N).length ≤ 10000) (h0 : -400 ≤ x) (h1 : x ≤ 400)
    (ht : ∀ g ok w, Big w ok g b N → Calls Try.prog 21 #[dv g x] w fun r w' => ∃ v, r = .returned v ∧ Dnew w w' v x b2 N ∧ Below w.heap.size w w') :
    Calls Try.prog 7 #[.agg #[.string (stext b N), .int .i64 x]] w fun e w' => e = .returned (.tuple #[.agg #[.string (stext b2 N), .int .i64 x], .int .i64 0]) ∧ Below w.heap.size w w' := by
  have hmf : ∀ (fn : Fn) (first cap : Array Value) (w : World), (Instr.makeFunc fn first cap).run Try.prog w = .ok (.func fn first cap) w := fun _ _ _ _ => rfl
  have HF := Aside0.mk (fun w => made_n b N x w hsg hn h0 h1)
  have HD := Aside0.mk (fun g ok w h => dec_n g b2 N x ok w h hsg2 hN (by omega) (by omega))
  have HT := Aside0.mk ht
  generalize stext b N = s at *
  generalize stext b2 N = s2 at *
  clear ht hsg hsg2 hn hN
  go_enter_defers Try.func7, Try.ntmps7
  go_wp2_with fail
  have bx0 : Box (((w.alloc (Obj.cells #[Value.string s, Value.int .i64 x] 23)).alloc (Obj.cells #[Value.string ⟨#[]⟩, Value.int .i64 0] 23)).alloc (Obj.cells #[Value.int .i64 0] 3)) w.heap.size [.string s, .int .i64 x] := (((Box.new2 w _ _ _ _ (by simp)).alloc _).alloc _)
  have ox0 : Box (((w.alloc (Obj.cells #[Value.string s, Value.int .i64 x] 23)).alloc (Obj.cells #[Value.string ⟨#[]⟩, Value.int .i64 0] 23)).alloc (Obj.cells #[Value.int .i64 0] 3)) (w.heap.size + 1) [.string ⟨#[]⟩, .int .i64 0] := ((Box.new2 (w.alloc (Obj.cells #[Value.string s, Value.int .i64 x] 23)) _ _ _ _ (by simp)).alloc _)
  have ex0 : Box (((w.alloc (Obj.cells #[Value.string s, Value.int .i64 x] 23)).alloc (Obj.cells #[Value.string ⟨#[]⟩, Value.int .i64 0] 23)).alloc (Obj.cells #[Value.int .i64 0] 3)) (w.heap.size + 1 + 1) [.int .i64 0] := (Box.new1 ((w.alloc (Obj.cells #[Value.string s, Value.int .i64 x] 23)).alloc (Obj.cells #[Value.string ⟨#[]⟩, Value.int .i64 0] 23)) _ _ _ (by simp))
  have hB0 : Below w.heap.size w (((w.alloc (Obj.cells #[Value.string s, Value.int .i64 x] 23)).alloc (Obj.cells #[Value.string ⟨#[]⟩, Value.int .i64 0] 23)).alloc (Obj.cells #[Value.int .i64 0] 3)) := ((((Below.refl _ _).alloc (Nat.le_refl _) _).alloc (by simp) _).alloc (by simp; omega) _)
  have kbx00 := bx0.c0; have kbx01 := bx0.c1; have qbx00 := bx0.f0; have qbx01 := bx0.f1; have kox00 := ox0.c0; have kox01 := ox0.c1; have qox00 := ox0.f0; have qox01 := ox0.f1; have kex00 := ex0.c0; have qex00 := ex0.f0
  go_wp2_with (first | (go_at_call 17; (with_reducible refine (HF.out _).mono ?_); rintro e w1 ⟨v, rfl, hd, hb1⟩; have sz1 := hb1.size; (try simp at sz1); (with_reducible have bx1 := bx0.below hb1); have kbx10 := bx1.c0; have kbx11 := bx1.c1; have qbx10 := bx1.f0; have qbx11 := bx1.f1; (with_reducible have ox1 := ox0.below hb1); have kox10 := ox1.c0; have kox11 := ox1.c1; have qox10 := ox1.f0; have qox11 := ox1.f1; (with_reducible have ex1 := ex0.below hb1); have kex10 := ex1.c0; have qex10 := ex1.f0; obtain ⟨g, rfl, ok, hbig⟩ := hd.out; have HBG := Aside0.mk hbig; clear hd hbig))
  have xy1 : Box (w1.alloc (Obj.cells #[.pointer (some ⟨g, 0, none⟩), .int .i32 x] 44)) w1.heap.size [.pointer (some ⟨g, 0, none⟩), .int .i32 x] := Box.new2 _ _ _ _ _ rfl
  have oy1 := ox1.alloc (Obj.cells #[.pointer (some ⟨g, 0, none⟩), .int .i32 x] 44)
  have ey1 := ex1.alloc (Obj.cells #[.pointer (some ⟨g, 0, none⟩), .int .i32 x] 44)
  have hA1 : Below w1.heap.size w1 (w1.alloc (Obj.cells #[.pointer (some ⟨g, 0, none⟩), .int .i32 x] 44)) := (Below.refl _ _).alloc (Nat.le_refl _) _
  have kxy10 := xy1.c0; have kxy11 := xy1.c1; have qxy10 := xy1.f0; have qxy11 := xy1.f1; have koy10 := oy1.c0; have koy11 := oy1.c1; have qoy10 := oy1.f0; have qoy11 := oy1.f1; have key10 := ey1.c0; have qey10 := ey1.f0
  go_wp2_with (first | (go_at_call 21; (with_reducible refine (HT.out _ _ _ (HBG.out.below hA1)).mono ?_); rintro e w2 ⟨v2, rfl, hd2, hb2⟩; have sz2 := hb2.size; (try simp at sz2); (with_reducible have xy2 := xy1.below hb2); have kxy20 := xy2.c0; have kxy21 := xy2.c1; have qxy20 := xy2.f0; have qxy21 := xy2.f1; (with_reducible have oy2 := oy1.below hb2); have koy20 := oy2.c0; have koy21 := oy2.c1; have qoy20 := oy2.f0; have qoy21 := oy2.f1; (with_reducible have ey2 := ey1.below hb2); have key20 := ey2.c0; have qey20 := ey2.f0; obtain ⟨g2, rfl, ok2, hbig2⟩ := hd2.out; have HBG2 := Aside0.mk hbig2; clear hd2 hbig2) | (go_at_call 18; (with_reducible refine (HD.out _ _ _ HBG2.out).mono ?_); rintro e w3 ⟨rfl, hb3⟩; have sz3 := hb3.size; (try simp at sz3); (with_reducible have xy3 := xy2.below hb3); have kxy30 := xy3.c0; have kxy31 := xy3.c1; have qxy30 := xy3.f0; have qxy31 := xy3.f1; (with_reducible have oy3 := oy2.below hb3); have koy30 := oy3.c0; have koy31 := oy3.c1; have qoy30 := oy3.f0; have qoy31 := oy3.f1; (with_reducible have ey3 := ey2.below hb3); have key30 := ey3.c0; have qey30 := ey3.f0))
  refine leaves_cons (f := 20) (args := #[.pointer (some ⟨w.heap.size + 1, 0, none⟩), .pointer (some ⟨w.heap.size + 1 + 1, 0, none⟩)]) (by simp) (by simp [go_sem]) ?_
  refine (catch_abs _ _ _).mono ?_
  rintro e u' w'' ⟨rfl, rfl, rfl⟩
  simp [Leaves, settle, results, Try.results7, go_sem, koy30, koy31, key30]
  exact (below2 (below_step (below_step (below_step (below_step hB0 hb1) hA1) hb2) hb3) (by omega) _ _).setCell (by show _ ≤ _ + 1 + 1; omega) _
end Go.Proofs.Yteohmbannpbokaa.DecWalk

set_option linter.unusedVariables false
set_option linter.unusedSimpArgs false
namespace Go.Proofs.Yteohmbannpbokaa.DecWalk
open Go.RowKit Go.Proofs.YteohmbannpbokaaW.PrintWords Go.Proofs.YteohmbannpbokaaW.PrintLast Go.Proofs.YteohmbannpbokaaW.PrintMore Go.Proofs.Yteohmbannpbokaa.SpecWalk Go.Proofs.Yteohmbannpbokaa.StrLaw Go.Proofs.Yteohmbannpbokaa.TextLaw Go.Proofs.Yteohmbannpbokaa.TextWalk Go.Proofs.Yteohmbannpbokaa.BigLaw Go.Proofs.Yteohmbannpbokaa.BigWalk

set_option maxHeartbeats 4000000 in
set_option maxRecDepth 100000 in
theorem DCopy_n (g : Nat) (b : Bool) (n : Nat) (x : Int) (ok : Nat → Prop) (w : World) (h : Big w ok g b n) (hn : (W64.digs n).length ≤ 100000) :
    Calls Try.prog 25 #[dv g x] w fun r w' => ∃ v, r = .returned v ∧ Dnew w w' v x b n ∧ Below w.heap.size w w' := by
  have hlt := h.blk.lt
  have low := fun (W : World) (o : Obj) => (Below.refl W.heap.size W).alloc (Nat.le_refl _) o
  have HN := Aside0.mk hn
  clear hn
  go_enter Try.func25, Try.ntmps25
  go_wp2_with fail
  have ax0 : Box ((w.alloc (Obj.cells #[Value.pointer (some ⟨g, 0, none⟩), Value.int .i32 x] 44)).alloc (Obj.cells #[Value.pointer none, Value.int .i32 0] 44)).drew w.heap.size [.pointer (some ⟨g, 0, none⟩), .int .i32 x] := ((Box.new2 w _ _ _ _ (by simp)).alloc _).drew
  have rx0 : Box ((w.alloc (Obj.cells #[Value.pointer (some ⟨g, 0, none⟩), Value.int .i32 x] 44)).alloc (Obj.cells #[Value.pointer none, Value.int .i32 0] 44)).drew (w.heap.size + 1) [.pointer none, .int .i32 0] := (Box.new2 (w.alloc (Obj.cells #[Value.pointer (some ⟨g, 0, none⟩), Value.int .i32 x] 44)) _ _ _ _ (by simp)).drew
  have hB0 : Below w.heap.size w ((w.alloc (Obj.cells #[Value.pointer (some ⟨g, 0, none⟩), Value.int .i32 x] 44)).alloc (Obj.cells #[Value.pointer none, Value.int .i32 0] 44)).drew := (((Below.refl _ _).alloc (Nat.le_refl _) _).alloc (by simp) _).drew
  have big := h.below hB0
  clear h
  generalize hW : ((w.alloc (Obj.cells #[Value.pointer (some ⟨g, 0, none⟩), Value.int .i32 x] 44)).alloc (Obj.cells #[Value.pointer none, Value.int .i32 0] 44)) = wr at *
  have hsz : w.heap.size + 2 = wr.heap.size := by rw [← hW]; simp
  refine start_ (n := 8) (S := fun w' => w'.cell? ⟨w.heap.size, 0, none⟩ = some (.pointer (some ⟨g, 0, none⟩)) ∧ w'.cell? ⟨w.heap.size, 1, none⟩ = some (.int .i32 x)) (ds := [7]) #[false, false, false, false, false, false, false, false] (by kernel_rfl) rfl rfl ⟨ax0.c0, ax0.c1⟩ (fun hHeld => ?_)
  refine take_ (i := 1) (N := some 4) (v := ?_) (a' := ?_) #[false, true, false, false, false, false, false, false] rfl rfl (by kernel_rfl) (fun _ _ _ h => h) (Or.inl ⟨by rfl, ?_⟩) hHeld ?_ ?_
  rotate_left
  · rintro w' ⟨s0, s1⟩
    go_simp
    with_reducible rfl
  rotate_left
  · simp only [Act.put, List.setIfInBounds_toArray, List.set_cons_zero, List.set_cons_succ, i64_w, i32_w]
    rfl
  refine pure_ (i := 4) (N := some 7) (v := ?_) (a' := ?_) #[false, true, false, false, true, false, false, false] rfl rfl (by kernel_rfl) (fun _ _ _ h => h) (Or.inl ⟨by rfl, ?_⟩) ?_ ?_
  rotate_left
  · intro w'
    go_simp
    with_reducible rfl
  rotate_left
  · simp only [Act.put, List.setIfInBounds_toArray, List.set_cons_zero, List.set_cons_succ, i64_w, i32_w]
    rfl
  refine take_ (i := 5) (N := some 8) (v := ?_) (a' := ?_) #[false, true, false, false, true, true, false, false] rfl rfl (by kernel_rfl) (fun _ _ _ h => h) (Or.inl ⟨by rfl, ?_⟩) hHeld ?_ ?_
  rotate_left
  · rintro w' ⟨s0, s1⟩
    go_simp
    with_reducible rfl
  rotate_left
  · simp only [Act.put, List.setIfInBounds_toArray, List.set_cons_zero, List.set_cons_succ, i64_w, i32_w]
    rfl
  refine two_ (i := 0) (j := 2) (Ni := some 3) (Nj := some 5) #[true, true, false, false, true, true, false, false] #[false, true, true, false, true, true, false, false] rfl rfl rfl rfl (by kernel_rfl) (by decide) (by decide) (fun K hK => ?_) (fun K hK => ?_)
  ·
    obtain ⟨gm, hgm⟩ : ∃ g : Nat, g = wr.heap.size := ⟨_, rfl⟩
    refine value_ (v := .pointer (some ⟨gm, 0, none⟩)) (w1 := wr.drew.alloc (Obj.cells #[Value.bool false, Value.slice none 0 0] 66)) (by rfl) rfl (by rw [hgm]; rfl) ?_
    have hb1 := low (wr.drew) (Obj.cells #[Value.bool false, Value.slice none 0 0] 66)
    have zx1 : Box (wr.drew.alloc (Obj.cells #[Value.bool false, Value.slice none 0 0] 66)) gm [.bool false, .slice none 0 0] := Box.new2 _ _ _ _ _ hgm.symm
    have zb1 : Blk (wr.drew.alloc (Obj.cells #[Value.bool false, Value.slice none 0 0] 66)) gm := Blk.new _ _ _ _ hgm.symm
    have hgs : wr.heap.size < (wr.drew.alloc (Obj.cells #[Value.bool false, Value.slice none 0 0] 66)).heap.size := by simp
    have HGM := Aside0.mk hgm
    clear hgm
    generalize wr.drew.alloc (Obj.cells #[Value.bool false, Value.slice none 0 0] 66) = w1 at *
    have sz1 : wr.heap.size ≤ w1.heap.size := hb1.size
    have ax1 := ax0.below hb1
    have rx1 := rx0.below hb1
    replace big := big.below hb1
    refine hK.out _ _ ⟨ax1.c0, ax1.c1⟩ (fun hHeld => ?_)
    clear hK K
    refine norm_ (a' := ?_) ?_ ?_
    rotate_left
    · show Act.put _ (some 3) _ = _
      simp only [Act.put, List.setIfInBounds_toArray, List.set_cons_zero, List.set_cons_succ, i64_w, i32_w]
      rfl
    refine one_ (i := 2) (N := some 5) #[true, true, true, false, true, true, false, false] rfl rfl (by kernel_rfl) (by decide) (fun K hK => ?_)
    refine goes_ Try.func39 (by kernel_rfl) rfl #[dv g x] (by rfl) rfl rfl (by (try simp only [List.map_toArray, List.map_cons, List.map_nil]); first | done | rfl) ?_
    refine (getValue_n _ _ _).mono ?_
    rintro e w2 ⟨rfl, hb2⟩
    refine ⟨_, rfl, ?_⟩
    have sz2 : w1.heap.size ≤ w2.heap.size := hb2.size
    have zx2 := zx1.below hb2
    have zb2 := zb1.below hb2
    have ax2 := ax1.below hb2
    have rx2 := rx1.below hb2
    replace big := big.below hb2
    refine hK.out _ _ ⟨ax2.c0, ax2.c1⟩ (fun hHeld => ?_)
    clear hK K
    refine norm_ (a' := ?_) ?_ ?_
    rotate_left
    · show Act.put _ (some 5) _ = _
      simp only [Act.put, List.setIfInBounds_toArray, List.set_cons_zero, List.set_cons_succ, i64_w, i32_w]
      rfl
    refine one_ (i := 3) (N := some 6) #[true, true, true, true, true, true, false, false] rfl rfl (by kernel_rfl) (by decide) (fun K hK => ?_)
    refine goes_ Try.func43 (by kernel_rfl) rfl #[.pointer (some ⟨gm, 0, none⟩), .pointer (some ⟨g, 0, none⟩)] (by rfl) rfl rfl (by (try simp only [List.map_toArray, List.map_cons, List.map_nil]); first | done | rfl) ?_
    refine (ISet_k gm g b n ok _ zx2 zb2 big (by have := HGM.out; omega) HN.out).mono ?_
    rintro e w3 ⟨rfl, hbig, hb3⟩
    refine ⟨_, rfl, ?_⟩
    have sz3 : w2.heap.size ≤ w3.heap.size := hb3.size
    have ax3 := Box.kept ax2 hb3 (by have := HGM.out; omega)
    have rx3 := Box.kept rx2 hb3 (by have := HGM.out; omega)
    refine hK.out _ _ ⟨ax3.c0, ax3.c1⟩ (fun hHeld => ?_)
    clear hK K
    refine norm_ (a' := ?_) ?_ ?_
    rotate_left
    · show Act.put _ (some 6) _ = _
      simp only [Act.put, List.setIfInBounds_toArray, List.set_cons_zero, List.set_cons_succ, i64_w, i32_w]
      rfl
    refine pure_ (i := 6) (N := some 9) (v := ?_) (a' := ?_) #[true, true, true, true, true, true, true, false] rfl rfl (by kernel_rfl) (fun _ _ _ h => h) (Or.inl ⟨by rfl, ?_⟩) ?_ ?_
    rotate_left
    · intro w'
      go_simp
      with_reducible rfl
    rotate_left
    · simp only [Act.put, List.setIfInBounds_toArray, List.set_cons_zero, List.set_cons_succ, i64_w, i32_w]
      rfl
    have krx30 := rx3.c0
    have krx31 := rx3.c1
    have qrx30 := rx3.f0
    have qrx31 := rx3.f1
    refine last_ (i := 7) (N := none) #[true, true, true, true, true, true, true, true] rfl rfl (by kernel_rfl) (by decide) (fun K hK => ?_)
    refine skip_ (w1 := ?_) (by rfl) rfl ?_ ?_
    rotate_left
    · go_simp
      rfl
    refine hK.out _ _ ?_
    clear hK K
    refine done_ (by kernel_rfl) ?_
    go_wp2
    refine bodyPost_ret (v := dv gm x) (by simp [results, Try.results25, go_sem, krx30, krx31]) rfl ?_
    have hgm := HGM.out
    exact ⟨_, rfl, ⟨_, rfl, _, (hbig.far (p := ⟨w.heap.size + 1, 0, none⟩) (fun k hk => by have hk' : _ ≤ k := hk; show k ≠ w.heap.size + 1; omega) (by show _ ≠ w.heap.size + 1; omega) _).far (p := ⟨w.heap.size + 1, 1, none⟩) (fun k hk => by have hk' : _ ≤ k := hk; show k ≠ w.heap.size + 1; omega) (by show _ ≠ w.heap.size + 1; omega) _⟩, below2 (hb3.below (below_step (below_step hB0 hb1) hb2) (by omega)) (by omega) _ _⟩
  ·
    refine goes_ Try.func39 (by kernel_rfl) rfl #[dv g x] (by rfl) rfl rfl (by (try simp only [List.map_toArray, List.map_cons, List.map_nil]); first | done | rfl) ?_
    refine (getValue_n _ _ _).mono ?_
    rintro e w1 ⟨rfl, hb1⟩
    refine ⟨_, rfl, ?_⟩
    have sz1 : wr.heap.size ≤ w1.heap.size := hb1.size
    have ax1 := ax0.below hb1
    have rx1 := rx0.below hb1
    replace big := big.below hb1
    refine hK.out _ _ ⟨ax1.c0, ax1.c1⟩ (fun hHeld => ?_)
    clear hK K
    refine norm_ (a' := ?_) ?_ ?_
    rotate_left
    · show Act.put _ (some 5) _ = _
      simp only [Act.put, List.setIfInBounds_toArray, List.set_cons_zero, List.set_cons_succ, i64_w, i32_w]
      rfl
    refine one_ (i := 0) (N := some 3) #[true, true, true, false, true, true, false, false] rfl rfl (by kernel_rfl) (by decide) (fun K hK => ?_)
    obtain ⟨gm, hgm⟩ : ∃ g : Nat, g = w1.heap.size := ⟨_, rfl⟩
    refine value_ (v := .pointer (some ⟨gm, 0, none⟩)) (w1 := w1.alloc (Obj.cells #[Value.bool false, Value.slice none 0 0] 66)) (by rfl) rfl (by rw [hgm]; rfl) ?_
    have hb2 := low (w1) (Obj.cells #[Value.bool false, Value.slice none 0 0] 66)
    have zx2 : Box (w1.alloc (Obj.cells #[Value.bool false, Value.slice none 0 0] 66)) gm [.bool false, .slice none 0 0] := Box.new2 _ _ _ _ _ hgm.symm
    have zb2 : Blk (w1.alloc (Obj.cells #[Value.bool false, Value.slice none 0 0] 66)) gm := Blk.new _ _ _ _ hgm.symm
    have hgs : w1.heap.size < (w1.alloc (Obj.cells #[Value.bool false, Value.slice none 0 0] 66)).heap.size := by simp
    have HGM := Aside0.mk hgm
    clear hgm
    generalize w1.alloc (Obj.cells #[Value.bool false, Value.slice none 0 0] 66) = w2 at *
    have sz2 : w1.heap.size ≤ w2.heap.size := hb2.size
    have ax2 := ax1.below hb2
    have rx2 := rx1.below hb2
    replace big := big.below hb2
    refine hK.out _ _ ⟨ax2.c0, ax2.c1⟩ (fun hHeld => ?_)
    clear hK K
    refine norm_ (a' := ?_) ?_ ?_
    rotate_left
    · show Act.put _ (some 3) _ = _
      simp only [Act.put, List.setIfInBounds_toArray, List.set_cons_zero, List.set_cons_succ, i64_w, i32_w]
      rfl
    refine one_ (i := 3) (N := some 6) #[true, true, true, true, true, true, false, false] rfl rfl (by kernel_rfl) (by decide) (fun K hK => ?_)
    refine goes_ Try.func43 (by kernel_rfl) rfl #[.pointer (some ⟨gm, 0, none⟩), .pointer (some ⟨g, 0, none⟩)] (by rfl) rfl rfl (by (try simp only [List.map_toArray, List.map_cons, List.map_nil]); first | done | rfl) ?_
    refine (ISet_k gm g b n ok _ zx2 zb2 big (by have := HGM.out; omega) HN.out).mono ?_
    rintro e w3 ⟨rfl, hbig, hb3⟩
    refine ⟨_, rfl, ?_⟩
    have sz3 : w2.heap.size ≤ w3.heap.size := hb3.size
    have ax3 := Box.kept ax2 hb3 (by have := HGM.out; omega)
    have rx3 := Box.kept rx2 hb3 (by have := HGM.out; omega)
    refine hK.out _ _ ⟨ax3.c0, ax3.c1⟩ (fun hHeld => ?_)
    clear hK K
    refine norm_ (a' := ?_) ?_ ?_
    rotate_left
    · show Act.put _ (some 6) _ = _
      simp only [Act.put, List.setIfInBounds_toArray, List.set_cons_zero, List.set_cons_succ, i64_w, i32_w]
      rfl
    refine pure_ (i := 6) (N := some 9) (v := ?_) (a' := ?_) #[true, true, true, true, true, true, true, false] rfl rfl (by kernel_rfl) (fun _ _ _ h => h) (Or.inl ⟨by rfl, ?_⟩) ?_ ?_
    rotate_left
    · intro w'
      go_simp
      with_reducible rfl
    rotate_left
    · simp only [Act.put, List.setIfInBounds_toArray, List.set_cons_zero, List.set_cons_succ, i64_w, i32_w]
      rfl
    have krx30 := rx3.c0
    have krx31 := rx3.c1
    have qrx30 := rx3.f0
    have qrx31 := rx3.f1
    refine last_ (i := 7) (N := none) #[true, true, true, true, true, true, true, true] rfl rfl (by kernel_rfl) (by decide) (fun K hK => ?_)
    refine skip_ (w1 := ?_) (by rfl) rfl ?_ ?_
    rotate_left
    · go_simp
      rfl
    refine hK.out _ _ ?_
    clear hK K
    refine done_ (by kernel_rfl) ?_
    go_wp2
    refine bodyPost_ret (v := dv gm x) (by simp [results, Try.results25, go_sem, krx30, krx31]) rfl ?_
    have hgm := HGM.out
    exact ⟨_, rfl, ⟨_, rfl, _, (hbig.far (p := ⟨w.heap.size + 1, 0, none⟩) (fun k hk => by have hk' : _ ≤ k := hk; show k ≠ w.heap.size + 1; omega) (by show _ ≠ w.heap.size + 1; omega) _).far (p := ⟨w.heap.size + 1, 1, none⟩) (fun k hk => by have hk' : _ ≤ k := hk; show k ≠ w.heap.size + 1; omega) (by show _ ≠ w.heap.size + 1; omega) _⟩, below2 (hb3.below (below_step (below_step hB0 hb1) hb2) (by omega)) (by omega) _ _⟩
end Go.Proofs.Yteohmbannpbokaa.DecWalk

set_option linter.unusedVariables false
set_option linter.unusedSimpArgs false
namespace Go.Proofs.Yteohmbannpbokaa.DecWalk
open Go.RowKit Go.Proofs.YteohmbannpbokaaW.PrintWords Go.Proofs.YteohmbannpbokaaW.PrintLast Go.Proofs.YteohmbannpbokaaW.PrintMore Go.Proofs.Yteohmbannpbokaa.SpecWalk Go.Proofs.Yteohmbannpbokaa.StrLaw Go.Proofs.Yteohmbannpbokaa.TextLaw Go.Proofs.Yteohmbannpbokaa.TextWalk Go.Proofs.Yteohmbannpbokaa.BigLaw Go.Proofs.Yteohmbannpbokaa.BigWalk

theorem catch_copy (x y : Value) (w : World) :
    CallsD Try.prog 24 #[x, y] .returning w fun e u' w' => e = .returned (.tuple #[]) ∧ u' = .returning ∧ w' = w := by
  refine callsD_of_wpS Try.func24 rfl fun c₀ cs hu => ?_
  apply wpS_seq
  apply wpS_region
  simp [wpOpsS, go_sem, recoverD, hu, Try.ntmps24, Exit.thenS]
  refine wpS_cond (t := false) (by simp [Act.eval, Array.replicate]) ?_
  simp only [Bool.false_eq_true, if_false]
  refine wpS_of_wp (wp_skip ?_)
  cases c₀
  simp_all [bodyPostS, results, Try.results24]

set_option maxHeartbeats 4000000 in
/-- A decimal that is one goes through, with no fault. -/
theorem door_copy (b b2 : Bool) (N : Nat) (x : Int) (w : World) (hsg : sgn b N = b) (hsg2 : sgn b2 N = b2) (hn : nd N ≤ 400) (hN : (W64.digs N).length ≤ 10000) (h0 : -400 ≤ x) (h1 : x ≤ 400)
    (ht : ∀ g ok w, Big w ok g b N → Calls Try.prog 25 #[dv g x] w fun r w' => ∃ v, r = .returned v ∧ Dnew w w' v x b2 N ∧ Below w.heap.size w w') :
    Calls Try.prog 9 #[.agg #[.string (stext b N), .int .i64 x]] w fun e w' => e = .returned (.tuple #[.agg #[.string (stext b2 N), .int .i64 x], .int .i64 0]) ∧ Below w.heap.size w w' := by
  have hmf : ∀ (fn : Fn) (first cap : Array Value) (w : World), (Instr.makeFunc fn first cap).run Try.prog w = .ok (.func fn first cap) w := fun _ _ _ _ => rfl
  have HF := Aside0.mk (fun w => made_n b N x w hsg hn h0 h1)
  have HD := Aside0.mk (fun g ok w h => dec_n g b2 N x ok w h hsg2 hN (by omega) (by omega))
  have HT := Aside0.mk ht
  generalize stext b N = s at *
  generalize stext b2 N = s2 at *
  clear ht hsg hsg2 hn hN
  go_enter_defers Try.func9, Try.ntmps9
  go_wp2_with fail
  have bx0 : Box (((w.alloc (Obj.cells #[Value.string s, Value.int .i64 x] 23)).alloc (Obj.cells #[Value.string ⟨#[]⟩, Value.int .i64 0] 23)).alloc (Obj.cells #[Value.int .i64 0] 3)) w.heap.size [.string s, .int .i64 x] := (((Box.new2 w _ _ _ _ (by simp)).alloc _).alloc _)
  have ox0 : Box (((w.alloc (Obj.cells #[Value.string s, Value.int .i64 x] 23)).alloc (Obj.cells #[Value.string ⟨#[]⟩, Value.int .i64 0] 23)).alloc (Obj.cells #[Value.int .i64 0] 3)) (w.heap.size + 1) [.string ⟨#[]⟩, .int .i64 0] := ((Box.new2 (w.alloc (Obj.cells #[Value.string s, Value.int .i64 x] 23)) _ _ _ _ (by simp)).alloc _)
  have ex0 : Box (((w.alloc (Obj.cells #[Value.string s, Value.int .i64 x] 23)).alloc (Obj.cells #[Value.string ⟨#[]⟩, Value.int .i64 0] 23)).alloc (Obj.cells #[Value.int .i64 0] 3)) (w.heap.size + 1 + 1) [.int .i64 0] := (Box.new1 ((w.alloc (Obj.cells #[Value.string s, Value.int .i64 x] 23)).alloc (Obj.cells #[Value.string ⟨#[]⟩, Value.int .i64 0] 23)) _ _ _ (by simp))
  have hB0 : Below w.heap.size w (((w.alloc (Obj.cells #[Value.string s, Value.int .i64 x] 23)).alloc (Obj.cells #[Value.string ⟨#[]⟩, Value.int .i64 0] 23)).alloc (Obj.cells #[Value.int .i64 0] 3)) := ((((Below.refl _ _).alloc (Nat.le_refl _) _).alloc (by simp) _).alloc (by simp; omega) _)
  have kbx00 := bx0.c0; have kbx01 := bx0.c1; have qbx00 := bx0.f0; have qbx01 := bx0.f1; have kox00 := ox0.c0; have kox01 := ox0.c1; have qox00 := ox0.f0; have qox01 := ox0.f1; have kex00 := ex0.c0; have qex00 := ex0.f0
  go_wp2_with (first | (go_at_call 17; (with_reducible refine (HF.out _).mono ?_); rintro e w1 ⟨v, rfl, hd, hb1⟩; have sz1 := hb1.size; (try simp at sz1); (with_reducible have bx1 := bx0.below hb1); have kbx10 := bx1.c0; have kbx11 := bx1.c1; have qbx10 := bx1.f0; have qbx11 := bx1.f1; (with_reducible have ox1 := ox0.below hb1); have kox10 := ox1.c0; have kox11 := ox1.c1; have qox10 := ox1.f0; have qox11 := ox1.f1; (with_reducible have ex1 := ex0.below hb1); have kex10 := ex1.c0; have qex10 := ex1.f0; obtain ⟨g, rfl, ok, hbig⟩ := hd.out; have HBG := Aside0.mk hbig; clear hd hbig))
  have xy1 : Box (w1.alloc (Obj.cells #[.pointer (some ⟨g, 0, none⟩), .int .i32 x] 44)) w1.heap.size [.pointer (some ⟨g, 0, none⟩), .int .i32 x] := Box.new2 _ _ _ _ _ rfl
  have oy1 := ox1.alloc (Obj.cells #[.pointer (some ⟨g, 0, none⟩), .int .i32 x] 44)
  have ey1 := ex1.alloc (Obj.cells #[.pointer (some ⟨g, 0, none⟩), .int .i32 x] 44)
  have hA1 : Below w1.heap.size w1 (w1.alloc (Obj.cells #[.pointer (some ⟨g, 0, none⟩), .int .i32 x] 44)) := (Below.refl _ _).alloc (Nat.le_refl _) _
  have kxy10 := xy1.c0; have kxy11 := xy1.c1; have qxy10 := xy1.f0; have qxy11 := xy1.f1; have koy10 := oy1.c0; have koy11 := oy1.c1; have qoy10 := oy1.f0; have qoy11 := oy1.f1; have key10 := ey1.c0; have qey10 := ey1.f0
  go_wp2_with (first | (go_at_call 25; (with_reducible refine (HT.out _ _ _ (HBG.out.below hA1)).mono ?_); rintro e w2 ⟨v2, rfl, hd2, hb2⟩; have sz2 := hb2.size; (try simp at sz2); (with_reducible have xy2 := xy1.below hb2); have kxy20 := xy2.c0; have kxy21 := xy2.c1; have qxy20 := xy2.f0; have qxy21 := xy2.f1; (with_reducible have oy2 := oy1.below hb2); have koy20 := oy2.c0; have koy21 := oy2.c1; have qoy20 := oy2.f0; have qoy21 := oy2.f1; (with_reducible have ey2 := ey1.below hb2); have key20 := ey2.c0; have qey20 := ey2.f0; obtain ⟨g2, rfl, ok2, hbig2⟩ := hd2.out; have HBG2 := Aside0.mk hbig2; clear hd2 hbig2) | (go_at_call 18; (with_reducible refine (HD.out _ _ _ HBG2.out).mono ?_); rintro e w3 ⟨rfl, hb3⟩; have sz3 := hb3.size; (try simp at sz3); (with_reducible have xy3 := xy2.below hb3); have kxy30 := xy3.c0; have kxy31 := xy3.c1; have qxy30 := xy3.f0; have qxy31 := xy3.f1; (with_reducible have oy3 := oy2.below hb3); have koy30 := oy3.c0; have koy31 := oy3.c1; have qoy30 := oy3.f0; have qoy31 := oy3.f1; (with_reducible have ey3 := ey2.below hb3); have key30 := ey3.c0; have qey30 := ey3.f0))
  refine leaves_cons (f := 24) (args := #[.pointer (some ⟨w.heap.size + 1, 0, none⟩), .pointer (some ⟨w.heap.size + 1 + 1, 0, none⟩)]) (by simp) (by simp [go_sem]) ?_
  refine (catch_copy _ _ _).mono ?_
  rintro e u' w'' ⟨rfl, rfl, rfl⟩
  simp [Leaves, settle, results, Try.results9, go_sem, koy30, koy31, key30]
  exact (below2 (below_step (below_step (below_step (below_step hB0 hb1) hA1) hb2) hb3) (by omega) _ _).setCell (by show _ ≤ _ + 1 + 1; omega) _
end Go.Proofs.Yteohmbannpbokaa.DecWalk

set_option linter.unusedVariables false
set_option linter.unusedSimpArgs false
namespace Go.Proofs.Yteohmbannpbokaa.DecWalk
open Go.RowKit Go.Proofs.YteohmbannpbokaaW.PrintWords Go.Proofs.YteohmbannpbokaaW.PrintLast Go.Proofs.YteohmbannpbokaaW.PrintMore Go.Proofs.Yteohmbannpbokaa.SpecWalk Go.Proofs.Yteohmbannpbokaa.StrLaw Go.Proofs.Yteohmbannpbokaa.TextLaw Go.Proofs.Yteohmbannpbokaa.TextWalk Go.Proofs.Yteohmbannpbokaa.BigLaw Go.Proofs.Yteohmbannpbokaa.BigWalk

theorem catch_sign (x y : Value) (w : World) :
    CallsD Try.prog 22 #[x, y] .returning w fun e u' w' => e = .returned (.tuple #[]) ∧ u' = .returning ∧ w' = w := by
  refine callsD_of_wpS Try.func22 rfl fun c₀ cs hu => ?_
  apply wpS_seq
  apply wpS_region
  simp [wpOpsS, go_sem, recoverD, hu, Try.ntmps22, Exit.thenS]
  refine wpS_cond (t := false) (by simp [Act.eval, Array.replicate]) ?_
  simp only [Bool.false_eq_true, if_false]
  refine wpS_of_wp (wp_skip ?_)
  cases c₀
  simp_all [bodyPostS, results, Try.results22]

set_option maxHeartbeats 4000000 in
theorem door_sign (b : Bool) (N : Nat) (x : Int) (w : World) (hsg : sgn b N = b) (hn : nd N ≤ 400) (h0 : -400 ≤ x) (h1 : x ≤ 400) :
    Calls Try.prog 8 #[.agg #[.string (stext b N), .int .i64 x]] w fun e w' => e = .returned (.tuple #[.int .i64 (sgv b N), .int .i64 0]) ∧ Below w.heap.size w w' := by
  have hmf : ∀ (fn : Fn) (first cap : Array Value) (w : World), (Instr.makeFunc fn first cap).run Try.prog w = .ok (.func fn first cap) w := fun _ _ _ _ => rfl
  have HF := Aside0.mk (fun w => made_n b N x w hsg hn h0 h1)
  have HT := Aside0.mk (fun g ok w h => Sign_n g b N x ok w h)
  generalize stext b N = s at *
  generalize sgv b N = s2 at *
  clear hsg hn
  go_enter_defers Try.func8, Try.ntmps8
  go_wp2_with fail
  have bx0 : Box (((w.alloc (Obj.cells #[Value.string s, Value.int .i64 x] 23)).alloc (Obj.cells #[Value.int .i64 0] 3)).alloc (Obj.cells #[Value.int .i64 0] 3)) w.heap.size [.string s, .int .i64 x] := (((Box.new2 w _ _ _ _ (by simp)).alloc _).alloc _)
  have ox0 : Box (((w.alloc (Obj.cells #[Value.string s, Value.int .i64 x] 23)).alloc (Obj.cells #[Value.int .i64 0] 3)).alloc (Obj.cells #[Value.int .i64 0] 3)) (w.heap.size + 1) [.int .i64 0] := ((Box.new1 (w.alloc (Obj.cells #[Value.string s, Value.int .i64 x] 23)) _ _ _ (by simp)).alloc _)
  have ex0 : Box (((w.alloc (Obj.cells #[Value.string s, Value.int .i64 x] 23)).alloc (Obj.cells #[Value.int .i64 0] 3)).alloc (Obj.cells #[Value.int .i64 0] 3)) (w.heap.size + 1 + 1) [.int .i64 0] := (Box.new1 ((w.alloc (Obj.cells #[Value.string s, Value.int .i64 x] 23)).alloc (Obj.cells #[Value.int .i64 0] 3)) _ _ _ (by simp))
  have hB0 : Below w.heap.size w (((w.alloc (Obj.cells #[Value.string s, Value.int .i64 x] 23)).alloc (Obj.cells #[Value.int .i64 0] 3)).alloc (Obj.cells #[Value.int .i64 0] 3)) := ((((Below.refl _ _).alloc (Nat.le_refl _) _).alloc (by simp) _).alloc (by simp; omega) _)
  have kbx00 := bx0.c0; have kbx01 := bx0.c1; have qbx00 := bx0.f0; have qbx01 := bx0.f1; have kox00 := ox0.c0; have qox00 := ox0.f0; have kex00 := ex0.c0; have qex00 := ex0.f0
  go_wp2_with (first | (go_at_call 17; (with_reducible refine (HF.out _).mono ?_); rintro e w1 ⟨v, rfl, hd, hb1⟩; have sz1 := hb1.size; (try simp at sz1); (with_reducible have bx1 := bx0.below hb1); have kbx10 := bx1.c0; have kbx11 := bx1.c1; have qbx10 := bx1.f0; have qbx11 := bx1.f1; (with_reducible have ox1 := ox0.below hb1); have kox10 := ox1.c0; have qox10 := ox1.f0; (with_reducible have ex1 := ex0.below hb1); have kex10 := ex1.c0; have qex10 := ex1.f0; obtain ⟨g, rfl, ok, hbig⟩ := hd.out; have HBG := Aside0.mk hbig; clear hd hbig))
  have xy1 : Box (w1.alloc (Obj.cells #[.pointer (some ⟨g, 0, none⟩), .int .i32 x] 44)) w1.heap.size [.pointer (some ⟨g, 0, none⟩), .int .i32 x] := Box.new2 _ _ _ _ _ rfl
  have oy1 := ox1.alloc (Obj.cells #[.pointer (some ⟨g, 0, none⟩), .int .i32 x] 44)
  have ey1 := ex1.alloc (Obj.cells #[.pointer (some ⟨g, 0, none⟩), .int .i32 x] 44)
  have hA1 : Below w1.heap.size w1 (w1.alloc (Obj.cells #[.pointer (some ⟨g, 0, none⟩), .int .i32 x] 44)) := (Below.refl _ _).alloc (Nat.le_refl _) _
  have kxy10 := xy1.c0; have kxy11 := xy1.c1; have qxy10 := xy1.f0; have qxy11 := xy1.f1; have koy10 := oy1.c0; have qoy10 := oy1.f0; have key10 := ey1.c0; have qey10 := ey1.f0
  go_wp2_with (first | (go_at_call 23; (with_reducible refine (HT.out _ _ _ (HBG.out.below hA1)).mono ?_); rintro e w2 ⟨rfl, hb2⟩; have sz2 := hb2.size; (try simp at sz2); (with_reducible have xy2 := xy1.below hb2); have kxy20 := xy2.c0; have kxy21 := xy2.c1; have qxy20 := xy2.f0; have qxy21 := xy2.f1; (with_reducible have oy2 := oy1.below hb2); have koy20 := oy2.c0; have qoy20 := oy2.f0; (with_reducible have ey2 := ey1.below hb2); have key20 := ey2.c0; have qey20 := ey2.f0))
  refine leaves_cons (f := 22) (args := #[.pointer (some ⟨w.heap.size + 1, 0, none⟩), .pointer (some ⟨w.heap.size + 1 + 1, 0, none⟩)]) (by simp) (by simp [go_sem]) ?_
  refine (catch_sign _ _ _).mono ?_
  rintro e u' w'' ⟨rfl, rfl, rfl⟩
  simp [Leaves, settle, results, Try.results8, go_sem, koy20, key20]
  exact ((below_step (below_step (below_step hB0 hb1) hA1) hb2).setCell (by show _ ≤ _ + 1; omega) _).setCell (by show _ ≤ _ + 1 + 1; omega) _
theorem len_of_ten (k N : Nat) (h : N < 10 ^ k) : (W64.digs N).length ≤ k :=
  W64.len_digs_le (Nat.lt_of_lt_of_le h (Nat.pow_le_pow_left (by decide) k))
theorem len_of_nd {N : Nat} (h : nd N ≤ 400) : (W64.digs N).length ≤ 10000 := by
  have := len_of_ten (nd N) N (lt_of_nd N)
  omega
theorem neg_n (b : Bool) (N : Nat) (x : Int) (w : World) (hsg : sgn b N = b) (hn : nd N ≤ 400) (h0 : -400 ≤ x) (h1 : x ≤ 400) :
    Calls Try.prog 6 #[.agg #[.string (stext b N), .int .i64 x]] w fun e w' => e = .returned (.tuple #[.agg #[.string (stext (sgn (!b) N) N), .int .i64 x], .int .i64 0]) ∧ Below w.heap.size w w' :=
  door_neg b (sgn (!b) N) N x w hsg (by unfold sgn; cases b <;> simp) hn (len_of_nd hn) h0 h1 (fun g ok w h => DNeg_n g b N x ok w h (by have := len_of_nd hn; omega))
theorem abs_n (b : Bool) (N : Nat) (x : Int) (w : World) (hsg : sgn b N = b) (hn : nd N ≤ 400) (h0 : -400 ≤ x) (h1 : x ≤ 400) :
    Calls Try.prog 7 #[.agg #[.string (stext b N), .int .i64 x]] w fun e w' => e = .returned (.tuple #[.agg #[.string (stext false N), .int .i64 x], .int .i64 0]) ∧ Below w.heap.size w w' :=
  door_abs b false N x w hsg rfl hn (len_of_nd hn) h0 h1 (fun g ok w h => by
    cases b
    · exact DAbs_plain g N x ok w h
    · exact DAbs_minus g N x ok w h hsg (by have := len_of_nd hn; omega))
theorem copy_n (b : Bool) (N : Nat) (x : Int) (w : World) (hsg : sgn b N = b) (hn : nd N ≤ 400) (h0 : -400 ≤ x) (h1 : x ≤ 400) :
    Calls Try.prog 9 #[.agg #[.string (stext b N), .int .i64 x]] w fun e w' => e = .returned (.tuple #[.agg #[.string (stext b N), .int .i64 x], .int .i64 0]) ∧ Below w.heap.size w w' :=
  door_copy b b N x w hsg hsg hn (len_of_nd hn) h0 h1 (fun g ok w h => DCopy_n g b N x ok w h (by have := len_of_nd hn; omega))
end Go.Proofs.Yteohmbannpbokaa.DecWalk
