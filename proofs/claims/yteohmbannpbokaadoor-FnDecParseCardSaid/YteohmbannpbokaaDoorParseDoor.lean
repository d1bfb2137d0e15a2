/-
  The thin package's door to a decimal of a text; where nothing panics its deferred closure does nothing.
-/
import Derived.Test.YteohmbannpbokaaDoorParseWalk2
import Derived.Test.YteohmbannpbokaaDoorDec
import Derived.Defers
import Derived.Recover
set_option linter.unusedVariables false
set_option linter.unusedSimpArgs false
namespace Go.Proofs.YteohmbannpbokaaDoor.ParseWalk
open Go.RowKit Go.Proofs.YteohmbannpbokaaDoorW.PrintWords Go.Proofs.YteohmbannpbokaaDoorW.PrintLast Go.Proofs.YteohmbannpbokaaDoorW.PrintMore Go.Proofs.YteohmbannpbokaaDoor.SpecWalk Go.Proofs.YteohmbannpbokaaDoor.BigWalk Go.Proofs.YteohmbannpbokaaDoor.WordWalk Go.Proofs.YteohmbannpbokaaDoor.TextLaw Go.Proofs.YteohmbannpbokaaDoor.ScanWalk Go.Proofs.YteohmbannpbokaaDoor.ParseLaw Go.Proofs.YteohmbannpbokaaDoor.DecWalk

theorem catch_parse (x y : Value) (w : World) :
    CallsD Tryd.prog 12 #[x, y] .returning w fun e u' w' => e = .returned (.tuple #[]) ∧ u' = .returning ∧ w' = w := by
  refine callsD_of_wpS Tryd.func12 rfl fun c₀ cs hu => ?_
  apply wpS_seq
  apply wpS_region
  simp [wpOpsS, go_sem, recoverD, hu, Tryd.ntmps12, Exit.thenS]
  refine wpS_cond (t := false) (by simp [Act.eval, Array.replicate]) ?_
  simp only [Bool.false_eq_true, if_false]
  refine wpS_of_wp (wp_skip ?_)
  cases c₀
  simp_all [bodyPostS, results, Tryd.results12]
theorem Parsed.len {t : ByteArray} {sg m : Nat} {neg : Bool} {pt x : Int} (h : Parsed t sg m neg pt x) : (W64.digs (dskip t pt sg (m - sg))).length ≤ 10000 := by
  have hp := h.pos
  have hl := h.le2
  have hs := h.small
  have h1 := dskip_lt h.dig (m - sg) (by omega)
  have h2 : dcnt pt sg (m - sg) ≤ m - sg := by
    rcases h.pnt with h | h
    · rw [dcnt_out _ (by omega)]; exact Nat.le_refl _
    · have := dcnt_in (pt := pt) (a := sg) (m - sg) h.1 (by omega); omega
  have h3 := len_ten _ _ h1
  omega
set_option maxRecDepth 100000 in
set_option maxHeartbeats 4000000 in
theorem DecParse_n (t : ByteArray) (sg m N : Nat) (neg : Bool) (pt x : Int) (p : Addr) (w : World) (h : Parsed t sg m neg pt x) (hN : N = dskip t pt sg (m - sg)) (hE : Eof w p) (hM : w.cell? ⟨0, 0, none⟩ = some (.int .i64 10000)) (X : Int) (hX : X = x + if pt = -1 then 0 else pt + 1 - m) (hX0 : -400 ≤ X ∧ X ≤ 400) :
    Calls Tryd.prog 6 #[.string t] w fun e w' => e = .returned (.tuple #[.agg #[.string (stext (SpecWalk.sgn neg N) N), .int .i64 X], .int .i64 0]) ∧ Below w.heap.size w w' := by
  have hmf : ∀ (fn : Fn) (first cap : Array Value) (w : World), (Instr.makeFunc fn first cap).run Tryd.prog w = .ok (.func fn first cap) w := fun _ _ _ _ => rfl
  have hlen := h.len
  rw [← hN] at hlen
  have HF := Aside0.mk (fun (w1 : World) (hb : Below w.heap.size w w1) => NFS_n t sg m neg pt x p w1 h (hE.below hb) (pw_cell_below hb hM) X hX hX0)
  rw [← hN] at HF
  have HD := Aside0.mk (fun g ok w hb => dec_n g (SpecWalk.sgn neg N) N X ok w hb (sgn_own _ _) hlen (by omega) (by omega))
  have hts : (t.size : Int) ≤ 300 := by have := h.small; omega
  generalize stext (SpecWalk.sgn neg N) N = s2 at *
  clear h hN hE hM hX hX0 hlen
  go_enter_defers Tryd.func6, Tryd.ntmps6
  go_wp2_with fail
  have ox0 : Box ((w.alloc (Obj.cells #[Value.string ⟨#[]⟩, Value.int .i64 0] 32)).alloc (Obj.cells #[Value.int .i64 0] 3)) w.heap.size [.string ⟨#[]⟩, .int .i64 0] := ((Box.new2 w _ _ _ _ (by simp)).alloc _)
  have ex0 : Box ((w.alloc (Obj.cells #[Value.string ⟨#[]⟩, Value.int .i64 0] 32)).alloc (Obj.cells #[Value.int .i64 0] 3)) (w.heap.size + 1) [.int .i64 0] := (Box.new1 (w.alloc (Obj.cells #[Value.string ⟨#[]⟩, Value.int .i64 0] 32)) _ _ _ (by simp))
  have hB0 : Below w.heap.size w ((w.alloc (Obj.cells #[Value.string ⟨#[]⟩, Value.int .i64 0] 32)).alloc (Obj.cells #[Value.int .i64 0] 3)) := (((Below.refl _ _).alloc (Nat.le_refl _) _).alloc (by simp) _)
  have kox00 := ox0.c0; have kox01 := ox0.c1; have qox00 := ox0.f0; have qox01 := ox0.f1; have kex00 := ex0.c0; have qex00 := ex0.f0
  go_wp2_with (first | (go_at_call 13; (with_reducible refine (HF.out _ hB0).mono ?_); rintro e w1 ⟨g, rfl, hge, hbig, hb1⟩; have sz1 := hb1.size; (try simp at sz1); (with_reducible have ox1 := ox0.below hb1); have kox10 := ox1.c0; have kox11 := ox1.c1; have qox10 := ox1.f0; have qox11 := ox1.f1; (with_reducible have ex1 := ex0.below hb1); have kex10 := ex1.c0; have qex10 := ex1.f0; have HBG := Aside0.mk hbig; clear hbig hge))
  have xy1 : Box (w1.alloc (Obj.cells #[.pointer (some ⟨g, 0, none⟩), .int .i32 X] 44)) w1.heap.size [.pointer (some ⟨g, 0, none⟩), .int .i32 X] := Box.new2 _ _ _ _ _ rfl
  have oy1 := ox1.alloc (Obj.cells #[.pointer (some ⟨g, 0, none⟩), .int .i32 X] 44)
  have ey1 := ex1.alloc (Obj.cells #[.pointer (some ⟨g, 0, none⟩), .int .i32 X] 44)
  have hA1 : Below w1.heap.size w1 (w1.alloc (Obj.cells #[.pointer (some ⟨g, 0, none⟩), .int .i32 X] 44)) := (Below.refl _ _).alloc (Nat.le_refl _) _
  have kxy10 := xy1.c0; have kxy11 := xy1.c1; have qxy10 := xy1.f0; have qxy11 := xy1.f1; have koy10 := oy1.c0; have koy11 := oy1.c1; have qoy10 := oy1.f0; have qoy11 := oy1.f1; have key10 := ey1.c0; have qey10 := ey1.f0
  go_wp2_with (first | (go_at_call 14; (with_reducible refine (HD.out _ _ _ (HBG.out.below hA1)).mono ?_); rintro e w2 ⟨rfl, hb2⟩; have sz2 := hb2.size; (try simp at sz2); (with_reducible have xy2 := xy1.below hb2); have kxy20 := xy2.c0; have kxy21 := xy2.c1; have qxy20 := xy2.f0; have qxy21 := xy2.f1; (with_reducible have oy2 := oy1.below hb2); have koy20 := oy2.c0; have koy21 := oy2.c1; have qoy20 := oy2.f0; have qoy21 := oy2.f1; (with_reducible have ey2 := ey1.below hb2); have key20 := ey2.c0; have qey20 := ey2.f0))
  refine leaves_cons (f := 12) (args := #[.pointer (some ⟨w.heap.size, 0, none⟩), .pointer (some ⟨w.heap.size + 1, 0, none⟩)]) (by simp) (by simp [go_sem]) ?_
  refine (catch_parse _ _ _).mono ?_
  rintro e u' w'' ⟨rfl, rfl, rfl⟩
  simp [Leaves, settle, results, Tryd.results6, go_sem, koy20, koy21, key20]
  exact (below2 (below_step (below_step (below_step hB0 hb1) hA1) hb2) (by omega) _ _).setCell (by show _ ≤ _ + 1; omega) _
end Go.Proofs.YteohmbannpbokaaDoor.ParseWalk
