/-
  The reference's look at decimals as they are written: their text, their fraction, and whether they are a number.
-/
import Derived.Test.YteohmbannpbokaaWalks1
set_option linter.unusedVariables false
set_option linter.unusedSimpArgs false
namespace Go.Proofs.Yteohmbannpbokaa.SpecWalk
open Go.RowKit Go.Proofs.YteohmbannpbokaaW.PrintWords Go.Proofs.YteohmbannpbokaaW.PrintLast Go.Proofs.YteohmbannpbokaaW.PrintMore Go.Proofs.Yteohmbannpbokaa.Digs Go.Proofs.Yteohmbannpbokaa.StrLaw Go.Proofs.Yteohmbannpbokaa.NatLaw Go.Proofs.Yteohmbannpbokaa.NatWalk Go.Proofs.Yteohmbannpbokaa.TextLaw Go.Proofs.Yteohmbannpbokaa.TextWalk

/-- A decimal number's fraction: above and below the line. -/
def fnum (n : Nat) (x : Int) : Nat := n * 10 ^ x.toNat
def fden (x : Int) : Nat := 10 ^ (-x).toNat
theorem sgn_mul10 {b : Bool} {n : Nat} (e : Nat) (h : sgn b n = b) : sgn b (n * 10 ^ e) = b := by
  have hp : 0 < 10 ^ e := Nat.pow_pos (by decide)
  cases b
  · rfl
  · simp only [sgn, Bool.true_and, decide_eq_true_iff] at h ⊢
    exact Nat.mul_pos h hp
theorem Frac_n (b : Bool) (n : Nat) (x : Int) (ok : Nat → Prop) (v : Value) (w : World) (hv : Rdv w ok v n) (hb : sgn b n = b) (hx : -1000000 ≤ x ∧ x ≤ 1000000) (hl : (digs n).length ≤ 1000000000) :
    Calls Try.prog 28 #[.agg #[.bool b, v, .int .i64 x]] w fun en w' => ∃ u d, en = .returned (.agg #[.bool b, u, d]) ∧ Rdv w' (fun k => ok k ∨ w.heap.size ≤ k) u (fnum n x) ∧ Rdv w' (fun k => w.heap.size ≤ k) d (fden x) ∧ Below w.heap.size w w' := by
  unfold fnum fden
  by_cases h : 0 ≤ x
  · obtain ⟨e, rfl⟩ := Int.eq_ofNat_of_zero_le h
    refine (frac_pos b n e ok v w hv (by omega) hl).mono ?_
    rw [sgn_mul10 e hb, show (-(e : Int)).toNat = 0 by omega, Int.toNat_natCast, Nat.pow_zero]
    rintro en w' ⟨u, d, rfl, hu, hd, hbl⟩
    exact ⟨u, d, rfl, hu.mono (fun _ => .inr), hd, hbl⟩
  · obtain ⟨e, he⟩ : ∃ e : Nat, x = -(e : Int) := ⟨(-x).toNat, by omega⟩
    subst he
    refine (frac_neg b n e ok v w hv (by omega) (by omega)).mono ?_
    rw [show (-(e : Int)).toNat = 0 by omega, Int.neg_neg, Int.toNat_natCast, Nat.pow_zero, Nat.mul_one]
    rintro en w' ⟨d, rfl, hu, hd, hbl⟩
    exact ⟨v, d, rfl, hu.mono (fun _ => .inl), hd, hbl⟩
theorem len_le_nd (n : Nat) : (digs n).length ≤ nd n := by
  have h1 := lt_of_nd n
  generalize nd n = L at *
  have h3 : (10 : Nat) ^ L ≤ 1000000000 ^ L := Nat.pow_le_pow_left (by decide) _
  exact len_digs_le (Nat.lt_of_lt_of_le h1 h3)
theorem len_nd {n : Nat} (h : nd n ≤ 100000000) : (digs n).length ≤ 100000000 := Nat.le_trans (len_le_nd n) h

set_option maxHeartbeats 4000000 in
theorem FracOf_n (b : Bool) (n : Nat) (x : Int) (w : World) (hb : sgn b n = b) (hn : nd n ≤ 100000000) (hx : -1000000 ≤ x ∧ x ≤ 1000000) :
    Calls Try.prog 15 #[.agg #[.string (stext b n), .int .i64 x]] w fun en w' => ∃ u d, en = .returned (.agg #[.bool b, u, d]) ∧ Rdv w' (fun k => w.heap.size ≤ k) u (fnum n x) ∧ Rdv w' (fun k => w.heap.size ≤ k) d (fden x) ∧ Below w.heap.size w w' := by
  have HI := Aside0.mk (fun w => DecIn_n b n x w hb hn)
  have HF := Aside0.mk (fun ok v w hv => Frac_n b n x ok v w hv hb hx (Nat.le_trans (len_nd hn) (by decide)))
  clear hb hn hx
  generalize stext b n = s at *
  generalize fnum n x = p at *
  generalize fden x = q at *
  go_enter Try.func15, Try.ntmps15
  go_wp2_with fail
  have ax0 : Box ((w.alloc (Obj.cells #[Value.string s, Value.int .i64 x] 23)).alloc (Obj.cells #[Value.bool false, Value.slice none 0 0, Value.slice none 0 0] 30)) w.heap.size [.string s, .int .i64 x] := ((Box.new2 w _ _ _ _ (by simp)).alloc _)
  have rx0 : Box ((w.alloc (Obj.cells #[Value.string s, Value.int .i64 x] 23)).alloc (Obj.cells #[Value.bool false, Value.slice none 0 0, Value.slice none 0 0] 30)) (w.heap.size + 1) [.bool false, .slice none 0 0, .slice none 0 0] := (Box.new3 (w.alloc (Obj.cells #[Value.string s, Value.int .i64 x] 23)) _ _ _ _ _ (by simp))
  have hB0 : Below w.heap.size w ((w.alloc (Obj.cells #[Value.string s, Value.int .i64 x] 23)).alloc (Obj.cells #[Value.bool false, Value.slice none 0 0, Value.slice none 0 0] 30)) := (((Below.refl _ _).alloc (Nat.le_refl _) _).alloc (by simp) _)
  have kax00 := ax0.c0; have kax01 := ax0.c1; have qax00 := ax0.f0; have qax01 := ax0.f1; have krx00 := rx0.c0; have krx01 := rx0.c1; have krx02 := rx0.c2; have qrx00 := rx0.f0; have qrx01 := rx0.f1; have qrx02 := rx0.f2
  go_wp2_with (first | (go_at_call 27; (with_reducible refine (HI.out _).mono ?_); rintro e w1 ⟨v, rfl, hv, hb1⟩; have sz1 := hb1.size; (try simp at sz1); (with_reducible have ax1 := ax0.below hb1); have kax10 := ax1.c0; have kax11 := ax1.c1; have qax10 := ax1.f0; have qax11 := ax1.f1; (with_reducible have rx1 := rx0.below hb1); have krx10 := rx1.c0; have krx11 := rx1.c1; have krx12 := rx1.c2; have qrx10 := rx1.f0; have qrx11 := rx1.f1; have qrx12 := rx1.f2; have HV := Aside0.mk (hv.mono (ok' := fun k => w.heap.size + 2 ≤ k) (fun k hk => by have hk' : _ ≤ k := hk; simp at hk'; omega)); clear hv; obtain ⟨A, c, rfl, _, _⟩ := HV.out.form) | (go_at_call 28; (with_reducible refine (HF.out _ _ _ HV.out).mono ?_); rintro e w2 ⟨u, d, rfl, hu, hd, hb2⟩; have sz2 := hb2.size; (try simp at sz2); (with_reducible have ax2 := ax1.below hb2); have kax20 := ax2.c0; have kax21 := ax2.c1; have qax20 := ax2.f0; have qax21 := ax2.f1; (with_reducible have rx2 := rx1.below hb2); have krx20 := rx2.c0; have krx21 := rx2.c1; have krx22 := rx2.c2; have qrx20 := rx2.f0; have qrx21 := rx2.f1; have qrx22 := rx2.f2; have HU := Aside0.mk (hu.mono (ok' := fun k => w.heap.size + 2 ≤ k) (fun k hk => Or.elim hk (fun h => h) (fun h => by have h' : _ ≤ k := h; omega))); have HD := Aside0.mk hd; clear hu hd; obtain ⟨A1, c1, rfl, _, _⟩ := HU.out.form; obtain ⟨A2, c2, rfl, _, _⟩ := HD.out.form))
  refine bodyPost_ret (v := .agg #[.bool b, .slice A1 (digs p).length c1, .slice A2 (digs q).length c2]) (by simp [results, Try.results15, go_sem, krx20, krx21, krx22]) rfl ?_
  exact ⟨_, _, rfl, (HU.out.far3 (g := w.heap.size + 1) (fun k hk => by have hk' : _ ≤ k := hk; omega) _ _ _).mono (fun k hk => by have hk' : _ ≤ k := hk; omega), (HD.out.far3 (g := w.heap.size + 1) (fun k hk => by have hk' : _ ≤ k := hk; omega) _ _ _).mono (fun k hk => by have hk' : _ ≤ k := hk; omega), below3 (below_step (below_step hB0 hb1) hb2) (by omega) _ _ _⟩

set_option maxHeartbeats 4000000 in
theorem WholeString_n (b : Bool) (n : Nat) (ok : Nat → Prop) (v : Value) (w : World) (hv : Rdv w ok v n) (hn : nd n ≤ 100000000) :
    Calls Try.prog 45 #[.agg #[.bool b, v]] w fun en w' => en = .returned (.string (stext b n)) ∧ Below w.heap.size w w' := by
  obtain ⟨A, c, rfl, hl0, hC⟩ := hv.form
  have hl := len_nd hn
  have HS := Aside0.mk (fun w hc => StrWalk.string_calls n A c w hc hl0 (by omega))
  have hsz := text_le hn
  have hsi : ((text n).size : Int) ≤ 100000001 := by omega
  have HB := Aside0.mk ((Below.refl w.heap.size w).alloc (Nat.le_refl _) (Obj.cells #[.bool b, .slice A (digs n).length c] 28))
  have HC := Aside0.mk (Kd.C_below hC HB.out)
  have hs1 : Aside0 (stext true n = ⟨#[45]⟩ ++ text n) := ⟨rfl⟩
  have hs0 : Aside0 (stext false n = text n) := ⟨rfl⟩
  clear hn hl hl0 hC hv hsz
  generalize (digs n).length = m at *
  generalize text n = s at *
  cases b
  · go_enter Try.func45, Try.ntmps45
    go_wp2_with (go_at_call 58; refine (HS.out _ HC.out).mono ?_; rintro e w' ⟨rfl, hb⟩; have HB1 := Aside0.mk hb; clear hb)
    go_ret
    exact ⟨by rw [hs0.out]; rfl, below_step HB.out HB1.out⟩
  · go_enter Try.func45, Try.ntmps45
    go_wp2_with (go_at_call 58; refine (HS.out _ HC.out).mono ?_; rintro e w' ⟨rfl, hb⟩; have HB1 := Aside0.mk hb; clear hb)
    go_ret
    exact ⟨by rw [hs1.out]; rfl, below_step HB.out HB1.out⟩

set_option maxHeartbeats 4000000 in
theorem WholeMinus_n (b : Bool) (n : Nat) (ok : Nat → Prop) (v : Value) (w : World) (hv : Rdv w ok v n) :
    Calls Try.prog 30 #[.agg #[.bool b, v]] w fun en w' => en = .returned (.agg #[.bool (sgn (!b) n), v]) ∧ Below w.heap.size w w' := by
  obtain ⟨A, c, rfl, _, _⟩ := hv.form
  have HW := Aside0.mk (fun ok v w hv => wholeOf_n (!b) n ok v w hv)
  generalize sgn (!b) n = s1 at *
  generalize hm : (digs n).length = m at *
  go_enter Try.func30, Try.ntmps30
  go_wp2_with fail
  have bx0 : Box ((w.alloc (Obj.cells #[Value.bool b, Value.slice A m c] 28)).alloc (Obj.cells #[Value.bool false, Value.slice none 0 0] 28)) w.heap.size [.bool b, .slice A m c] := ((Box.new2 w _ _ _ _ (by simp)).alloc _)
  have rx0 : Box ((w.alloc (Obj.cells #[Value.bool b, Value.slice A m c] 28)).alloc (Obj.cells #[Value.bool false, Value.slice none 0 0] 28)) (w.heap.size + 1) [.bool false, .slice none 0 0] := (Box.new2 (w.alloc (Obj.cells #[Value.bool b, Value.slice A m c] 28)) _ _ _ _ (by simp))
  have hB0 : Below w.heap.size w ((w.alloc (Obj.cells #[Value.bool b, Value.slice A m c] 28)).alloc (Obj.cells #[Value.bool false, Value.slice none 0 0] 28)) := (((Below.refl _ _).alloc (Nat.le_refl _) _).alloc (by simp) _)
  have kbx00 := bx0.c0; have kbx01 := bx0.c1; have qbx00 := bx0.f0; have qbx01 := bx0.f1; have krx00 := rx0.c0; have krx01 := rx0.c1; have qrx00 := rx0.f0; have qrx01 := rx0.f1
  replace hv := hv.below hB0
  go_wp2_with (first | (go_at_call 47; (with_reducible refine (HW.out _ _ _ hv).mono ?_); rintro e w1 ⟨rfl, hb1⟩; have sz1 := hb1.size; (try simp at sz1); (with_reducible have bx1 := bx0.below hb1); have kbx10 := bx1.c0; have kbx11 := bx1.c1; have qbx10 := bx1.f0; have qbx11 := bx1.f1; (with_reducible have rx1 := rx0.below hb1); have krx10 := rx1.c0; have krx11 := rx1.c1; have qrx10 := rx1.f0; have qrx11 := rx1.f1))
  refine bodyPost_ret (v := .agg #[.bool s1, .slice A m c]) (by simp [results, Try.results30, go_sem, krx10, krx11]) rfl ⟨rfl, below2 (below_step hB0 hb1) (by omega) _ _⟩

set_option maxHeartbeats 4000000 in
theorem FracMinus_n (b : Bool) (n d : Nat) (ok od : Nat → Prop) (v u : Value) (w : World) (hv : Rdv w ok v n) (hu : Rdv w od u d) :
    Calls Try.prog 11 #[.agg #[.bool b, v, u]] w fun en w' => en = .returned (.agg #[.bool (sgn (!b) n), v, u]) ∧ Below w.heap.size w w' := by
  obtain ⟨A, c, rfl, _, _⟩ := hv.form
  obtain ⟨A1, c1, rfl, _, _⟩ := hu.form
  have HM := Aside0.mk (fun ok v w hv => WholeMinus_n b n ok v w hv)
  generalize sgn (!b) n = s1 at *
  generalize hm : (digs n).length = m at *
  generalize hm1 : (digs d).length = m1 at *
  go_enter Try.func11, Try.ntmps11
  go_wp2_with fail
  have bx0 : Box ((w.alloc (Obj.cells #[Value.bool b, Value.slice A m c, Value.slice A1 m1 c1] 30)).alloc (Obj.cells #[Value.bool false, Value.slice none 0 0, Value.slice none 0 0] 30)).drew w.heap.size [.bool b, .slice A m c, .slice A1 m1 c1] := ((Box.new3 w _ _ _ _ _ (by simp)).alloc _).drew
  have rx0 : Box ((w.alloc (Obj.cells #[Value.bool b, Value.slice A m c, Value.slice A1 m1 c1] 30)).alloc (Obj.cells #[Value.bool false, Value.slice none 0 0, Value.slice none 0 0] 30)).drew (w.heap.size + 1) [.bool false, .slice none 0 0, .slice none 0 0] := (Box.new3 (w.alloc (Obj.cells #[Value.bool b, Value.slice A m c, Value.slice A1 m1 c1] 30)) _ _ _ _ _ (by simp)).drew
  have hB0 : Below w.heap.size w ((w.alloc (Obj.cells #[Value.bool b, Value.slice A m c, Value.slice A1 m1 c1] 30)).alloc (Obj.cells #[Value.bool false, Value.slice none 0 0, Value.slice none 0 0] 30)).drew := (((Below.refl _ _).alloc (Nat.le_refl _) _).alloc (by simp) _).drew
  replace hv := hv.below hB0
  have nebx : w.heap.size ≠ (w.heap.size + 1) := by omega
  go_region_held3 (fun w' => w'.cell? ⟨w.heap.size, 0, none⟩ = some (.bool b) ∧ w'.cell? ⟨w.heap.size, 1, none⟩ = some (.slice A m c) ∧ w'.cell? ⟨w.heap.size, 2, none⟩ = some (.slice A1 m1 c1))
      (first
        | (go_keep; done)
        | exact ⟨bx1.c0, bx1.c1, bx1.c2⟩
        | exact ⟨(bx1.far3 nebx _ _ _).c0, (bx1.far3 nebx _ _ _).c1, (bx1.far3 nebx _ _ _).c2⟩)
      (first
        | (go_at_call 30; refine (HM.out _ _ _ hv).mono ?_; rintro e w1 ⟨rfl, hb1⟩; have sz1 := hb1.size; simp at sz1; have bx1 := bx0.below hb1; have xbx10 := bx1.c0; have xbx11 := bx1.c1; have xbx12 := bx1.c2; have rx1 := rx0.below hb1; have xrx10 := rx1.c0; have xrx11 := rx1.c1; have xrx12 := rx1.c2; have yrx10 := rx1.f0; have yrx11 := rx1.f1; have yrx12 := rx1.f2))
  go_wp2
  refine bodyPost_ret (v := .agg #[.bool s1, .slice A m c, .slice A1 m1 c1]) (by simp [results, Try.results11, go_sem, rx1.c0, rx1.c1, rx1.c2]) rfl ⟨rfl, below3 (below_step hB0 hb1) (by omega) _ _ _⟩
theorem FracAbs_n (b : Bool) (n d : Nat) (ok od : Nat → Prop) (v u : Value) (w : World) (hv : Rdv w ok v n) (hu : Rdv w od u d) :
    Calls Try.prog 12 #[.agg #[.bool b, v, u]] w fun en w' => en = .returned (.agg #[.bool false, v, u]) ∧ Below w.heap.size w w' := by
  obtain ⟨A, c, rfl, _, _⟩ := hv.form
  obtain ⟨A1, c1, rfl, _, _⟩ := hu.form
  generalize (digs n).length = m at *
  generalize (digs d).length = m1 at *
  go_enter Try.func12, Try.ntmps12
  go_wp2
  refine bodyPost_ret (v := .agg #[.bool false, .slice A m c, .slice A1 m1 c1]) (by simp [results, Try.results12, go_sem]) rfl ⟨rfl, ((Below.refl _ _).alloc (Nat.le_refl _) _).alloc (by simp) _⟩

/-- The sign of a whole number. -/
def sig (b : Bool) (n : Nat) : Int := if n = 0 then 0 else if b then -1 else 1
theorem cmpW_zero (b : Bool) (n : Nat) (hb : sgn b n = b) : cmpW b n false 0 = sig b n := by
  unfold cmpW sig cmpN
  cases b
  · by_cases h : n = 0 <;> simp [h]
  · have : 0 < n := by simpa [sgn] using hb
    simp; omega
set_option maxHeartbeats 4000000 in
theorem WholeSign_n (b : Bool) (n : Nat) (ok : Nat → Prop) (v : Value) (w : World) (hv : Rdv w ok v n) (hb : sgn b n = b) (hl : (digs n).length ≤ 4000000000) :
    Calls Try.prog 13 #[.agg #[.bool b, v]] w fun en w' => en = .returned (.int .i64 (sig b n)) ∧ Below w.heap.size w w' := by
  have hc := fun w hv hu => WholeCmp_n b false n 0 ok (fun _ => False) v (.slice none 0 0) w hv hu hl (by rw [digs_zero]; decide)
  rw [cmpW_zero b n hb] at hc
  have HC := Aside0.mk hc
  obtain ⟨A, c, rfl, _, _⟩ := hv.form
  clear hc hb hl
  generalize hm : (digs n).length = m at *
  generalize sig b n = r at *
  go_enter Try.func13, Try.ntmps13
  go_wp2_with fail
  have bx0 : Box (w.alloc (Obj.cells #[Value.bool b, Value.slice A m c] 28)) w.heap.size [.bool b, .slice A m c] := (Box.new2 w _ _ _ _ (by simp))
  have hB0 : Below w.heap.size w (w.alloc (Obj.cells #[Value.bool b, Value.slice A m c] 28)) := ((Below.refl _ _).alloc (Nat.le_refl _) _)
  have kbx00 := bx0.c0; have kbx01 := bx0.c1; have qbx00 := bx0.f0; have qbx01 := bx0.f1
  replace hv := hv.below hB0
  go_wp2_with (first | (go_at_call 31; (with_reducible refine (HC.out _ hv (Rdv.nil _)).mono ?_); rintro e w1 ⟨rfl, hb1⟩; have sz1 := hb1.size; (try simp at sz1); (with_reducible have bx1 := bx0.below hb1); have kbx10 := bx1.c0; have kbx11 := bx1.c1; have qbx10 := bx1.f0; have qbx11 := bx1.f1))
  go_ret
  exact ⟨rfl, below_step hB0 hb1⟩

set_option maxHeartbeats 4000000 in
theorem Sound_n (b : Bool) (n : Nat) (x : Int) (w : World) (hb : sgn b n = b) (hn : nd n ≤ 100000000) (hx : -3000 < x ∧ x < 3000) :
    Calls Try.prog 26 #[.agg #[.string (stext b n), .int .i64 x]] w fun en w' => en = .returned (.bool true) ∧ Below w.heap.size w w' := by
  have HP := Aside0.mk (fun w => ParseWhole_n b n w hb hn)
  have HS := Aside0.mk (fun ok v w hv => WholeString_n b n ok v w hv hn)
  obtain ⟨hx1, hx2⟩ := hx
  have hxd1 : decide (-3000 < x) = true := decide_eq_true hx1
  have hxd2 : decide (x < 3000) = true := decide_eq_true hx2
  clear hb hn
  generalize stext b n = s at *
  go_enter Try.func26, Try.ntmps26
  go_wp2_with fail
  have ax0 : Box (w.alloc (Obj.cells #[Value.string s, Value.int .i64 x] 23)) w.heap.size [.string s, .int .i64 x] := (Box.new2 w _ _ _ _ (by simp))
  have hB0 : Below w.heap.size w (w.alloc (Obj.cells #[Value.string s, Value.int .i64 x] 23)) := ((Below.refl _ _).alloc (Nat.le_refl _) _)
  have kax00 := ax0.c0; have kax01 := ax0.c1; have qax00 := ax0.f0; have qax01 := ax0.f1
  go_wp2_with (first | (go_at_call 44; (with_reducible refine (HP.out _).mono ?_); rintro e w1 ⟨v, rfl, hv, hb1⟩; have sz1 := hb1.size; (try simp at sz1); (with_reducible have ax1 := ax0.below hb1); have kax10 := ax1.c0; have kax11 := ax1.c1; have qax10 := ax1.f0; have qax11 := ax1.f1; have HV := Aside0.mk hv; clear hv; obtain ⟨A, c, rfl, _, _⟩ := HV.out.form))
  have HW := Aside0.mk ((Below.refl w1.heap.size w1).alloc (Nat.le_refl _) (Obj.cells #[.bool b, .slice A (digs n).length c] 28)).drew
  have ax0 := (ax1.alloc (Obj.cells #[.bool b, .slice A (digs n).length c] 28)).drew
  have vx0 : Box (w1.alloc (Obj.cells #[.bool b, .slice A (digs n).length c] 28)).drew w1.heap.size [.bool b, .slice A (digs n).length c] := (Box.new2 _ _ _ _ _ rfl).drew
  have HV2 := Aside0.mk (HV.out.below HW.out)
  have hB1 := below_step (below_step hB0 hb1) HW.out
  refine start_ (n := 19) (S := fun w' => w'.cell? ⟨w.heap.size, 0, none⟩ = some (.string s) ∧ w'.cell? ⟨w.heap.size, 1, none⟩ = some (.int .i64 x) ∧ w'.cell? ⟨w1.heap.size, 0, none⟩ = some (.bool b) ∧ w'.cell? ⟨w1.heap.size, 1, none⟩ = some (.slice A (digs n).length c)) (ds := []) #[false, false, false, false, false, false, false, false, false, false, false, false, false, false, false, false, false, false, false] (by kernel_rfl) rfl rfl ⟨ax0.c0, ax0.c1, vx0.c0, vx0.c1⟩ (fun hHeld => ?_)
  refine pure_ (i := 0) (N := some 11) (v := ?_) (a' := ?_) #[true, false, false, false, false, false, false, false, false, false, false, false, false, false, false, false, false, false, false] rfl rfl (by kernel_rfl) (fun _ _ _ h => h) (Or.inl ⟨by rfl, ?_⟩) ?_ ?_
  rotate_left
  · intro w'
    go_simp
    with_reducible rfl
  rotate_left
  · simp only [Act.put, List.setIfInBounds_toArray, List.set_cons_zero, List.set_cons_succ, i64_w, i32_w]
    rfl
  refine pure_ (i := 1) (N := some 12) (v := ?_) (a' := ?_) #[true, true, false, false, false, false, false, false, false, false, false, false, false, false, false, false, false, false, false] rfl rfl (by kernel_rfl) (fun _ _ _ h => h) (Or.inl ⟨by rfl, ?_⟩) ?_ ?_
  rotate_left
  · intro w'
    go_simp
    with_reducible rfl
  rotate_left
  · simp only [Act.put, List.setIfInBounds_toArray, List.set_cons_zero, List.set_cons_succ, i64_w, i32_w]
    rfl
  refine take_ (i := 2) (N := some 13) (v := ?_) (a' := ?_) #[true, true, true, false, false, false, false, false, false, false, false, false, false, false, false, false, false, false, false] rfl rfl (by kernel_rfl) (fun _ _ _ h => h) (Or.inl ⟨by rfl, ?_⟩) hHeld ?_ ?_
  rotate_left
  · rintro w' ⟨s0, s1, s2, s3⟩
    go_simp
    with_reducible rfl
  rotate_left
  · simp only [Act.put, List.setIfInBounds_toArray, List.set_cons_zero, List.set_cons_succ, i64_w, i32_w]
    rfl
  refine pure_ (i := 4) (N := some 15) (v := ?_) (a' := ?_) #[true, true, true, false, true, false, false, false, false, false, false, false, false, false, false, false, false, false, false] rfl rfl (by kernel_rfl) (fun _ _ _ h => h) (Or.inl ⟨by rfl, ?_⟩) ?_ ?_
  rotate_left
  · intro w'
    go_simp
    with_reducible rfl
  rotate_left
  · simp only [Act.put, List.setIfInBounds_toArray, List.set_cons_zero, List.set_cons_succ, i64_w, i32_w]
    rfl
  refine take_ (i := 5) (N := some 16) (v := ?_) (a' := ?_) #[true, true, true, false, true, true, false, false, false, false, false, false, false, false, false, false, false, false, false] rfl rfl (by kernel_rfl) (fun _ _ _ h => h) (Or.inl ⟨by rfl, ?_⟩) hHeld ?_ ?_
  rotate_left
  · rintro w' ⟨s0, s1, s2, s3⟩
    go_simp
    with_reducible rfl
  rotate_left
  · simp only [Act.put, List.setIfInBounds_toArray, List.set_cons_zero, List.set_cons_succ, i64_w, i32_w]
    rfl
  refine one_ (i := 3) (N := some 14) #[true, true, true, true, true, true, false, false, false, false, false, false, false, false, false, false, false, false, false] rfl rfl (by kernel_rfl) (by decide) (fun K hK => ?_)
  refine goes_ Try.func45 (by kernel_rfl) rfl #[.agg #[.bool b, .slice A (digs n).length c]] (by rfl) rfl rfl (by (try simp only [List.map_toArray, List.map_cons, List.map_nil]); first | done | rfl) ?_
  refine (HS.out _ _ _ HV2.out).mono ?_
  rintro e w1 ⟨rfl, hb1⟩
  refine ⟨_, rfl, ?_⟩
  have sz1 := hb1.size; simp at sz1
  have ax1 := ax0.below hb1
  have vx1 := vx0.below hb1
  refine hK.out _ _ ⟨ax1.c0, ax1.c1, vx1.c0, vx1.c1⟩ (fun hHeld => ?_)
  clear hK K
  refine norm_ (a' := ?_) ?_ ?_
  rotate_left
  · show Act.put _ (some 14) _ = _
    simp only [Act.put, List.setIfInBounds_toArray, List.set_cons_zero, List.set_cons_succ, i64_w, i32_w]
    rfl
  refine pure_ (i := 6) (N := some 17) (v := ?_) (a' := ?_) #[true, true, true, true, true, true, true, false, false, false, false, false, false, false, false, false, false, false, false] rfl rfl (by kernel_rfl) (fun _ _ _ h => h) (Or.inl ⟨by rfl, ?_⟩) ?_ ?_
  rotate_left
  · intro w'
    go_simp
    with_reducible rfl
  rotate_left
  · simp only [Act.put, List.setIfInBounds_toArray, List.set_cons_zero, List.set_cons_succ, i64_w, i32_w]
    rfl
  refine pure_ (i := 7) (N := some 18) (v := ?_) (a' := ?_) #[true, true, true, true, true, true, true, true, false, false, false, false, false, false, false, false, false, false, false] rfl rfl (by kernel_rfl) (fun _ _ _ h => h) (Or.inl ⟨by rfl, ?_⟩) ?_ ?_
  rotate_left
  · intro w'
    go_simp
    with_reducible rfl
  rotate_left
  · simp only [Act.put, List.setIfInBounds_toArray, List.set_cons_zero, List.set_cons_succ, i64_w, i32_w]
    rfl
  refine pure_ (i := 8) (N := some 19) (v := ?_) (a' := ?_) #[true, true, true, true, true, true, true, true, true, false, false, false, false, false, false, false, false, false, false] rfl rfl (by kernel_rfl) (fun _ _ _ h => h) (Or.inl ⟨by rfl, ?_⟩) ?_ ?_
  rotate_left
  · intro w'
    go_simp
    with_reducible rfl
  rotate_left
  · simp only [Act.put, List.setIfInBounds_toArray, List.set_cons_zero, List.set_cons_succ, i64_w, i32_w]
    rfl
  refine pure_ (i := 9) (N := some 20) (v := ?_) (a' := ?_) #[true, true, true, true, true, true, true, true, true, true, false, false, false, false, false, false, false, false, false] rfl rfl (by kernel_rfl) (fun _ _ _ h => h) (Or.inl ⟨by rfl, ?_⟩) ?_ ?_
  rotate_left
  · intro w'
    go_simp
    with_reducible rfl
  rotate_left
  · simp only [Act.put, List.setIfInBounds_toArray, List.set_cons_zero, List.set_cons_succ, i64_w, i32_w]
    rfl
  refine take_ (i := 10) (N := some 21) (v := ?_) (a' := ?_) #[true, true, true, true, true, true, true, true, true, true, true, false, false, false, false, false, false, false, false] rfl rfl (by kernel_rfl) (fun _ _ _ h => h) (Or.inl ⟨by rfl, ?_⟩) hHeld ?_ ?_
  rotate_left
  · rintro w' ⟨s0, s1, s2, s3⟩
    go_simp
    with_reducible rfl
  rotate_left
  · simp only [Act.put, List.setIfInBounds_toArray, List.set_cons_zero, List.set_cons_succ, i64_w, i32_w]
    rfl
  refine pure_ (i := 11) (N := some 22) (v := ?_) (a' := ?_) #[true, true, true, true, true, true, true, true, true, true, true, true, false, false, false, false, false, false, false] rfl rfl (by kernel_rfl) (fun _ _ _ h => h) (Or.inl ⟨by rfl, ?_⟩) ?_ ?_
  rotate_left
  · intro w'
    go_simp
    with_reducible rfl
  rotate_left
  · simp only [Act.put, List.setIfInBounds_toArray, List.set_cons_zero, List.set_cons_succ, i64_w, i32_w]
    rfl
  refine pure_ (i := 12) (N := some 23) (v := ?_) (a' := ?_) #[true, true, true, true, true, true, true, true, true, true, true, true, true, false, false, false, false, false, false] rfl rfl (by kernel_rfl) (fun _ _ _ h => h) (Or.inl ⟨by rfl, ?_⟩) ?_ ?_
  rotate_left
  · intro w'
    go_simp
    with_reducible rfl
  rotate_left
  · simp only [Act.put, List.setIfInBounds_toArray, List.set_cons_zero, List.set_cons_succ, i64_w, i32_w]
    rfl
  refine pure_ (i := 13) (N := some 24) (v := ?_) (a' := ?_) #[true, true, true, true, true, true, true, true, true, true, true, true, true, true, false, false, false, false, false] rfl rfl (by kernel_rfl) (fun _ _ _ h => h) (Or.inl ⟨by rfl, ?_⟩) ?_ ?_
  rotate_left
  · intro w'
    go_simp
    with_reducible rfl
  rotate_left
  · simp only [Act.put, List.setIfInBounds_toArray, List.set_cons_zero, List.set_cons_succ, i64_w, i32_w]
    rfl
  refine pure_ (i := 14) (N := some 25) (v := ?_) (a' := ?_) #[true, true, true, true, true, true, true, true, true, true, true, true, true, true, true, false, false, false, false] rfl rfl (by kernel_rfl) (fun _ _ _ h => h) (Or.inl ⟨by rfl, ?_⟩) ?_ ?_
  rotate_left
  · intro w'
    go_simp
    with_reducible rfl
  rotate_left
  · simp only [Act.put, List.setIfInBounds_toArray, List.set_cons_zero, List.set_cons_succ, i64_w, i32_w]
    rfl
  refine take_ (i := 15) (N := some 26) (v := ?_) (a' := ?_) #[true, true, true, true, true, true, true, true, true, true, true, true, true, true, true, true, false, false, false] rfl rfl (by kernel_rfl) (fun _ _ _ h => h) (Or.inl ⟨by rfl, ?_⟩) hHeld ?_ ?_
  rotate_left
  · rintro w' ⟨s0, s1, s2, s3⟩
    go_simp
    with_reducible rfl
  rotate_left
  · simp only [Act.put, List.setIfInBounds_toArray, List.set_cons_zero, List.set_cons_succ, i64_w, i32_w]
    rfl
  refine pure_ (i := 16) (N := some 27) (v := ?_) (a' := ?_) #[true, true, true, true, true, true, true, true, true, true, true, true, true, true, true, true, true, false, false] rfl rfl (by kernel_rfl) (fun _ _ _ h => h) (Or.inl ⟨by rfl, ?_⟩) ?_ ?_
  rotate_left
  · intro w'
    go_simp
    with_reducible rfl
  rotate_left
  · simp only [Act.put, List.setIfInBounds_toArray, List.set_cons_zero, List.set_cons_succ, i64_w, i32_w]
    rfl
  refine pure_ (i := 17) (N := some 28) (v := ?_) (a' := ?_) #[true, true, true, true, true, true, true, true, true, true, true, true, true, true, true, true, true, true, false] rfl rfl (by kernel_rfl) (fun _ _ _ h => h) (Or.inl ⟨by rfl, ?_⟩) ?_ ?_
  rotate_left
  · intro w'
    go_simp
    with_reducible rfl
  rotate_left
  · simp only [Act.put, List.setIfInBounds_toArray, List.set_cons_zero, List.set_cons_succ, i64_w, i32_w]
    rfl
  refine pure_ (i := 18) (N := some 2) (v := ?_) (a' := ?_) #[true, true, true, true, true, true, true, true, true, true, true, true, true, true, true, true, true, true, true] rfl rfl (by kernel_rfl) (fun _ _ _ h => h) (Or.inl ⟨by rfl, ?_⟩) ?_ ?_
  rotate_left
  · intro w'
    go_simp
    with_reducible rfl
  rotate_left
  · simp only [Act.put, List.setIfInBounds_toArray, List.set_cons_zero, List.set_cons_succ, i64_w, i32_w]
    rfl
  refine done_ (by kernel_rfl) ?_
  go_wp2
  go_ret
  exact ⟨by first | rfl | simp, below_step hB1 hb1⟩

set_option maxHeartbeats 4000000 in
/-- A decimal says the number of a fraction. -/
theorem Says_n (b b' : Bool) (n m q : Nat) (x : Int) (om oq : Nat → Prop) (v u : Value) (w : World) (hb : sgn b n = b) (hn : nd n ≤ 1000) (hx : -100 ≤ x ∧ x ≤ 100) (hv : Rdv w om v m) (hu : Rdv w oq u q) (hlm : (digs m).length ≤ 1000000) (hlq : (digs q).length ≤ 1000000)
    (hc : cmpW (sgn (b != false) (fnum n x * q)) (fnum n x * q) (sgn (b' != false) (m * fden x)) (m * fden x) = 0) :
    Calls Try.prog 10 #[.agg #[.string (stext b n), .int .i64 x], .agg #[.bool b', v, u]] w fun en w' => en = .returned (.bool true) ∧ Below w.heap.size w w' := by
  have HSO := Aside0.mk (fun w => Sound_n b n x w hb (by omega) (by omega))
  have HDI := Aside0.mk (fun w => DecIn_n b n x w hb (by omega))
  have hln := len_le_nd n
  have HFR := Aside0.mk (fun ok v w hv => Frac_n b n x ok v w hv hb (by omega) (by omega))
  have hden : (digs (fden x)).length ≤ 1000 := by
    have := len_pow10 (-x).toNat; unfold fden; omega
  have hnum : (digs (fnum n x)).length ≤ 10000 := by
    unfold fnum
    have h1 := lt_of_len n
    have h2 := len_pow10 x.toNat
    have h3 := lt_of_len (10 ^ x.toNat)
    have h4 : n * 10 ^ x.toNat < 1000000000 ^ ((digs n).length + (digs (10 ^ x.toNat)).length) := by
      rw [Nat.pow_add]; exact Nat.mul_lt_mul'' h1 h3
    have := len_digs_le h4
    omega
  have hprod : ∀ a c : Nat, (digs a).length ≤ 1000000 → (digs c).length ≤ 1000000 → (digs (a * c)).length ≤ 4000000000 := by
    intro a c ha hc
    have h1 := lt_of_len a
    have h2 := lt_of_len c
    have h4 : a * c < 1000000000 ^ ((digs a).length + (digs c).length) := by
      rw [Nat.pow_add]; exact Nat.mul_lt_mul'' h1 h2
    have := len_digs_le h4
    omega
  have hcmp := fun oa od ob of v x' u' y' w hv hx hu hy => FracCmp_n b b' (fnum n x) (fden x) m q oa od ob of v x' u' y' w hv hx hu hy (by omega) (by omega) (by omega) (by omega) (hprod _ _ (by omega) (by omega)) (hprod _ _ (by omega) (by omega))
  rw [hc] at hcmp
  have HC := Aside0.mk hcmp
  obtain ⟨A3, c3, rfl, _, _⟩ := hv.form
  obtain ⟨A4, c4, rfl, _, _⟩ := hu.form
  clear hcmp hc hprod hnum hden hln hb hn hx hlm hlq
  generalize stext b n = s at *
  generalize fnum n x = N at *
  generalize fden x = D at *
  generalize hm3 : (digs m).length = m3 at *
  generalize hm4 : (digs q).length = m4 at *
  go_enter Try.func10, Try.ntmps10
  go_wp2_with fail
  have ax0 : Box ((w.alloc (Obj.cells #[Value.string s, Value.int .i64 x] 23)).alloc (Obj.cells #[Value.bool b', Value.slice A3 m3 c3, Value.slice A4 m4 c4] 30)).drew w.heap.size [.string s, .int .i64 x] := ((Box.new2 w _ _ _ _ (by simp)).alloc _).drew
  have fx0 : Box ((w.alloc (Obj.cells #[Value.string s, Value.int .i64 x] 23)).alloc (Obj.cells #[Value.bool b', Value.slice A3 m3 c3, Value.slice A4 m4 c4] 30)).drew (w.heap.size + 1) [.bool b', .slice A3 m3 c3, .slice A4 m4 c4] := (Box.new3 (w.alloc (Obj.cells #[Value.string s, Value.int .i64 x] 23)) _ _ _ _ _ (by simp)).drew
  have hB0 : Below w.heap.size w ((w.alloc (Obj.cells #[Value.string s, Value.int .i64 x] 23)).alloc (Obj.cells #[Value.bool b', Value.slice A3 m3 c3, Value.slice A4 m4 c4] 30)).drew := (((Below.refl _ _).alloc (Nat.le_refl _) _).alloc (by simp) _).drew
  replace hv := hv.below hB0
  replace hu := hu.below hB0
  refine start_ (n := 11) (S := fun w' => w'.cell? ⟨w.heap.size, 0, none⟩ = some (.string s) ∧ w'.cell? ⟨w.heap.size, 1, none⟩ = some (.int .i64 x) ∧ w'.cell? ⟨(w.heap.size + 1), 0, none⟩ = some (.bool b') ∧ w'.cell? ⟨(w.heap.size + 1), 1, none⟩ = some (.slice A3 m3 c3) ∧ w'.cell? ⟨(w.heap.size + 1), 2, none⟩ = some (.slice A4 m4 c4)) (ds := []) #[false, false, false, false, false, false, false, false, false, false, false] (by kernel_rfl) rfl rfl ⟨ax0.c0, ax0.c1, fx0.c0, fx0.c1, fx0.c2⟩ (fun hHeld => ?_)
  refine take_ (i := 0) (N := some 5) (v := ?_) (a' := ?_) #[true, false, false, false, false, false, false, false, false, false, false] rfl rfl (by kernel_rfl) (fun _ _ _ h => h) (Or.inl ⟨by rfl, ?_⟩) hHeld ?_ ?_
  rotate_left
  · rintro w' ⟨s0, s1, s2, s3, s4⟩
    go_simp
    with_reducible rfl
  rotate_left
  · simp only [Act.put, List.setIfInBounds_toArray, List.set_cons_zero, List.set_cons_succ, i64_w, i32_w]
    rfl
  refine one_ (i := 1) (N := some 6) #[true, true, false, false, false, false, false, false, false, false, false] rfl rfl (by kernel_rfl) (by decide) (fun K hK => ?_)
  refine goes_ Try.func26 (by kernel_rfl) rfl #[.agg #[.string s, .int .i64 x]] (by rfl) rfl rfl (by (try simp only [List.map_toArray, List.map_cons, List.map_nil]); first | done | rfl) ?_
  refine (HSO.out _).mono ?_
  rintro e w1 ⟨rfl, hb1⟩
  refine ⟨_, rfl, ?_⟩
  have sz1 := hb1.size; simp at sz1
  have ax1 := ax0.below hb1
  have fx1 := fx0.below hb1
  refine hK.out _ _ ⟨ax1.c0, ax1.c1, fx1.c0, fx1.c1, fx1.c2⟩ (fun hHeld => ?_)
  clear hK K
  refine norm_ (a' := ?_) ?_ ?_
  rotate_left
  · show Act.put _ (some 6) _ = _
    simp only [Act.put, List.setIfInBounds_toArray, List.set_cons_zero, List.set_cons_succ, i64_w, i32_w]
    rfl
  refine pure_ (i := 2) (N := some 7) (v := ?_) (a' := ?_) #[true, true, true, false, false, false, false, false, false, false, false] rfl rfl (by kernel_rfl) (fun _ _ _ h => h) (Or.inl ⟨by rfl, ?_⟩) ?_ ?_
  rotate_left
  · intro w'
    go_simp
    with_reducible rfl
  rotate_left
  · simp only [Act.put, List.setIfInBounds_toArray, List.set_cons_zero, List.set_cons_succ, i64_w, i32_w]
    rfl
  refine take_ (i := 3) (N := some 8) (v := ?_) (a' := ?_) #[true, true, true, true, false, false, false, false, false, false, false] rfl rfl (by kernel_rfl) (fun _ _ _ h => h) (Or.inl ⟨by rfl, ?_⟩) hHeld ?_ ?_
  rotate_left
  · rintro w' ⟨s0, s1, s2, s3, s4⟩
    go_simp
    with_reducible rfl
  rotate_left
  · simp only [Act.put, List.setIfInBounds_toArray, List.set_cons_zero, List.set_cons_succ, i64_w, i32_w]
    rfl
  refine take_ (i := 6) (N := some 11) (v := ?_) (a' := ?_) #[true, true, true, true, false, false, true, false, false, false, false] rfl rfl (by kernel_rfl) (fun _ _ _ h => h) (Or.inl ⟨by rfl, ?_⟩) hHeld ?_ ?_
  rotate_left
  · rintro w' ⟨s0, s1, s2, s3, s4⟩
    go_simp
    with_reducible rfl
  rotate_left
  · simp only [Act.put, List.setIfInBounds_toArray, List.set_cons_zero, List.set_cons_succ, i64_w, i32_w]
    rfl
  refine one_ (i := 4) (N := some 9) #[true, true, true, true, true, false, true, false, false, false, false] rfl rfl (by kernel_rfl) (by decide) (fun K hK => ?_)
  refine goes_ Try.func27 (by kernel_rfl) rfl #[.agg #[.string s, .int .i64 x]] (by rfl) rfl rfl (by (try simp only [List.map_toArray, List.map_cons, List.map_nil]); first | done | rfl) ?_
  refine (HDI.out _).mono ?_
  rintro e w2 ⟨y, rfl, hy, hb2⟩
  refine ⟨_, rfl, ?_⟩
  obtain ⟨A5, c5, rfl, _, _⟩ := hy.form
  have sz2 := hb2.size
  have ax2 := ax1.below hb2
  have fx2 := fx1.below hb2
  refine hK.out _ _ ⟨ax2.c0, ax2.c1, fx2.c0, fx2.c1, fx2.c2⟩ (fun hHeld => ?_)
  clear hK K
  refine norm_ (a' := ?_) ?_ ?_
  rotate_left
  · show Act.put _ (some 9) _ = _
    simp only [Act.put, List.setIfInBounds_toArray, List.set_cons_zero, List.set_cons_succ, i64_w, i32_w]
    rfl
  refine one_ (i := 5) (N := some 10) #[true, true, true, true, true, true, true, false, false, false, false] rfl rfl (by kernel_rfl) (by decide) (fun K hK => ?_)
  refine goes_ Try.func28 (by kernel_rfl) rfl #[.agg #[.bool b, .slice A5 (digs n).length c5, .int .i64 x]] (by rfl) rfl rfl (by (try simp only [List.map_toArray, List.map_cons, List.map_nil]); first | done | rfl) ?_
  refine (HFR.out _ _ _ hy).mono ?_
  rintro e w3 ⟨z1, z2, rfl, hz1, hz2, hb3⟩
  refine ⟨_, rfl, ?_⟩
  obtain ⟨A6, c6, rfl, _, _⟩ := hz1.form
  obtain ⟨A7, c7, rfl, _, _⟩ := hz2.form
  have sz3 := hb3.size
  have ax3 := ax2.below hb3
  have fx3 := fx2.below hb3
  refine hK.out _ _ ⟨ax3.c0, ax3.c1, fx3.c0, fx3.c1, fx3.c2⟩ (fun hHeld => ?_)
  clear hK K
  refine norm_ (a' := ?_) ?_ ?_
  rotate_left
  · show Act.put _ (some 10) _ = _
    simp only [Act.put, List.setIfInBounds_toArray, List.set_cons_zero, List.set_cons_succ, i64_w, i32_w]
    rfl
  refine one_ (i := 7) (N := some 12) #[true, true, true, true, true, true, true, true, false, false, false] rfl rfl (by kernel_rfl) (by decide) (fun K hK => ?_)
  refine goes_ Try.func29 (by kernel_rfl) rfl #[.agg #[.bool b, .slice A6 (digs N).length c6, .slice A7 (digs D).length c7], .agg #[.bool b', .slice A3 m3 c3, .slice A4 m4 c4]] (by rfl) rfl rfl (by (try simp only [List.map_toArray, List.map_cons, List.map_nil]); first | done | rfl) ?_
  refine (HC.out _ _ _ _ _ _ _ _ _ hz1 hz2 (((hv.below hb1).below hb2).below hb3) (((hu.below hb1).below hb2).below hb3)).mono ?_
  rintro e w4 ⟨rfl, hb4⟩
  refine ⟨_, rfl, ?_⟩
  have sz4 := hb4.size
  have ax4 := ax3.below hb4
  have fx4 := fx3.below hb4
  refine hK.out _ _ ⟨ax4.c0, ax4.c1, fx4.c0, fx4.c1, fx4.c2⟩ (fun hHeld => ?_)
  clear hK K
  refine norm_ (a' := ?_) ?_ ?_
  rotate_left
  · show Act.put _ (some 12) _ = _
    simp only [Act.put, List.setIfInBounds_toArray, List.set_cons_zero, List.set_cons_succ, i64_w, i32_w]
    rfl
  refine pure_ (i := 8) (N := some 13) (v := ?_) (a' := ?_) #[true, true, true, true, true, true, true, true, true, false, false] rfl rfl (by kernel_rfl) (fun _ _ _ h => h) (Or.inl ⟨by rfl, ?_⟩) ?_ ?_
  rotate_left
  · intro w'
    go_simp
    with_reducible rfl
  rotate_left
  · simp only [Act.put, List.setIfInBounds_toArray, List.set_cons_zero, List.set_cons_succ, i64_w, i32_w]
    rfl
  refine pure_ (i := 9) (N := some 14) (v := ?_) (a' := ?_) #[true, true, true, true, true, true, true, true, true, true, false] rfl rfl (by kernel_rfl) (fun _ _ _ h => h) (Or.inl ⟨by rfl, ?_⟩) ?_ ?_
  rotate_left
  · intro w'
    go_simp
    with_reducible rfl
  rotate_left
  · simp only [Act.put, List.setIfInBounds_toArray, List.set_cons_zero, List.set_cons_succ, i64_w, i32_w]
    rfl
  refine pure_ (i := 10) (N := some 4) (v := ?_) (a' := ?_) #[true, true, true, true, true, true, true, true, true, true, true] rfl rfl (by kernel_rfl) (fun _ _ _ h => h) (Or.inl ⟨by rfl, ?_⟩) ?_ ?_
  rotate_left
  · intro w'
    go_simp
    with_reducible rfl
  rotate_left
  · simp only [Act.put, List.setIfInBounds_toArray, List.set_cons_zero, List.set_cons_succ, i64_w, i32_w]
    rfl
  refine done_ (by kernel_rfl) ?_
  go_wp2
  go_ret
  exact ⟨by first | rfl | simp, (below_step (below_step (below_step (below_step hB0 hb1) hb2) hb3) hb4)⟩
end Go.Proofs.Yteohmbannpbokaa.SpecWalk
