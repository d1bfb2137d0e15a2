/-
  The reference's text of a number: for the limbs of a number (at most 4,000,000,000 of them) the call returns its decimal digits, and changes nothing that was there.
  The reference's calls over natural numbers of any length, told by the numbers alone, and where the limbs of what they return lie; nothing that was there is changed.
  The reference's calls over whole numbers and fractions, told by the numbers alone; nothing that was there is changed.
  The reference's products and comparisons of whole numbers and fractions, told by the numbers alone; nothing that was there is changed.
  The reference's reading of digits: the number that they are.
  The reference's reading of whole numbers and decimals: the numbers that they are.
-/
import Derived.Test.YteohmbannpbokaaPNatMulx0
import Derived.Test.YteohmbannpbokaaLaws
import Derived.RegionTactic
import Derived.BigRegion
import Derived.ChangeAlike
import Derived.Test.YteohmbannpbokaaNatLaw
import Derived.Test.YteohmbannpbokaaPonex1
import Derived.Deep.RegionHeld3
import Derived.Deep.RegionWith
import Derived.Deep.QuietTactic
import Derived.BigQuiet
set_option linter.unusedVariables false
set_option linter.unusedSimpArgs false
namespace Go.Proofs.Yteohmbannpbokaa.StrWalk
open Go.RowKit Go.Proofs.YteohmbannpbokaaW.PrintWords Go.Proofs.YteohmbannpbokaaW.PrintLast Go.Proofs.YteohmbannpbokaaW.PrintMore Go.Proofs.Yteohmbannpbokaa.Digs Go.Proofs.Yteohmbannpbokaa.StrLaw

theorem infoB : (Try.prog.info? 5).map (fun i => (i.zero, i.size, i.bytes)) = some (some (.int .u8 0), 1, 1) := by kernel_rfl

set_option maxHeartbeats 4000000 in
set_option maxRecDepth 100000 in
theorem string_calls (n : Nat) (A0 : Option Addr) (c0 : Nat) (w : World) (hr0 : Kd.C (Kd.int .u32) w A0 (digs n).length (digs n)) (hc0 : (digs n).length ≤ c0) (hlen : ((digs n).length : Int) ≤ 4000000000) :
    Calls Try.prog 58 #[.slice A0 (digs n).length c0] w fun e w' => e = .returned (.string (text n)) ∧ Below w.heap.size w w' := by
  have HR0 := Aside0.mk hr0
  have HC0 := Aside0.mk hc0
  clear hr0 hc0
  have HB := Aside0.mk (Below.refl w.heap.size w)
  go_enter Try.func58, Try.ntmps58
  go_wp2
  go_loopg [3, 11] (digs n).length (fun g v3 v11 w' => ∃ (x : List Int) (i : Int), v11 = .int .i64 i ∧ Out n i x ∧ Aside0 (i + (g : Int) = ((digs n).length : Int)) ∧ Aside0 (Kd.R (Kd.int .u8) 5 w' w.heap.size (fun _ => True) v3 x) ∧ Aside0 (Below w.heap.size w w'))
  case atStart => exact ⟨[], 0, rfl, Out.start n, ⟨by simp⟩, ⟨Kd.R_nil _ _ _ _ _⟩, HB⟩
  case round =>
    clear HB
    obtain ⟨x, i, rfl, HI, HG, HO, HB⟩ := hrel
    have hb := HI.bound
    obtain ⟨b1, b2, b3⟩ := hb
    have HX := Aside0.mk b3
    clear b3
    by_cases hi : i < ((digs n).length : Int)
    · obtain ⟨ad, e0, hx⟩ := Kd.at_int HR0.out i b1 hi
      cases e0
      replace hx := (HB.out.cell (World.block_lt_of_cell? w _ hx)).trans hx
      obtain ⟨og, hog⟩ : ∃ og, og = gk := ⟨gk, rfl⟩
      subst hog
      go_wp2
      go_loopg [3, 5, 6] 9 (fun g2 v3 v5 v6 w' => ∃ (x : List Int) (c k : Int), v5 = .int .u32 c ∧ v6 = .int .i64 k ∧ Inn n i k c x ∧ Aside0 (k + (g2 : Int) = 9) ∧ Aside0 (Kd.R (Kd.int .u8) 5 w' w.heap.size (fun _ => True) v3 x) ∧ Aside0 (Below w.heap.size w w'))
      case atStart => exact ⟨x, rd (digs n) i, 0, rfl, rfl, HI.inn hi, ⟨by simp⟩, HO, HB⟩
      case round =>
        clear HI HO HB HX hx
        obtain ⟨x, c, k, rfl, rfl, HI, HG2, HO, HB⟩ := hrel
        obtain ⟨q1, q2, k1, k2, c1, c2, q3⟩ := HI.bound
        have HX := Aside0.mk q3
        clear q1 q2 q3
        by_cases hk : k < 9
        · by_cases hc : 0 < c
          · have HCS : Aside0 (0 < c ∨ i + 1 < (digs n).length) := ⟨.inl hc⟩
            go_wp2_with (first | ((with_reducible refine gate_builtin (b := .append) (xs := #[.tmp 31, .tmp 36]) rfl ?_); at_builtin; refine Kd.R_append (Kd.int .u8) (w0 := w) w.heap.size rfl (.tmp 31) (.tmp 36) 55 5 (.int .u8 0) 1 rfl Try.underlying55 infoB rfl (by decide) (by omega) u3 x (48 + c % 10) [.int .u8 (48 + c % 10)] (fun _ => True) (fun _ => False) rfl rfl ?aP (fun _ hk => hk.elim) ?aF ?aO ?aB ?aS ?aL ?_; (case aP => exact rfl); (case aB => exact HB.out); (case aF => exact (fun _ _ => trivial)); (case aO => exact HO.out); (case aS => exact below_size HB.out); (case aL => have := HX.out; omega); intro v1 w1 ho hb hg hat; have HO1 := Aside0.mk ho; have HB1 := Aside0.mk hb; clear HB HO ho hb hg hat))
            go_roundg (gk - 1)
            case measure => have := HG2.out; omega
            case rel => exact ⟨_, _, _, rfl, rfl, HI.step hk (HCS.out), ⟨by have := HG2.out; omega⟩, HO1, HB1⟩
          · by_cases hi1 : i + 1 < ((digs n).length : Int)
            · have HCS : Aside0 (0 < c ∨ i + 1 < (digs n).length) := ⟨.inr hi1⟩
              go_wp2_with (first | ((with_reducible refine gate_builtin (b := .append) (xs := #[.tmp 31, .tmp 36]) rfl ?_); at_builtin; refine Kd.R_append (Kd.int .u8) (w0 := w) w.heap.size rfl (.tmp 31) (.tmp 36) 55 5 (.int .u8 0) 1 rfl Try.underlying55 infoB rfl (by decide) (by omega) u3 x (48 + c % 10) [.int .u8 (48 + c % 10)] (fun _ => True) (fun _ => False) rfl rfl ?aP (fun _ hk => hk.elim) ?aF ?aO ?aB ?aS ?aL ?_; (case aP => exact rfl); (case aB => exact HB.out); (case aF => exact (fun _ _ => trivial)); (case aO => exact HO.out); (case aS => exact below_size HB.out); (case aL => have := HX.out; omega); intro v1 w1 ho hb hg hat; have HO1 := Aside0.mk ho; have HB1 := Aside0.mk hb; clear HB HO ho hb hg hat))
              go_roundg (gk - 1)
              case measure => have := HG2.out; omega
              case rel => exact ⟨_, _, _, rfl, rfl, HI.step hk (HCS.out), ⟨by have := HG2.out; omega⟩, HO1, HB1⟩
            · have HE := Aside0.mk (HI.stop0 hk hc hi1)
              clear HI
              go_wp2
              go_roundg (og - 1)
              case measure => have := HG.out; omega
              case rel => exact ⟨x, i + 1, rfl, HE.out, ⟨by have := HG.out; omega⟩, HO, HB⟩
        · have HE := Aside0.mk (HI.stop9 hk)
          clear HI
          go_wp2
          go_roundg (og - 1)
          case measure => have := HG.out; omega
          case rel => exact ⟨x, i + 1, rfl, HE.out, ⟨by have := HG.out; omega⟩, HO, HB⟩
    · have HE := HI.done hi
      clear HI HX HG b1 b2
      subst HE
      have hib : decide (i < ((digs n).length : Int)) = false := decide_eq_false hi
      clear hi
      by_cases hn : n = 0
      · have HN := Aside0.mk hn
        have c0b : (((dbyt n (nd n)).length : Int) == 0) = true := beq_iff_eq.mpr (dbyt_nil.2 hn)
        clear hn
        generalize dbyt n (nd n) = X at *
        obtain ⟨Ao, co, eo⟩ := Kd.R_slice HO.out
        subst eo
        go_wp2
        go_ret
        exact ⟨by rw [HN.out, text_zero]; rfl, HB.out⟩
      · have c1b : (((dbyt n (nd n)).length : Int) == 0) = false := beq_eq_false_iff_ne.mpr (fun h => hn (dbyt_nil.1 h))
        have HN := Aside0.mk (text_pos hn)
        clear hn
        have hm : ((dbyt n (nd n)).length : Int) ≤ 36000000000 := by rw [dbyt_len]; have := nd_le_len n; omega
        generalize dbyt n (nd n) = X at *
        obtain ⟨Ao, co, eo⟩ := Kd.R_slice HO.out
        subst eo
        go_wp2
        go_loopg [7, 8] X.length (fun g v7 v8 w' => ∃ (y : List Int) (i j : Int), v7 = .int .i64 i ∧ v8 = .int .i64 j ∧ Aside0 (Rev X y i j) ∧ Aside0 (j - i < (g : Int)) ∧ Aside0 (Kd.R (Kd.int .u8) 5 w' w.heap.size (fun _ => True) (.slice Ao X.length co) y) ∧ Aside0 (Below w.heap.size w w'))
        case atStart => exact ⟨X, 0, (X.length : Int) - 1, rfl, rfl, ⟨Rev.start X⟩, ⟨by omega⟩, HO, HB⟩
        case round =>
          clear HO HB hib
          obtain ⟨y, a, b, rfl, rfl, HI, HG, HO, HB⟩ := hrel
          obtain ⟨hl, a0, b1, b2⟩ := HI.out.bound
          have HL := Aside0.mk hl
          clear hl
          by_cases hab : a < b
          · have hab2 := b2 hab
            clear b2
            have b0 : 0 ≤ b := by omega
            have a1 : a < (X.length : Int) := by omega
            obtain ⟨g0, c1, e1, gb, gl, cl, HC⟩ := Kd.R_form HO.out (by have := HL.out; omega)
            injection e1 with ea en ec
            subst ea
            subst ec
            clear en
            have GB := Aside0.mk gb
            clear HC cl gl gb
            have hca := Kd.R_celln 0 HO.out a a0 a1
            have hcb := Kd.R_celln 0 HO.out b b0 b1
            obtain ⟨hca1, hca2⟩ := hca
            obtain ⟨hcb1, hcb2⟩ := hcb
            change _ = some (Value.int .u8 (rd y a)) at hca1
            change _ = some (Value.int .u8 (rd y b)) at hcb1
            go_wp2
            go_region
            go_wp2
            go_roundg (gk - 1)
            case measure => have := HG.out; omega
            case rel => exact ⟨_, _, _, rfl, rfl, ⟨HI.out.step hab⟩, ⟨by have := HG.out; omega⟩, ⟨Kd.R_putn (Kd.R_putn (Kd.R_drew HO.out) a (rd y b)) b (rd y a)⟩, ⟨((HB.out.setCell GB.out _).setCell GB.out _).drew⟩⟩
          · have HE := HI.out.done hab
            clear b2
            subst HE
            have hrd := (Kd.R_reads' HO.out).2.2
            rw [← (Kd.R_reads' HO.out).1] at hrd
            have hcv := Kd.C_string (P := Try.prog) (src := 55) (dst := 9) (c := co) Try.underlying55 Try.underlying5 Try.underlying9 hrd
            have HRD := Aside0.mk hrd
            clear hrd
            go_wp2
            go_ret
            exact ⟨by rw [HN.out]; rfl, HB.out⟩
end Go.Proofs.Yteohmbannpbokaa.StrWalk

set_option linter.unusedVariables false
set_option linter.unusedSimpArgs false
namespace Go.Proofs.Yteohmbannpbokaa.NatWalk
open Go.RowKit Go.Proofs.YteohmbannpbokaaW.PrintWords Go.Proofs.YteohmbannpbokaaW.PrintLast Go.Proofs.YteohmbannpbokaaW.PrintMore Go.Proofs.Yteohmbannpbokaa.Digs Go.Proofs.Yteohmbannpbokaa.StrLaw Go.Proofs.Yteohmbannpbokaa.NatLaw
open Go.Proofs.Yteohmbannpbokaa.PNatMul Go.Proofs.Yteohmbannpbokaa.PNatCmp Go.Proofs.Yteohmbannpbokaa.PPow10

/-- A value that reads as a number's limbs, which lie in blocks of ok alone. -/
structure Rdv (w : World) (ok : Nat → Prop) (v : Value) (n : Nat) : Prop where
  mk :: (out : Kd.V (Kd.int .u32) 0 w 0 ok v (digs n))
section
variable {w w1 : World} {ok ok' : Nat → Prop} {v : Value} {n : Nat}
theorem Rdv.form (h : Rdv w ok v n) : ∃ A c, v = .slice A (digs n).length c ∧ (digs n).length ≤ c ∧ Kd.C (Kd.int .u32) w A (digs n).length (digs n) := by
  obtain ⟨A, c, e, hl, hf⟩ := h
  exact ⟨A, c, e, hl, Kd.F_now hf⟩
theorem Rdv.mono (h : Rdv w ok v n) (ho : ∀ k, ok k → ok' k) : Rdv w ok' v n := ⟨Kd.V_mono h.out ho⟩
theorem Rdv.bound (h : Rdv w ok v n) : Rdv w (fun k => ok k ∧ k < w.heap.size) v n := ⟨Kd.V_bound h.out⟩
theorem Rdv.below (h : Rdv w ok v n) (hb : Below w.heap.size w w1) : Rdv w1 ok v n := ⟨Kd.V_below h.out hb⟩
theorem Rdv.far (h : Rdv w ok v n) {p : Addr} (ho : ∀ k, ok k → k ≠ p.block) (u : Value) : Rdv (w.setCell p u) ok v n := ⟨Kd.V_far h.out ho u⟩
theorem Rdv.far2 {g : Nat} (h : Rdv w ok v n) (ho : ∀ k, ok k → k ≠ g) (x y : Value) : Rdv ((w.setCell ⟨g, 0, none⟩ x).setCell ⟨g, 1, none⟩ y) ok v n :=
  (h.far (p := ⟨g, 0, none⟩) ho x).far (p := ⟨g, 1, none⟩) ho y
theorem Rdv.far3 {g : Nat} (h : Rdv w ok v n) (ho : ∀ k, ok k → k ≠ g) (x y z : Value) : Rdv (((w.setCell ⟨g, 0, none⟩ x).setCell ⟨g, 1, none⟩ y).setCell ⟨g, 2, none⟩ z) ok v n :=
  (h.far2 ho x y).far (p := ⟨g, 2, none⟩) ho z
theorem Rdv.drew (h : Rdv w ok v n) : Rdv w.drew ok v n := ⟨Kd.V_drew h.out⟩
theorem Rdv.of_R {e base : Nat} (h : Kd.R (Kd.int .u32) e w base ok v (digs n)) : Rdv w (fun k => base ≤ k) v n :=
  have h1 : Kd.V (Kd.int .u32) e w 0 (fun k => base ≤ k) v (digs n) := Kd.R_V (Kd.R_mono (Kd.R_bound h) (fun _ hk => hk.2.1))
  ⟨h1⟩
theorem Rdv.of_V {e base : Nat} (h : Kd.V (Kd.int .u32) e w base ok v (digs n)) : Rdv w ok v n := ⟨h⟩
theorem Rdv.nil (w : World) : Rdv w (fun _ => False) (.slice none 0 0) 0 := ⟨by rw [digs_zero]; exact Kd.V_nil _ _ _ _ _⟩
end

theorem pow10_n (n : Nat) (w : World) (h : n ≤ 1000000) : Calls Try.prog 49 #[.int .i64 n] w fun e w' => ∃ v, e = .returned v ∧ Rdv w' (fun k => w.heap.size ≤ k) v (10 ^ n) ∧ Below w.heap.size w w' := by
  obtain ⟨k, hk⟩ := (pow10_ev n h).rounds
  refine (spec_Pow10.calls k n (digs (10 ^ n)) w hk).mono ?_
  rintro e w' ⟨v, rfl, hr, hb⟩
  exact ⟨v, rfl, Rdv.of_R hr, hb⟩
theorem mul_n (a b : Nat) (oa ob : Nat → Prop) (v u : Value) (w : World) (hv : Rdv w oa v a) (hu : Rdv w ob u b) (hl : (digs a).length + (digs b).length ≤ 4000000000) :
    Calls Try.prog 48 #[v, u] w fun e w' => ∃ v, e = .returned v ∧ Rdv w' (fun k => w.heap.size ≤ k) v (a * b) ∧ Below w.heap.size w w' := by
  obtain ⟨A, c, rfl, hl0, hc0⟩ := hv.form
  obtain ⟨A1, c1, rfl, hl1, hc1⟩ := hu.form
  obtain ⟨k, hk⟩ := (mul_ev a b hl).rounds
  refine (spec_NatMul.calls k A c (digs a) A1 c1 (digs b) (digs (a * b)) w hc0 hl0 hc1 hl1 hk).mono ?_
  rintro e w' ⟨v, rfl, hr, hb⟩
  exact ⟨v, rfl, Rdv.of_V hr, hb⟩
theorem cmp_n (a b : Nat) (oa ob : Nat → Prop) (v u : Value) (w : World) (hv : Rdv w oa v a) (hu : Rdv w ob u b) (hl : (digs a).length ≤ 4000000000) :
    Calls Try.prog 52 #[v, u] w fun e w' => e = .returned (.int .i64 (cmpN a b)) ∧ Drawn0 w w' := by
  obtain ⟨A, c, rfl, hl0, hc0⟩ := hv.form
  obtain ⟨A1, c1, rfl, hl1, hc1⟩ := hu.form
  obtain ⟨k, hk⟩ := (cmp_ev a b hl).rounds
  exact spec_NatCmp.calls k A c (digs a) A1 c1 (digs b) _ w hc0 hl0 hc1 hl1 hk
theorem trim_n (l : List Int) (hd : Dig l) (hl : l.length ≤ 4000000000) (n : Nat) (hn : val l = n) (ok : Nat → Prop) (v : Value) (w : World) (hv : Kd.V (Kd.int .u32) 0 w 0 ok v l) :
    Calls Try.prog 59 #[v] w fun e w' => ∃ v, e = .returned v ∧ Rdv w' (fun k => ok k ∨ w.heap.size ≤ k) v n ∧ Below w.heap.size w w' := by
  obtain ⟨A, c, rfl⟩ := Kd.V_slice hv
  obtain ⟨k, hk⟩ := (trim_ev l.length l rfl hl hd n hn).rounds
  refine (spec_natTrim.calls k ok A c l (digs n) w hv hk).mono ?_
  rintro e w' ⟨v, rfl, hr, hb⟩
  exact ⟨v, rfl, Rdv.of_V hr, hb⟩
theorem size_text {n : Nat} (h : n ≠ 0) : (text n).size = nd n := by
  rw [text_pos h]
  simp [strOfNums, ByteArray.size, dbyt_len]
end Go.Proofs.Yteohmbannpbokaa.NatWalk

set_option linter.unusedVariables false
set_option linter.unusedSimpArgs false
namespace Go.Proofs.Yteohmbannpbokaa.SpecWalk
open Go.RowKit Go.Proofs.YteohmbannpbokaaW.PrintWords Go.Proofs.YteohmbannpbokaaW.PrintLast Go.Proofs.YteohmbannpbokaaW.PrintMore Go.Proofs.Yteohmbannpbokaa.Digs Go.Proofs.Yteohmbannpbokaa.StrLaw Go.Proofs.Yteohmbannpbokaa.NatLaw Go.Proofs.Yteohmbannpbokaa.NatWalk

/-- The sign that a whole number bears. -/
def sgn (b : Bool) (n : Nat) : Bool := b && decide (0 < n)
theorem len_pos_iff (n : Nat) : decide ((0 : Int) < ((digs n).length : Int)) = decide (0 < n) := by
  by_cases h : n = 0
  · subst h; rw [digs_zero]; rfl
  · have := len_pos h
    rw [decide_eq_true (by omega), decide_eq_true (by omega)]

theorem frz {w w1 : World} (hb : Below w.heap.size w w1) {a : Addr} {v : Value} (hc : w.cell? a = some v) (hf : w.frozen? a = false) : w1.frozen? a = false := (hb.frozen (World.block_lt_of_cell? w _ hc)).trans hf
/-- A block of cells, none frozen: kept by whatever only makes memory. -/
structure Box (w : World) (g : Nat) (l : List Value) : Prop where
  mk :: (out : ∀ j v, l[j]? = some v → w.cell? ⟨g, j, none⟩ = some v ∧ w.frozen? ⟨g, j, none⟩ = false)
theorem Box.below {w w1 : World} {g : Nat} {l : List Value} (h : Box w g l) (hb : Below w.heap.size w w1) : Box w1 g l :=
  ⟨fun j v hj => ⟨pw_cell_below hb (h.out j v hj).1, frz hb (h.out j v hj).1 (h.out j v hj).2⟩⟩
theorem Box.c0 {w : World} {g : Nat} {x : Value} {l : List Value} (h : Box w g (x :: l)) : w.cell? ⟨g, 0, none⟩ = some x := (h.out 0 x rfl).1
theorem Box.c1 {w : World} {g : Nat} {x y : Value} {l : List Value} (h : Box w g (x :: y :: l)) : w.cell? ⟨g, 1, none⟩ = some y := (h.out 1 y rfl).1
theorem Box.c2 {w : World} {g : Nat} {x y z : Value} {l : List Value} (h : Box w g (x :: y :: z :: l)) : w.cell? ⟨g, 2, none⟩ = some z := (h.out 2 z rfl).1
theorem Box.f0 {w : World} {g : Nat} {x : Value} {l : List Value} (h : Box w g (x :: l)) : w.frozen? ⟨g, 0, none⟩ = false := (h.out 0 x rfl).2
theorem Box.f1 {w : World} {g : Nat} {x y : Value} {l : List Value} (h : Box w g (x :: y :: l)) : w.frozen? ⟨g, 1, none⟩ = false := (h.out 1 y rfl).2
theorem Box.f2 {w : World} {g : Nat} {x y z : Value} {l : List Value} (h : Box w g (x :: y :: z :: l)) : w.frozen? ⟨g, 2, none⟩ = false := (h.out 2 z rfl).2
theorem Box.mk2 {w : World} {g : Nat} {x y : Value} (h0 : w.cell? ⟨g, 0, none⟩ = some x) (h1 : w.cell? ⟨g, 1, none⟩ = some y) (k0 : w.frozen? ⟨g, 0, none⟩ = false) (k1 : w.frozen? ⟨g, 1, none⟩ = false) : Box w g [x, y] :=
  ⟨fun j v hj => by match j, hj with | 0, hj => cases hj; exact ⟨h0, k0⟩ | 1, hj => cases hj; exact ⟨h1, k1⟩⟩
theorem Box.mk3 {w : World} {g : Nat} {x y z : Value} (h0 : w.cell? ⟨g, 0, none⟩ = some x) (h1 : w.cell? ⟨g, 1, none⟩ = some y) (h2 : w.cell? ⟨g, 2, none⟩ = some z) (k0 : w.frozen? ⟨g, 0, none⟩ = false) (k1 : w.frozen? ⟨g, 1, none⟩ = false) (k2 : w.frozen? ⟨g, 2, none⟩ = false) : Box w g [x, y, z] :=
  ⟨fun j v hj => by match j, hj with | 0, hj => cases hj; exact ⟨h0, k0⟩ | 1, hj => cases hj; exact ⟨h1, k1⟩ | 2, hj => cases hj; exact ⟨h2, k2⟩⟩

theorem Box.alloc {w : World} {g : Nat} {l : List Value} (h : Box w g l) (o : Obj) : Box (w.alloc o) g l := h.below ((Below.refl _ _).alloc (Nat.le_refl _) _)
theorem Box.drew {w : World} {g : Nat} {l : List Value} (h : Box w g l) : Box w.drew g l := h.below (Below.refl _ _).drew
theorem Box.far {w : World} {g : Nat} {l : List Value} {p : Addr} (h : Box w g l) (hg : g ≠ p.block) (u : Value) : Box (w.setCell p u) g l := by
  have hb := Below.heap_setCell w p u g hg
  refine ⟨fun j v hj => ?_⟩
  have := h.out j v hj
  refine ⟨?_, ?_⟩
  · simpa [World.cell?, hb] using this.1
  · simpa [World.frozen?, hb] using this.2
theorem Box.far2 {w : World} {g g' : Nat} {l : List Value} (h : Box w g l) (hg : g ≠ g') (x y : Value) : Box ((w.setCell ⟨g', 0, none⟩ x).setCell ⟨g', 1, none⟩ y) g l := (h.far (p := ⟨g', 0, none⟩) hg x).far (p := ⟨g', 1, none⟩) hg y
theorem Box.far3 {w : World} {g g' : Nat} {l : List Value} (h : Box w g l) (hg : g ≠ g') (x y z : Value) : Box (((w.setCell ⟨g', 0, none⟩ x).setCell ⟨g', 1, none⟩ y).setCell ⟨g', 2, none⟩ z) g l := (h.far2 hg x y).far (p := ⟨g', 2, none⟩) hg z
theorem Box.new2 (w : World) (g : Nat) (x y : Value) (t : TypeId) (hg : w.heap.size = g) : Box (w.alloc (.cells #[x, y] t)) g [x, y] := by
  subst hg
  exact .mk2 (by simp) (by simp) (by simp) (by simp)
theorem Box.new3 (w : World) (g : Nat) (x y z : Value) (t : TypeId) (hg : w.heap.size = g) : Box (w.alloc (.cells #[x, y, z] t)) g [x, y, z] := by
  subst hg
  exact .mk3 (by simp) (by simp) (by simp) (by simp) (by simp) (by simp)
theorem below2 {B : Nat} {w0 w : World} {g : Nat} (h : Below B w0 w) (hg : B ≤ g) (x y : Value) : Below B w0 ((w.setCell ⟨g, 0, none⟩ x).setCell ⟨g, 1, none⟩ y) :=
  (h.setCell (p := ⟨g, 0, none⟩) hg x).setCell (p := ⟨g, 1, none⟩) hg y
theorem below3 {B : Nat} {w0 w : World} {g : Nat} (h : Below B w0 w) (hg : B ≤ g) (x y z : Value) : Below B w0 (((w.setCell ⟨g, 0, none⟩ x).setCell ⟨g, 1, none⟩ y).setCell ⟨g, 2, none⟩ z) :=
  (below2 h hg x y).setCell (p := ⟨g, 2, none⟩) hg z

set_option maxHeartbeats 1000000 in
theorem wholeOf_n (b : Bool) (n : Nat) (ok : Nat → Prop) (v : Value) (w : World) (hv : Rdv w ok v n) :
    Calls Try.prog 47 #[.bool b, v] w fun e w' => e = .returned (.agg #[.bool (sgn b n), v]) ∧ Below w.heap.size w w' := by
  obtain ⟨A, c, rfl, hl, hc⟩ := hv.form
  have hs := len_pos_iff n
  have hb : sgn b n = (b && decide (0 < n)) := rfl
  rw [← hs] at hb
  have HS := Aside0.mk hb
  clear hb hs hc hl hv
  generalize (digs n).length = m at *
  generalize sgn b n = s at *
  cases b
  · go_enter Try.func47, Try.ntmps47
    go_wp2
    refine bodyPost_ret (v := .agg #[.bool false, .slice A m c]) (by simp [results, Try.results47, go_sem]) rfl ⟨?_, ?_⟩
    · rw [HS.out]; rfl
    · exact (Below.refl _ _).alloc (Nat.le_refl _) _
  · go_enter Try.func47, Try.ntmps47
    go_wp2
    refine bodyPost_ret (v := .agg #[.bool (decide ((0 : Int) < (m : Int))), .slice A m c]) (by simp [results, Try.results47, go_sem]) rfl ⟨?_, ?_⟩
    · rw [HS.out]; rfl
    · exact (Below.refl _ _).alloc (Nat.le_refl _) _

theorem digs_1 : digs 1 = [1] := by rw [digs_one (by decide) (by decide)]; rfl
theorem one_n (w : World) : Calls Try.prog 50 #[] w fun e w' => ∃ v, e = .returned v ∧ Rdv w' (fun k => w.heap.size ≤ k) v 1 ∧ Below w.heap.size w w' := by
  refine (Go.Proofs.Yteohmbannpbokaa.Pone.spec_one.calls [1] w rfl).mono ?_
  rintro e w' ⟨v, rfl, hr, hb⟩
  rw [← digs_1] at hr
  exact ⟨v, rfl, Rdv.of_R hr, hb⟩

theorem len_pow10 (e : Nat) : (digs (10 ^ e)).length ≤ e + 1 := by
  refine len_digs_le ?_
  rw [show (1000000000 : Nat) = 10 ^ 9 by decide, ← Nat.pow_mul]
  exact Nat.pow_lt_pow_right (by decide) (by omega)

set_option maxHeartbeats 4000000 in
/-- A decimal number with an exponent that is not below 0, as a fraction. -/
theorem frac_pos (b : Bool) (n e : Nat) (ok : Nat → Prop) (v : Value) (w : World) (hv : Rdv w ok v n) (he : e ≤ 1000000) (hl : (digs n).length ≤ 1000000000) :
    Calls Try.prog 28 #[.agg #[.bool b, v, .int .i64 e]] w fun en w' => ∃ u d, en = .returned (.agg #[.bool (sgn b (n * 10 ^ e)), u, d]) ∧ Rdv w' (fun k => w.heap.size ≤ k) u (n * 10 ^ e) ∧ Rdv w' (fun k => w.heap.size ≤ k) d 1 ∧ Below w.heap.size w w' := by
  obtain ⟨A, c, rfl, hl0, hC0⟩ := hv.form
  have hle := len_pow10 e
  have HP := Aside0.mk (fun w => pow10_n e w he)
  have HM := Aside0.mk (fun oa ob v u w hv hu => mul_n n (10 ^ e) oa ob v u w hv hu (by omega))
  have HW := Aside0.mk (fun ok v w => wholeOf_n b (n * 10 ^ e) ok v w)
  have h0 : (0 : Int) ≤ (e : Int) := Int.natCast_nonneg _
  have h1 : (e : Int) ≤ 1000000 := by omega
  clear hle he hl hC0 hl0
  generalize n * 10 ^ e = p at *
  generalize 10 ^ e = q at *
  generalize sgn b p = s1 at *
  generalize (e : Int) = E at *
  generalize hm : (digs n).length = m at *
  clear hm
  go_enter Try.func28, Try.ntmps28
  go_wp2_with fail
  have bx0 : Box ((w.alloc (Obj.cells #[Value.bool b, Value.slice A m c, Value.int IntKind.i64 E] 50)).alloc (Obj.cells #[Value.bool false, Value.slice none 0 0, Value.slice none 0 0] 30)).drew w.heap.size [.bool b, .slice A m c, .int IntKind.i64 E] := ((Box.new3 w _ _ _ _ _ (by simp)).alloc _).drew
  have rx0 : Box ((w.alloc (Obj.cells #[Value.bool b, Value.slice A m c, Value.int IntKind.i64 E] 50)).alloc (Obj.cells #[Value.bool false, Value.slice none 0 0, Value.slice none 0 0] 30)).drew (w.heap.size + 1) [.bool false, .slice none 0 0, .slice none 0 0] := (Box.new3 (w.alloc (Obj.cells #[Value.bool b, Value.slice A m c, Value.int IntKind.i64 E] 50)) _ _ _ _ _ (by simp)).drew
  have hB0 : Below w.heap.size w ((w.alloc (Obj.cells #[Value.bool b, Value.slice A m c, Value.int IntKind.i64 E] 50)).alloc (Obj.cells #[Value.bool false, Value.slice none 0 0, Value.slice none 0 0] 30)).drew := (((Below.refl _ _).alloc (Nat.le_refl _) _).alloc (by simp) _).drew
  replace hv := hv.below hB0
  have nebx : w.heap.size ≠ (w.heap.size + 1) := by omega
  go_region_held3 (fun w' => w'.cell? ⟨w.heap.size, 0, none⟩ = some (.bool b) ∧ w'.cell? ⟨w.heap.size, 1, none⟩ = some (.slice A m c) ∧ w'.cell? ⟨w.heap.size, 2, none⟩ = some (.int IntKind.i64 E))
      (first
        | (go_keep; done)
        | exact ⟨bx4.c0, bx4.c1, bx4.c2⟩
        | exact ⟨bx3.c0, bx3.c1, bx3.c2⟩
        | exact ⟨bx2.c0, bx2.c1, bx2.c2⟩
        | exact ⟨bx1.c0, bx1.c1, bx1.c2⟩
        | exact ⟨(bx4.far3 nebx _ _ _).c0, (bx4.far3 nebx _ _ _).c1, (bx4.far3 nebx _ _ _).c2⟩)
      (first
        | (go_at_call 49; refine (HP.out _).mono ?_; rintro e w1 ⟨v1, rfl, hv1, hb1⟩; replace hv1 := hv1.mono (ok' := fun k => w.heap.size + 2 ≤ k) (fun k hk => by simp at hk; omega); obtain ⟨A1, c1, rfl, _, _⟩ := hv1.form; have sz1 := hb1.size; simp at sz1; have bx1 := bx0.below hb1; have xbx10 := bx1.c0; have xbx11 := bx1.c1; have xbx12 := bx1.c2; have rx1 := rx0.below hb1; have xrx10 := rx1.c0; have xrx11 := rx1.c1; have xrx12 := rx1.c2; have yrx10 := rx1.f0; have yrx11 := rx1.f1; have yrx12 := rx1.f2)
        | (go_at_call 48; refine (HM.out _ _ _ _ _ (hv.below hb1) hv1).mono ?_; rintro e w2 ⟨v2, rfl, hv2, hb2⟩; replace hv2 := hv2.mono (ok' := fun k => w.heap.size + 2 ≤ k) (fun k hk => by have : _ ≤ k := hk; omega); obtain ⟨A2, c2, rfl, _, _⟩ := hv2.form; have sz2 := hb2.size; have bx2 := bx1.below hb2; have xbx20 := bx2.c0; have xbx21 := bx2.c1; have xbx22 := bx2.c2; have rx2 := rx1.below hb2; have xrx20 := rx2.c0; have xrx21 := rx2.c1; have xrx22 := rx2.c2; have yrx20 := rx2.f0; have yrx21 := rx2.f1; have yrx22 := rx2.f2)
        | (go_at_call 47; refine (HW.out _ _ _ hv2).mono ?_; rintro e w3 ⟨rfl, hb3⟩; have sz3 := hb3.size; have bx3 := bx2.below hb3; have xbx30 := bx3.c0; have xbx31 := bx3.c1; have xbx32 := bx3.c2; have rx3 := rx2.below hb3; have xrx30 := rx3.c0; have xrx31 := rx3.c1; have xrx32 := rx3.c2; have yrx30 := rx3.f0; have yrx31 := rx3.f1; have yrx32 := rx3.f2)
        | (go_at_call 50; refine (one_n _).mono ?_; rintro e w4 ⟨v4, rfl, hv4, hb4⟩; replace hv4 := hv4.mono (ok' := fun k => w.heap.size + 2 ≤ k) (fun k hk => by have : _ ≤ k := hk; omega); obtain ⟨A4, c4, rfl, _, _⟩ := hv4.form; have sz4 := hb4.size; have bx4 := bx3.below hb4; have xbx40 := bx4.c0; have xbx41 := bx4.c1; have xbx42 := bx4.c2; have rx4 := rx3.below hb4; have xrx40 := rx4.c0; have xrx41 := rx4.c1; have xrx42 := rx4.c2; have yrx40 := rx4.f0; have yrx41 := rx4.f1; have yrx42 := rx4.f2))
  go_wp2
  refine bodyPost_ret (v := .agg #[.bool s1, .slice A2 (digs p).length c2, .slice A4 (digs 1).length c4]) (by simp [results, Try.results28, go_sem, rx4.c0, rx4.c1, rx4.c2]) rfl ?_
  have hf : ∀ k, w.heap.size + 2 ≤ k → k ≠ w.heap.size + 1 := fun k hk => by omega
  exact ⟨_, _, rfl, (((hv2.below hb3).below hb4).far3 hf _ _ _).mono (fun k hk => by omega), (hv4.far3 hf _ _ _).mono (fun k hk => by omega), below3 (below_step (below_step (below_step (below_step hB0 hb1) hb2) hb3) hb4) (by omega) _ _ _⟩

set_option maxHeartbeats 4000000 in
/-- A decimal number with an exponent below 0, as a fraction. -/
theorem frac_neg (b : Bool) (n e : Nat) (ok : Nat → Prop) (v : Value) (w : World) (hv : Rdv w ok v n) (he : e ≤ 1000000) (he0 : 0 < e) :
    Calls Try.prog 28 #[.agg #[.bool b, v, .int .i64 (-(e : Int))]] w fun en w' => ∃ d, en = .returned (.agg #[.bool b, v, d]) ∧ Rdv w' (fun k => ok k) v n ∧ Rdv w' (fun k => w.heap.size ≤ k) d (10 ^ e) ∧ Below w.heap.size w w' := by
  obtain ⟨A, c, rfl, hl0, hC0⟩ := hv.form
  have HP := Aside0.mk (fun w => pow10_n e w he)
  obtain ⟨E, hE⟩ : ∃ E : Int, E = -(e : Int) := ⟨_, rfl⟩
  have hneg : IntKind.i64.wrap (-E) = (e : Int) := by rw [hE, Int.neg_neg]; exact IntWalk.i64_in _ (by omega)
  have h0 : E < 0 := by omega
  have hd0 : decide (0 ≤ E) = false := decide_eq_false (by omega)
  rw [← hE]
  clear hE he he0 hC0 hl0
  generalize 10 ^ e = q at *
  generalize (e : Int) = X at *
  have hb0 := hv.bound
  generalize hm : (digs n).length = m at *
  clear hm
  go_enter Try.func28, Try.ntmps28
  go_wp2_with fail
  have bx0 : Box ((w.alloc (Obj.cells #[Value.bool b, Value.slice A m c, Value.int IntKind.i64 E] 50)).alloc (Obj.cells #[Value.bool false, Value.slice none 0 0, Value.slice none 0 0] 30)).drew w.heap.size [.bool b, .slice A m c, .int IntKind.i64 E] := ((Box.new3 w _ _ _ _ _ (by simp)).alloc _).drew
  have rx0 : Box ((w.alloc (Obj.cells #[Value.bool b, Value.slice A m c, Value.int IntKind.i64 E] 50)).alloc (Obj.cells #[Value.bool false, Value.slice none 0 0, Value.slice none 0 0] 30)).drew (w.heap.size + 1) [.bool false, .slice none 0 0, .slice none 0 0] := (Box.new3 (w.alloc (Obj.cells #[Value.bool b, Value.slice A m c, Value.int IntKind.i64 E] 50)) _ _ _ _ _ (by simp)).drew
  have hB0 : Below w.heap.size w ((w.alloc (Obj.cells #[Value.bool b, Value.slice A m c, Value.int IntKind.i64 E] 50)).alloc (Obj.cells #[Value.bool false, Value.slice none 0 0, Value.slice none 0 0] 30)).drew := (((Below.refl _ _).alloc (Nat.le_refl _) _).alloc (by simp) _).drew
  replace hb0 := hb0.below hB0
  have nebx : w.heap.size ≠ (w.heap.size + 1) := by omega
  go_region_held3 (fun w' => w'.cell? ⟨w.heap.size, 0, none⟩ = some (.bool b) ∧ w'.cell? ⟨w.heap.size, 1, none⟩ = some (.slice A m c) ∧ w'.cell? ⟨w.heap.size, 2, none⟩ = some (.int IntKind.i64 E))
      (first
        | (go_keep; done)
        | exact ⟨bx1.c0, bx1.c1, bx1.c2⟩
        | exact ⟨(bx1.far3 nebx _ _ _).c0, (bx1.far3 nebx _ _ _).c1, (bx1.far3 nebx _ _ _).c2⟩)
      (first
        | (go_at_call 49; refine (HP.out _).mono ?_; rintro e w1 ⟨v1, rfl, hv1, hb1⟩; replace hv1 := hv1.mono (ok' := fun k => w.heap.size + 2 ≤ k) (fun k hk => by simp at hk; omega); obtain ⟨A1, c1, rfl, _, _⟩ := hv1.form; have sz1 := hb1.size; simp at sz1; have bx1 := bx0.below hb1; have xbx10 := bx1.c0; have xbx11 := bx1.c1; have xbx12 := bx1.c2; have rx1 := rx0.below hb1; have xrx10 := rx1.c0; have xrx11 := rx1.c1; have xrx12 := rx1.c2; have yrx10 := rx1.f0; have yrx11 := rx1.f1; have yrx12 := rx1.f2))
  go_wp2
  refine bodyPost_ret (v := .agg #[.bool b, .slice A m c, .slice A1 (digs q).length c1]) (by simp [results, Try.results28, go_sem, rx1.c0, rx1.c1, rx1.c2]) rfl ?_
  have hf : ∀ k, w.heap.size + 2 ≤ k → k ≠ w.heap.size + 1 := fun k hk => by omega
  exact ⟨_, rfl, ((hb0.below hb1).far3 (fun k hk => by omega) _ _ _).mono (fun k hk => hk.1), (hv1.far3 hf _ _ _).mono (fun k hk => by omega), below3 (below_step hB0 hb1) (by omega) _ _ _⟩

theorem sgn_sgn (b : Bool) (n : Nat) : sgn (sgn b n) n = sgn b n := by unfold sgn; cases b <;> simp
/-- A decimal number with so many places, as a fraction. -/
theorem frac_dec (b : Bool) (n s : Nat) (ok : Nat → Prop) (v : Value) (w : World) (hv : Rdv w ok v n) (hb : sgn b n = b) (hs : s ≤ 1000000) (hl : (digs n).length ≤ 1000000000) :
    Calls Try.prog 28 #[.agg #[.bool b, v, .int .i64 (-(s : Int))]] w fun en w' => ∃ u d, en = .returned (.agg #[.bool b, u, d]) ∧ Rdv w' (fun k => ok k ∨ w.heap.size ≤ k) u n ∧ Rdv w' (fun k => w.heap.size ≤ k) d (10 ^ s) ∧ Below w.heap.size w w' := by
  by_cases h : s = 0
  · subst h
    have hc := frac_pos b n 0 ok v w hv (by omega) hl
    refine hc.mono ?_
    rw [Nat.pow_zero, Nat.mul_one, hb]
    rintro e w' ⟨u, d, rfl, hu, hd, hbl⟩
    exact ⟨u, d, rfl, hu.mono (fun _ => .inr), hd, hbl⟩
  · refine (frac_neg b n s ok v w hv hs (by omega)).mono ?_
    rintro e w' ⟨d, rfl, hu, hd, hbl⟩
    exact ⟨v, d, rfl, hu.mono (fun _ => .inl), hd, hbl⟩

end Go.Proofs.Yteohmbannpbokaa.SpecWalk

set_option linter.unusedVariables false
set_option linter.unusedSimpArgs false
namespace Go.Proofs.Yteohmbannpbokaa.SpecWalk
open Go.RowKit Go.Proofs.YteohmbannpbokaaW.PrintWords Go.Proofs.YteohmbannpbokaaW.PrintLast Go.Proofs.YteohmbannpbokaaW.PrintMore Go.Proofs.Yteohmbannpbokaa.Digs Go.Proofs.Yteohmbannpbokaa.StrLaw Go.Proofs.Yteohmbannpbokaa.NatLaw Go.Proofs.Yteohmbannpbokaa.NatWalk

set_option maxHeartbeats 4000000 in
theorem WholeMul_n (a b : Bool) (m n : Nat) (oa ob : Nat → Prop) (v u : Value) (w : World) (hv : Rdv w oa v m) (hu : Rdv w ob u n) (hl : (digs m).length + (digs n).length ≤ 1000000000) :
    Calls Try.prog 51 #[.agg #[.bool a, v], .agg #[.bool b, u]] w fun en w' => ∃ z, en = .returned (.agg #[.bool (sgn (a != b) (m * n)), z]) ∧ Rdv w' (fun k => w.heap.size ≤ k) z (m * n) ∧ Below w.heap.size w w' := by
  obtain ⟨A, c, rfl, _, _⟩ := hv.form
  obtain ⟨A', c', rfl, _, _⟩ := hu.form
  have HM := Aside0.mk (fun oa ob v u w hv hu => mul_n m n oa ob v u w hv hu (by omega))
  have HW := Aside0.mk (fun ok v w => wholeOf_n (a != b) (m * n) ok v w)
  clear hl
  generalize m * n = p at *
  generalize hs : sgn (a != b) p = s1 at *
  clear hs
  generalize hm : (digs m).length = m0 at *
  generalize hn : (digs n).length = n0 at *
  clear hm hn
  go_enter Try.func51, Try.ntmps51
  go_wp2_with fail
  have ax0 : Box (((w.alloc (Obj.cells #[Value.bool a, Value.slice A m0 c] 28)).alloc (Obj.cells #[Value.bool b, Value.slice A' n0 c'] 28)).alloc (Obj.cells #[Value.bool false, Value.slice none 0 0] 28)).drew w.heap.size [.bool a, .slice A m0 c] := (((Box.new2 w _ _ _ _ (by simp)).alloc _).alloc _).drew
  have bx0 : Box (((w.alloc (Obj.cells #[Value.bool a, Value.slice A m0 c] 28)).alloc (Obj.cells #[Value.bool b, Value.slice A' n0 c'] 28)).alloc (Obj.cells #[Value.bool false, Value.slice none 0 0] 28)).drew (w.heap.size + 1) [.bool b, .slice A' n0 c'] := ((Box.new2 (w.alloc (Obj.cells #[Value.bool a, Value.slice A m0 c] 28)) _ _ _ _ (by simp)).alloc _).drew
  have rx0 : Box (((w.alloc (Obj.cells #[Value.bool a, Value.slice A m0 c] 28)).alloc (Obj.cells #[Value.bool b, Value.slice A' n0 c'] 28)).alloc (Obj.cells #[Value.bool false, Value.slice none 0 0] 28)).drew (w.heap.size + 1 + 1) [.bool false, .slice none 0 0] := (Box.new2 ((w.alloc (Obj.cells #[Value.bool a, Value.slice A m0 c] 28)).alloc (Obj.cells #[Value.bool b, Value.slice A' n0 c'] 28)) _ _ _ _ (by simp)).drew
  have hB0 : Below w.heap.size w (((w.alloc (Obj.cells #[Value.bool a, Value.slice A m0 c] 28)).alloc (Obj.cells #[Value.bool b, Value.slice A' n0 c'] 28)).alloc (Obj.cells #[Value.bool false, Value.slice none 0 0] 28)).drew := ((((Below.refl _ _).alloc (Nat.le_refl _) _).alloc (by simp) _).alloc (by simp; omega) _).drew
  replace hv := hv.below hB0
  replace hu := hu.below hB0
  have neax : w.heap.size ≠ (w.heap.size + 1 + 1) := by omega
  have nebx : (w.heap.size + 1) ≠ (w.heap.size + 1 + 1) := by omega
  go_region_held3 (fun w' => w'.cell? ⟨w.heap.size, 0, none⟩ = some (.bool a) ∧ w'.cell? ⟨w.heap.size, 1, none⟩ = some (.slice A m0 c) ∧ w'.cell? ⟨(w.heap.size + 1), 0, none⟩ = some (.bool b) ∧ w'.cell? ⟨(w.heap.size + 1), 1, none⟩ = some (.slice A' n0 c'))
      (first
        | (go_keep; done)
        | exact ⟨ax2.c0, ax2.c1, bx2.c0, bx2.c1⟩
        | exact ⟨ax1.c0, ax1.c1, bx1.c0, bx1.c1⟩
        | exact ⟨(ax2.far2 neax _ _).c0, (ax2.far2 neax _ _).c1, (bx2.far2 nebx _ _).c0, (bx2.far2 nebx _ _).c1⟩)
      (first
        | (go_at_call 48; refine (HM.out _ _ _ _ _ hv hu).mono ?_; rintro e w1 ⟨v1, rfl, hv1, hb1⟩; replace hv1 := hv1.mono (ok' := fun k => w.heap.size + 3 ≤ k) (fun k hk => by simp at hk; omega); obtain ⟨A1, c1, rfl, _, _⟩ := hv1.form; have sz1 := hb1.size; simp at sz1; have ax1 := ax0.below hb1; have xax10 := ax1.c0; have xax11 := ax1.c1; have bx1 := bx0.below hb1; have xbx10 := bx1.c0; have xbx11 := bx1.c1; have rx1 := rx0.below hb1; have xrx10 := rx1.c0; have xrx11 := rx1.c1; have yrx10 := rx1.f0; have yrx11 := rx1.f1)
        | (go_at_call 47; refine (HW.out _ _ _ hv1).mono ?_; rintro e w2 ⟨rfl, hb2⟩; have sz2 := hb2.size; have ax2 := ax1.below hb2; have xax20 := ax2.c0; have xax21 := ax2.c1; have bx2 := bx1.below hb2; have xbx20 := bx2.c0; have xbx21 := bx2.c1; have rx2 := rx1.below hb2; have xrx20 := rx2.c0; have xrx21 := rx2.c1; have yrx20 := rx2.f0; have yrx21 := rx2.f1))
  go_wp2
  refine bodyPost_ret (v := .agg #[.bool s1, .slice A1 (digs p).length c1]) (by simp [results, Try.results51, go_sem, rx2.c0, rx2.c1]) rfl ?_
  exact ⟨_, rfl, ((hv1.below hb2).far2 (fun k hk => by omega) _ _).mono (fun k hk => by omega), below2 (below_step (below_step hB0 hb1) hb2) (by omega) _ _⟩

/-- The order of two whole numbers. -/
def cmpW (a : Bool) (m : Nat) (b : Bool) (n : Nat) : Int := if a = b then (if a then cmpN n m else cmpN m n) else if a then -1 else 1
set_option maxHeartbeats 4000000 in
theorem WholeCmp_n (a b : Bool) (m n : Nat) (oa ob : Nat → Prop) (v u : Value) (w : World) (hv : Rdv w oa v m) (hu : Rdv w ob u n) (hlm : (digs m).length ≤ 4000000000) (hln : (digs n).length ≤ 4000000000) :
    Calls Try.prog 31 #[.agg #[.bool a, v], .agg #[.bool b, u]] w fun en w' => en = .returned (.int .i64 (cmpW a m b n)) ∧ Below w.heap.size w w' := by
  have hw := (((Below.refl w.heap.size w).alloc (Nat.le_refl _) (.cells #[.bool a, v] 28)).alloc (by simp) (.cells #[.bool b, u] 28))
  have h1 := fun w1 (h : Below w.heap.size w w1) => cmp_n m n oa ob v u w1 (hv.below h) (hu.below h) hlm
  have h2 := fun w1 (h : Below w.heap.size w w1) => cmp_n n m ob oa u v w1 (hu.below h) (hv.below h) hln
  have H1 := Aside0.mk h1
  have H2 := Aside0.mk h2
  have HW := Aside0.mk hw
  obtain ⟨A, c, rfl, _, _⟩ := hv.form
  obtain ⟨A', c', rfl, _, _⟩ := hu.form
  clear h1 h2 hw hv hu hlm hln
  generalize hm : (digs m).length = m0 at *
  generalize hn : (digs n).length = n0 at *
  clear hm hn
  have HT : Aside0 (cmpW true m true n = cmpN n m) := ⟨rfl⟩
  have HF : Aside0 (cmpW false m false n = cmpN m n) := ⟨rfl⟩
  have HTF : Aside0 (cmpW true m false n = -1) := ⟨rfl⟩
  have HFT : Aside0 (cmpW false m true n = 1) := ⟨rfl⟩
  cases a <;> cases b
  · go_enter Try.func31, Try.ntmps31
    go_wp2_with (go_at_call 52; refine (H1.out _ HW.out).mono ?_; rintro e w1 ⟨rfl, hd⟩; have HD := Aside0.mk hd; clear hd)
    go_ret
    exact ⟨by rw [HF.out]; rfl, below_step HW.out HD.out.below⟩
  · go_enter Try.func31, Try.ntmps31
    go_wp2
    go_ret
    exact ⟨by rw [HFT.out]; rfl, HW.out⟩
  · go_enter Try.func31, Try.ntmps31
    go_wp2
    go_ret
    exact ⟨by rw [HTF.out]; rfl, HW.out⟩
  · go_enter Try.func31, Try.ntmps31
    go_wp2_with (go_at_call 52; refine (H2.out _ HW.out).mono ?_; rintro e w1 ⟨rfl, hd⟩; have HD := Aside0.mk hd; clear hd)
    go_ret
    exact ⟨by rw [HT.out]; rfl, below_step HW.out HD.out.below⟩

set_option maxHeartbeats 4000000 in
/-- The order of two fractions. -/
theorem FracCmp_n (a b : Bool) (m d n f : Nat) (oa od ob of : Nat → Prop) (v x u y : Value) (w : World) (hv : Rdv w oa v m) (hx : Rdv w od x d) (hu : Rdv w ob u n) (hy : Rdv w of y f) (h1 : (digs m).length ≤ 100000000) (h2 : (digs d).length ≤ 100000000) (h3 : (digs n).length ≤ 100000000) (h4 : (digs f).length ≤ 100000000)
    (hmf : (digs (m * f)).length ≤ 4000000000) (hnd : (digs (n * d)).length ≤ 4000000000) :
    Calls Try.prog 29 #[.agg #[.bool a, v, x], .agg #[.bool b, u, y]] w fun en w' => en = .returned (.int .i64 (cmpW (sgn (a != false) (m * f)) (m * f) (sgn (b != false) (n * d)) (n * d))) ∧ Below w.heap.size w w' := by
  obtain ⟨A0, c0, rfl, _, _⟩ := hv.form
  obtain ⟨A1, c1, rfl, _, _⟩ := hx.form
  obtain ⟨A2, c2, rfl, _, _⟩ := hu.form
  obtain ⟨A3, c3, rfl, _, _⟩ := hy.form
  have HM1 := Aside0.mk (fun oa ob v u w hv hu => WholeMul_n a false m f oa ob v u w hv hu (by omega))
  have HM2 := Aside0.mk (fun oa ob v u w hv hu => WholeMul_n b false n d oa ob v u w hv hu (by omega))
  have HC := Aside0.mk (fun oa ob v u w hv hu => WholeCmp_n (sgn (a != false) (m * f)) (sgn (b != false) (n * d)) (m * f) (n * d) oa ob v u w hv hu hmf hnd)
  clear h1 h2 h3 h4 hmf hnd
  generalize m * f = p at *
  generalize n * d = q at *
  generalize hs1 : sgn (a != false) p = s1 at *
  generalize hs2 : sgn (b != false) q = s2 at *
  clear hs1 hs2
  generalize hm : (digs m).length = m0 at *
  generalize hn : (digs n).length = n0 at *
  generalize hd : (digs d).length = d0 at *
  generalize hf : (digs f).length = f0 at *
  clear hm hn hd hf
  go_enter Try.func29, Try.ntmps29
  go_wp2_with fail
  have ax0 : Box ((w.alloc (Obj.cells #[Value.bool a, Value.slice A0 m0 c0, Value.slice A1 d0 c1] 30)).alloc (Obj.cells #[Value.bool b, Value.slice A2 n0 c2, Value.slice A3 f0 c3] 30)).drew w.heap.size [.bool a, .slice A0 m0 c0, .slice A1 d0 c1] := ((Box.new3 w _ _ _ _ _ (by simp)).alloc _).drew
  have bx0 : Box ((w.alloc (Obj.cells #[Value.bool a, Value.slice A0 m0 c0, Value.slice A1 d0 c1] 30)).alloc (Obj.cells #[Value.bool b, Value.slice A2 n0 c2, Value.slice A3 f0 c3] 30)).drew (w.heap.size + 1) [.bool b, .slice A2 n0 c2, .slice A3 f0 c3] := (Box.new3 (w.alloc (Obj.cells #[Value.bool a, Value.slice A0 m0 c0, Value.slice A1 d0 c1] 30)) _ _ _ _ _ (by simp)).drew
  have hB0 : Below w.heap.size w ((w.alloc (Obj.cells #[Value.bool a, Value.slice A0 m0 c0, Value.slice A1 d0 c1] 30)).alloc (Obj.cells #[Value.bool b, Value.slice A2 n0 c2, Value.slice A3 f0 c3] 30)).drew := (((Below.refl _ _).alloc (Nat.le_refl _) _).alloc (by simp) _).drew
  replace hv := hv.below hB0
  replace hx := hx.below hB0
  replace hu := hu.below hB0
  replace hy := hy.below hB0
  go_region_held3 (fun w' => w'.cell? ⟨w.heap.size, 0, none⟩ = some (.bool a) ∧ w'.cell? ⟨w.heap.size, 1, none⟩ = some (.slice A0 m0 c0) ∧ w'.cell? ⟨w.heap.size, 2, none⟩ = some (.slice A1 d0 c1) ∧ w'.cell? ⟨(w.heap.size + 1), 0, none⟩ = some (.bool b) ∧ w'.cell? ⟨(w.heap.size + 1), 1, none⟩ = some (.slice A2 n0 c2) ∧ w'.cell? ⟨(w.heap.size + 1), 2, none⟩ = some (.slice A3 f0 c3))
      (first
        | (go_keep; done)
        | exact ⟨ax3.c0, ax3.c1, ax3.c2, bx3.c0, bx3.c1, bx3.c2⟩
        | exact ⟨ax2.c0, ax2.c1, ax2.c2, bx2.c0, bx2.c1, bx2.c2⟩
        | exact ⟨ax1.c0, ax1.c1, ax1.c2, bx1.c0, bx1.c1, bx1.c2⟩)
      (first
        | (go_at_call_of 51 (Value.agg #[Value.bool a, Value.slice A0 m0 c0]); refine (HM1.out _ _ _ _ _ hv hy).mono ?_; rintro e w1 ⟨z1, rfl, hz1, hb1⟩; obtain ⟨B1, e1, rfl, _, _⟩ := hz1.form; have sz1 := hb1.size; simp at sz1; have ax1 := ax0.below hb1; have xax10 := ax1.c0; have xax11 := ax1.c1; have xax12 := ax1.c2; have bx1 := bx0.below hb1; have xbx10 := bx1.c0; have xbx11 := bx1.c1; have xbx12 := bx1.c2)
        | (go_at_call_of 51 (Value.agg #[Value.bool b, Value.slice A2 n0 c2]); refine (HM2.out _ _ _ _ _ (hu.below hb1) (hx.below hb1)).mono ?_; rintro e w2 ⟨z2, rfl, hz2, hb2⟩; obtain ⟨B2, e2, rfl, _, _⟩ := hz2.form; have sz2 := hb2.size; have ax2 := ax1.below hb2; have xax20 := ax2.c0; have xax21 := ax2.c1; have xax22 := ax2.c2; have bx2 := bx1.below hb2; have xbx20 := bx2.c0; have xbx21 := bx2.c1; have xbx22 := bx2.c2)
        | (go_at_call 31; refine (HC.out _ _ _ _ _ (hz1.below hb2) hz2).mono ?_; rintro e w3 ⟨rfl, hb3⟩; have sz3 := hb3.size; have ax3 := ax2.below hb3; have xax30 := ax3.c0; have xax31 := ax3.c1; have xax32 := ax3.c2; have bx3 := bx2.below hb3; have xbx30 := bx3.c0; have xbx31 := bx3.c1; have xbx32 := bx3.c2))
  go_wp2
  go_ret
  exact ⟨rfl, (below_step (below_step (below_step hB0 hb1) hb2) hb3)⟩

/-! ### a result beside a number -/
theorem digs_len (n k : Nat) (h : n < 1000000000 ^ k) : (digs n).length ≤ k := len_digs_le h
end Go.Proofs.Yteohmbannpbokaa.SpecWalk

set_option linter.unusedVariables false
set_option linter.unusedSimpArgs false
namespace Go.Proofs.Yteohmbannpbokaa.TextWalk
open Go.RowKit Go.Proofs.YteohmbannpbokaaW.PrintWords Go.Proofs.YteohmbannpbokaaW.PrintLast Go.Proofs.YteohmbannpbokaaW.PrintMore Go.Proofs.Yteohmbannpbokaa.Digs Go.Proofs.Yteohmbannpbokaa.StrLaw Go.Proofs.Yteohmbannpbokaa.NatLaw Go.Proofs.Yteohmbannpbokaa.NatWalk Go.Proofs.Yteohmbannpbokaa.TextLaw

theorem toList_len (s : ByteArray) : s.toList.length = s.size := by rw [ByteArray.toList_eq, Array.length_toList]; rfl
theorem infoU : (Try.prog.info? 89).map (fun i => (i.zero, i.size, i.bytes)) = some (some (.int .u32 0), 1, 4) := by kernel_rfl
set_option maxHeartbeats 4000000 in
set_option maxRecDepth 100000 in
theorem NatOf_n (s : ByteArray) (w : World) (hD : Digits s) (hl : s.size ≤ 1000000000) :
    Calls Try.prog 57 #[.string s] w fun e w' => ∃ v, e = .returned (.tuple #[v, .bool true]) ∧ Rdv w' (fun k => w.heap.size ≤ k) v (dnum s) ∧ Below w.heap.size w w' := by
  have HD := Aside0.mk hD
  have HB := Aside0.mk (Below.refl w.heap.size w)
  have hs1 : (s.size : Int) ≤ 1000000000 := by omega
  have hs0 : 0 < s.size := hD.pos
  have hne : s.toList.isEmpty = false := by
    rw [List.isEmpty_eq_false_iff]; intro h
    have h1 := toList_len s
    rw [h] at h1
    simp at h1
    omega
  have HNE := Aside0.mk hne
  clear hD hl hne
  go_enter Try.func57, Try.ntmps57
  go_wp2
  go_loopg [4, 5] (s.size + 20) (fun g v4 v5 w' => ∃ (out : List Int) (e : Int), v5 = .int .i64 e ∧ OfInv s out e ∧ Aside0 (e + 9 ≤ (g : Int)) ∧ Aside0 (Kd.R (Kd.int .u32) 89 w' w.heap.size (fun _ => True) v4 out) ∧ Aside0 (Below w.heap.size w w'))
  case atStart => exact ⟨[], s.size, rfl, OfInv.start s, ⟨by omega⟩, ⟨Kd.R_nil _ _ _ _ _⟩, HB⟩
  case round =>
    clear HB
    obtain ⟨out, e, rfl, HI, HG, HO, HB⟩ := hrel
    obtain ⟨b1, b2, b3⟩ := HI.bound
    have HX := Aside0.mk b3
    clear b3
    by_cases he : 0 < e
    · have HE := Aside0.mk he
      have hw9 : wrap64 (e - 9) = e - 9 := w64 _ (by omega) (by omega)
      have HI9 := Aside0.mk HI
      clear HI
      by_cases h9 : 0 < e - 9
      · have h9' : 9 < e := by omega
        obtain ⟨a, ha⟩ : ∃ a : Nat, (a : Int) = e - 9 := ⟨(e - 9).toNat, by omega⟩
        have HA := Aside0.mk (show (a : Int) = max 0 (e - 9) by omega)
        have HA2 := Aside0.mk ha
        clear ha
        have HE9 := Aside0.mk (show 0 < e by omega)
        go_wp2
        clear h9 h9'
        obtain ⟨G0, rfl⟩ : ∃ G0, G0 = gk := ⟨_, rfl⟩
        go_loopg [6, 7] 9 (fun g v6 v7 w' => ∃ (n i : Int), v6 = .int .u32 n ∧ v7 = .int .i64 i ∧ InInv s a n i ∧ Aside0 (i + (g : Int) ≤ (a : Int) + 9 ∧ i ≤ e ∧ e - i ≤ (g : Int)) ∧ Aside0 (Kd.R (Kd.int .u32) 89 w' w.heap.size (fun _ => True) u4 out) ∧ Aside0 (Below w.heap.size w w'))
        case atStart => exact ⟨0, e - 9, rfl, rfl, by rw [← HA2.out]; exact InInv.start s a, ⟨by have := HA2.out; simp; omega⟩, HO, HB⟩
        case round =>
          clear HB HO
          obtain ⟨n, i, rfl, rfl, HI, HM, HO, HB⟩ := hrel
          obtain ⟨c1, c2, c3, c4⟩ := HI.bound HD.out (by have := HM.out; omega) (by have := HM.out; omega)
          have c0 : 0 ≤ i := by omega
          have HC := Aside0.mk c1
          by_cases hie : i < e
          · have c5 := c4 (by have := HA.out; have := HE9.out; omega)
            have hall := HD.out.all i.toNat (by omega)
            rw [show ((i.toNat : Nat) : Int) = i by omega] at hall
            obtain ⟨d1, d2⟩ := hall
            have HI2 := Aside0.mk (HI.step HD.out (by omega))
            have hx := bt_at s i
            have p7 := eq_true c0
            have q7 := eq_true (show i < (s.size : Int) by omega)
            have hlt := hie
            clear HI c4
            generalize bt s i = y at *
            go_wp2
            go_roundg (gk - 1)
            case measure => have := HM.out; omega
            case rel => exact ⟨n * 10 + (y - 48), i + 1, rfl, rfl, HI2.out, ⟨by have := HM.out; omega⟩, HO, HB⟩
          · have HIE := Aside0.mk hie
            obtain ⟨k, hk, hn⟩ := HI.out
            have HST := Aside0.mk (HI9.out.step HD.out HE9.out (a := a) (k := k) (by have := HA.out; omega) (by have := HM.out; omega))
            rw [← hn] at HST
            clear HI c4 hk hn
            go_wp2_with (first | ((with_reducible refine gate_builtin (b := .append) (xs := #[.tmp 40, .tmp 42]) rfl ?_); at_builtin; refine Kd.R_append (Kd.int .u32) (w0 := w) w.heap.size rfl (.tmp 40) (.tmp 42) 26 89 (.int .u32 0) 4 rfl Try.underlying26 infoU rfl (by decide) (by omega) u4 out (n) [.int .u32 (n)] (fun _ => True) (fun _ => False) rfl rfl ?aP (fun _ hk => hk.elim) ?aF ?aO ?aB ?aS ?aL ?_; (case aP => exact rfl); (case aB => exact HB.out); (case aF => exact (fun _ _ => trivial)); (case aO => exact HO.out); (case aS => exact below_size HB.out); (case aL => (have := HX.out; omega)); intro v1 w1 ho hb hg hat; have HO1 := Aside0.mk ho; have HB1 := Aside0.mk hb; clear HB HO ho hb hg hat))
            go_roundg (G0 - 1)
            case measure => have := HG.out; have := HE9.out; omega
            case rel => exact ⟨_, e - 9, by first | rfl | rw [hw9], HST.out, ⟨by have := HG.out; have := HE9.out; omega⟩, HO1, HB1⟩
      · have h9' : e ≤ 9 := by omega
        obtain ⟨a, ha⟩ : ∃ a : Nat, a = 0 := ⟨0, rfl⟩
        have HA := Aside0.mk (show (a : Int) = max 0 (e - 9) by omega)
        have HA2 := Aside0.mk ha
        clear ha
        have HE9 := Aside0.mk (show 0 < e by have := HE.out; omega)
        go_wp2
        clear h9
        obtain ⟨G0, rfl⟩ : ∃ G0, G0 = gk := ⟨_, rfl⟩
        go_loopg [6, 7] 9 (fun g v6 v7 w' => ∃ (n i : Int), v6 = .int .u32 n ∧ v7 = .int .i64 i ∧ InInv s a n i ∧ Aside0 (i + (g : Int) ≤ (a : Int) + 9 ∧ i ≤ e ∧ e - i ≤ (g : Int)) ∧ Aside0 (Kd.R (Kd.int .u32) 89 w' w.heap.size (fun _ => True) u4 out) ∧ Aside0 (Below w.heap.size w w'))
        case atStart => exact ⟨0, 0, rfl, rfl, by have h := InInv.start s a; rw [HA2.out] at h ⊢; exact h, ⟨by have := HA2.out; simp; omega⟩, HO, HB⟩
        case round =>
          clear HB HO
          obtain ⟨n, i, rfl, rfl, HI, HM, HO, HB⟩ := hrel
          obtain ⟨c1, c2, c3, c4⟩ := HI.bound HD.out (by have := HM.out; omega) (by have := HM.out; omega)
          have c0 : 0 ≤ i := by omega
          have HC := Aside0.mk c1
          by_cases hie : i < e
          · have c5 := c4 (by have := HA.out; have := HE9.out; omega)
            have hall := HD.out.all i.toNat (by omega)
            rw [show ((i.toNat : Nat) : Int) = i by omega] at hall
            obtain ⟨d1, d2⟩ := hall
            have HI2 := Aside0.mk (HI.step HD.out (by omega))
            have hx := bt_at s i
            have p7 := eq_true c0
            have q7 := eq_true (show i < (s.size : Int) by omega)
            have hlt := hie
            clear HI c4
            generalize bt s i = y at *
            go_wp2
            go_roundg (gk - 1)
            case measure => have := HM.out; omega
            case rel => exact ⟨n * 10 + (y - 48), i + 1, rfl, rfl, HI2.out, ⟨by have := HM.out; omega⟩, HO, HB⟩
          · have HIE := Aside0.mk hie
            obtain ⟨k, hk, hn⟩ := HI.out
            have HST := Aside0.mk (HI9.out.step HD.out HE9.out (a := a) (k := k) (by have := HA.out; omega) (by have := HM.out; omega))
            rw [← hn] at HST
            clear HI c4 hk hn
            go_wp2_with (first | ((with_reducible refine gate_builtin (b := .append) (xs := #[.tmp 40, .tmp 42]) rfl ?_); at_builtin; refine Kd.R_append (Kd.int .u32) (w0 := w) w.heap.size rfl (.tmp 40) (.tmp 42) 26 89 (.int .u32 0) 4 rfl Try.underlying26 infoU rfl (by decide) (by omega) u4 out (n) [.int .u32 (n)] (fun _ => True) (fun _ => False) rfl rfl ?aP (fun _ hk => hk.elim) ?aF ?aO ?aB ?aS ?aL ?_; (case aP => exact rfl); (case aB => exact HB.out); (case aF => exact (fun _ _ => trivial)); (case aO => exact HO.out); (case aS => exact below_size HB.out); (case aL => (have := HX.out; omega)); intro v1 w1 ho hb hg hat; have HO1 := Aside0.mk ho; have HB1 := Aside0.mk hb; clear HB HO ho hb hg hat))
            go_roundg (G0 - 1)
            case measure => have := HG.out; have := HE9.out; omega
            case rel => exact ⟨_, e - 9, by first | rfl | rw [hw9], HST.out, ⟨by have := HG.out; have := HE9.out; omega⟩, HO1, HB1⟩
    · have HN := Aside0.mk (HI.done he)
      have hdg := HI.dig
      clear HI
      have HT := Aside0.mk (fun ok v w hv => trim_n out hdg (by have := HX.out; omega) (dnum s) HN.out ok v w hv)
      clear hdg
      have hV : Kd.V (Kd.int .u32) 89 wr 0 (fun k => w.heap.size ≤ k) u4 out := Kd.R_V (Kd.R_mono (Kd.R_bound HO.out) (fun _ hk => hk.2.1))
      have HV := Aside0.mk hV
      have hnn := HNE.out
      clear hV
      go_wp2_with (go_at_call 59; refine (HT.out _ _ _ HV.out).mono ?_; rintro e w1 ⟨z, rfl, hz, hb⟩; have HZ := Aside0.mk hz; have HB1 := Aside0.mk hb; clear hz hb)
      go_ret2
      exact ⟨z, by first | rfl | simp [HNE.out], HZ.out.mono (fun k hk => by have := HB.out.size; rcases hk with hk | hk <;> omega), below_step HB.out HB1.out⟩
end Go.Proofs.Yteohmbannpbokaa.TextWalk

set_option linter.unusedVariables false
set_option linter.unusedSimpArgs false
namespace Go.Proofs.Yteohmbannpbokaa.TextWalk
open Go.RowKit Go.Proofs.YteohmbannpbokaaW.PrintWords Go.Proofs.YteohmbannpbokaaW.PrintLast Go.Proofs.YteohmbannpbokaaW.PrintMore Go.Proofs.Yteohmbannpbokaa.Digs Go.Proofs.Yteohmbannpbokaa.StrLaw Go.Proofs.Yteohmbannpbokaa.NatLaw Go.Proofs.Yteohmbannpbokaa.NatWalk Go.Proofs.Yteohmbannpbokaa.SpecWalk Go.Proofs.Yteohmbannpbokaa.TextLaw

theorem not_empty {s : ByteArray} (h : 0 < s.size) : s.toList.isEmpty = false := by
  rw [List.isEmpty_eq_false_iff]; intro h1
  have h2 := toList_len s
  rw [h1] at h2
  simp at h2
  omega
theorem bt0 (s : ByteArray) : ∀ h : 0 < s.size, ((s[0]'h).toNat : Int) = bt s 0 := fun h => bt_at s 0 h
set_option maxHeartbeats 4000000 in
theorem ParseWhole_plain (s : ByteArray) (w : World) (hD : Digits s) (hl : s.size ≤ 1000000000) :
    Calls Try.prog 44 #[.string s] w fun e w' => ∃ v, e = .returned (.tuple #[.agg #[.bool false, v], .bool true]) ∧ Rdv w' (fun k => w.heap.size ≤ k) v (dnum s) ∧ Below w.heap.size w w' := by
  have HN := Aside0.mk (fun w => NatOf_n s w hD hl)
  have hwh := fun ok v w hv => wholeOf_n false (dnum s) ok v w hv
  rw [show sgn false (dnum s) = false from rfl] at hwh
  have HW := Aside0.mk hwh
  have hem := not_empty hD.pos
  have hb := hD.all 0 hD.pos
  have hx := bt0 s
  have hp := eq_true hD.pos
  rw [show ((0 : Nat) : Int) = 0 from rfl] at hb
  have h45 : (bt s 0 == 45) = false := beq_eq_false_iff_ne.mpr (by omega)
  have h43 : (bt s 0 == 43) = false := beq_eq_false_iff_ne.mpr (by omega)
  clear hwh hD hl hb
  generalize bt s 0 = B at *
  go_enter Try.func44, Try.ntmps44
  go_wp2_with fail
  have rx0 : Box (w.alloc (Obj.cells #[Value.bool false, Value.slice none 0 0] 28)) w.heap.size [.bool false, .slice none 0 0] := (Box.new2 w _ _ _ _ (by simp))
  have hB0 : Below w.heap.size w (w.alloc (Obj.cells #[Value.bool false, Value.slice none 0 0] 28)) := ((Below.refl _ _).alloc (Nat.le_refl _) _)
  have krx00 := rx0.c0; have krx01 := rx0.c1; have qrx00 := rx0.f0; have qrx01 := rx0.f1
  go_wp2_with (first | (go_at_call 57; (with_reducible refine (HN.out _).mono ?_); rintro e w1 ⟨v, rfl, hv, hb1⟩; have sz1 := hb1.size; (try simp at sz1); (with_reducible have rx1 := rx0.below hb1); have krx10 := rx1.c0; have krx11 := rx1.c1; have qrx10 := rx1.f0; have qrx11 := rx1.f1; have HV := Aside0.mk hv; clear hv; obtain ⟨A, c, rfl, _, _⟩ := HV.out.form) | (go_at_call 47; (with_reducible refine (HW.out _ _ _ HV.out).mono ?_); rintro e w2 ⟨rfl, hb2⟩; have sz2 := hb2.size; (try simp at sz2); (with_reducible have rx2 := rx1.below hb2); have krx20 := rx2.c0; have krx21 := rx2.c1; have qrx20 := rx2.f0; have qrx21 := rx2.f1))
  refine bodyPost_ret (v := .tuple #[.agg #[.bool false, .slice A (digs (dnum s)).length c], .bool true]) (by simp [results, Try.results44, go_sem, krx20, krx21]) rfl ?_
  exact ⟨_, rfl, ((HV.out.below hb2).far2 (g := w.heap.size) (fun k hk => by have hk' : _ ≤ k := hk; simp at hk'; omega) _ _).mono (fun k hk => by have hk' : _ ≤ k := hk; simp at hk'; omega), below2 (below_step (below_step hB0 hb1) hb2) (Nat.le_refl _) _ _⟩
set_option maxHeartbeats 4000000 in
theorem ParseWhole_minus (t : ByteArray) (w : World) (hD : Digits t) (hl : t.size ≤ 1000000000) :
    Calls Try.prog 44 #[.string (minus t)] w fun e w' => ∃ v, e = .returned (.tuple #[.agg #[.bool (sgn true (dnum t)), v], .bool true]) ∧ Rdv w' (fun k => w.heap.size ≤ k) v (dnum t) ∧ Below w.heap.size w w' := by
  have HN := Aside0.mk (fun w => NatOf_n t w hD hl)
  have HW := Aside0.mk (fun ok v w hv => wholeOf_n true (dnum t) ok v w hv)
  have hsz := minus_size t
  have hem := not_empty (s := minus t) (by omega)
  have hx := bt0 (minus t)
  rw [minus_first] at hx
  have hp := eq_true (show 0 < (minus t).size by omega)
  have hext := minus_tail t
  have hle : (1 : Int) ≤ ((minus t).size : Int) := by omega
  have hle2 : 1 ≤ (minus t).size := by omega
  have hmx : ((minus t).size : Int) ≤ 1000000001 := by omega
  clear hD hl hsz
  generalize minus t = s at *
  generalize sgn true (dnum t) = s1 at *
  go_enter Try.func44, Try.ntmps44
  go_wp2_with fail
  have rx0 : Box (w.alloc (Obj.cells #[Value.bool false, Value.slice none 0 0] 28)) w.heap.size [.bool false, .slice none 0 0] := (Box.new2 w _ _ _ _ (by simp))
  have hB0 : Below w.heap.size w (w.alloc (Obj.cells #[Value.bool false, Value.slice none 0 0] 28)) := ((Below.refl _ _).alloc (Nat.le_refl _) _)
  have krx00 := rx0.c0; have krx01 := rx0.c1; have qrx00 := rx0.f0; have qrx01 := rx0.f1
  go_wp2_with (first | (go_at_call 57; (with_reducible refine (HN.out _).mono ?_); rintro e w1 ⟨v, rfl, hv, hb1⟩; have sz1 := hb1.size; (try simp at sz1); (with_reducible have rx1 := rx0.below hb1); have krx10 := rx1.c0; have krx11 := rx1.c1; have qrx10 := rx1.f0; have qrx11 := rx1.f1; have HV := Aside0.mk hv; clear hv; obtain ⟨A, c, rfl, _, _⟩ := HV.out.form) | (go_at_call 47; (with_reducible refine (HW.out _ _ _ HV.out).mono ?_); rintro e w2 ⟨rfl, hb2⟩; have sz2 := hb2.size; (try simp at sz2); (with_reducible have rx2 := rx1.below hb2); have krx20 := rx2.c0; have krx21 := rx2.c1; have qrx20 := rx2.f0; have qrx21 := rx2.f1))
  refine bodyPost_ret (v := .tuple #[.agg #[.bool s1, .slice A (digs (dnum t)).length c], .bool true]) (by simp [results, Try.results44, go_sem, krx20, krx21]) rfl ?_
  exact ⟨_, rfl, ((HV.out.below hb2).far2 (g := w.heap.size) (fun k hk => by have hk' : _ ≤ k := hk; simp at hk'; omega) _ _).mono (fun k hk => by have hk' : _ ≤ k := hk; simp at hk'; omega), below2 (below_step (below_step hB0 hb1) hb2) (Nat.le_refl _) _ _⟩
theorem text_le {n : Nat} (hn : nd n ≤ 100000000) : (text n).size ≤ 100000001 := by
  by_cases h : n = 0
  · subst h; decide
  · rw [TextLaw.size_text h]; omega
/-- The text of a whole number is read. -/
theorem ParseWhole_n (b : Bool) (n : Nat) (w : World) (hb : sgn b n = b) (hn : nd n ≤ 100000000) :
    Calls Try.prog 44 #[.string (stext b n)] w fun e w' => ∃ v, e = .returned (.tuple #[.agg #[.bool b, v], .bool true]) ∧ Rdv w' (fun k => w.heap.size ≤ k) v n ∧ Below w.heap.size w w' := by
  have hl := text_le hn
  cases b
  · have h := ParseWhole_plain (text n) w (text_digits n) (by omega)
    rw [dnum_text] at h
    exact h
  · have h := ParseWhole_minus (text n) w (text_digits n) (by omega)
    rw [dnum_text, hb] at h
    exact h

set_option maxHeartbeats 4000000 in
theorem WholeIn_n (b : Bool) (n : Nat) (w : World) (hb : sgn b n = b) (hn : nd n ≤ 100000000) :
    Calls Try.prog 46 #[.string (stext b n)] w fun e w' => ∃ v, e = .returned (.agg #[.bool b, v]) ∧ Rdv w' (fun k => w.heap.size ≤ k) v n ∧ Below w.heap.size w w' := by
  have HP := Aside0.mk (fun w => ParseWhole_n b n w hb hn)
  clear hb hn
  generalize stext b n = s at *
  go_enter Try.func46, Try.ntmps46
  go_wp2_with fail
  have rx0 : Box (w.alloc (Obj.cells #[Value.bool false, Value.slice none 0 0] 28)) w.heap.size [.bool false, .slice none 0 0] := (Box.new2 w _ _ _ _ (by simp))
  have hB0 : Below w.heap.size w (w.alloc (Obj.cells #[Value.bool false, Value.slice none 0 0] 28)) := ((Below.refl _ _).alloc (Nat.le_refl _) _)
  have krx00 := rx0.c0; have krx01 := rx0.c1; have qrx00 := rx0.f0; have qrx01 := rx0.f1
  go_wp2_with (first | (go_at_call 44; (with_reducible refine (HP.out _).mono ?_); rintro e w1 ⟨v, rfl, hv, hb1⟩; have sz1 := hb1.size; (try simp at sz1); (with_reducible have rx1 := rx0.below hb1); have krx10 := rx1.c0; have krx11 := rx1.c1; have qrx10 := rx1.f0; have qrx11 := rx1.f1; have HV := Aside0.mk hv; clear hv; obtain ⟨A, c, rfl, _, _⟩ := HV.out.form; have HW := Aside0.mk ((Below.refl w1.heap.size w1).alloc (Nat.le_refl _) (Obj.cells #[.bool b, .slice A (digs n).length c] 28)); have rx1 := rx1.alloc (Obj.cells #[.bool b, .slice A (digs n).length c] 28); have vx1 : Box (w1.alloc (Obj.cells #[.bool b, .slice A (digs n).length c] 28)) w1.heap.size [.bool b, .slice A (digs n).length c] := Box.new2 _ _ _ _ _ rfl; have krx10 := rx1.c0; have krx11 := rx1.c1; have qrx10 := rx1.f0; have qrx11 := rx1.f1; have kvx10 := vx1.c0; have kvx11 := vx1.c1; have qvx10 := vx1.f0; have qvx11 := vx1.f1))
  refine bodyPost_ret (v := .agg #[.bool b, .slice A (digs n).length c]) (by simp [results, Try.results46, go_sem, krx10, krx11]) rfl ?_
  exact ⟨_, rfl, ((HV.out.below HW.out).far2 (g := w.heap.size) (fun k hk => by have hk' : _ ≤ k := hk; simp at hk'; omega) _ _).mono (fun k hk => by have hk' : _ ≤ k := hk; simp at hk'; omega), below2 (below_step (below_step hB0 hb1) HW.out) (Nat.le_refl _) _ _⟩

set_option maxHeartbeats 4000000 in
theorem DecIn_n (b : Bool) (n : Nat) (x : Int) (w : World) (hb : sgn b n = b) (hn : nd n ≤ 100000000) :
    Calls Try.prog 27 #[.agg #[.string (stext b n), .int .i64 x]] w fun e w' => ∃ v, e = .returned (.agg #[.bool b, v, .int .i64 x]) ∧ Rdv w' (fun k => w.heap.size ≤ k) v n ∧ Below w.heap.size w w' := by
  have HP := Aside0.mk (fun w => WholeIn_n b n w hb hn)
  clear hb hn
  generalize stext b n = s at *
  go_enter Try.func27, Try.ntmps27
  go_wp2_with fail
  have ax0 : Box ((w.alloc (Obj.cells #[Value.string s, Value.int .i64 x] 23)).alloc (Obj.cells #[Value.bool false, Value.slice none 0 0, Value.int .i64 0] 50)).drew w.heap.size [.string s, .int .i64 x] := ((Box.new2 w _ _ _ _ (by simp)).alloc _).drew
  have rx0 : Box ((w.alloc (Obj.cells #[Value.string s, Value.int .i64 x] 23)).alloc (Obj.cells #[Value.bool false, Value.slice none 0 0, Value.int .i64 0] 50)).drew (w.heap.size + 1) [.bool false, .slice none 0 0, .int .i64 0] := (Box.new3 (w.alloc (Obj.cells #[Value.string s, Value.int .i64 x] 23)) _ _ _ _ _ (by simp)).drew
  have hB0 : Below w.heap.size w ((w.alloc (Obj.cells #[Value.string s, Value.int .i64 x] 23)).alloc (Obj.cells #[Value.bool false, Value.slice none 0 0, Value.int .i64 0] 50)).drew := (((Below.refl _ _).alloc (Nat.le_refl _) _).alloc (by simp) _).drew
  have neax : w.heap.size ≠ (w.heap.size + 1) := by omega
  go_region_held3 (fun w' => w'.cell? ⟨w.heap.size, 0, none⟩ = some (.string s) ∧ w'.cell? ⟨w.heap.size, 1, none⟩ = some (.int .i64 x))
      (first
        | (go_keep; done)
        | exact ⟨ax1.c0, ax1.c1⟩
        | exact ⟨(ax1.far3 neax _ _ _).c0, (ax1.far3 neax _ _ _).c1⟩)
      (first
        | (go_at_call 46; refine (HP.out _).mono ?_; rintro e w1 ⟨v, rfl, hv, hb1⟩; replace hv := hv.mono (ok' := fun k => w.heap.size + 2 ≤ k) (fun k hk => by simp at hk; omega); obtain ⟨A, c, rfl, _, _⟩ := hv.form; have sz1 := hb1.size; simp at sz1; have ax1 := ax0.below hb1; have xax10 := ax1.c0; have xax11 := ax1.c1; have rx1 := rx0.below hb1; have xrx10 := rx1.c0; have xrx11 := rx1.c1; have xrx12 := rx1.c2; have yrx10 := rx1.f0; have yrx11 := rx1.f1; have yrx12 := rx1.f2))
  go_wp2
  refine bodyPost_ret (v := .agg #[.bool b, .slice A (digs n).length c, .int .i64 x]) (by simp [results, Try.results27, go_sem, rx1.c0, rx1.c1, rx1.c2]) rfl ?_
  exact ⟨_, rfl, (hv.far3 (fun k hk => by omega) _ _ _).mono (fun k hk => by omega), below3 (below_step hB0 hb1) (by omega) _ _ _⟩
end Go.Proofs.Yteohmbannpbokaa.TextWalk
