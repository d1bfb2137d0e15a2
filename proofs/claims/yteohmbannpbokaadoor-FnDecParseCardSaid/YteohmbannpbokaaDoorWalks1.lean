/-
  The reference's text of a number: for the limbs of a number (at most 4,000,000,000 of them) the call returns its decimal digits, and changes nothing that was there.
  The reference's calls over natural numbers of any length, told by the numbers alone, and where the limbs of what they return lie; nothing that was there is changed.
  The reference's calls over whole numbers and fractions, told by the numbers alone; nothing that was there is changed.
  The reference's reading of digits: the number that they are.
-/
import Derived.Test.YteohmbannpbokaaDoorPteShortx0
import Derived.Test.YteohmbannpbokaaDoorLaws
import Derived.RegionTactic
import Derived.BigRegion
import Derived.ChangeAlike
import Derived.Test.YteohmbannpbokaaDoorNatLaw
import Derived.Deep.RegionHeld3
import Derived.Deep.RegionWith
import Derived.Deep.QuietTactic
import Derived.BigQuiet
set_option linter.unusedVariables false
set_option linter.unusedSimpArgs false
namespace Go.Proofs.YteohmbannpbokaaDoor.StrWalk
open Go.RowKit Go.Proofs.YteohmbannpbokaaDoorW.PrintWords Go.Proofs.YteohmbannpbokaaDoorW.PrintLast Go.Proofs.YteohmbannpbokaaDoorW.PrintMore Go.Proofs.YteohmbannpbokaaDoor.Digs Go.Proofs.YteohmbannpbokaaDoor.StrLaw

theorem infoB : (Tryd.prog.info? 5).map (fun i => (i.zero, i.size, i.bytes)) = some (some (.int .u8 0), 1, 1) := by kernel_rfl

set_option maxHeartbeats 4000000 in
set_option maxRecDepth 100000 in
theorem string_calls (n : Nat) (A0 : Option Addr) (c0 : Nat) (w : World) (hr0 : Kd.C (Kd.int .u32) w A0 (digs n).length (digs n)) (hc0 : (digs n).length ≤ c0) (hlen : ((digs n).length : Int) ≤ 4000000000) :
    Calls Tryd.prog 17 #[.slice A0 (digs n).length c0] w fun e w' => e = .returned (.string (text n)) ∧ Below w.heap.size w w' := by
  have HR0 := Aside0.mk hr0
  have HC0 := Aside0.mk hc0
  clear hr0 hc0
  have HB := Aside0.mk (Below.refl w.heap.size w)
  go_enter Tryd.func17, Tryd.ntmps17
  go_wp2
  go_loopg [3, 11] (digs n).length (fun g v3 v11 w' => ∃ (x : List Int) (i : Int), v11 = .int .i64 i ∧ Out n i x ∧ Aside0 (i + (g : Int) = ((digs n).length : Int)) ∧ Aside0 (Kd.R (Kd.int .u8) 5 w' w.heap.size (fun _ => True) v3 x) ∧ Aside0 (Below w.heap.size w w'))
  case atStart => exact ⟨[], 0, rfl, Out.start n, ⟨by simp⟩, ⟨Kd.R_nil _ _ _ _ _⟩, HB⟩
  case round =>
    clear HB
    obtain ⟨x, i, rfl, HI, HG, HO, HB⟩ := hrel
    have hb := HI.bound
    obtain ⟨b1, b2, b3⟩ := hb
    have HX := Aside0.mk b3
    clear b3
    by_cases hi : i < ((digs n).length : Int)
    · obtain ⟨ad, e0, hx⟩ := Kd.at_int HR0.out i b1 hi
      cases e0
      replace hx := (HB.out.cell (World.block_lt_of_cell? w _ hx)).trans hx
      obtain ⟨og, hog⟩ : ∃ og, og = gk := ⟨gk, rfl⟩
      subst hog
      go_wp2
      go_loopg [3, 5, 6] 9 (fun g2 v3 v5 v6 w' => ∃ (x : List Int) (c k : Int), v5 = .int .u32 c ∧ v6 = .int .i64 k ∧ Inn n i k c x ∧ Aside0 (k + (g2 : Int) = 9) ∧ Aside0 (Kd.R (Kd.int .u8) 5 w' w.heap.size (fun _ => True) v3 x) ∧ Aside0 (Below w.heap.size w w'))
      case atStart => exact ⟨x, rd (digs n) i, 0, rfl, rfl, HI.inn hi, ⟨by simp⟩, HO, HB⟩
      case round =>
        clear HI HO HB HX hx
        obtain ⟨x, c, k, rfl, rfl, HI, HG2, HO, HB⟩ := hrel
        obtain ⟨q1, q2, k1, k2, c1, c2, q3⟩ := HI.bound
        have HX := Aside0.mk q3
        clear q1 q2 q3
        by_cases hk : k < 9
        · by_cases hc : 0 < c
          · have HCS : Aside0 (0 < c ∨ i + 1 < (digs n).length) := ⟨.inl hc⟩
            go_wp2_with (first | ((with_reducible refine gate_builtin (b := .append) (xs := #[.tmp 31, .tmp 36]) rfl ?_); at_builtin; refine Kd.R_append (Kd.int .u8) (w0 := w) w.heap.size rfl (.tmp 31) (.tmp 36) 70 5 (.int .u8 0) 1 rfl Tryd.underlying70 infoB rfl (by decide) (by omega) u3 x (48 + c % 10) [.int .u8 (48 + c % 10)] (fun _ => True) (fun _ => False) rfl rfl ?aP (fun _ hk => hk.elim) ?aF ?aO ?aB ?aS ?aL ?_; (case aP => exact rfl); (case aB => exact HB.out); (case aF => exact (fun _ _ => trivial)); (case aO => exact HO.out); (case aS => exact below_size HB.out); (case aL => have := HX.out; omega); intro v1 w1 ho hb hg hat; have HO1 := Aside0.mk ho; have HB1 := Aside0.mk hb; clear HB HO ho hb hg hat))
            go_roundg (gk - 1)
            case measure => have := HG2.out; omega
            case rel => exact ⟨_, _, _, rfl, rfl, HI.step hk (HCS.out), ⟨by have := HG2.out; omega⟩, HO1, HB1⟩
          · by_cases hi1 : i + 1 < ((digs n).length : Int)
            · have HCS : Aside0 (0 < c ∨ i + 1 < (digs n).length) := ⟨.inr hi1⟩
              go_wp2_with (first | ((with_reducible refine gate_builtin (b := .append) (xs := #[.tmp 31, .tmp 36]) rfl ?_); at_builtin; refine Kd.R_append (Kd.int .u8) (w0 := w) w.heap.size rfl (.tmp 31) (.tmp 36) 70 5 (.int .u8 0) 1 rfl Tryd.underlying70 infoB rfl (by decide) (by omega) u3 x (48 + c % 10) [.int .u8 (48 + c % 10)] (fun _ => True) (fun _ => False) rfl rfl ?aP (fun _ hk => hk.elim) ?aF ?aO ?aB ?aS ?aL ?_; (case aP => exact rfl); (case aB => exact HB.out); (case aF => exact (fun _ _ => trivial)); (case aO => exact HO.out); (case aS => exact below_size HB.out); (case aL => have := HX.out; omega); intro v1 w1 ho hb hg hat; have HO1 := Aside0.mk ho; have HB1 := Aside0.mk hb; clear HB HO ho hb hg hat))
              go_roundg (gk - 1)
              case measure => have := HG2.out; omega
              case rel => exact ⟨_, _, _, rfl, rfl, HI.step hk (HCS.out), ⟨by have := HG2.out; omega⟩, HO1, HB1⟩
            · have HE := Aside0.mk (HI.stop0 hk hc hi1)
              clear HI
              go_wp2
              go_roundg (og - 1)
              case measure => have := HG.out; omega
              case rel => exact ⟨x, i + 1, rfl, HE.out, ⟨by have := HG.out; omega⟩, HO, HB⟩
        · have HE := Aside0.mk (HI.stop9 hk)
          clear HI
          go_wp2
          go_roundg (og - 1)
          case measure => have := HG.out; omega
          case rel => exact ⟨x, i + 1, rfl, HE.out, ⟨by have := HG.out; omega⟩, HO, HB⟩
    · have HE := HI.done hi
      clear HI HX HG b1 b2
      subst HE
      have hib : decide (i < ((digs n).length : Int)) = false := decide_eq_false hi
      clear hi
      by_cases hn : n = 0
      · have HN := Aside0.mk hn
        have c0b : (((dbyt n (nd n)).length : Int) == 0) = true := beq_iff_eq.mpr (dbyt_nil.2 hn)
        clear hn
        generalize dbyt n (nd n) = X at *
        obtain ⟨Ao, co, eo⟩ := Kd.R_slice HO.out
        subst eo
        go_wp2
        go_ret
        exact ⟨by rw [HN.out, text_zero]; rfl, HB.out⟩
      · have c1b : (((dbyt n (nd n)).length : Int) == 0) = false := beq_eq_false_iff_ne.mpr (fun h => hn (dbyt_nil.1 h))
        have HN := Aside0.mk (text_pos hn)
        clear hn
        have hm : ((dbyt n (nd n)).length : Int) ≤ 36000000000 := by rw [dbyt_len]; have := nd_le_len n; omega
        generalize dbyt n (nd n) = X at *
        obtain ⟨Ao, co, eo⟩ := Kd.R_slice HO.out
        subst eo
        go_wp2
        go_loopg [7, 8] X.length (fun g v7 v8 w' => ∃ (y : List Int) (i j : Int), v7 = .int .i64 i ∧ v8 = .int .i64 j ∧ Aside0 (Rev X y i j) ∧ Aside0 (j - i < (g : Int)) ∧ Aside0 (Kd.R (Kd.int .u8) 5 w' w.heap.size (fun _ => True) (.slice Ao X.length co) y) ∧ Aside0 (Below w.heap.size w w'))
        case atStart => exact ⟨X, 0, (X.length : Int) - 1, rfl, rfl, ⟨Rev.start X⟩, ⟨by omega⟩, HO, HB⟩
        case round =>
          clear HO HB hib
          obtain ⟨y, a, b, rfl, rfl, HI, HG, HO, HB⟩ := hrel
          obtain ⟨hl, a0, b1, b2⟩ := HI.out.bound
          have HL := Aside0.mk hl
          clear hl
          by_cases hab : a < b
          · have hab2 := b2 hab
            clear b2
            have b0 : 0 ≤ b := by omega
            have a1 : a < (X.length : Int) := by omega
            obtain ⟨g0, c1, e1, gb, gl, cl, HC⟩ := Kd.R_form HO.out (by have := HL.out; omega)
            injection e1 with ea en ec
            subst ea
            subst ec
            clear en
            have GB := Aside0.mk gb
            clear HC cl gl gb
            have hca := Kd.R_celln 0 HO.out a a0 a1
            have hcb := Kd.R_celln 0 HO.out b b0 b1
            obtain ⟨hca1, hca2⟩ := hca
            obtain ⟨hcb1, hcb2⟩ := hcb
            change _ = some (Value.int .u8 (rd y a)) at hca1
            change _ = some (Value.int .u8 (rd y b)) at hcb1
            go_wp2
            go_region
            go_wp2
            go_roundg (gk - 1)
            case measure => have := HG.out; omega
            case rel => exact ⟨_, _, _, rfl, rfl, ⟨HI.out.step hab⟩, ⟨by have := HG.out; omega⟩, ⟨Kd.R_putn (Kd.R_putn (Kd.R_drew HO.out) a (rd y b)) b (rd y a)⟩, ⟨((HB.out.setCell GB.out _).setCell GB.out _).drew⟩⟩
          · have HE := HI.out.done hab
            clear b2
            subst HE
            have hrd := (Kd.R_reads' HO.out).2.2
            rw [← (Kd.R_reads' HO.out).1] at hrd
            have hcv := Kd.C_string (P := Tryd.prog) (src := 70) (dst := 9) (c := co) Tryd.underlying70 Tryd.underlying5 Tryd.underlying9 hrd
            have HRD := Aside0.mk hrd
            clear hrd
            go_wp2
            go_ret
            exact ⟨by rw [HN.out]; rfl, HB.out⟩
end Go.Proofs.YteohmbannpbokaaDoor.StrWalk

set_option linter.unusedVariables false
set_option linter.unusedSimpArgs false
namespace Go.Proofs.YteohmbannpbokaaDoor.NatWalk
open Go.RowKit Go.Proofs.YteohmbannpbokaaDoorW.PrintWords Go.Proofs.YteohmbannpbokaaDoorW.PrintLast Go.Proofs.YteohmbannpbokaaDoorW.PrintMore Go.Proofs.YteohmbannpbokaaDoor.Digs Go.Proofs.YteohmbannpbokaaDoor.StrLaw Go.Proofs.YteohmbannpbokaaDoor.NatLaw
open Go.Proofs.YteohmbannpbokaaDoor.PteShort

/-- A value that reads as a number's limbs, which lie in blocks of ok alone. -/
structure Rdv (w : World) (ok : Nat → Prop) (v : Value) (n : Nat) : Prop where
  mk :: (out : Kd.V (Kd.int .u32) 0 w 0 ok v (digs n))
section
variable {w w1 : World} {ok ok' : Nat → Prop} {v : Value} {n : Nat}
theorem Rdv.form (h : Rdv w ok v n) : ∃ A c, v = .slice A (digs n).length c ∧ (digs n).length ≤ c ∧ Kd.C (Kd.int .u32) w A (digs n).length (digs n) := by
  obtain ⟨A, c, e, hl, hf⟩ := h
  exact ⟨A, c, e, hl, Kd.F_now hf⟩
theorem Rdv.mono (h : Rdv w ok v n) (ho : ∀ k, ok k → ok' k) : Rdv w ok' v n := ⟨Kd.V_mono h.out ho⟩
theorem Rdv.bound (h : Rdv w ok v n) : Rdv w (fun k => ok k ∧ k < w.heap.size) v n := ⟨Kd.V_bound h.out⟩
theorem Rdv.below (h : Rdv w ok v n) (hb : Below w.heap.size w w1) : Rdv w1 ok v n := ⟨Kd.V_below h.out hb⟩
theorem Rdv.far (h : Rdv w ok v n) {p : Addr} (ho : ∀ k, ok k → k ≠ p.block) (u : Value) : Rdv (w.setCell p u) ok v n := ⟨Kd.V_far h.out ho u⟩
theorem Rdv.far2 {g : Nat} (h : Rdv w ok v n) (ho : ∀ k, ok k → k ≠ g) (x y : Value) : Rdv ((w.setCell ⟨g, 0, none⟩ x).setCell ⟨g, 1, none⟩ y) ok v n :=
  (h.far (p := ⟨g, 0, none⟩) ho x).far (p := ⟨g, 1, none⟩) ho y
theorem Rdv.far3 {g : Nat} (h : Rdv w ok v n) (ho : ∀ k, ok k → k ≠ g) (x y z : Value) : Rdv (((w.setCell ⟨g, 0, none⟩ x).setCell ⟨g, 1, none⟩ y).setCell ⟨g, 2, none⟩ z) ok v n :=
  (h.far2 ho x y).far (p := ⟨g, 2, none⟩) ho z
theorem Rdv.drew (h : Rdv w ok v n) : Rdv w.drew ok v n := ⟨Kd.V_drew h.out⟩
theorem Rdv.of_R {e base : Nat} (h : Kd.R (Kd.int .u32) e w base ok v (digs n)) : Rdv w (fun k => base ≤ k) v n :=
  have h1 : Kd.V (Kd.int .u32) e w 0 (fun k => base ≤ k) v (digs n) := Kd.R_V (Kd.R_mono (Kd.R_bound h) (fun _ hk => hk.2.1))
  ⟨h1⟩
theorem Rdv.of_V {e base : Nat} (h : Kd.V (Kd.int .u32) e w base ok v (digs n)) : Rdv w ok v n := ⟨h⟩
theorem Rdv.nil (w : World) : Rdv w (fun _ => False) (.slice none 0 0) 0 := ⟨by rw [digs_zero]; exact Kd.V_nil _ _ _ _ _⟩
end

theorem trim_n (l : List Int) (hd : Dig l) (hl : l.length ≤ 4000000000) (n : Nat) (hn : val l = n) (ok : Nat → Prop) (v : Value) (w : World) (hv : Kd.V (Kd.int .u32) 0 w 0 ok v l) :
    Calls Tryd.prog 16 #[v] w fun e w' => ∃ v, e = .returned v ∧ Rdv w' (fun k => ok k ∨ w.heap.size ≤ k) v n ∧ Below w.heap.size w w' := by
  obtain ⟨A, c, rfl⟩ := Kd.V_slice hv
  obtain ⟨k, hk⟩ := (trim_ev l.length l rfl hl hd n hn).rounds
  refine (spec_natTrim.calls k ok A c l (digs n) w hv hk).mono ?_
  rintro e w' ⟨v, rfl, hr, hb⟩
  exact ⟨v, rfl, Rdv.of_V hr, hb⟩
theorem size_text {n : Nat} (h : n ≠ 0) : (text n).size = nd n := by
  rw [text_pos h]
  simp [strOfNums, ByteArray.size, dbyt_len]
set_option maxHeartbeats 1000000 in
theorem digits_n (n : Nat) (oa : Nat → Prop) (v : Value) (w : World) (hv : Rdv w oa v n) (hl : ((digs n).length : Int) ≤ 4000000000) :
    Calls Tryd.prog 11 #[v] w fun e w' => e = .returned (.int .i64 (nd n)) ∧ Below w.heap.size w w' := by
  obtain ⟨A, c, rfl, hl0, hc0⟩ := hv.form
  clear hv
  by_cases h : n = 0
  · subst h
    have hz : (((digs 0).length : Int) == 0) = true := by rw [digs_zero]; rfl
    have HZ := Aside0.mk nd_zero
    clear hl hl0 hc0
    generalize (digs 0).length = m at *
    go_enter Tryd.func11, Tryd.ntmps11
    go_wp2
    go_ret
    exact ⟨by rw [HZ.out]; rfl, Below.refl _ _⟩
  · have hz : (((digs n).length : Int) == 0) = false := beq_eq_false_iff_ne.mpr (by have := len_pos h; omega)
    have hc := StrWalk.string_calls n A c w hc0 hl0 hl
    have HS := Aside0.mk (size_text h)
    have hsz : (text n).size ≤ 9223372036854775807 := by rw [HS.out]; have := nd_le_len n; omega
    clear hc0 hl0 hl h
    generalize (digs n).length = m at *
    generalize text n = s at *
    go_enter Tryd.func11, Tryd.ntmps11
    go_wp2_with (go_at_call 17; refine hc.mono ?_; rintro e w' ⟨rfl, hb⟩; have HB := Aside0.mk hb; clear hb)
    go_ret
    exact ⟨by first | rfl | (rw [HS.out]; rfl) | rw [HS.out], HB.out⟩
end Go.Proofs.YteohmbannpbokaaDoor.NatWalk

set_option linter.unusedVariables false
set_option linter.unusedSimpArgs false
namespace Go.Proofs.YteohmbannpbokaaDoor.SpecWalk
open Go.RowKit Go.Proofs.YteohmbannpbokaaDoorW.PrintWords Go.Proofs.YteohmbannpbokaaDoorW.PrintLast Go.Proofs.YteohmbannpbokaaDoorW.PrintMore Go.Proofs.YteohmbannpbokaaDoor.Digs Go.Proofs.YteohmbannpbokaaDoor.StrLaw Go.Proofs.YteohmbannpbokaaDoor.NatLaw Go.Proofs.YteohmbannpbokaaDoor.NatWalk

/-- The sign that a whole number bears. -/
def sgn (b : Bool) (n : Nat) : Bool := b && decide (0 < n)
theorem len_pos_iff (n : Nat) : decide ((0 : Int) < ((digs n).length : Int)) = decide (0 < n) := by
  by_cases h : n = 0
  · subst h; rw [digs_zero]; rfl
  · have := len_pos h
    rw [decide_eq_true (by omega), decide_eq_true (by omega)]

theorem frz {w w1 : World} (hb : Below w.heap.size w w1) {a : Addr} {v : Value} (hc : w.cell? a = some v) (hf : w.frozen? a = false) : w1.frozen? a = false := (hb.frozen (World.block_lt_of_cell? w _ hc)).trans hf
/-- A block of cells, none frozen: kept by whatever only makes memory. -/
structure Box (w : World) (g : Nat) (l : List Value) : Prop where
  mk :: (out : ∀ j v, l[j]? = some v → w.cell? ⟨g, j, none⟩ = some v ∧ w.frozen? ⟨g, j, none⟩ = false)
theorem Box.below {w w1 : World} {g : Nat} {l : List Value} (h : Box w g l) (hb : Below w.heap.size w w1) : Box w1 g l :=
  ⟨fun j v hj => ⟨pw_cell_below hb (h.out j v hj).1, frz hb (h.out j v hj).1 (h.out j v hj).2⟩⟩
theorem Box.c0 {w : World} {g : Nat} {x : Value} {l : List Value} (h : Box w g (x :: l)) : w.cell? ⟨g, 0, none⟩ = some x := (h.out 0 x rfl).1
theorem Box.c1 {w : World} {g : Nat} {x y : Value} {l : List Value} (h : Box w g (x :: y :: l)) : w.cell? ⟨g, 1, none⟩ = some y := (h.out 1 y rfl).1
theorem Box.c2 {w : World} {g : Nat} {x y z : Value} {l : List Value} (h : Box w g (x :: y :: z :: l)) : w.cell? ⟨g, 2, none⟩ = some z := (h.out 2 z rfl).1
theorem Box.f0 {w : World} {g : Nat} {x : Value} {l : List Value} (h : Box w g (x :: l)) : w.frozen? ⟨g, 0, none⟩ = false := (h.out 0 x rfl).2
theorem Box.f1 {w : World} {g : Nat} {x y : Value} {l : List Value} (h : Box w g (x :: y :: l)) : w.frozen? ⟨g, 1, none⟩ = false := (h.out 1 y rfl).2
theorem Box.f2 {w : World} {g : Nat} {x y z : Value} {l : List Value} (h : Box w g (x :: y :: z :: l)) : w.frozen? ⟨g, 2, none⟩ = false := (h.out 2 z rfl).2
theorem Box.mk2 {w : World} {g : Nat} {x y : Value} (h0 : w.cell? ⟨g, 0, none⟩ = some x) (h1 : w.cell? ⟨g, 1, none⟩ = some y) (k0 : w.frozen? ⟨g, 0, none⟩ = false) (k1 : w.frozen? ⟨g, 1, none⟩ = false) : Box w g [x, y] :=
  ⟨fun j v hj => by match j, hj with | 0, hj => cases hj; exact ⟨h0, k0⟩ | 1, hj => cases hj; exact ⟨h1, k1⟩⟩
theorem Box.mk3 {w : World} {g : Nat} {x y z : Value} (h0 : w.cell? ⟨g, 0, none⟩ = some x) (h1 : w.cell? ⟨g, 1, none⟩ = some y) (h2 : w.cell? ⟨g, 2, none⟩ = some z) (k0 : w.frozen? ⟨g, 0, none⟩ = false) (k1 : w.frozen? ⟨g, 1, none⟩ = false) (k2 : w.frozen? ⟨g, 2, none⟩ = false) : Box w g [x, y, z] :=
  ⟨fun j v hj => by match j, hj with | 0, hj => cases hj; exact ⟨h0, k0⟩ | 1, hj => cases hj; exact ⟨h1, k1⟩ | 2, hj => cases hj; exact ⟨h2, k2⟩⟩

theorem Box.alloc {w : World} {g : Nat} {l : List Value} (h : Box w g l) (o : Obj) : Box (w.alloc o) g l := h.below ((Below.refl _ _).alloc (Nat.le_refl _) _)
theorem Box.drew {w : World} {g : Nat} {l : List Value} (h : Box w g l) : Box w.drew g l := h.below (Below.refl _ _).drew
theorem Box.far {w : World} {g : Nat} {l : List Value} {p : Addr} (h : Box w g l) (hg : g ≠ p.block) (u : Value) : Box (w.setCell p u) g l := by
  have hb := Below.heap_setCell w p u g hg
  refine ⟨fun j v hj => ?_⟩
  have := h.out j v hj
  refine ⟨?_, ?_⟩
  · simpa [World.cell?, hb] using this.1
  · simpa [World.frozen?, hb] using this.2
theorem Box.far2 {w : World} {g g' : Nat} {l : List Value} (h : Box w g l) (hg : g ≠ g') (x y : Value) : Box ((w.setCell ⟨g', 0, none⟩ x).setCell ⟨g', 1, none⟩ y) g l := (h.far (p := ⟨g', 0, none⟩) hg x).far (p := ⟨g', 1, none⟩) hg y
theorem Box.far3 {w : World} {g g' : Nat} {l : List Value} (h : Box w g l) (hg : g ≠ g') (x y z : Value) : Box (((w.setCell ⟨g', 0, none⟩ x).setCell ⟨g', 1, none⟩ y).setCell ⟨g', 2, none⟩ z) g l := (h.far2 hg x y).far (p := ⟨g', 2, none⟩) hg z
theorem Box.new2 (w : World) (g : Nat) (x y : Value) (t : TypeId) (hg : w.heap.size = g) : Box (w.alloc (.cells #[x, y] t)) g [x, y] := by
  subst hg
  exact .mk2 (by simp) (by simp) (by simp) (by simp)
theorem Box.new3 (w : World) (g : Nat) (x y z : Value) (t : TypeId) (hg : w.heap.size = g) : Box (w.alloc (.cells #[x, y, z] t)) g [x, y, z] := by
  subst hg
  exact .mk3 (by simp) (by simp) (by simp) (by simp) (by simp) (by simp)
theorem below2 {B : Nat} {w0 w : World} {g : Nat} (h : Below B w0 w) (hg : B ≤ g) (x y : Value) : Below B w0 ((w.setCell ⟨g, 0, none⟩ x).setCell ⟨g, 1, none⟩ y) :=
  (h.setCell (p := ⟨g, 0, none⟩) hg x).setCell (p := ⟨g, 1, none⟩) hg y
theorem below3 {B : Nat} {w0 w : World} {g : Nat} (h : Below B w0 w) (hg : B ≤ g) (x y z : Value) : Below B w0 (((w.setCell ⟨g, 0, none⟩ x).setCell ⟨g, 1, none⟩ y).setCell ⟨g, 2, none⟩ z) :=
  (below2 h hg x y).setCell (p := ⟨g, 2, none⟩) hg z

set_option maxHeartbeats 1000000 in
theorem wholeOf_n (b : Bool) (n : Nat) (ok : Nat → Prop) (v : Value) (w : World) (hv : Rdv w ok v n) :
    Calls Tryd.prog 10 #[.bool b, v] w fun e w' => e = .returned (.agg #[.bool (sgn b n), v]) ∧ Below w.heap.size w w' := by
  obtain ⟨A, c, rfl, hl, hc⟩ := hv.form
  have hs := len_pos_iff n
  have hb : sgn b n = (b && decide (0 < n)) := rfl
  rw [← hs] at hb
  have HS := Aside0.mk hb
  clear hb hs hc hl hv
  generalize (digs n).length = m at *
  generalize sgn b n = s at *
  cases b
  · go_enter Tryd.func10, Tryd.ntmps10
    go_wp2
    refine bodyPost_ret (v := .agg #[.bool false, .slice A m c]) (by simp [results, Tryd.results10, go_sem]) rfl ⟨?_, ?_⟩
    · rw [HS.out]; rfl
    · exact (Below.refl _ _).alloc (Nat.le_refl _) _
  · go_enter Tryd.func10, Tryd.ntmps10
    go_wp2
    refine bodyPost_ret (v := .agg #[.bool (decide ((0 : Int) < (m : Int))), .slice A m c]) (by simp [results, Tryd.results10, go_sem]) rfl ⟨?_, ?_⟩
    · rw [HS.out]; rfl
    · exact (Below.refl _ _).alloc (Nat.le_refl _) _

theorem digs_1 : digs 1 = [1] := by rw [digs_one (by decide) (by decide)]; rfl
theorem len_pow10 (e : Nat) : (digs (10 ^ e)).length ≤ e + 1 := by
  refine len_digs_le ?_
  rw [show (1000000000 : Nat) = 10 ^ 9 by decide, ← Nat.pow_mul]
  exact Nat.pow_lt_pow_right (by decide) (by omega)

theorem sgn_sgn (b : Bool) (n : Nat) : sgn (sgn b n) n = sgn b n := by unfold sgn; cases b <;> simp
end Go.Proofs.YteohmbannpbokaaDoor.SpecWalk

set_option linter.unusedVariables false
set_option linter.unusedSimpArgs false
namespace Go.Proofs.YteohmbannpbokaaDoor.TextWalk
open Go.RowKit Go.Proofs.YteohmbannpbokaaDoorW.PrintWords Go.Proofs.YteohmbannpbokaaDoorW.PrintLast Go.Proofs.YteohmbannpbokaaDoorW.PrintMore Go.Proofs.YteohmbannpbokaaDoor.Digs Go.Proofs.YteohmbannpbokaaDoor.StrLaw Go.Proofs.YteohmbannpbokaaDoor.NatLaw Go.Proofs.YteohmbannpbokaaDoor.NatWalk Go.Proofs.YteohmbannpbokaaDoor.TextLaw

theorem toList_len (s : ByteArray) : s.toList.length = s.size := by rw [ByteArray.toList_eq, Array.length_toList]; rfl
theorem infoU : (Tryd.prog.info? 51).map (fun i => (i.zero, i.size, i.bytes)) = some (some (.int .u32 0), 1, 4) := by kernel_rfl
set_option maxHeartbeats 4000000 in
set_option maxRecDepth 100000 in
theorem NatOf_n (s : ByteArray) (w : World) (hD : Digits s) (hl : s.size ≤ 2147483647) :
    Calls Tryd.prog 9 #[.string s] w fun e w' => ∃ v, e = .returned (.tuple #[v, .bool true]) ∧ Rdv w' (fun k => w.heap.size ≤ k) v (dnum s) ∧ Below w.heap.size w w' := by
  have HD := Aside0.mk hD
  have HB := Aside0.mk (Below.refl w.heap.size w)
  have hs1 : (s.size : Int) ≤ 2147483647 := by omega
  have hs0 : 0 < s.size := hD.pos
  have hne : s.toList.isEmpty = false := by
    rw [List.isEmpty_eq_false_iff]; intro h
    have h1 := toList_len s
    rw [h] at h1
    simp at h1
    omega
  have HNE := Aside0.mk hne
  clear hD hl hne
  go_enter Tryd.func9, Tryd.ntmps9
  go_wp2
  go_loopg [4, 5] (s.size + 20) (fun g v4 v5 w' => ∃ (out : List Int) (e : Int), v5 = .int .i64 e ∧ OfInv s out e ∧ Aside0 (e + 9 ≤ (g : Int)) ∧ Aside0 (Kd.R (Kd.int .u32) 51 w' w.heap.size (fun _ => True) v4 out) ∧ Aside0 (Below w.heap.size w w'))
  case atStart => exact ⟨[], s.size, rfl, OfInv.start s, ⟨by omega⟩, ⟨Kd.R_nil _ _ _ _ _⟩, HB⟩
  case round =>
    clear HB
    obtain ⟨out, e, rfl, HI, HG, HO, HB⟩ := hrel
    obtain ⟨b1, b2, b3⟩ := HI.bound
    have HX := Aside0.mk b3
    clear b3
    by_cases he : 0 < e
    · have HE := Aside0.mk he
      have hw9 : wrap64 (e - 9) = e - 9 := w64 _ (by omega) (by omega)
      have HI9 := Aside0.mk HI
      clear HI
      by_cases h9 : 0 < e - 9
      · have h9' : 9 < e := by omega
        obtain ⟨a, ha⟩ : ∃ a : Nat, (a : Int) = e - 9 := ⟨(e - 9).toNat, by omega⟩
        have HA := Aside0.mk (show (a : Int) = max 0 (e - 9) by omega)
        have HA2 := Aside0.mk ha
        clear ha
        have HE9 := Aside0.mk (show 0 < e by omega)
        go_wp2
        clear h9 h9'
        obtain ⟨G0, rfl⟩ : ∃ G0, G0 = gk := ⟨_, rfl⟩
        go_loopg [6, 7] 9 (fun g v6 v7 w' => ∃ (n i : Int), v6 = .int .u32 n ∧ v7 = .int .i64 i ∧ InInv s a n i ∧ Aside0 (i + (g : Int) ≤ (a : Int) + 9 ∧ i ≤ e ∧ e - i ≤ (g : Int)) ∧ Aside0 (Kd.R (Kd.int .u32) 51 w' w.heap.size (fun _ => True) u4 out) ∧ Aside0 (Below w.heap.size w w'))
        case atStart => exact ⟨0, e - 9, rfl, rfl, by rw [← HA2.out]; exact InInv.start s a, ⟨by have := HA2.out; simp; omega⟩, HO, HB⟩
        case round =>
          clear HB HO
          obtain ⟨n, i, rfl, rfl, HI, HM, HO, HB⟩ := hrel
          obtain ⟨c1, c2, c3, c4⟩ := HI.bound HD.out (by have := HM.out; omega) (by have := HM.out; omega)
          have c0 : 0 ≤ i := by omega
          have HC := Aside0.mk c1
          by_cases hie : i < e
          · have c5 := c4 (by have := HA.out; have := HE9.out; omega)
            have hall := HD.out.all i.toNat (by omega)
            rw [show ((i.toNat : Nat) : Int) = i by omega] at hall
            obtain ⟨d1, d2⟩ := hall
            have HI2 := Aside0.mk (HI.step HD.out (by omega))
            have hx := bt_at s i
            have p7 := eq_true c0
            have q7 := eq_true (show i < (s.size : Int) by omega)
            have hlt := hie
            clear HI c4
            generalize bt s i = y at *
            go_wp2
            go_roundg (gk - 1)
            case measure => have := HM.out; omega
            case rel => exact ⟨n * 10 + (y - 48), i + 1, rfl, rfl, HI2.out, ⟨by have := HM.out; omega⟩, HO, HB⟩
          · have HIE := Aside0.mk hie
            obtain ⟨k, hk, hn⟩ := HI.out
            have HST := Aside0.mk (HI9.out.step HD.out HE9.out (a := a) (k := k) (by have := HA.out; omega) (by have := HM.out; omega))
            rw [← hn] at HST
            clear HI c4 hk hn
            go_wp2_with (first | ((with_reducible refine gate_builtin (b := .append) (xs := #[.tmp 40, .tmp 42]) rfl ?_); at_builtin; refine Kd.R_append (Kd.int .u32) (w0 := w) w.heap.size rfl (.tmp 40) (.tmp 42) 23 51 (.int .u32 0) 4 rfl Tryd.underlying23 infoU rfl (by decide) (by omega) u4 out (n) [.int .u32 (n)] (fun _ => True) (fun _ => False) rfl rfl ?aP (fun _ hk => hk.elim) ?aF ?aO ?aB ?aS ?aL ?_; (case aP => exact rfl); (case aB => exact HB.out); (case aF => exact (fun _ _ => trivial)); (case aO => exact HO.out); (case aS => exact below_size HB.out); (case aL => (have := HX.out; omega)); intro v1 w1 ho hb hg hat; have HO1 := Aside0.mk ho; have HB1 := Aside0.mk hb; clear HB HO ho hb hg hat))
            go_roundg (G0 - 1)
            case measure => have := HG.out; have := HE9.out; omega
            case rel => exact ⟨_, e - 9, by first | rfl | rw [hw9], HST.out, ⟨by have := HG.out; have := HE9.out; omega⟩, HO1, HB1⟩
      · have h9' : e ≤ 9 := by omega
        obtain ⟨a, ha⟩ : ∃ a : Nat, a = 0 := ⟨0, rfl⟩
        have HA := Aside0.mk (show (a : Int) = max 0 (e - 9) by omega)
        have HA2 := Aside0.mk ha
        clear ha
        have HE9 := Aside0.mk (show 0 < e by have := HE.out; omega)
        go_wp2
        clear h9
        obtain ⟨G0, rfl⟩ : ∃ G0, G0 = gk := ⟨_, rfl⟩
        go_loopg [6, 7] 9 (fun g v6 v7 w' => ∃ (n i : Int), v6 = .int .u32 n ∧ v7 = .int .i64 i ∧ InInv s a n i ∧ Aside0 (i + (g : Int) ≤ (a : Int) + 9 ∧ i ≤ e ∧ e - i ≤ (g : Int)) ∧ Aside0 (Kd.R (Kd.int .u32) 51 w' w.heap.size (fun _ => True) u4 out) ∧ Aside0 (Below w.heap.size w w'))
        case atStart => exact ⟨0, 0, rfl, rfl, by have h := InInv.start s a; rw [HA2.out] at h ⊢; exact h, ⟨by have := HA2.out; simp; omega⟩, HO, HB⟩
        case round =>
          clear HB HO
          obtain ⟨n, i, rfl, rfl, HI, HM, HO, HB⟩ := hrel
          obtain ⟨c1, c2, c3, c4⟩ := HI.bound HD.out (by have := HM.out; omega) (by have := HM.out; omega)
          have c0 : 0 ≤ i := by omega
          have HC := Aside0.mk c1
          by_cases hie : i < e
          · have c5 := c4 (by have := HA.out; have := HE9.out; omega)
            have hall := HD.out.all i.toNat (by omega)
            rw [show ((i.toNat : Nat) : Int) = i by omega] at hall
            obtain ⟨d1, d2⟩ := hall
            have HI2 := Aside0.mk (HI.step HD.out (by omega))
            have hx := bt_at s i
            have p7 := eq_true c0
            have q7 := eq_true (show i < (s.size : Int) by omega)
            have hlt := hie
            clear HI c4
            generalize bt s i = y at *
            go_wp2
            go_roundg (gk - 1)
            case measure => have := HM.out; omega
            case rel => exact ⟨n * 10 + (y - 48), i + 1, rfl, rfl, HI2.out, ⟨by have := HM.out; omega⟩, HO, HB⟩
          · have HIE := Aside0.mk hie
            obtain ⟨k, hk, hn⟩ := HI.out
            have HST := Aside0.mk (HI9.out.step HD.out HE9.out (a := a) (k := k) (by have := HA.out; omega) (by have := HM.out; omega))
            rw [← hn] at HST
            clear HI c4 hk hn
            go_wp2_with (first | ((with_reducible refine gate_builtin (b := .append) (xs := #[.tmp 40, .tmp 42]) rfl ?_); at_builtin; refine Kd.R_append (Kd.int .u32) (w0 := w) w.heap.size rfl (.tmp 40) (.tmp 42) 23 51 (.int .u32 0) 4 rfl Tryd.underlying23 infoU rfl (by decide) (by omega) u4 out (n) [.int .u32 (n)] (fun _ => True) (fun _ => False) rfl rfl ?aP (fun _ hk => hk.elim) ?aF ?aO ?aB ?aS ?aL ?_; (case aP => exact rfl); (case aB => exact HB.out); (case aF => exact (fun _ _ => trivial)); (case aO => exact HO.out); (case aS => exact below_size HB.out); (case aL => (have := HX.out; omega)); intro v1 w1 ho hb hg hat; have HO1 := Aside0.mk ho; have HB1 := Aside0.mk hb; clear HB HO ho hb hg hat))
            go_roundg (G0 - 1)
            case measure => have := HG.out; have := HE9.out; omega
            case rel => exact ⟨_, e - 9, by first | rfl | rw [hw9], HST.out, ⟨by have := HG.out; have := HE9.out; omega⟩, HO1, HB1⟩
    · have HN := Aside0.mk (HI.done he)
      have hdg := HI.dig
      clear HI
      have HT := Aside0.mk (fun ok v w hv => trim_n out hdg (by have := HX.out; omega) (dnum s) HN.out ok v w hv)
      clear hdg
      have hV : Kd.V (Kd.int .u32) 51 wr 0 (fun k => w.heap.size ≤ k) u4 out := Kd.R_V (Kd.R_mono (Kd.R_bound HO.out) (fun _ hk => hk.2.1))
      have HV := Aside0.mk hV
      have hnn := HNE.out
      clear hV
      go_wp2_with (go_at_call 16; refine (HT.out _ _ _ HV.out).mono ?_; rintro e w1 ⟨z, rfl, hz, hb⟩; have HZ := Aside0.mk hz; have HB1 := Aside0.mk hb; clear hz hb)
      go_ret2
      exact ⟨z, by first | rfl | simp [HNE.out], HZ.out.mono (fun k hk => by have := HB.out.size; rcases hk with hk | hk <;> omega), below_step HB.out HB1.out⟩
end Go.Proofs.YteohmbannpbokaaDoor.TextWalk
