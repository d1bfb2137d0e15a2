/-
  The reference's text of a number: for the limbs of a number (at most 4,000,000,000 of them) the call returns its decimal digits, and changes nothing that was there.
  The reference's calls over natural numbers of any length, told by the numbers alone, and where the limbs of what they return lie; nothing that was there is changed.
  The reference's calls over whole numbers and fractions, told by the numbers alone; nothing that was there is changed.
-/
import Derived.Test.YteohmbannpbokaaGreatDoorPPow10x0
import Derived.Test.YteohmbannpbokaaGreatDoorLaws
import Derived.RegionTactic
import Derived.BigRegion
import Derived.ChangeAlike
import Derived.Test.YteohmbannpbokaaGreatDoorNatLaw
import Derived.Deep.RegionHeld3
import Derived.Deep.RegionWith
import Derived.Deep.QuietTactic
import Derived.BigQuiet
set_option linter.unusedVariables false
set_option linter.unusedSimpArgs false
namespace Go.Proofs.YteohmbannpbokaaGreatDoor.StrWalk
open Go.RowKit Go.Proofs.YteohmbannpbokaaGreatDoorW.PrintWords Go.Proofs.YteohmbannpbokaaGreatDoorW.PrintLast Go.Proofs.YteohmbannpbokaaGreatDoorW.PrintMore Go.Proofs.YteohmbannpbokaaGreatDoor.Digs Go.Proofs.YteohmbannpbokaaGreatDoor.StrLaw

theorem infoB : (Tryz.prog.info? 5).map (fun i => (i.zero, i.size, i.bytes)) = some (some (.int .u8 0), 1, 1) := by kernel_rfl

set_option maxHeartbeats 4000000 in
set_option maxRecDepth 100000 in
theorem string_calls (n : Nat) (A0 : Option Addr) (c0 : Nat) (w : World) (hr0 : Kd.C (Kd.int .u32) w A0 (digs n).length (digs n)) (hc0 : (digs n).length ≤ c0) (hlen : ((digs n).length : Int) ≤ 4000000000) :
    Calls Tryz.prog 14 #[.slice A0 (digs n).length c0] w fun e w' => e = .returned (.string (text n)) ∧ Below w.heap.size w w' := by
  have HR0 := Aside0.mk hr0
  have HC0 := Aside0.mk hc0
  clear hr0 hc0
  have HB := Aside0.mk (Below.refl w.heap.size w)
  go_enter Tryz.func14, Tryz.ntmps14
  go_wp2
  go_loopg [3, 11] (digs n).length (fun g v3 v11 w' => ∃ (x : List Int) (i : Int), v11 = .int .i64 i ∧ Out n i x ∧ Aside0 (i + (g : Int) = ((digs n).length : Int)) ∧ Aside0 (Kd.R (Kd.int .u8) 5 w' w.heap.size (fun _ => True) v3 x) ∧ Aside0 (Below w.heap.size w w'))
  case atStart => exact ⟨[], 0, rfl, Out.start n, ⟨by simp⟩, ⟨Kd.R_nil _ _ _ _ _⟩, HB⟩
  case round =>
    clear HB
    obtain ⟨x, i, rfl, HI, HG, HO, HB⟩ := hrel
    have hb := HI.bound
    obtain ⟨b1, b2, b3⟩ := hb
    have HX := Aside0.mk b3
    clear b3
    by_cases hi : i < ((digs n).length : Int)
    · obtain ⟨ad, e0, hx⟩ := Kd.at_int HR0.out i b1 hi
      cases e0
      replace hx := (HB.out.cell (World.block_lt_of_cell? w _ hx)).trans hx
      obtain ⟨og, hog⟩ : ∃ og, og = gk := ⟨gk, rfl⟩
      subst hog
      go_wp2
      go_loopg [3, 5, 6] 9 (fun g2 v3 v5 v6 w' => ∃ (x : List Int) (c k : Int), v5 = .int .u32 c ∧ v6 = .int .i64 k ∧ Inn n i k c x ∧ Aside0 (k + (g2 : Int) = 9) ∧ Aside0 (Kd.R (Kd.int .u8) 5 w' w.heap.size (fun _ => True) v3 x) ∧ Aside0 (Below w.heap.size w w'))
      case atStart => exact ⟨x, rd (digs n) i, 0, rfl, rfl, HI.inn hi, ⟨by simp⟩, HO, HB⟩
      case round =>
        clear HI HO HB HX hx
        obtain ⟨x, c, k, rfl, rfl, HI, HG2, HO, HB⟩ := hrel
        obtain ⟨q1, q2, k1, k2, c1, c2, q3⟩ := HI.bound
        have HX := Aside0.mk q3
        clear q1 q2 q3
        by_cases hk : k < 9
        · by_cases hc : 0 < c
          · have HCS : Aside0 (0 < c ∨ i + 1 < (digs n).length) := ⟨.inl hc⟩
            go_wp2_with (first | ((with_reducible refine gate_builtin (b := .append) (xs := #[.tmp 31, .tmp 36]) rfl ?_); at_builtin; refine Kd.R_append (Kd.int .u8) (w0 := w) w.heap.size rfl (.tmp 31) (.tmp 36) 77 5 (.int .u8 0) 1 rfl Tryz.underlying77 infoB rfl (by decide) (by omega) u3 x (48 + c % 10) [.int .u8 (48 + c % 10)] (fun _ => True) (fun _ => False) rfl rfl ?aP (fun _ hk => hk.elim) ?aF ?aO ?aB ?aS ?aL ?_; (case aP => exact rfl); (case aB => exact HB.out); (case aF => exact (fun _ _ => trivial)); (case aO => exact HO.out); (case aS => exact below_size HB.out); (case aL => have := HX.out; omega); intro v1 w1 ho hb hg hat; have HO1 := Aside0.mk ho; have HB1 := Aside0.mk hb; clear HB HO ho hb hg hat))
            go_roundg (gk - 1)
            case measure => have := HG2.out; omega
            case rel => exact ⟨_, _, _, rfl, rfl, HI.step hk (HCS.out), ⟨by have := HG2.out; omega⟩, HO1, HB1⟩
          · by_cases hi1 : i + 1 < ((digs n).length : Int)
            · have HCS : Aside0 (0 < c ∨ i + 1 < (digs n).length) := ⟨.inr hi1⟩
              go_wp2_with (first | ((with_reducible refine gate_builtin (b := .append) (xs := #[.tmp 31, .tmp 36]) rfl ?_); at_builtin; refine Kd.R_append (Kd.int .u8) (w0 := w) w.heap.size rfl (.tmp 31) (.tmp 36) 77 5 (.int .u8 0) 1 rfl Tryz.underlying77 infoB rfl (by decide) (by omega) u3 x (48 + c % 10) [.int .u8 (48 + c % 10)] (fun _ => True) (fun _ => False) rfl rfl ?aP (fun _ hk => hk.elim) ?aF ?aO ?aB ?aS ?aL ?_; (case aP => exact rfl); (case aB => exact HB.out); (case aF => exact (fun _ _ => trivial)); (case aO => exact HO.out); (case aS => exact below_size HB.out); (case aL => have := HX.out; omega); intro v1 w1 ho hb hg hat; have HO1 := Aside0.mk ho; have HB1 := Aside0.mk hb; clear HB HO ho hb hg hat))
              go_roundg (gk - 1)
              case measure => have := HG2.out; omega
              case rel => exact ⟨_, _, _, rfl, rfl, HI.step hk (HCS.out), ⟨by have := HG2.out; omega⟩, HO1, HB1⟩
            · have HE := Aside0.mk (HI.stop0 hk hc hi1)
              clear HI
              go_wp2
              go_roundg (og - 1)
              case measure => have := HG.out; omega
              case rel => exact ⟨x, i + 1, rfl, HE.out, ⟨by have := HG.out; omega⟩, HO, HB⟩
        · have HE := Aside0.mk (HI.stop9 hk)
          clear HI
          go_wp2
          go_roundg (og - 1)
          case measure => have := HG.out; omega
          case rel => exact ⟨x, i + 1, rfl, HE.out, ⟨by have := HG.out; omega⟩, HO, HB⟩
    · have HE := HI.done hi
      clear HI HX HG b1 b2
      subst HE
      have hib : decide (i < ((digs n).length : Int)) = false := decide_eq_false hi
      clear hi
      by_cases hn : n = 0
      · have HN := Aside0.mk hn
        have c0b : (((dbyt n (nd n)).length : Int) == 0) = true := beq_iff_eq.mpr (dbyt_nil.2 hn)
        clear hn
        generalize dbyt n (nd n) = X at *
        obtain ⟨Ao, co, eo⟩ := Kd.R_slice HO.out
        subst eo
        go_wp2
        go_ret
        exact ⟨by rw [HN.out, text_zero]; rfl, HB.out⟩
      · have c1b : (((dbyt n (nd n)).length : Int) == 0) = false := beq_eq_false_iff_ne.mpr (fun h => hn (dbyt_nil.1 h))
        have HN := Aside0.mk (text_pos hn)
        clear hn
        have hm : ((dbyt n (nd n)).length : Int) ≤ 36000000000 := by rw [dbyt_len]; have := nd_le_len n; omega
        generalize dbyt n (nd n) = X at *
        obtain ⟨Ao, co, eo⟩ := Kd.R_slice HO.out
        subst eo
        go_wp2
        go_loopg [7, 8] X.length (fun g v7 v8 w' => ∃ (y : List Int) (i j : Int), v7 = .int .i64 i ∧ v8 = .int .i64 j ∧ Aside0 (Rev X y i j) ∧ Aside0 (j - i < (g : Int)) ∧ Aside0 (Kd.R (Kd.int .u8) 5 w' w.heap.size (fun _ => True) (.slice Ao X.length co) y) ∧ Aside0 (Below w.heap.size w w'))
        case atStart => exact ⟨X, 0, (X.length : Int) - 1, rfl, rfl, ⟨Rev.start X⟩, ⟨by omega⟩, HO, HB⟩
        case round =>
          clear HO HB hib
          obtain ⟨y, a, b, rfl, rfl, HI, HG, HO, HB⟩ := hrel
          obtain ⟨hl, a0, b1, b2⟩ := HI.out.bound
          have HL := Aside0.mk hl
          clear hl
          by_cases hab : a < b
          · have hab2 := b2 hab
            clear b2
            have b0 : 0 ≤ b := by omega
            have a1 : a < (X.length : Int) := by omega
            obtain ⟨g0, c1, e1, gb, gl, cl, HC⟩ := Kd.R_form HO.out (by have := HL.out; omega)
            injection e1 with ea en ec
            subst ea
            subst ec
            clear en
            have GB := Aside0.mk gb
            clear HC cl gl gb
            have hca := Kd.R_celln 0 HO.out a a0 a1
            have hcb := Kd.R_celln 0 HO.out b b0 b1
            obtain ⟨hca1, hca2⟩ := hca
            obtain ⟨hcb1, hcb2⟩ := hcb
            change _ = some (Value.int .u8 (rd y a)) at hca1
            change _ = some (Value.int .u8 (rd y b)) at hcb1
            go_wp2
            go_region
            go_wp2
            go_roundg (gk - 1)
            case measure => have := HG.out; omega
            case rel => exact ⟨_, _, _, rfl, rfl, ⟨HI.out.step hab⟩, ⟨by have := HG.out; omega⟩, ⟨Kd.R_putn (Kd.R_putn (Kd.R_drew HO.out) a (rd y b)) b (rd y a)⟩, ⟨((HB.out.setCell GB.out _).setCell GB.out _).drew⟩⟩
          · have HE := HI.out.done hab
            clear b2
            subst HE
            have hrd := (Kd.R_reads' HO.out).2.2
            rw [← (Kd.R_reads' HO.out).1] at hrd
            have hcv := Kd.C_string (P := Tryz.prog) (src := 77) (dst := 9) (c := co) Tryz.underlying77 Tryz.underlying5 Tryz.underlying9 hrd
            have HRD := Aside0.mk hrd
            clear hrd
            go_wp2
            go_ret
            exact ⟨by rw [HN.out]; rfl, HB.out⟩
end Go.Proofs.YteohmbannpbokaaGreatDoor.StrWalk

set_option linter.unusedVariables false
set_option linter.unusedSimpArgs false
namespace Go.Proofs.YteohmbannpbokaaGreatDoor.NatWalk
open Go.RowKit Go.Proofs.YteohmbannpbokaaGreatDoorW.PrintWords Go.Proofs.YteohmbannpbokaaGreatDoorW.PrintLast Go.Proofs.YteohmbannpbokaaGreatDoorW.PrintMore Go.Proofs.YteohmbannpbokaaGreatDoor.Digs Go.Proofs.YteohmbannpbokaaGreatDoor.StrLaw Go.Proofs.YteohmbannpbokaaGreatDoor.NatLaw
open Go.Proofs.YteohmbannpbokaaGreatDoor.PPow10

/-- A value that reads as a number's limbs, which lie in blocks of ok alone. -/
structure Rdv (w : World) (ok : Nat → Prop) (v : Value) (n : Nat) : Prop where
  mk :: (out : Kd.V (Kd.int .u32) 0 w 0 ok v (digs n))
section
variable {w w1 : World} {ok ok' : Nat → Prop} {v : Value} {n : Nat}
theorem Rdv.form (h : Rdv w ok v n) : ∃ A c, v = .slice A (digs n).length c ∧ (digs n).length ≤ c ∧ Kd.C (Kd.int .u32) w A (digs n).length (digs n) := by
  obtain ⟨A, c, e, hl, hf⟩ := h
  exact ⟨A, c, e, hl, Kd.F_now hf⟩
theorem Rdv.mono (h : Rdv w ok v n) (ho : ∀ k, ok k → ok' k) : Rdv w ok' v n := ⟨Kd.V_mono h.out ho⟩
theorem Rdv.bound (h : Rdv w ok v n) : Rdv w (fun k => ok k ∧ k < w.heap.size) v n := ⟨Kd.V_bound h.out⟩
theorem Rdv.below (h : Rdv w ok v n) (hb : Below w.heap.size w w1) : Rdv w1 ok v n := ⟨Kd.V_below h.out hb⟩
theorem Rdv.far (h : Rdv w ok v n) {p : Addr} (ho : ∀ k, ok k → k ≠ p.block) (u : Value) : Rdv (w.setCell p u) ok v n := ⟨Kd.V_far h.out ho u⟩
theorem Rdv.far2 {g : Nat} (h : Rdv w ok v n) (ho : ∀ k, ok k → k ≠ g) (x y : Value) : Rdv ((w.setCell ⟨g, 0, none⟩ x).setCell ⟨g, 1, none⟩ y) ok v n :=
  (h.far (p := ⟨g, 0, none⟩) ho x).far (p := ⟨g, 1, none⟩) ho y
theorem Rdv.far3 {g : Nat} (h : Rdv w ok v n) (ho : ∀ k, ok k → k ≠ g) (x y z : Value) : Rdv (((w.setCell ⟨g, 0, none⟩ x).setCell ⟨g, 1, none⟩ y).setCell ⟨g, 2, none⟩ z) ok v n :=
  (h.far2 ho x y).far (p := ⟨g, 2, none⟩) ho z
theorem Rdv.drew (h : Rdv w ok v n) : Rdv w.drew ok v n := ⟨Kd.V_drew h.out⟩
theorem Rdv.of_R {e base : Nat} (h : Kd.R (Kd.int .u32) e w base ok v (digs n)) : Rdv w (fun k => base ≤ k) v n :=
  have h1 : Kd.V (Kd.int .u32) e w 0 (fun k => base ≤ k) v (digs n) := Kd.R_V (Kd.R_mono (Kd.R_bound h) (fun _ hk => hk.2.1))
  ⟨h1⟩
theorem Rdv.of_V {e base : Nat} (h : Kd.V (Kd.int .u32) e w base ok v (digs n)) : Rdv w ok v n := ⟨h⟩
theorem Rdv.nil (w : World) : Rdv w (fun _ => False) (.slice none 0 0) 0 := ⟨by rw [digs_zero]; exact Kd.V_nil _ _ _ _ _⟩
end

theorem pow10_n (n : Nat) (w : World) (h : n ≤ 1000000) : Calls Tryz.prog 13 #[.int .i64 n] w fun e w' => ∃ v, e = .returned v ∧ Rdv w' (fun k => w.heap.size ≤ k) v (10 ^ n) ∧ Below w.heap.size w w' := by
  obtain ⟨k, hk⟩ := (pow10_ev n h).rounds
  refine (spec_Pow10.calls k n (digs (10 ^ n)) w hk).mono ?_
  rintro e w' ⟨v, rfl, hr, hb⟩
  exact ⟨v, rfl, Rdv.of_R hr, hb⟩
theorem size_text {n : Nat} (h : n ≠ 0) : (text n).size = nd n := by
  rw [text_pos h]
  simp [strOfNums, ByteArray.size, dbyt_len]
end Go.Proofs.YteohmbannpbokaaGreatDoor.NatWalk

set_option linter.unusedVariables false
set_option linter.unusedSimpArgs false
namespace Go.Proofs.YteohmbannpbokaaGreatDoor.SpecWalk
open Go.RowKit Go.Proofs.YteohmbannpbokaaGreatDoorW.PrintWords Go.Proofs.YteohmbannpbokaaGreatDoorW.PrintLast Go.Proofs.YteohmbannpbokaaGreatDoorW.PrintMore Go.Proofs.YteohmbannpbokaaGreatDoor.Digs Go.Proofs.YteohmbannpbokaaGreatDoor.StrLaw Go.Proofs.YteohmbannpbokaaGreatDoor.NatLaw Go.Proofs.YteohmbannpbokaaGreatDoor.NatWalk

/-- The sign that a whole number bears. -/
def sgn (b : Bool) (n : Nat) : Bool := b && decide (0 < n)
theorem len_pos_iff (n : Nat) : decide ((0 : Int) < ((digs n).length : Int)) = decide (0 < n) := by
  by_cases h : n = 0
  · subst h; rw [digs_zero]; rfl
  · have := len_pos h
    rw [decide_eq_true (by omega), decide_eq_true (by omega)]

theorem frz {w w1 : World} (hb : Below w.heap.size w w1) {a : Addr} {v : Value} (hc : w.cell? a = some v) (hf : w.frozen? a = false) : w1.frozen? a = false := (hb.frozen (World.block_lt_of_cell? w _ hc)).trans hf
/-- A block of cells, none frozen: kept by whatever only makes memory. -/
structure Box (w : World) (g : Nat) (l : List Value) : Prop where
  mk :: (out : ∀ j v, l[j]? = some v → w.cell? ⟨g, j, none⟩ = some v ∧ w.frozen? ⟨g, j, none⟩ = false)
theorem Box.below {w w1 : World} {g : Nat} {l : List Value} (h : Box w g l) (hb : Below w.heap.size w w1) : Box w1 g l :=
  ⟨fun j v hj => ⟨pw_cell_below hb (h.out j v hj).1, frz hb (h.out j v hj).1 (h.out j v hj).2⟩⟩
theorem Box.c0 {w : World} {g : Nat} {x : Value} {l : List Value} (h : Box w g (x :: l)) : w.cell? ⟨g, 0, none⟩ = some x := (h.out 0 x rfl).1
theorem Box.c1 {w : World} {g : Nat} {x y : Value} {l : List Value} (h : Box w g (x :: y :: l)) : w.cell? ⟨g, 1, none⟩ = some y := (h.out 1 y rfl).1
theorem Box.c2 {w : World} {g : Nat} {x y z : Value} {l : List Value} (h : Box w g (x :: y :: z :: l)) : w.cell? ⟨g, 2, none⟩ = some z := (h.out 2 z rfl).1
theorem Box.f0 {w : World} {g : Nat} {x : Value} {l : List Value} (h : Box w g (x :: l)) : w.frozen? ⟨g, 0, none⟩ = false := (h.out 0 x rfl).2
theorem Box.f1 {w : World} {g : Nat} {x y : Value} {l : List Value} (h : Box w g (x :: y :: l)) : w.frozen? ⟨g, 1, none⟩ = false := (h.out 1 y rfl).2
theorem Box.f2 {w : World} {g : Nat} {x y z : Value} {l : List Value} (h : Box w g (x :: y :: z :: l)) : w.frozen? ⟨g, 2, none⟩ = false := (h.out 2 z rfl).2
theorem Box.mk2 {w : World} {g : Nat} {x y : Value} (h0 : w.cell? ⟨g, 0, none⟩ = some x) (h1 : w.cell? ⟨g, 1, none⟩ = some y) (k0 : w.frozen? ⟨g, 0, none⟩ = false) (k1 : w.frozen? ⟨g, 1, none⟩ = false) : Box w g [x, y] :=
  ⟨fun j v hj => by match j, hj with | 0, hj => cases hj; exact ⟨h0, k0⟩ | 1, hj => cases hj; exact ⟨h1, k1⟩⟩
theorem Box.mk3 {w : World} {g : Nat} {x y z : Value} (h0 : w.cell? ⟨g, 0, none⟩ = some x) (h1 : w.cell? ⟨g, 1, none⟩ = some y) (h2 : w.cell? ⟨g, 2, none⟩ = some z) (k0 : w.frozen? ⟨g, 0, none⟩ = false) (k1 : w.frozen? ⟨g, 1, none⟩ = false) (k2 : w.frozen? ⟨g, 2, none⟩ = false) : Box w g [x, y, z] :=
  ⟨fun j v hj => by match j, hj with | 0, hj => cases hj; exact ⟨h0, k0⟩ | 1, hj => cases hj; exact ⟨h1, k1⟩ | 2, hj => cases hj; exact ⟨h2, k2⟩⟩

theorem Box.alloc {w : World} {g : Nat} {l : List Value} (h : Box w g l) (o : Obj) : Box (w.alloc o) g l := h.below ((Below.refl _ _).alloc (Nat.le_refl _) _)
theorem Box.drew {w : World} {g : Nat} {l : List Value} (h : Box w g l) : Box w.drew g l := h.below (Below.refl _ _).drew
theorem Box.far {w : World} {g : Nat} {l : List Value} {p : Addr} (h : Box w g l) (hg : g ≠ p.block) (u : Value) : Box (w.setCell p u) g l := by
  have hb := Below.heap_setCell w p u g hg
  refine ⟨fun j v hj => ?_⟩
  have := h.out j v hj
  refine ⟨?_, ?_⟩
  · simpa [World.cell?, hb] using this.1
  · simpa [World.frozen?, hb] using this.2
theorem Box.far2 {w : World} {g g' : Nat} {l : List Value} (h : Box w g l) (hg : g ≠ g') (x y : Value) : Box ((w.setCell ⟨g', 0, none⟩ x).setCell ⟨g', 1, none⟩ y) g l := (h.far (p := ⟨g', 0, none⟩) hg x).far (p := ⟨g', 1, none⟩) hg y
theorem Box.far3 {w : World} {g g' : Nat} {l : List Value} (h : Box w g l) (hg : g ≠ g') (x y z : Value) : Box (((w.setCell ⟨g', 0, none⟩ x).setCell ⟨g', 1, none⟩ y).setCell ⟨g', 2, none⟩ z) g l := (h.far2 hg x y).far (p := ⟨g', 2, none⟩) hg z
theorem Box.new2 (w : World) (g : Nat) (x y : Value) (t : TypeId) (hg : w.heap.size = g) : Box (w.alloc (.cells #[x, y] t)) g [x, y] := by
  subst hg
  exact .mk2 (by simp) (by simp) (by simp) (by simp)
theorem Box.new3 (w : World) (g : Nat) (x y z : Value) (t : TypeId) (hg : w.heap.size = g) : Box (w.alloc (.cells #[x, y, z] t)) g [x, y, z] := by
  subst hg
  exact .mk3 (by simp) (by simp) (by simp) (by simp) (by simp) (by simp)
theorem below2 {B : Nat} {w0 w : World} {g : Nat} (h : Below B w0 w) (hg : B ≤ g) (x y : Value) : Below B w0 ((w.setCell ⟨g, 0, none⟩ x).setCell ⟨g, 1, none⟩ y) :=
  (h.setCell (p := ⟨g, 0, none⟩) hg x).setCell (p := ⟨g, 1, none⟩) hg y
theorem below3 {B : Nat} {w0 w : World} {g : Nat} (h : Below B w0 w) (hg : B ≤ g) (x y z : Value) : Below B w0 (((w.setCell ⟨g, 0, none⟩ x).setCell ⟨g, 1, none⟩ y).setCell ⟨g, 2, none⟩ z) :=
  (below2 h hg x y).setCell (p := ⟨g, 2, none⟩) hg z

theorem digs_1 : digs 1 = [1] := by rw [digs_one (by decide) (by decide)]; rfl
theorem len_pow10 (e : Nat) : (digs (10 ^ e)).length ≤ e + 1 := by
  refine len_digs_le ?_
  rw [show (1000000000 : Nat) = 10 ^ 9 by decide, ← Nat.pow_mul]
  exact Nat.pow_lt_pow_right (by decide) (by omega)

theorem sgn_sgn (b : Bool) (n : Nat) : sgn (sgn b n) n = sgn b n := by unfold sgn; cases b <;> simp
end Go.Proofs.YteohmbannpbokaaGreatDoor.SpecWalk
