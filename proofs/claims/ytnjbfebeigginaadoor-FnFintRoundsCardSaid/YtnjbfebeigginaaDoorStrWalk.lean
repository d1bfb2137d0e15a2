/-
  The reference's text of a number: for the limbs of a number (at most 4,000,000,000 of them) the call returns its decimal digits, and changes nothing that was there.
-/
import Derived.Test.YtnjbfebeigginaaDoorPFnFixTruncx0
import Derived.Test.YtnjbfebeigginaaDoorStrLaw
import Derived.RegionTactic
import Derived.BigRegion
import Derived.ChangeAlike
set_option linter.unusedVariables false
set_option linter.unusedSimpArgs false
namespace Go.Proofs.YtnjbfebeigginaaDoor.StrWalk
open Go.RowKit Go.Proofs.YtnjbfebeigginaaDoorW.PrintWords Go.Proofs.YtnjbfebeigginaaDoorW.PrintLast Go.Proofs.YtnjbfebeigginaaDoorW.PrintMore Go.Proofs.YtnjbfebeigginaaDoor.Digs Go.Proofs.YtnjbfebeigginaaDoor.StrLaw

theorem infoB : (Tryd.prog.info? 5).map (fun i => (i.zero, i.size, i.bytes)) = some (some (.int .u8 0), 1, 1) := by kernel_rfl

set_option maxHeartbeats 4000000 in
set_option maxRecDepth 100000 in
theorem string_calls (n : Nat) (A0 : Option Addr) (c0 : Nat) (w : World) (hr0 : Kd.C (Kd.int .u32) w A0 (digs n).length (digs n)) (hc0 : (digs n).length ≤ c0) (hlen : ((digs n).length : Int) ≤ 4000000000) :
    Calls Tryd.prog 61 #[.slice A0 (digs n).length c0] w fun e w' => e = .returned (.string (text n)) ∧ Below w.heap.size w w' := by
  have HR0 := Aside0.mk hr0
  have HC0 := Aside0.mk hc0
  clear hr0 hc0
  have HB := Aside0.mk (Below.refl w.heap.size w)
  go_enter Tryd.func61, Tryd.ntmps61
  go_wp2
  go_loopg [3, 11] (digs n).length (fun g v3 v11 w' => ∃ (x : List Int) (i : Int), v11 = .int .i64 i ∧ Out n i x ∧ Aside0 (i + (g : Int) = ((digs n).length : Int)) ∧ Aside0 (Kd.R (Kd.int .u8) 5 w' w.heap.size (fun _ => True) v3 x) ∧ Aside0 (Below w.heap.size w w'))
  case atStart => exact ⟨[], 0, rfl, Out.start n, ⟨by simp⟩, ⟨Kd.R_nil _ _ _ _ _⟩, HB⟩
  case round =>
    clear HB
    obtain ⟨x, i, rfl, HI, HG, HO, HB⟩ := hrel
    have hb := HI.bound
    obtain ⟨b1, b2, b3⟩ := hb
    have HX := Aside0.mk b3
    clear b3
    by_cases hi : i < ((digs n).length : Int)
    · obtain ⟨ad, e0, hx⟩ := Kd.at_int HR0.out i b1 hi
      cases e0
      replace hx := (HB.out.cell (World.block_lt_of_cell? w _ hx)).trans hx
      obtain ⟨og, hog⟩ : ∃ og, og = gk := ⟨gk, rfl⟩
      subst hog
      go_wp2
      go_loopg [3, 5, 6] 9 (fun g2 v3 v5 v6 w' => ∃ (x : List Int) (c k : Int), v5 = .int .u32 c ∧ v6 = .int .i64 k ∧ Inn n i k c x ∧ Aside0 (k + (g2 : Int) = 9) ∧ Aside0 (Kd.R (Kd.int .u8) 5 w' w.heap.size (fun _ => True) v3 x) ∧ Aside0 (Below w.heap.size w w'))
      case atStart => exact ⟨x, rd (digs n) i, 0, rfl, rfl, HI.inn hi, ⟨by simp⟩, HO, HB⟩
      case round =>
        clear HI HO HB HX hx
        obtain ⟨x, c, k, rfl, rfl, HI, HG2, HO, HB⟩ := hrel
        obtain ⟨q1, q2, k1, k2, c1, c2, q3⟩ := HI.bound
        have HX := Aside0.mk q3
        clear q1 q2 q3
        by_cases hk : k < 9
        · by_cases hc : 0 < c
          · have HCS : Aside0 (0 < c ∨ i + 1 < (digs n).length) := ⟨.inl hc⟩
            go_wp2_with (first | ((with_reducible refine gate_builtin (b := .append) (xs := #[.tmp 31, .tmp 36]) rfl ?_); at_builtin; refine Kd.R_append (Kd.int .u8) (w0 := w) w.heap.size rfl (.tmp 31) (.tmp 36) 91 5 (.int .u8 0) 1 rfl Tryd.underlying91 infoB rfl (by decide) (by omega) u3 x (48 + c % 10) [.int .u8 (48 + c % 10)] (fun _ => True) (fun _ => False) rfl rfl ?aP (fun _ hk => hk.elim) ?aF ?aO ?aB ?aS ?aL ?_; (case aP => exact rfl); (case aB => exact HB.out); (case aF => exact (fun _ _ => trivial)); (case aO => exact HO.out); (case aS => exact below_size HB.out); (case aL => have := HX.out; omega); intro v1 w1 ho hb hg hat; have HO1 := Aside0.mk ho; have HB1 := Aside0.mk hb; clear HB HO ho hb hg hat))
            go_roundg (gk - 1)
            case measure => have := HG2.out; omega
            case rel => exact ⟨_, _, _, rfl, rfl, HI.step hk (HCS.out), ⟨by have := HG2.out; omega⟩, HO1, HB1⟩
          · by_cases hi1 : i + 1 < ((digs n).length : Int)
            · have HCS : Aside0 (0 < c ∨ i + 1 < (digs n).length) := ⟨.inr hi1⟩
              go_wp2_with (first | ((with_reducible refine gate_builtin (b := .append) (xs := #[.tmp 31, .tmp 36]) rfl ?_); at_builtin; refine Kd.R_append (Kd.int .u8) (w0 := w) w.heap.size rfl (.tmp 31) (.tmp 36) 91 5 (.int .u8 0) 1 rfl Tryd.underlying91 infoB rfl (by decide) (by omega) u3 x (48 + c % 10) [.int .u8 (48 + c % 10)] (fun _ => True) (fun _ => False) rfl rfl ?aP (fun _ hk => hk.elim) ?aF ?aO ?aB ?aS ?aL ?_; (case aP => exact rfl); (case aB => exact HB.out); (case aF => exact (fun _ _ => trivial)); (case aO => exact HO.out); (case aS => exact below_size HB.out); (case aL => have := HX.out; omega); intro v1 w1 ho hb hg hat; have HO1 := Aside0.mk ho; have HB1 := Aside0.mk hb; clear HB HO ho hb hg hat))
              go_roundg (gk - 1)
              case measure => have := HG2.out; omega
              case rel => exact ⟨_, _, _, rfl, rfl, HI.step hk (HCS.out), ⟨by have := HG2.out; omega⟩, HO1, HB1⟩
            · have HE := Aside0.mk (HI.stop0 hk hc hi1)
              clear HI
              go_wp2
              go_roundg (og - 1)
              case measure => have := HG.out; omega
              case rel => exact ⟨x, i + 1, rfl, HE.out, ⟨by have := HG.out; omega⟩, HO, HB⟩
        · have HE := Aside0.mk (HI.stop9 hk)
          clear HI
          go_wp2
          go_roundg (og - 1)
          case measure => have := HG.out; omega
          case rel => exact ⟨x, i + 1, rfl, HE.out, ⟨by have := HG.out; omega⟩, HO, HB⟩
    · have HE := HI.done hi
      clear HI HX HG b1 b2
      subst HE
      have hib : decide (i < ((digs n).length : Int)) = false := decide_eq_false hi
      clear hi
      by_cases hn : n = 0
      · have HN := Aside0.mk hn
        have c0b : (((dbyt n (nd n)).length : Int) == 0) = true := beq_iff_eq.mpr (dbyt_nil.2 hn)
        clear hn
        generalize dbyt n (nd n) = X at *
        obtain ⟨Ao, co, eo⟩ := Kd.R_slice HO.out
        subst eo
        go_wp2
        go_ret
        exact ⟨by rw [HN.out, text_zero]; rfl, HB.out⟩
      · have c1b : (((dbyt n (nd n)).length : Int) == 0) = false := beq_eq_false_iff_ne.mpr (fun h => hn (dbyt_nil.1 h))
        have HN := Aside0.mk (text_pos hn)
        clear hn
        have hm : ((dbyt n (nd n)).length : Int) ≤ 36000000000 := by rw [dbyt_len]; have := nd_le_len n; omega
        generalize dbyt n (nd n) = X at *
        obtain ⟨Ao, co, eo⟩ := Kd.R_slice HO.out
        subst eo
        go_wp2
        go_loopg [7, 8] X.length (fun g v7 v8 w' => ∃ (y : List Int) (i j : Int), v7 = .int .i64 i ∧ v8 = .int .i64 j ∧ Aside0 (Rev X y i j) ∧ Aside0 (j - i < (g : Int)) ∧ Aside0 (Kd.R (Kd.int .u8) 5 w' w.heap.size (fun _ => True) (.slice Ao X.length co) y) ∧ Aside0 (Below w.heap.size w w'))
        case atStart => exact ⟨X, 0, (X.length : Int) - 1, rfl, rfl, ⟨Rev.start X⟩, ⟨by omega⟩, HO, HB⟩
        case round =>
          clear HO HB hib
          obtain ⟨y, a, b, rfl, rfl, HI, HG, HO, HB⟩ := hrel
          obtain ⟨hl, a0, b1, b2⟩ := HI.out.bound
          have HL := Aside0.mk hl
          clear hl
          by_cases hab : a < b
          · have hab2 := b2 hab
            clear b2
            have b0 : 0 ≤ b := by omega
            have a1 : a < (X.length : Int) := by omega
            obtain ⟨g0, c1, e1, gb, gl, cl, HC⟩ := Kd.R_form HO.out (by have := HL.out; omega)
            injection e1 with ea en ec
            subst ea
            subst ec
            clear en
            have GB := Aside0.mk gb
            clear HC cl gl gb
            have hca := Kd.R_celln 0 HO.out a a0 a1
            have hcb := Kd.R_celln 0 HO.out b b0 b1
            obtain ⟨hca1, hca2⟩ := hca
            obtain ⟨hcb1, hcb2⟩ := hcb
            change _ = some (Value.int .u8 (rd y a)) at hca1
            change _ = some (Value.int .u8 (rd y b)) at hcb1
            go_wp2
            go_region
            go_wp2
            go_roundg (gk - 1)
            case measure => have := HG.out; omega
            case rel => exact ⟨_, _, _, rfl, rfl, ⟨HI.out.step hab⟩, ⟨by have := HG.out; omega⟩, ⟨Kd.R_putn (Kd.R_putn (Kd.R_drew HO.out) a (rd y b)) b (rd y a)⟩, ⟨((HB.out.setCell GB.out _).setCell GB.out _).drew⟩⟩
          · have HE := HI.out.done hab
            clear b2
            subst HE
            have hrd := (Kd.R_reads' HO.out).2.2
            rw [← (Kd.R_reads' HO.out).1] at hrd
            have hcv := Kd.C_string (P := Tryd.prog) (src := 91) (dst := 9) (c := co) Tryd.underlying91 Tryd.underlying5 Tryd.underlying9 hrd
            have HRD := Aside0.mk hrd
            clear hrd
            go_wp2
            go_ret
            exact ⟨by rw [HN.out]; rfl, HB.out⟩
end Go.Proofs.YtnjbfebeigginaaDoor.StrWalk
