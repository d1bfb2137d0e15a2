/-
  The reference's decimals of at most 60 digits: the digits and the sign that a text has.
-/
import Derived.Test.YteohmbannpbokaaSpecWalk4
import Derived.Outline
set_option linter.unusedVariables false
set_option linter.unusedSimpArgs false
namespace Go.Proofs.Yteohmbannpbokaa.TextFit
open Go.RowKit Go.Proofs.YteohmbannpbokaaW.PrintWords Go.Proofs.YteohmbannpbokaaW.PrintLast Go.Proofs.YteohmbannpbokaaW.PrintMore Go.Proofs.Yteohmbannpbokaa.Digs Go.Proofs.Yteohmbannpbokaa.StrLaw Go.Proofs.Yteohmbannpbokaa.NatLaw Go.Proofs.Yteohmbannpbokaa.NatWalk Go.Proofs.Yteohmbannpbokaa.SpecWalk Go.Proofs.Yteohmbannpbokaa.TextLaw Go.Proofs.Yteohmbannpbokaa.TextWalk

theorem infoB : (Try.prog.info? 5).map (fun i => (i.zero, i.size, i.bytes)) = some (some (.int .u8 0), 1, 1) := by kernel_rfl
/-- What is returned. -/
structure Fit (m : Nat) (x : Int) (v : Value) : Prop where
  mk :: (out : ∃ (b : Bool) (n : Nat), v = .agg #[.string (stext b n), .int .i64 x] ∧ sgn b n = b ∧ nd n ≤ m)
set_option maxHeartbeats 4000000 in
set_option maxRecDepth 100000 in
theorem DecFit_n (s : ByteArray) (x : Int) (w : World) (hs : s.size ≤ 2147483647) (hx : -9223372036854775808 ≤ x ∧ x ≤ 9223372036854775807) :
    Calls Try.prog 14 #[.agg #[.string s, .int .i64 x], .int .i64 60, .int .i64 60] w fun e w' => ∃ v, e = .returned v ∧ Fit 60 (x.tmod 61) v ∧ Below w.heap.size w w' := by
  have hsi : (s.size : Int) ≤ 2147483647 := by omega
  have HX := Aside0.mk hx
  clear hs hx
  go_enter Try.func14, Try.ntmps14
  go_wp2
  have ax0 : Box ((w.alloc (Obj.cells #[Value.string s, Value.int .i64 x] 23)).alloc (Obj.cells #[Value.string ⟨#[]⟩, Value.int .i64 0] 23)) w.heap.size [.string s, .int .i64 x] := ((Box.new2 w _ _ _ _ (by simp)).alloc _)
  have rx0 : Box ((w.alloc (Obj.cells #[Value.string s, Value.int .i64 x] 23)).alloc (Obj.cells #[Value.string ⟨#[]⟩, Value.int .i64 0] 23)) (w.heap.size + 1) [.string ⟨#[]⟩, .int .i64 0] := (Box.new2 (w.alloc (Obj.cells #[Value.string s, Value.int .i64 x] 23)) _ _ _ _ (by simp))
  have hB0 : Below w.heap.size w ((w.alloc (Obj.cells #[Value.string s, Value.int .i64 x] 23)).alloc (Obj.cells #[Value.string ⟨#[]⟩, Value.int .i64 0] 23)) := (((Below.refl _ _).alloc (Nat.le_refl _) _).alloc (by simp) _)
  generalize ((w.alloc (Obj.cells #[Value.string s, Value.int .i64 x] 23)).alloc (Obj.cells #[Value.string ⟨#[]⟩, Value.int .i64 0] 23)) = w0 at *
  obtain ⟨hgb, hgr⟩ : w.heap.size < w0.heap.size ∧ w.heap.size + 1 < w0.heap.size := ⟨by have := World.block_lt_of_cell? w0 _ rx0.c0; simp at this; omega, by have := World.block_lt_of_cell? w0 _ rx0.c0; simpa using this⟩
  go_loopg [7, 8] s.size (fun g v7 v8 w' => ∃ (n : Nat) (i : Int), v8 = .int .i64 i ∧ Aside0 (0 ≤ i ∧ i + (g : Int) = (s.size : Int) ∧ nd n ≤ 60 ∧ (0 < nd n → 0 < i)) ∧ Aside0 (Kd.R (Kd.int .u8) 5 w' w0.heap.size (fun _ => True) v7 (top n)) ∧ Aside0 (Below w0.heap.size w0 w'))
  case atStart => exact ⟨0, 0, rfl, ⟨by simp, by simp, by rw [nd_zero]; omega, by rw [nd_zero]; omega⟩, ⟨by rw [top_zero]; exact Kd.R_nil _ _ _ _ _⟩, ⟨Below.refl _ _⟩⟩
  case round =>
    obtain ⟨n, i, rfl, HG, HO, HB⟩ := hrel
    replace ax0 := ax0.below HB.out
    replace rx0 := rx0.below HB.out
    have kax00 := ax0.c0; have kax01 := ax0.c1; have qax00 := ax0.f0; have qax01 := ax0.f1; have krx00 := rx0.c0; have krx01 := rx0.c1; have qrx00 := rx0.f0; have qrx01 := rx0.f1
    obtain ⟨i0, hgi, hn60, hni⟩ := HG.out
    have HNI := Aside0.mk hni
    clear hni
    have htl := top_len n
    obtain ⟨Ao, co, eo⟩ := Kd.R_slice HO.out
    subst eo
    rw [htl] at HO ⊢
    have hn0 := nd_zero_iff (n := n)
    have HN0 := Aside0.mk hn0
    clear hn0 htl
    by_cases hi : i < (s.size : Int)
    · have hx := bt_at s i
      have p7 := eq_true i0
      have q7 := eq_true hi
      obtain ⟨y0, y1⟩ := bt_range s i
      have HBT : Aside0 (∀ h : 48 ≤ bt s i ∧ bt s i ≤ 57, bt s i = ((48 + (bt s i - 48).toNat : Nat) : Int)) := ⟨fun h => by omega⟩
      generalize bt s i = y at *
      by_cases hn : (nd n : Int) < 60
      · by_cases h48 : 48 ≤ y
        · by_cases h57 : y ≤ 57
          · by_cases hz : n = 0 ∧ y = 48
            · obtain ⟨hz1, hz2⟩ := hz
              subst hz2
              have hnd : nd n = 0 := HN0.out.2 hz1
              have HZ1 := Aside0.mk hz1
              clear hz1
              generalize hnn : nd n = N at *
              subst hnd
              go_wp2
              go_roundg (gk - 1)
              case measure => have := HG.out; omega
              case rel => exact ⟨n, i + 1, rfl, ⟨by omega, by omega, by first | exact hn60 | (rw [hnn]; omega) | omega, fun _ => by omega⟩, HO, HB⟩
            · have hst := top_step n (y - 48).toNat (by omega) (by omega)
              rw [← HBT.out ⟨h48, h57⟩] at hst
              have HST := Aside0.mk hst
              have hyz : (0 : Int) < (nd n : Int) ∨ y ≠ 48 := by
                by_cases h : n = 0
                · exact .inr (fun h2 => hz ⟨h, h2⟩)
                · exact .inl (by have := HN0.out; omega)
              clear hst hz
              by_cases hpos : 0 < nd n
              · clear hyz
                have hpd : decide (0 < nd n) = true := decide_eq_true hpos
                go_wp2_with (first | ((with_reducible refine gate_builtin (b := .append) (xs := #[.tmp 43, .tmp 45]) rfl ?_); at_builtin; refine Kd.R_append (Kd.int .u8) (w0 := w0) w0.heap.size rfl (.tmp 43) (.tmp 45) 55 5 (.int .u8 0) 1 rfl Try.underlying55 infoB rfl (by decide) (by omega) _ (top n) y [.int .u8 y] (fun _ => True) (fun _ => False) rfl rfl ?aP (fun _ hk => hk.elim) ?aF ?aO ?aB ?aS ?aL ?_; (case aP => exact rfl); (case aB => exact HB.out); (case aF => exact (fun _ _ => trivial)); (case aO => exact HO.out); (case aS => exact below_size HB.out); (case aL => (rw [top_len]; omega)); intro v1 w1 ho hb hg hat; have HO1 := Aside0.mk ho; have HB1 := Aside0.mk hb; clear HB HO ho hb hg hat))
                go_roundg (gk - 1)
                case measure => have := HG.out; omega
                case rel => exact ⟨n * 10 + (y - 48).toNat, i + 1, rfl, ⟨by omega, by omega, by rw [HST.out.2]; omega, fun _ => by omega⟩, ⟨by rw [HST.out.1]; exact HO1.out⟩, HB1⟩
              · have hne : (y != 48) = true := bne_iff_ne.mpr (by rcases hyz with h | h; omega; exact h)
                have hnd : nd n = 0 := by omega
                have HND := Aside0.mk hnd
                clear hyz hnd
                generalize hnn : nd n = N at *
                obtain rfl : N = 0 := HND.out
                go_wp2_with (first | ((with_reducible refine gate_builtin (b := .append) (xs := #[.tmp 43, .tmp 45]) rfl ?_); at_builtin; refine Kd.R_append (Kd.int .u8) (w0 := w0) w0.heap.size rfl (.tmp 43) (.tmp 45) 55 5 (.int .u8 0) 1 rfl Try.underlying55 infoB rfl (by decide) (by omega) _ (top n) y [.int .u8 y] (fun _ => True) (fun _ => False) rfl rfl ?aP (fun _ hk => hk.elim) ?aF ?aO ?aB ?aS ?aL ?_; (case aP => exact rfl); (case aB => exact HB.out); (case aF => exact (fun _ _ => trivial)); (case aO => exact HO.out); (case aS => exact below_size HB.out); (case aL => (rw [top_len]; omega)); intro v1 w1 ho hb hg hat; have HO1 := Aside0.mk ho; have HB1 := Aside0.mk hb; clear HB HO ho hb hg hat))
                go_roundg (gk - 1)
                case measure => have := HG.out; omega
                case rel => exact ⟨n * 10 + (y - 48).toNat, i + 1, rfl, ⟨by omega, by omega, by rw [HST.out.2]; omega, fun _ => by omega⟩, ⟨by rw [HST.out.1]; exact HO1.out⟩, HB1⟩
          · skip
            go_wp2
            go_roundg (gk - 1)
            case measure => have := HG.out; omega
            case rel => exact ⟨n, i + 1, rfl, ⟨by omega, by omega, by first | exact hn60 | (rw [hnn]; omega) | omega, fun _ => by omega⟩, HO, HB⟩
        · skip
          go_wp2
          go_roundg (gk - 1)
          case measure => have := HG.out; omega
          case rel => exact ⟨n, i + 1, rfl, ⟨by omega, by omega, by first | exact hn60 | (rw [hnn]; omega) | omega, fun _ => by omega⟩, HO, HB⟩
      · skip
        have hrd := (Kd.R_reads' HO.out).2.2
        have hlt := top_len n
        have hcv : ∀ w', Below wr.heap.size wr w' → (convert 55 9 (.slice Ao (nd n) co)).run Try.prog w' = .ok (.string (strOfNums (top n))) w' := fun w' hb => by
          have h := Kd.C_string (P := Try.prog) (src := 55) (dst := 9) (c := co) Try.underlying55 Try.underlying5 Try.underlying9 (Kd.C_below hrd hb)
          rw [hlt] at h
          exact h
        have hcv1 := hcv wr.drew (Below.refl _ _).drew
        have hcv2 := hcv (wr.alloc (Obj.cells #[.string ⟨#[]⟩, .int .i64 0] 23)).drew ((Below.refl _ _).alloc (Nat.le_refl _) _).drew
        clear hrd hlt hcv
        have hw61 : IntKind.i64.wrap 61 = 61 := by decide
        have axA := (ax0.alloc (Obj.cells #[.string ⟨#[]⟩, .int .i64 0] 23)).drew
        have axB := ax0.drew
        have kaxA0 := axA.c0; have kaxA1 := axA.c1; have qaxA0 := axA.f0; have qaxA1 := axA.f1; have kaxB0 := axB.c0; have kaxB1 := axB.c1; have qaxB0 := axB.f0; have qaxB1 := axB.f1
        go_wp2
        go_region
        all_goals
          have mx0 : Box (wr.alloc (Obj.cells #[.string (strOfNums (top n)), .int .i64 (x.tmod 61)] 23)).drew wr.heap.size [.string (strOfNums (top n)), .int .i64 (x.tmod 61)] := (Box.new2 _ _ _ _ _ rfl).drew
          have ay0 := (ax0.alloc (Obj.cells #[.string (strOfNums (top n)), .int .i64 (x.tmod 61)] 23)).drew
          have ry0 := (rx0.alloc (Obj.cells #[.string (strOfNums (top n)), .int .i64 (x.tmod 61)] 23)).drew
          have HW := Aside0.mk ((HB.out.alloc HB.out.size (Obj.cells #[.string (strOfNums (top n)), .int .i64 (x.tmod 61)] 23)).drew)
          have hlt1 : w.heap.size < wr.heap.size := by have := HB.out.size; omega
          have hlt2 : w.heap.size + 1 < wr.heap.size := by have := HB.out.size; omega
          have HSZ := Aside0.mk HB.out.size
          have HTT := Aside0.mk (text_top (n := n))
          have HIF := Aside0.mk (show 0 < nd n → 0 < s.size by intro h; have := HNI.out h; omega)
          clear axA axB kaxA0 kaxA1 kaxB0 kaxB1 qaxA0 qaxA1 qaxB0 qaxB1 hcv1 hcv2 hw61
          have hts : ((strOfNums (top n)).size : Int) ≤ 60 := by rw [strOfNums_size, top_len]; omega
          generalize hT : strOfNums (top n) = T at *
          generalize hE : x.tmod 61 = E at *
          have HE := Aside0.mk hE
          clear hE
          have HT2 := Aside0.mk hT
          clear hT
          have hsz1 : (wr.alloc (Obj.cells #[.string T, .int .i64 E] 23)).drew.heap.size = wr.heap.size + 1 := by simp
          generalize (wr.alloc (Obj.cells #[.string T, .int .i64 E] 23)).drew = W1 at *
          have HS1 := Aside0.mk hsz1
          clear hsz1
          have kmx00 := mx0.c0; have kmx01 := mx0.c1; have qmx00 := mx0.f0; have qmx01 := mx0.f1; have kay00 := ay0.c0; have kay01 := ay0.c1; have qay00 := ay0.f0; have qay01 := ay0.f1; have kry00 := ry0.c0; have kry01 := ry0.c1; have qry00 := ry0.f0; have qry01 := ry0.f1
          have hnd : 0 < nd n := by omega
          have HZ := Aside0.mk (show ¬ n = 0 by intro h; have := HN0.out.2 h; omega)
          have hne : ((nd n : Int) == 0) = false := beq_eq_false_iff_ne.mpr (by omega)
          have hss := HIF.out hnd
          have hb0 := bt0 s
          have hp0 := eq_true hss
          have HND := Aside0.mk hn60
          have hst1 : Aside0 (stext true n = ⟨#[45]⟩ ++ text n) := ⟨rfl⟩
          have hst0 : Aside0 (stext false n = text n) := ⟨rfl⟩
          have hTe := Aside0.mk (HTT.out HZ.out)
          have hsg : Aside0 (sgn true n = true) := ⟨by have := HZ.out; simp [sgn]; omega⟩
          by_cases h45 : bt s 0 = 45
          · rw [h45] at hb0
            clear h45
            go_wp2
            refine bodyPost_ret (v := .agg #[.string (⟨#[45]⟩ ++ T), .int .i64 E]) (by simp [results, Try.results14, go_sem, kry00, kry01, kmx00, kmx01, kay00, kay01, qmx00, qmx01, qry00, qry01]) rfl ⟨_, rfl, ⟨true, n, by rw [hst1.out, hTe.out, HE.out], hsg.out, HND.out⟩, ?_⟩
            repeat (first | exact below_step hB0 HW.out | (refine Below.setCell ?_ (by first | (show _ ≤ wr.heap.size; omega) | (show _ ≤ w.heap.size + 1; omega)) _))
          · have h45' : (bt s 0 == 45) = false := beq_eq_false_iff_ne.mpr h45
            generalize bt s 0 = B0 at *
            clear h45
            go_wp2
            refine bodyPost_ret (v := .agg #[.string T, .int .i64 E]) (by simp [results, Try.results14, go_sem, kry00, kry01, kmx00, kmx01, kay00, kay01, qmx00, qmx01, qry00, qry01]) rfl ⟨_, rfl, ⟨false, n, by rw [hst0.out, hTe.out, HE.out], rfl, HND.out⟩, ?_⟩
            repeat (first | exact below_step hB0 HW.out | (refine Below.setCell ?_ (by first | (show _ ≤ wr.heap.size; omega) | (show _ ≤ w.heap.size + 1; omega)) _))
    · skip
      have hrd := (Kd.R_reads' HO.out).2.2
      have hlt := top_len n
      have hcv : ∀ w', Below wr.heap.size wr w' → (convert 55 9 (.slice Ao (nd n) co)).run Try.prog w' = .ok (.string (strOfNums (top n))) w' := fun w' hb => by
        have h := Kd.C_string (P := Try.prog) (src := 55) (dst := 9) (c := co) Try.underlying55 Try.underlying5 Try.underlying9 (Kd.C_below hrd hb)
        rw [hlt] at h
        exact h
      have hcv1 := hcv wr.drew (Below.refl _ _).drew
      have hcv2 := hcv (wr.alloc (Obj.cells #[.string ⟨#[]⟩, .int .i64 0] 23)).drew ((Below.refl _ _).alloc (Nat.le_refl _) _).drew
      clear hrd hlt hcv
      have hw61 : IntKind.i64.wrap 61 = 61 := by decide
      have axA := (ax0.alloc (Obj.cells #[.string ⟨#[]⟩, .int .i64 0] 23)).drew
      have axB := ax0.drew
      have kaxA0 := axA.c0; have kaxA1 := axA.c1; have qaxA0 := axA.f0; have qaxA1 := axA.f1; have kaxB0 := axB.c0; have kaxB1 := axB.c1; have qaxB0 := axB.f0; have qaxB1 := axB.f1
      go_wp2
      go_region
      all_goals
        have mx0 : Box (wr.alloc (Obj.cells #[.string (strOfNums (top n)), .int .i64 (x.tmod 61)] 23)).drew wr.heap.size [.string (strOfNums (top n)), .int .i64 (x.tmod 61)] := (Box.new2 _ _ _ _ _ rfl).drew
        have ay0 := (ax0.alloc (Obj.cells #[.string (strOfNums (top n)), .int .i64 (x.tmod 61)] 23)).drew
        have ry0 := (rx0.alloc (Obj.cells #[.string (strOfNums (top n)), .int .i64 (x.tmod 61)] 23)).drew
        have HW := Aside0.mk ((HB.out.alloc HB.out.size (Obj.cells #[.string (strOfNums (top n)), .int .i64 (x.tmod 61)] 23)).drew)
        have hlt1 : w.heap.size < wr.heap.size := by have := HB.out.size; omega
        have hlt2 : w.heap.size + 1 < wr.heap.size := by have := HB.out.size; omega
        have HSZ := Aside0.mk HB.out.size
        have HTT := Aside0.mk (text_top (n := n))
        have HIF := Aside0.mk (show 0 < nd n → 0 < s.size by intro h; have := HNI.out h; omega)
        clear axA axB kaxA0 kaxA1 kaxB0 kaxB1 qaxA0 qaxA1 qaxB0 qaxB1 hcv1 hcv2 hw61
        have hts : ((strOfNums (top n)).size : Int) ≤ 60 := by rw [strOfNums_size, top_len]; omega
        generalize hT : strOfNums (top n) = T at *
        generalize hE : x.tmod 61 = E at *
        have HE := Aside0.mk hE
        clear hE
        have HT2 := Aside0.mk hT
        clear hT
        have hsz1 : (wr.alloc (Obj.cells #[.string T, .int .i64 E] 23)).drew.heap.size = wr.heap.size + 1 := by simp
        generalize (wr.alloc (Obj.cells #[.string T, .int .i64 E] 23)).drew = W1 at *
        have HS1 := Aside0.mk hsz1
        clear hsz1
        have kmx00 := mx0.c0; have kmx01 := mx0.c1; have qmx00 := mx0.f0; have qmx01 := mx0.f1; have kay00 := ay0.c0; have kay01 := ay0.c1; have qay00 := ay0.f0; have qay01 := ay0.f1; have kry00 := ry0.c0; have kry01 := ry0.c1; have qry00 := ry0.f0; have qry01 := ry0.f1
        by_cases hz : n = 0
        · have hnd : nd n = 0 := HN0.out.2 hz
          have HZ := Aside0.mk hz
          clear hz
          generalize hnn : nd n = N at *
          subst hnd
          go_wp2
          refine bodyPost_ret (v := .agg #[.string ⟨#[48]⟩, .int .i64 E]) (by simp [results, Try.results14, go_sem, kry00, kry01, kmx00, kmx01, kay00, kay01, qmx00, qmx01, qry00, qry01]) rfl ⟨_, rfl, ⟨false, 0, by rw [HE.out]; rfl, rfl, by rw [nd_zero]; omega⟩, ?_⟩
          repeat (first | exact below_step hB0 HW.out | (refine Below.setCell ?_ (by first | (show _ ≤ wr.heap.size; omega) | (show _ ≤ w.heap.size + 1; omega)) _))
        · have hnd : 0 < nd n := by
            apply Classical.byContradiction
            intro h; exact hz (HN0.out.1 (by omega))
          have HZ := Aside0.mk hz
          have hne : ((nd n : Int) == 0) = false := beq_eq_false_iff_ne.mpr (by omega)
          have hss := HIF.out hnd
          have hb0 := bt0 s
          have hp0 := eq_true hss
          have HND := Aside0.mk hn60
          have hst1 : Aside0 (stext true n = ⟨#[45]⟩ ++ text n) := ⟨rfl⟩
          have hst0 : Aside0 (stext false n = text n) := ⟨rfl⟩
          have hTe := Aside0.mk (HTT.out HZ.out)
          have hsg : Aside0 (sgn true n = true) := ⟨by have := HZ.out; simp [sgn]; omega⟩
          by_cases h45 : bt s 0 = 45
          · rw [h45] at hb0
            clear h45
            go_wp2
            refine bodyPost_ret (v := .agg #[.string (⟨#[45]⟩ ++ T), .int .i64 E]) (by simp [results, Try.results14, go_sem, kry00, kry01, kmx00, kmx01, kay00, kay01, qmx00, qmx01, qry00, qry01]) rfl ⟨_, rfl, ⟨true, n, by rw [hst1.out, hTe.out, HE.out], hsg.out, HND.out⟩, ?_⟩
            repeat (first | exact below_step hB0 HW.out | (refine Below.setCell ?_ (by first | (show _ ≤ wr.heap.size; omega) | (show _ ≤ w.heap.size + 1; omega)) _))
          · have h45' : (bt s 0 == 45) = false := beq_eq_false_iff_ne.mpr h45
            generalize bt s 0 = B0 at *
            clear h45
            go_wp2
            refine bodyPost_ret (v := .agg #[.string T, .int .i64 E]) (by simp [results, Try.results14, go_sem, kry00, kry01, kmx00, kmx01, kay00, kay01, qmx00, qmx01, qry00, qry01]) rfl ⟨_, rfl, ⟨false, n, by rw [hst0.out, hTe.out, HE.out], rfl, HND.out⟩, ?_⟩
            repeat (first | exact below_step hB0 HW.out | (refine Below.setCell ?_ (by first | (show _ ≤ wr.heap.size; omega) | (show _ ≤ w.heap.size + 1; omega)) _))

theorem _root_.Go.Proofs.Yteohmbannpbokaa.SpecWalk.Box.put2 {w : World} {g : Nat} {x y : Value} (h : Box w g [x, y]) (a b : Value) : Box ((w.setCell ⟨g, 0, none⟩ a).setCell ⟨g, 1, none⟩ b) g [a, b] := by
  have h0 := h.c0; have h1 := h.c1
  have k0 := h.f0; have k1 := h.f1
  refine Box.mk2 ?_ ?_ ?_ ?_ <;> simp [go_sem, h0, h1, k0, k1]
theorem _root_.Go.Proofs.Yteohmbannpbokaa.SpecWalk.Box.put3' {w : World} {g : Nat} {x y z : Value} (h : Box w g [x, y, z]) (a b c : Value) : Box (((w.setCell ⟨g, 0, none⟩ a).setCell ⟨g, 1, none⟩ b).setCell ⟨g, 2, none⟩ c) g [a, b, c] := by
  have h0 := h.c0; have h1 := h.c1; have h2 := h.c2
  have k0 := h.f0; have k1 := h.f1; have k2 := h.f2
  refine Box.mk3 ?_ ?_ ?_ ?_ ?_ ?_ <;> simp [go_sem, h0, h1, h2, k0, k1, k2]
/-- A decimal that fits, and its fraction. -/
structure Fitted (w : World) (m : Nat) (x : Int) (base : Nat) (v : Value) : Prop where
  mk :: (out : ∃ (b : Bool) (n : Nat) (u d : Value), v = .tuple #[.agg #[.string (stext b n), .int .i64 x], .agg #[.bool b, u, d]] ∧ sgn b n = b ∧ nd n ≤ m ∧ Rdv w (fun k => base ≤ k) u (fnum n x) ∧ Rdv w (fun k => base ≤ k) d (fden x))
set_option maxHeartbeats 4000000 in
theorem arOne_n (s : ByteArray) (x : Int) (w : World) (hs : s.size ≤ 2147483647) (hx : -9223372036854775808 ≤ x ∧ x ≤ 9223372036854775807) :
    Calls Try.prog 5 #[.agg #[.string s, .int .i64 x]] w fun e w' => ∃ v, e = .returned v ∧ Fitted w' 60 (x.tmod 61) w.heap.size v ∧ Below w.heap.size w w' := by
  have HF := Aside0.mk (fun w => DecFit_n s x w hs hx)
  have hE : -60 ≤ x.tmod 61 ∧ x.tmod 61 ≤ 60 := by
    have h1 := Int.tmod_lt_of_pos x (show (0 : Int) < 61 by decide)
    have h2 := Int.lt_tmod_of_pos x (show (0 : Int) < 61 by decide)
    omega
  have HE := Aside0.mk hE
  clear hs hx hE
  generalize x.tmod 61 = E at *
  go_enter Try.func5, Try.ntmps5
  go_wp2_with fail
  have ax0 : Box (((w.alloc (Obj.cells #[Value.string s, Value.int .i64 x] 23)).alloc (Obj.cells #[Value.string ⟨#[]⟩, Value.int .i64 0] 23)).alloc (Obj.cells #[Value.bool false, Value.slice none 0 0, Value.slice none 0 0] 30)) w.heap.size [.string s, .int .i64 x] := (((Box.new2 w _ _ _ _ (by simp)).alloc _).alloc _)
  have rx0 : Box (((w.alloc (Obj.cells #[Value.string s, Value.int .i64 x] 23)).alloc (Obj.cells #[Value.string ⟨#[]⟩, Value.int .i64 0] 23)).alloc (Obj.cells #[Value.bool false, Value.slice none 0 0, Value.slice none 0 0] 30)) (w.heap.size + 1) [.string ⟨#[]⟩, .int .i64 0] := ((Box.new2 (w.alloc (Obj.cells #[Value.string s, Value.int .i64 x] 23)) _ _ _ _ (by simp)).alloc _)
  have fx0 : Box (((w.alloc (Obj.cells #[Value.string s, Value.int .i64 x] 23)).alloc (Obj.cells #[Value.string ⟨#[]⟩, Value.int .i64 0] 23)).alloc (Obj.cells #[Value.bool false, Value.slice none 0 0, Value.slice none 0 0] 30)) (w.heap.size + 1 + 1) [.bool false, .slice none 0 0, .slice none 0 0] := (Box.new3 ((w.alloc (Obj.cells #[Value.string s, Value.int .i64 x] 23)).alloc (Obj.cells #[Value.string ⟨#[]⟩, Value.int .i64 0] 23)) _ _ _ _ _ (by simp))
  have hB0 : Below w.heap.size w (((w.alloc (Obj.cells #[Value.string s, Value.int .i64 x] 23)).alloc (Obj.cells #[Value.string ⟨#[]⟩, Value.int .i64 0] 23)).alloc (Obj.cells #[Value.bool false, Value.slice none 0 0, Value.slice none 0 0] 30)) := ((((Below.refl _ _).alloc (Nat.le_refl _) _).alloc (by simp) _).alloc (by simp; omega) _)
  have kax00 := ax0.c0; have kax01 := ax0.c1; have qax00 := ax0.f0; have qax01 := ax0.f1; have krx00 := rx0.c0; have krx01 := rx0.c1; have qrx00 := rx0.f0; have qrx01 := rx0.f1; have kfx00 := fx0.c0; have kfx01 := fx0.c1; have kfx02 := fx0.c2; have qfx00 := fx0.f0; have qfx01 := fx0.f1; have qfx02 := fx0.f2
  go_wp2_with (first | (go_at_call 14; (with_reducible refine (HF.out _).mono ?_); rintro e w1 ⟨v, rfl, hv, hb1⟩; have sz1 := hb1.size; (try simp at sz1); (with_reducible have ax1 := ax0.below hb1); have kax10 := ax1.c0; have kax11 := ax1.c1; have qax10 := ax1.f0; have qax11 := ax1.f1; (with_reducible have rx1 := rx0.below hb1); have krx10 := rx1.c0; have krx11 := rx1.c1; have qrx10 := rx1.f0; have qrx11 := rx1.f1; (with_reducible have fx1 := fx0.below hb1); have kfx10 := fx1.c0; have kfx11 := fx1.c1; have kfx12 := fx1.c2; have qfx10 := fx1.f0; have qfx11 := fx1.f1; have qfx12 := fx1.f2; obtain ⟨b, n, rfl, hsb, hnd⟩ := hv.out; have HSB := Aside0.mk hsb; have HND := Aside0.mk hnd; clear hsb hnd))
  have ax0 := (Box.put2 ax1 (.string (stext b n)) (.int .i64 E)).drew
  have rx0 := (rx1.far2 (g' := w.heap.size) (by omega) (.string (stext b n)) (.int .i64 E)).drew
  have fx0 := (fx1.far2 (g' := w.heap.size) (by omega) (.string (stext b n)) (.int .i64 E)).drew
  have hB2 := (below2 (g := w.heap.size) (below_step hB0 hb1) (Nat.le_refl _) (.string (stext b n)) (.int .i64 E)).drew
  have HG := Aside0.mk (fun w => FracOf_n b n E w HSB.out (by have := HND.out; omega) (by have := HE.out; omega))
  have hz1 : ((w1.setCell ⟨w.heap.size, 0, none⟩ (.string (stext b n))).setCell ⟨w.heap.size, 1, none⟩ (.int .i64 E)).drew.heap.size = w1.heap.size := by simp
  have hz2 : w.heap.size + 1 + 1 < w1.heap.size := by omega
  generalize ((w1.setCell ⟨w.heap.size, 0, none⟩ (.string (stext b n))).setCell ⟨w.heap.size, 1, none⟩ (.int .i64 E)) = W1 at *
  have HZ1 := Aside0.mk hz1
  have HB2 := Aside0.mk hB2
  clear hz1 hB2 hb1 ax1 rx1 fx1 kax10 kax11 krx10 krx11 kfx10 kfx11 kfx12 qax10 qax11 qrx10 qrx11 qfx10 qfx11 qfx12
  refine start_ (n := 5) (S := fun w' => w'.cell? ⟨w.heap.size, 0, none⟩ = some (.string (stext b n)) ∧ w'.cell? ⟨w.heap.size, 1, none⟩ = some (.int .i64 E)) (ds := []) #[false, false, false, false, false] (by kernel_rfl) rfl rfl ⟨ax0.c0, ax0.c1⟩ (fun hHeld => ?_)
  refine take_ (i := 0) (N := some 6) (v := ?_) (a' := ?_) #[true, false, false, false, false] rfl rfl (by kernel_rfl) (fun _ _ _ h => h) (Or.inl ⟨by rfl, ?_⟩) hHeld ?_ ?_
  rotate_left
  · rintro w' ⟨s0, s1⟩
    go_simp
    with_reducible rfl
  rotate_left
  · simp only [Act.put, List.setIfInBounds_toArray, List.set_cons_zero, List.set_cons_succ, i64_w, i32_w]
    rfl
  refine take_ (i := 1) (N := some 7) (v := ?_) (a' := ?_) #[true, true, false, false, false] rfl rfl (by kernel_rfl) (fun _ _ _ h => h) (Or.inl ⟨by rfl, ?_⟩) hHeld ?_ ?_
  rotate_left
  · rintro w' ⟨s0, s1⟩
    go_simp
    with_reducible rfl
  rotate_left
  · simp only [Act.put, List.setIfInBounds_toArray, List.set_cons_zero, List.set_cons_succ, i64_w, i32_w]
    rfl
  refine one_ (i := 2) (N := some 8) #[true, true, true, false, false] rfl rfl (by kernel_rfl) (by decide) (fun K hK => ?_)
  refine goes_ Try.func15 (by kernel_rfl) rfl #[.agg #[.string (stext b n), .int .i64 E]] (by rfl) rfl rfl (by (try simp only [List.map_toArray, List.map_cons, List.map_nil]); first | done | rfl) ?_
  refine (HG.out _).mono ?_
  rintro e w1 ⟨u, d, rfl, hu, hd, hb1⟩
  refine ⟨_, rfl, ?_⟩
  obtain ⟨A1, c1, rfl, _, _⟩ := hu.form
  obtain ⟨A2, c2, rfl, _, _⟩ := hd.form
  have sz1 := hb1.size; simp at sz1
  have ax1 := ax0.below hb1
  have rx1 := rx0.below hb1
  have xrx10 := rx1.c0; have yrx10 := rx1.f0
  have xrx11 := rx1.c1; have yrx11 := rx1.f1
  have fx1 := fx0.below hb1
  have xfx10 := fx1.c0; have yfx10 := fx1.f0
  have xfx11 := fx1.c1; have yfx11 := fx1.f1
  have xfx12 := fx1.c2; have yfx12 := fx1.f2
  refine hK.out _ _ ⟨ax1.c0, ax1.c1⟩ (fun hHeld => ?_)
  clear hK K
  refine norm_ (a' := ?_) ?_ ?_
  rotate_left
  · show Act.put _ (some 8) _ = _
    simp only [Act.put, List.setIfInBounds_toArray, List.set_cons_zero, List.set_cons_succ, i64_w, i32_w]
    rfl
  refine one_ (i := 3) (N := none) #[true, true, true, true, false] rfl rfl (by kernel_rfl) (by decide) (fun K hK => ?_)
  have neaxrx : w.heap.size ≠ (w.heap.size + 1) := by omega
  refine skip_ (w1 := ?_) (by rfl) rfl ?_ ?_
  rotate_left
  · go_simp
    rfl
  refine hK.out _ _ ⟨(ax1.far2 neaxrx _ _).c0, (ax1.far2 neaxrx _ _).c1⟩ (fun hHeld => ?_)
  clear hK K
  refine one_ (i := 4) (N := none) #[true, true, true, true, true] rfl rfl (by kernel_rfl) (by decide) (fun K hK => ?_)
  have neaxfx : w.heap.size ≠ (w.heap.size + 1 + 1) := by omega
  refine skip_ (w1 := ?_) (by rfl) rfl ?_ ?_
  rotate_left
  · go_simp
    rfl
  refine hK.out _ _ ⟨((ax1.far2 neaxrx _ _).far3 neaxfx _ _ _).c0, ((ax1.far2 neaxrx _ _).far3 neaxfx _ _ _).c1⟩ (fun hHeld => ?_)
  clear hK K
  refine done_ (by kernel_rfl) ?_
  go_wp2
  have HFA := Aside0.mk ((rx1.put2 (.string (stext b n)) (.int .i64 E)).far3 (g' := w.heap.size + 1 + 1) (by omega) (.bool b) (.slice A1 (digs (fnum n E)).length c1) (.slice A2 (digs (fden E)).length c2))
  have HFB := Aside0.mk ((fx1.far2 (g' := w.heap.size + 1) (by omega) (.string (stext b n)) (.int .i64 E)).put3' (.bool b) (.slice A1 (digs (fnum n E)).length c1) (.slice A2 (digs (fden E)).length c2))
  refine bodyPost_ret (v := .tuple #[.agg #[.string (stext b n), .int .i64 E], .agg #[.bool b, .slice A1 (digs (fnum n E)).length c1, .slice A2 (digs (fden E)).length c2]]) (by simp [results, Try.results5, go_sem, HFA.out.c0, HFA.out.c1, HFB.out.c0, HFB.out.c1, HFB.out.c2]) rfl ⟨_, rfl, ⟨b, n, _, _, rfl, HSB.out, HND.out, ?_, ?_⟩, ?_⟩
  · have hz := HZ1.out
    exact ((hu.far2 (g := w.heap.size + 1) (fun k hk => by have hk' : _ ≤ k := hk; omega) _ _).far3 (g := w.heap.size + 1 + 1) (fun k hk => by have hk' : _ ≤ k := hk; omega) _ _ _).mono (fun k hk => by have hk' : _ ≤ k := hk; omega)
  · have hz := HZ1.out
    exact ((hd.far2 (g := w.heap.size + 1) (fun k hk => by have hk' : _ ≤ k := hk; omega) _ _).far3 (g := w.heap.size + 1 + 1) (fun k hk => by have hk' : _ ≤ k := hk; omega) _ _ _).mono (fun k hk => by have hk' : _ ≤ k := hk; omega)
  · exact below3 (below2 (below_step HB2.out hb1) (by omega) _ _) (by omega) _ _ _
end Go.Proofs.Yteohmbannpbokaa.TextFit
