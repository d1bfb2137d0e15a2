/-
  The specification's reading of a number.
  The text of a whole number; a number told as a decimal of the thin package; whether two are alike.
-/
import Derived.Test.YteohmbannpbokaaDoorParseLaw3
import Derived.Test.YteohmbannpbokaaDoorWalks1
import Derived.Test.YteohmbannpbokaaDoorWEqStruct
set_option linter.unusedVariables false
set_option linter.unusedSimpArgs false
namespace Go.Proofs.YteohmbannpbokaaDoor.ParseWalk
open Go.RowKit Go.Proofs.YteohmbannpbokaaDoorW.PrintWords Go.Proofs.YteohmbannpbokaaDoorW.PrintLast Go.Proofs.YteohmbannpbokaaDoorW.PrintMore Go.Proofs.YteohmbannpbokaaDoor.StrLaw Go.Proofs.YteohmbannpbokaaDoor.TextLaw Go.Proofs.YteohmbannpbokaaDoor.TextWalk Go.Proofs.YteohmbannpbokaaDoor.NatWalk Go.Proofs.YteohmbannpbokaaDoor.SpecWalk Go.Proofs.YteohmbannpbokaaDoor.ParseLaw
open Go.Proofs.YteohmbannpbokaaDoor.PteShort

theorem toList_nil {s : ByteArray} (h : s.size = 0) : s.toList.isEmpty = true := by
  have h1 := toList_len s
  rw [h] at h1
  rw [List.length_eq_zero_iff.1 h1]
  rfl
theorem toList_ne {s : ByteArray} (h : 0 < s.size) : s.toList.isEmpty = false := by
  rw [List.isEmpty_eq_false_iff]
  intro h0
  have h1 := toList_len s
  rw [h0] at h1
  simp at h1
  omega
theorem exponent_n (s : ByteArray) (hs : s.size ≤ 2147483647) : ∃ n ok, (∀ w : World, Calls Tryd.prog 8 #[.string s] w fun e w' => e = .returned (.tuple #[.int .i64 n, .bool ok]) ∧ Below w.heap.size w w') ∧ (ok = true → ExpText s n) ∧ (-1000000000 ≤ n ∧ n ≤ 1000000000) := by
  obtain ⟨n, ok, h1, h2, h3⟩ := exp_all s hs
  obtain ⟨k, hk⟩ := h1.rounds
  refine ⟨n, ok, fun w => (spec_exponent.calls k s n ok w hk).mono ?_, h2, h3⟩
  rintro e w' ⟨rfl, h⟩
  exact ⟨rfl, h.below⟩
set_option maxHeartbeats 1000000 in
theorem NatOf_none (s : ByteArray) (hs : s.size = 0) (w : World) : Calls Tryd.prog 9 #[.string s] w fun e w' => ∃ v, e = .returned (.tuple #[v, .bool false]) ∧ Rdv w' (fun k => w.heap.size ≤ k) v 0 ∧ Below w.heap.size w w' := by
  have he := toList_nil hs
  have hs0 : (s.size : Int) = 0 := by omega
  have HT := Aside0.mk (fun w => trim_n [] Digs.Dig.nil (by simp) 0 rfl (fun _ => False) (.slice none 0 0) w (Kd.V_nil _ _ _ _ _))
  clear hs
  go_enter Tryd.func9, Tryd.ntmps9
  go_wp2
  go_loopg [4, 5] 1 (fun g v4 v5 w' => v4 = .slice none 0 0 ∧ v5 = .int .i64 0 ∧ w' = w)
  case atStart => exact ⟨rfl, by simp, rfl⟩
  case round =>
    obtain ⟨rfl, rfl, rfl⟩ := hrel
    go_wp2_with (go_at_call 16; refine (HT.out _).mono ?_; rintro e w1 ⟨u, rfl, hu, hb⟩; have HU := Aside0.mk hu; have HB := Aside0.mk hb; clear hu hb)
    refine bodyPost_ret (v := .tuple #[u, .bool false]) (by simp [results, Tryd.results9]) rfl ⟨_, rfl, HU.out.mono (fun k hk => hk.elim (fun h => h.elim) id), HB.out⟩
theorem NatOf_d (u : ByteArray) (h : Digs0 u) (hs : u.size ≤ 2147483647) (w : World) : Calls Tryd.prog 9 #[.string u] w fun e w' => ∃ v, e = .returned (.tuple #[v, .bool (decide (0 < u.size))]) ∧ Rdv w' (fun k => w.heap.size ≤ k) v (dnum u) ∧ Below w.heap.size w w' := by
  by_cases h0 : u.size = 0
  · rw [decide_eq_false (by omega)]
    have : dnum u = 0 := by unfold dnum; rw [h0]; rfl
    rw [this]
    exact NatOf_none u h0 w
  · rw [decide_eq_true (by omega)]
    exact NatOf_n u w ⟨by omega, h.all⟩ hs

theorem Box.put3q {w : World} {g : Nat} {x y z : Value} (h : Box w g [x, y, z]) (a b c : Value) : Box (((w.setCell ⟨g, 0, none⟩ a).setCell ⟨g, 1, none⟩ b).setCell ⟨g, 2, none⟩ c) g [a, b, c] := by
  have h0 := h.c0; have h1 := h.c1; have h2 := h.c2
  have k0 := h.f0; have k1 := h.f1; have k2 := h.f2
  refine Box.mk3 ?_ ?_ ?_ ?_ ?_ ?_ <;> simp [go_sem, h0, h1, h2, k0, k1, k2]
/-- What the reading answers. -/
abbrev PdPost (t : ByteArray) (w : World) : Ending → World → Prop := fun e w' => ∃ (ok b : Bool) (v : Value) (E : Int), e = .returned (.tuple #[.agg #[.bool b, v, .int .i64 E], .bool ok]) ∧ (∃ A l c, v = .slice A l c) ∧ (ok = true → t.size ≤ 300 → ∃ N okp, Rdv w' okp v N ∧ Read t b N E) ∧ Below w.heap.size w w'
end Go.Proofs.YteohmbannpbokaaDoor.ParseWalk

set_option linter.unusedVariables false
set_option linter.unusedSimpArgs false
namespace Go.Proofs.YteohmbannpbokaaDoor.ParseWalk
open Go.RowKit Go.Proofs.YteohmbannpbokaaDoorW.PrintWords Go.Proofs.YteohmbannpbokaaDoorW.PrintLast Go.Proofs.YteohmbannpbokaaDoorW.PrintMore Go.Proofs.YteohmbannpbokaaDoor.Digs Go.Proofs.YteohmbannpbokaaDoor.StrLaw Go.Proofs.YteohmbannpbokaaDoor.NatLaw Go.Proofs.YteohmbannpbokaaDoor.NatWalk Go.Proofs.YteohmbannpbokaaDoor.SpecWalk Go.Proofs.YteohmbannpbokaaDoor.TextLaw Go.Proofs.YteohmbannpbokaaDoor.TextWalk

theorem len_le_nd (n : Nat) : (digs n).length ≤ nd n := by
  have h1 := lt_of_nd n
  generalize nd n = L at *
  have h3 : (10 : Nat) ^ L ≤ 1000000000 ^ L := Nat.pow_le_pow_left (by decide) _
  exact len_digs_le (Nat.lt_of_lt_of_le h1 h3)
theorem len_nd {n : Nat} (h : nd n ≤ 100000000) : (digs n).length ≤ 100000000 := Nat.le_trans (len_le_nd n) h
theorem text_le1 {n : Nat} (h : nd n ≤ 100000000) : (text n).size ≤ 100000001 := by
  by_cases h0 : n = 0
  · subst h0; decide
  · rw [NatWalk.size_text h0]; omega
theorem WholeString_n (b : Bool) (n : Nat) (ok : Nat → Prop) (v : Value) (w : World) (hv : Rdv w ok v n) (hn : nd n ≤ 100000000) :
    Calls Tryd.prog 27 #[.agg #[.bool b, v]] w fun en w' => en = .returned (.string (stext b n)) ∧ Below w.heap.size w w' := by
  obtain ⟨A, c, rfl, hl0, hC⟩ := hv.form
  have hl := len_nd hn
  have HS := Aside0.mk (fun w hc => StrWalk.string_calls n A c w hc hl0 (by omega))
  have hsz := text_le1 hn
  have hsi : ((text n).size : Int) ≤ 100000001 := by omega
  have HB := Aside0.mk ((Below.refl w.heap.size w).alloc (Nat.le_refl _) (Obj.cells #[.bool b, .slice A (digs n).length c] 25))
  have HC := Aside0.mk (Kd.C_below hC HB.out)
  have hs1 : Aside0 (stext true n = ⟨#[45]⟩ ++ text n) := ⟨rfl⟩
  have hs0 : Aside0 (stext false n = text n) := ⟨rfl⟩
  clear hn hl hl0 hC hv hsz
  generalize (digs n).length = m at *
  generalize text n = s at *
  cases b
  · go_enter Tryd.func27, Tryd.ntmps27
    go_wp2_with (go_at_call 17; refine (HS.out _ HC.out).mono ?_; rintro e w' ⟨rfl, hb⟩; have HB1 := Aside0.mk hb; clear hb)
    go_ret
    exact ⟨by rw [hs0.out]; rfl, below_step HB.out HB1.out⟩
  · go_enter Tryd.func27, Tryd.ntmps27
    go_wp2_with (go_at_call 17; refine (HS.out _ HC.out).mono ?_; rintro e w' ⟨rfl, hb⟩; have HB1 := Aside0.mk hb; clear hb)
    go_ret
    exact ⟨by rw [hs1.out]; rfl, below_step HB.out HB1.out⟩
theorem same_eq (T : ByteArray) (E : Int) (w : World) : (Op.equalIn 10000 32 (.agg #[.string T, .int .i64 E]) (.agg #[.string T, .int .i64 E])).run Tryd.prog w = .ok true w := by
  have h : (Op.equalIn 10000 32 (.agg #[.string T, .int .i64 E]) (.agg #[.string T, .int .i64 E])).run Tryd.prog w = .ok ((T.toList == T.toList) && (E == E)) w := by
    refine eqA_of Tryd.underlying32 (by kernel_rfl) ?_
    refine eqf_cons (by rfl) (a := .string T) (b := .string T) (by kernel_rfl) (by kernel_rfl) ?_ (eqf_last (by rfl) (a := .int .i64 E) (b := .int .i64 E) (by kernel_rfl) (by kernel_rfl) ?_)
    · exact run_equalIn_string _ _ _ _ _ (by kernel_rfl)
    · exact run_equalIn_int _ _ _ _ .i64 _ _ (by kernel_rfl)
  rw [h]
  simp
theorem same_n (T : ByteArray) (E : Int) (w : World) : (binOp .eql 32 (.agg #[.string T, .int .i64 E]) (.agg #[.string T, .int .i64 E])).run Tryd.prog w = .ok (.bool true) w := by
  rw [run_eql_struct, same_eq]
  rfl
set_option maxHeartbeats 4000000 in
theorem DecOf_n (b : Bool) (n : Nat) (E : Int) (ok : Nat → Prop) (v : Value) (w : World) (hv : Rdv w ok v n) (hn : nd n ≤ 100000000) :
    Calls Tryd.prog 15 #[.agg #[.bool b, v, .int .i64 E]] w fun en w' => en = .returned (.agg #[.string (stext b n), .int .i64 E]) ∧ Below w.heap.size w w' := by
  have HW := Aside0.mk (fun ok v w hv => WholeString_n b n ok v w hv hn)
  obtain ⟨A, c, rfl, _, _⟩ := hv.form
  clear hn
  generalize stext b n = T at *
  generalize hm : (digs n).length = m at *
  go_enter Tryd.func15, Tryd.ntmps15
  go_wp2_with fail
  have dx0 : Box ((w.alloc (Obj.cells #[Value.bool b, Value.slice A m c, Value.int .i64 E] 27)).alloc (Obj.cells #[Value.string ⟨#[]⟩, Value.int .i64 0] 32)).drew w.heap.size [.bool b, .slice A m c, .int .i64 E] := ((Box.new3 w _ _ _ _ _ (by simp)).alloc _).drew
  have rx0 : Box ((w.alloc (Obj.cells #[Value.bool b, Value.slice A m c, Value.int .i64 E] 27)).alloc (Obj.cells #[Value.string ⟨#[]⟩, Value.int .i64 0] 32)).drew (w.heap.size + 1) [.string ⟨#[]⟩, .int .i64 0] := (Box.new2 (w.alloc (Obj.cells #[Value.bool b, Value.slice A m c, Value.int .i64 E] 27)) _ _ _ _ (by simp)).drew
  have hB0 : Below w.heap.size w ((w.alloc (Obj.cells #[Value.bool b, Value.slice A m c, Value.int .i64 E] 27)).alloc (Obj.cells #[Value.string ⟨#[]⟩, Value.int .i64 0] 32)).drew := (((Below.refl _ _).alloc (Nat.le_refl _) _).alloc (by simp) _).drew
  replace hv := hv.below hB0
  have nedx : w.heap.size ≠ (w.heap.size + 1) := by omega
  go_region_held3 (fun w' => w'.cell? ⟨w.heap.size, 0, none⟩ = some (.bool b) ∧ w'.cell? ⟨w.heap.size, 1, none⟩ = some (.slice A m c) ∧ w'.cell? ⟨w.heap.size, 2, none⟩ = some (.int .i64 E))
      (first
        | (go_keep; done)
        | exact ⟨dx1.c0, dx1.c1, dx1.c2⟩
        | exact ⟨(dx1.far2 nedx _ _).c0, (dx1.far2 nedx _ _).c1, (dx1.far2 nedx _ _).c2⟩)
      (first
        | (go_at_call 27; refine (HW.out _ _ _ hv).mono ?_; rintro e w1 ⟨rfl, hb1⟩; have sz1 := hb1.size; simp at sz1; have dx1 := dx0.below hb1; have xdx10 := dx1.c0; have xdx11 := dx1.c1; have xdx12 := dx1.c2; have rx1 := rx0.below hb1; have xrx10 := rx1.c0; have xrx11 := rx1.c1; have yrx10 := rx1.f0; have yrx11 := rx1.f1))
  go_wp2
  refine bodyPost_ret (v := .agg #[.string T, .int .i64 E]) (by simp [results, Tryd.results15, go_sem, rx1.c0, rx1.c1]) rfl ⟨rfl, below2 (below_step hB0 hb1) (by omega) _ _⟩
set_option maxRecDepth 100000 in
set_option maxHeartbeats 4000000 in
theorem Like_n (b : Bool) (n : Nat) (E : Int) (ok : Nat → Prop) (v : Value) (w : World) (hv : Rdv w ok v n) (hn : nd n ≤ 100000000) :
    Calls Tryd.prog 7 #[.agg #[.string (stext b n), .int .i64 E], .agg #[.bool b, v, .int .i64 E]] w fun en w' => en = .returned (.bool true) ∧ Below w.heap.size w w' := by
  have HD := Aside0.mk (fun ok v w hv => DecOf_n b n E ok v w hv hn)
  obtain ⟨A, c, rfl, _, _⟩ := hv.form
  have heq := same_n (stext b n) E
  clear hn
  generalize stext b n = T at *
  generalize hm : (digs n).length = m at *
  go_enter Tryd.func7, Tryd.ntmps7
  go_wp2_with fail
  have lx0 : Box ((w.alloc (Obj.cells #[Value.string T, Value.int .i64 E] 32)).alloc (Obj.cells #[Value.bool b, Value.slice A m c, Value.int .i64 E] 27)).drew w.heap.size [.string T, .int .i64 E] := ((Box.new2 w _ _ _ _ (by simp)).alloc _).drew
  have dx0 : Box ((w.alloc (Obj.cells #[Value.string T, Value.int .i64 E] 32)).alloc (Obj.cells #[Value.bool b, Value.slice A m c, Value.int .i64 E] 27)).drew (w.heap.size + 1) [.bool b, .slice A m c, .int .i64 E] := (Box.new3 (w.alloc (Obj.cells #[Value.string T, Value.int .i64 E] 32)) _ _ _ _ _ (by simp)).drew
  have hB0 : Below w.heap.size w ((w.alloc (Obj.cells #[Value.string T, Value.int .i64 E] 32)).alloc (Obj.cells #[Value.bool b, Value.slice A m c, Value.int .i64 E] 27)).drew := (((Below.refl _ _).alloc (Nat.le_refl _) _).alloc (by simp) _).drew
  replace hv := hv.below hB0
  refine start_ (n := 5) (S := fun w' => w'.cell? ⟨w.heap.size, 0, none⟩ = some (.string T) ∧ w'.cell? ⟨w.heap.size, 1, none⟩ = some (.int .i64 E) ∧ w'.cell? ⟨(w.heap.size + 1), 0, none⟩ = some (.bool b) ∧ w'.cell? ⟨(w.heap.size + 1), 1, none⟩ = some (.slice A m c) ∧ w'.cell? ⟨(w.heap.size + 1), 2, none⟩ = some (.int .i64 E)) (ds := []) #[false, false, false, false, false] (by kernel_rfl) rfl rfl ⟨lx0.c0, lx0.c1, dx0.c0, dx0.c1, dx0.c2⟩ (fun hHeld => ?_)
  refine take_ (i := 0) (N := some 5) (v := ?_) (a' := ?_) #[true, false, false, false, false] rfl rfl (by kernel_rfl) (fun _ _ _ h => h) (Or.inl ⟨by rfl, ?_⟩) hHeld ?_ ?_
  rotate_left
  · rintro w' ⟨s0, s1, s2, s3, s4⟩
    go_simp
    with_reducible rfl
  rotate_left
  · simp only [Act.put, List.setIfInBounds_toArray, List.set_cons_zero, List.set_cons_succ, i64_w, i32_w]
    rfl
  refine take_ (i := 1) (N := some 6) (v := ?_) (a' := ?_) #[true, true, false, false, false] rfl rfl (by kernel_rfl) (fun _ _ _ h => h) (Or.inl ⟨by rfl, ?_⟩) hHeld ?_ ?_
  rotate_left
  · rintro w' ⟨s0, s1, s2, s3, s4⟩
    go_simp
    with_reducible rfl
  rotate_left
  · simp only [Act.put, List.setIfInBounds_toArray, List.set_cons_zero, List.set_cons_succ, i64_w, i32_w]
    rfl
  refine one_ (i := 2) (N := some 7) #[true, true, true, false, false] rfl rfl (by kernel_rfl) (by decide) (fun K hK => ?_)
  refine goes_ Tryd.func15 (by kernel_rfl) rfl #[.agg #[.bool b, .slice A m c, .int .i64 E]] (by rfl) rfl rfl (by (try simp only [List.map_toArray, List.map_cons, List.map_nil]); first | done | rfl) ?_
  refine (HD.out _ _ _ hv).mono ?_
  rintro e w1 ⟨rfl, hb1⟩
  refine ⟨_, rfl, ?_⟩
  have sz1 := hb1.size; simp at sz1
  have lx1 := lx0.below hb1
  have dx1 := dx0.below hb1
  refine hK.out _ _ ⟨lx1.c0, lx1.c1, dx1.c0, dx1.c1, dx1.c2⟩ (fun hHeld => ?_)
  clear hK K
  refine norm_ (a' := ?_) ?_ ?_
  rotate_left
  · show Act.put _ (some 7) _ = _
    simp only [Act.put, List.setIfInBounds_toArray, List.set_cons_zero, List.set_cons_succ, i64_w, i32_w]
    rfl
  refine pure_ (i := 3) (N := some 8) (v := ?_) (a' := ?_) #[true, true, true, true, false] rfl rfl (by kernel_rfl) (fun _ _ _ h => h) (Or.inl ⟨by rfl, ?_⟩) ?_ ?_
  rotate_left
  · intro w'
    go_simp
    with_reducible rfl
  rotate_left
  · simp only [Act.put, List.setIfInBounds_toArray, List.set_cons_zero, List.set_cons_succ, i64_w, i32_w]
    rfl
  refine pure_ (i := 4) (N := some 4) (v := ?_) (a' := ?_) #[true, true, true, true, true] rfl rfl (by kernel_rfl) (fun _ _ _ h => h) (Or.inl ⟨by rfl, ?_⟩) ?_ ?_
  rotate_left
  · intro w'
    go_simp
    with_reducible rfl
  rotate_left
  · simp only [Act.put, List.setIfInBounds_toArray, List.set_cons_zero, List.set_cons_succ, i64_w, i32_w]
    rfl
  refine done_ (by kernel_rfl) ?_
  go_wp2
  go_ret
  exact ⟨rfl, (below_step hB0 hb1)⟩
end Go.Proofs.YteohmbannpbokaaDoor.ParseWalk
