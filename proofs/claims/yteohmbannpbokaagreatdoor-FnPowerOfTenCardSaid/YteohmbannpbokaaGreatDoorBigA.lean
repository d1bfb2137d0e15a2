/-
  The package's whole numbers of any length: words that are made, copied, and cut.
  The package's whole numbers of any length: normal form, copies, signs.
-/
import Derived.Test.YteohmbannpbokaaGreatDoorLaws
import Derived.Test.YteohmbannpbokaaGreatDoorWalks1
import Derived.Laws.CopyOwn
import Derived.LaidEqlPtr
import Derived.Lib.Builder
import Derived.Outline
set_option linter.unusedVariables false
set_option linter.unusedSimpArgs false
namespace Go.Proofs.YteohmbannpbokaaGreatDoor.BigWalk
open Go.RowKit Go.Proofs.YteohmbannpbokaaGreatDoorW.PrintWords Go.Proofs.YteohmbannpbokaaGreatDoorW.PrintLast Go.Proofs.YteohmbannpbokaaGreatDoorW.PrintMore Go.Proofs.YteohmbannpbokaaGreatDoor.SpecWalk

theorem infoW : (Tryz.prog.info? 89).map (fun i => (i.zero, i.size, i.bytes)) = some (some (.int .u64 0), 1, 8) := by kernel_rfl
theorem sizeW : (Tryz.prog.info? 89).map (·.size) = some 1 := by kernel_rfl
/-- A value that reads as the words of a number, which lie in blocks of ok alone. -/
structure Wdv (w : World) (ok : Nat → Prop) (v : Value) (n : Nat) : Prop where
  mk :: (out : Kd.V (Kd.int .u64) 0 w 0 ok v (W64.digs n))
section
variable {w w1 : World} {ok ok' : Nat → Prop} {v : Value} {n : Nat}
theorem Wdv.form (h : Wdv w ok v n) : ∃ A c, v = .slice A (W64.digs n).length c ∧ (W64.digs n).length ≤ c ∧ Kd.C (Kd.int .u64) w A (W64.digs n).length (W64.digs n) := by
  obtain ⟨A, c, e, hl, hf⟩ := h
  exact ⟨A, c, e, hl, Kd.F_now hf⟩
theorem Wdv.mono (h : Wdv w ok v n) (ho : ∀ k, ok k → ok' k) : Wdv w ok' v n := ⟨Kd.V_mono h.out ho⟩
theorem Wdv.bound (h : Wdv w ok v n) : Wdv w (fun k => ok k ∧ k < w.heap.size) v n := ⟨Kd.V_bound h.out⟩
theorem Wdv.below (h : Wdv w ok v n) (hb : Below w.heap.size w w1) : Wdv w1 ok v n := ⟨Kd.V_below h.out hb⟩
theorem Wdv.far (h : Wdv w ok v n) {p : Addr} (ho : ∀ k, ok k → k ≠ p.block) (u : Value) : Wdv (w.setCell p u) ok v n := ⟨Kd.V_far h.out ho u⟩
theorem Wdv.drew (h : Wdv w ok v n) : Wdv w.drew ok v n := ⟨Kd.V_drew h.out⟩
theorem Wdv.of_R {e base : Nat} (h : Kd.R (Kd.int .u64) e w base ok v (W64.digs n)) : Wdv w (fun k => base ≤ k) v n :=
  have h1 : Kd.V (Kd.int .u64) e w 0 (fun k => base ≤ k) v (W64.digs n) := Kd.R_V (Kd.R_mono (Kd.R_bound h) (fun _ hk => hk.2.1))
  ⟨h1⟩
theorem Wdv.of_V {e base : Nat} (h : Kd.V (Kd.int .u64) e w base ok v (W64.digs n)) : Wdv w ok v n := ⟨h⟩
theorem Wdv.nil (w : World) : Wdv w (fun _ => False) (.slice none 0 0) 0 := ⟨by rw [W64.digs_zero]; exact Kd.V_nil _ _ _ _ _⟩
end

theorem made_row (W : World) (base : Nat) (n m : Nat) (hb : base ≤ W.heap.size) (hm : m ≤ 9223372036854775807) (hn : n ≤ m) :
    Kd.R (Kd.int .u64) 89 (W.alloc (.cells (madeCells #[.int .u64 0] m) 89)) base (fun _ => True) (.slice (some ⟨W.heap.size, 0, none⟩) n m) (List.replicate n 0) := by
  have h1 := own_made W base 89 .u64 m hb hm
  have h2 := own_take h1 hn
  have h3 : (nums .u64 (List.replicate m 0)).take (n * 1) = nums .u64 (List.replicate n 0) := by
    simp only [nums, List.map_replicate, List.take_replicate, Nat.mul_one, Nat.min_eq_left hn]
  rw [h3] at h2
  refine Kd.R_of_own (enc := Value.int .u64) (h1 := fun _ => rfl) ?_ (fun _ _ => trivial)
  have h4 : (List.replicate n (0 : Int)).length = n := List.length_replicate
  rw [h4]
  exact h2
theorem run_mk (n : Nat) (hn : n ≤ 1000000) (W : World) : (Instr.makeSlice 57 (.int .i64 (n : Int)) (.int .i64 ((n : Int) + 4))).run Tryz.prog W = .ok (.slice (some ⟨W.heap.size, 0, none⟩) n (n + 4)) (W.alloc (.cells (madeCells #[.int .u64 0] (n + 4)) 89)) := by
  obtain ⟨i0, hi, hzz⟩ := Option.map_eq_some_iff.1 infoW
  simp only [Prod.mk.injEq] at hzz
  obtain ⟨hz0, hz1, hz2⟩ := hzz
  have hr := run_make (P := Tryz.prog) W 57 89 i0 (.int .u64 0) Tryz.underlying57 hi hz0 .i64 .i64 (n : Int) ((n : Int) + 4) (by omega) (by omega) (by rw [hz2]; omega) (by omega)
  rw [hz1, Nat.mul_one] at hr
  have e1 : ((n : Int)).toNat = n := Int.toNat_natCast n
  have e2 : ((n : Int) + 4).toNat = n + 4 := by omega
  rw [e1, e2] at hr
  exact hr
set_option maxHeartbeats 1000000 in
/-- Room for so many words, where there was none. -/
theorem make_n (n : Nat) (w : World) (hn : n ≤ 100000) : Calls Tryz.prog 68 #[.slice none 0 0, .int .i64 n] w fun e w' => ∃ v, e = .returned v ∧ Kd.R (Kd.int .u64) 89 w' w.heap.size (fun _ => True) v (List.replicate n 0) ∧ Below w.heap.size w w' := by
  by_cases h0 : n = 0
  · subst h0
    go_enter Tryz.func68, Tryz.ntmps68
    go_wp2
    go_ret
    exact ⟨_, rfl, Kd.R_nil _ _ _ _ _, Below.refl _ _⟩
  · by_cases h1 : n = 1
    · subst h1
      go_enter Tryz.func68, Tryz.ntmps68
      go_wp2_with ((with_reducible refine gate_dst (N := 14) rfl ?_); refine Kd.R_make (Kd.int .u64) (w0 := w) w.heap.size 89 rfl (N := 14) rfl 57 _ _ rfl 1 rfl rfl Tryz.underlying57 (.int .u64 0) 8 infoW rfl (by decide) (by omega) 0 (ok := fun _ => True) (okp := fun _ => True) rfl (fun _ hk => hk) trivial (by decide) (by decide) (Below.refl _ _) (Nat.le_refl _) ?_; intro v4 w4 ho hb hg hnew; have HO := Aside0.mk ho; have HB4 := Aside0.mk hb; clear ho hb hg hnew)
      go_ret
      exact ⟨_, rfl, HO.out, HB4.out⟩
    · have hmk := run_mk n (by omega)
      have hne : ((n : Int) == 1) = false := beq_eq_false_iff_ne.mpr (by omega)
      have hn0 : 0 < n := by omega
      have hni : (n : Int) ≤ 100000 := by omega
      have hle : ¬ (n : Int) ≤ 0 := by omega
      have HMR := Aside0.mk (made_row w w.heap.size n (n + 4) (Nat.le_refl _) (by omega) (by omega))
      clear h0 h1 hn
      go_enter Tryz.func68, Tryz.ntmps68
      go_wp2
      go_ret
      exact ⟨_, rfl, HMR.out, (Below.refl _ _).alloc (Nat.le_refl _) _⟩

theorem splice_row {w : World} {base n cap g : Nat} {cur : List Value} {xs : List Int} (hx : xs.length = n) (hb : base ≤ g) (hg : w.heap[g]? = some (.cells (splice cur 0 (nums .u64 xs)).toArray 89 (0, 0))) (hn : n ≤ cap) (hc : cap ≤ maxLen) (hl : cur.length = cap) :
    Kd.R (Kd.int .u64) 89 w base (fun _ => True) (.slice (some ⟨g, 0, none⟩) n cap) xs := by
  refine Kd.R_of_own (enc := Value.int .u64) (h1 := fun _ => rfl) ?_ (fun _ _ => trivial)
  rw [hx]
  refine ⟨by rw [encs, List.length_map, hx, Nat.mul_one], .inr ⟨g, cap, _, rfl, hb, hg, hn, hc, ?_, ?_⟩⟩
  · simp [splice, nums, hx]; omega
  · simp [splice, nums, encs, hx]
theorem C_src {w : World} {A : Option Addr} {xs : List Int} (h : Kd.C (Kd.int .u64) w A xs.length xs) (hp : 0 < xs.length) : ∃ ad, A = some ad ∧ ∀ j v, (nums .u64 xs)[j]? = some v → w.cell? (ad.add j) = some v := by
  obtain ⟨ad, rfl, _⟩ := Kd.at_int h 0 (by omega) (by omega)
  refine ⟨ad, rfl, fun j v hj => ?_⟩
  simp only [nums, List.getElem?_map, Option.map_eq_some_iff] at hj
  obtain ⟨x, hx, rfl⟩ := hj
  have hlt : j < xs.length := (List.getElem?_eq_some_iff.1 hx).1
  obtain ⟨ad', e, hc⟩ := Kd.at_int h (j : Int) (by omega) (by omega)
  injection e with e
  subst e
  rw [Int.toNat_natCast] at hc
  rw [hc]
  have : rd xs (j : Int) = x := by simp [rd, hx]
  rw [this]
set_option maxHeartbeats 2000000 in
/-- A copy of a number's words. -/
theorem set_n (n : Nat) (ok : Nat → Prop) (v : Value) (w : World) (hv : Wdv w ok v n) (hn : (W64.digs n).length ≤ 100000) :
    Calls Tryz.prog 67 #[.slice none 0 0, v] w fun e w' => ∃ u, e = .returned u ∧ Wdv w' (fun k => w.heap.size ≤ k) u n ∧ Below w.heap.size w w' := by
  obtain ⟨A, c, rfl, hlc, hC⟩ := hv.form
  have HM := Aside0.mk (fun w => make_n (W64.digs n).length w hn)
  have HN := Aside0.mk hn
  have HC := Aside0.mk hC
  clear hn hv hlc hC
  by_cases h0 : (W64.digs n).length = 0
  · have hn0 : n = 0 := W64.len_zero.1 h0
    subst hn0
    rw [W64.digs_zero] at HM ⊢
    simp only [List.length_nil] at HM ⊢
    clear h0 HC HN
    go_enter Tryz.func67, Tryz.ntmps67
    go_wp2_with (first | (go_at_call 68; refine (HM.out _).mono ?_; rintro e w1 ⟨u, rfl, hu, hb⟩; have HU := Aside0.mk hu; have HB := Aside0.mk hb; obtain ⟨A2, c2, rfl⟩ := Kd.R_slice hu; clear hu hb) | (refine wpList_copy_nothing rfl (.tmp 9) (.tmp 10) 57 57 rfl 89 Tryz.underlying57 sizeW _ _ _ _ _ _ rfl rfl (by simp) ?_))
    go_ret
    exact ⟨_, rfl, Wdv.of_R (by rw [W64.digs_zero]; exact HU.out), HB.out⟩
  · obtain ⟨ad, rfl, hsrc⟩ := C_src HC.out (by omega)
    have HS := Aside0.mk hsrc
    clear hsrc
    generalize hlen : (W64.digs n).length = m at *
    have HL := Aside0.mk hlen
    clear hlen
    go_enter Tryz.func67, Tryz.ntmps67
    go_wp2_with (first | (go_at_call 68; refine (HM.out _).mono ?_; rintro e w1 ⟨u, rfl, hu, hb⟩; have HB := Aside0.mk hb; clear hb; obtain ⟨hlx, hown⟩ := Kd.own_of_R hu; rcases hown with ⟨_, hz⟩ | ⟨g, cap, cur, rfl, hbg, hg, hnc, hcm, hcs, htk⟩; exact absurd (by simpa using hz) h0; (simp only [List.length_replicate] at hlx hnc hcs htk ⊢); have HG := Aside0.mk hg; have HR := Aside0.mk (And.intro hbg (And.intro hnc (And.intro hcm hcs))); clear hu hlx hg hbg hnc hcm hcs htk) | ((with_reducible refine wpList_copy_splice rfl (.tmp 9) (.tmp 10) 57 57 rfl 89 Tryz.underlying57 sizeW _ _ _ _ _ _ rfl rfl g 0 cur.toList 89 ?hg (nums .u64 (W64.digs n)) ?hn ?hpos ?hfit ?h1 w.heap.size w ?hb ?hB ?_); (case hg => (rw [Array.toArray_toList]; exact HG.out)); (case hn => (rw [nums_length, HL.out]; simp)); (case hpos => exact (fun _ => ⟨rfl, ad, rfl, fun j v hj => pw_cell_below HB.out (HS.out j v hj)⟩)); (case hfit => (rw [nums_length, HL.out]; have := HR.out; simp; omega)); (case h1 => (intro v hv; simp only [nums, List.mem_map] at hv; obtain ⟨x, _, rfl⟩ := hv; rfl)); (case hb => exact HB.out); (case hB => exact HR.out.1); intro w2 hH hb2; have HH := Aside0.mk hH; have HB2 := Aside0.mk hb2; clear hH hb2))
    have hr := HR.out
    have hrow := splice_row (xs := W64.digs n) (base := w.heap.size) HL.out hr.1 HH.out hr.2.1 hr.2.2.1 (by have := hr.2.2.2; simp; omega)
    have hW := Aside0.mk (Wdv.of_R hrow)
    clear hrow hr
    go_ret
    exact ⟨_, rfl, hW.out, HB2.out⟩
/-- A block of plain cells. -/
structure Blk (w : World) (g : Nat) : Prop where
  mk :: (out : ∃ ca ta, w.heap[g]? = some (.cells ca ta (0, 0)))
theorem Blk.lt {w : World} {g : Nat} (h : Blk w g) : g < w.heap.size := by
  obtain ⟨ca, ta, h⟩ := h.out
  exact (Array.getElem?_eq_some_iff.1 h).1
theorem Blk.below {w w1 : World} {g : Nat} (h : Blk w g) (hb : Below w.heap.size w w1) : Blk w1 g := by
  obtain ⟨ca, ta, e⟩ := h.out
  exact ⟨ca, ta, (hb.block g h.lt).trans e⟩
theorem Blk.set {w : World} {g : Nat} (h : Blk w g) (p : Addr) (u : Value) : Blk (w.setCell p u) g := by
  obtain ⟨ca, ta, e⟩ := h.out
  by_cases hp : g = p.block
  · subst hp
    refine ⟨if p.spot.isSome then ca else ca.setIfInBounds p.off u, ta, ?_⟩
    simp only [World.setCell, Array.getElem?_modify, if_pos, e, Option.map_some]
  · exact ⟨ca, ta, (Below.heap_setCell w p u g hp).trans e⟩
theorem Blk.new (w : World) (cs : Array Value) (t : TypeId) (g : Nat) (hg : w.heap.size = g) : Blk (w.alloc (.cells cs t)) g := by
  subst hg
  exact ⟨cs, t, heap_alloc_new w _⟩
theorem run_neq_ptr_other {P : Program} (w : World) {tp te : TypeId} {j : TypeInfo} {a b : Addr} (hp : P.underlying tp = some (.pointer te)) (hte : P.info? te = some j) (hsz : j.size ≠ 0) (hne : a ≠ b) (ha : Blk w a.block) (hb : Blk w b.block) :
    (binOp .neq tp (.pointer (some a)) (.pointer (some b))).run P w = .ok (.bool true) w := by
  obtain ⟨ca, ta, ha⟩ := ha.out
  obtain ⟨cb, tb, hb⟩ := hb.out
  have h : ∀ d : Nat, (Op.equalIn (d + 1) tp (.pointer (some a)) (.pointer (some b))).run P w = .ok false w := fun d => by
    simp [Op.equalIn, run_underlying hp, sizeOf, typeInfo, hte, hsz, run_sameAddr_other w hne ha hb]
  simp only [binOp]
  simp [Op.equal, Op.maxDepth, h 9999]
/-- A whole number of the package's: its sign and its words, in a box. -/
structure Big (w : World) (ok : Nat → Prop) (g : Nat) (b : Bool) (n : Nat) : Prop where
  mk :: (out : ∃ v, Box w g [.bool b, v] ∧ Wdv w ok v n) (blk : Blk w g)
theorem Big.below {w w1 : World} {ok : Nat → Prop} {g : Nat} {b : Bool} {n : Nat} (h : Big w ok g b n) (hb : Below w.heap.size w w1) : Big w1 ok g b n := by
  obtain ⟨v, h1, h2⟩ := h.out
  exact ⟨⟨v, h1.below hb, h2.below hb⟩, h.blk.below hb⟩
theorem Big.mono {w : World} {ok ok' : Nat → Prop} {g : Nat} {b : Bool} {n : Nat} (h : Big w ok g b n) (ho : ∀ k, ok k → ok' k) : Big w ok' g b n := by
  obtain ⟨v, h1, h2⟩ := h.out
  exact ⟨⟨v, h1, h2.mono ho⟩, h.blk⟩
theorem Big.far {w : World} {ok : Nat → Prop} {g : Nat} {b : Bool} {n : Nat} {p : Addr} (h : Big w ok g b n) (ho : ∀ k, ok k → k ≠ p.block) (hg : g ≠ p.block) (u : Value) : Big (w.setCell p u) ok g b n := by
  obtain ⟨v, h1, h2⟩ := h.out
  exact ⟨⟨v, h1.far hg u, h2.far ho u⟩, h.blk.set _ _⟩

set_option maxHeartbeats 1000000 in
theorem ISign_n (g : Nat) (b : Bool) (n : Nat) (ok : Nat → Prop) (w : World) (h : Big w ok g b n) : Calls Tryz.prog 52 #[.pointer (some ⟨g, 0, none⟩)] w fun e w' => e = .returned (.int .i64 (if n = 0 then 0 else if b then -1 else 1)) ∧ w' = w := by
  obtain ⟨v, hB, hv⟩ := h.out
  obtain ⟨A, c, rfl, _, _⟩ := hv.form
  have h0 := hB.c0; have h1 := hB.c1
  by_cases hn : n = 0
  · have hl : (W64.digs n).length = 0 := W64.len_zero.2 hn
    rw [if_pos hn]
    clear hB h hv hn
    generalize (W64.digs n).length = m at *
    subst hl
    go_enter Tryz.func52, Tryz.ntmps52
    go_wp2
    go_ret
    exact ⟨rfl, rfl⟩
  · have hl : (((W64.digs n).length : Int) == 0) = false := beq_eq_false_iff_ne.mpr (by have := W64.len_pos hn; omega)
    rw [if_neg hn]
    clear hB h hv hn
    generalize (W64.digs n).length = m at *
    cases b
    · go_enter Tryz.func52, Tryz.ntmps52
      go_wp2
      go_ret
      exact ⟨rfl, rfl⟩
    · go_enter Tryz.func52, Tryz.ntmps52
      go_wp2
      go_ret
      exact ⟨rfl, rfl⟩
theorem Bits_n (g : Nat) (b : Bool) (v : Value) (w : World) (h : Box w g [.bool b, v]) (A : Option Addr) (l c : Nat) (hv : v = .slice A l c) : Calls Tryz.prog 51 #[.pointer (some ⟨g, 0, none⟩)] w fun e w' => e = .returned v ∧ w' = w := by
  subst hv
  have h0 := h.c0; have h1 := h.c1
  go_enter Tryz.func51, Tryz.ntmps51
  go_wp2
  go_ret
  exact ⟨rfl, rfl⟩
end Go.Proofs.YteohmbannpbokaaGreatDoor.BigWalk

set_option linter.unusedVariables false
set_option linter.unusedSimpArgs false
namespace Go.Proofs.YteohmbannpbokaaGreatDoor.BigWalk
open Go.RowKit Go.Proofs.YteohmbannpbokaaGreatDoorW.PrintWords Go.Proofs.YteohmbannpbokaaGreatDoorW.PrintLast Go.Proofs.YteohmbannpbokaaGreatDoorW.PrintMore Go.Proofs.YteohmbannpbokaaGreatDoor.SpecWalk

/-- How far down the words are cut: what is above is 0. -/
structure Cut (l : List Int) (n : Nat) (t : Int) : Prop where
  mk :: (out : ∃ k : Nat, t = k ∧ k ≤ l.length ∧ W64.val (l.take k) = n)
theorem Cut.start {l : List Int} {n : Nat} (h : W64.val l = n) : Cut l n l.length := ⟨l.length, rfl, Nat.le_refl _, by rw [List.take_length]; exact h⟩
theorem Cut.bound {l : List Int} {n : Nat} {t : Int} (h : Cut l n t) : 0 ≤ t ∧ t ≤ l.length := by
  obtain ⟨k, rfl, h1, _⟩ := h
  omega
theorem Cut.step {l : List Int} {n : Nat} {t : Int} (h : Cut l n t) (h0 : 0 < t) (hz : rd l (t - 1) = 0) : Cut l n (t - 1) := by
  obtain ⟨k, rfl, h1, h2⟩ := h
  obtain ⟨m, rfl⟩ : ∃ m, k = m + 1 := ⟨k - 1, by omega⟩
  rw [show ((m + 1 : Nat) : Int) - 1 = (m : Int) by omega] at hz ⊢
  refine ⟨m, rfl, by omega, ?_⟩
  rw [W64.val_take_succ (by omega), hz] at h2
  omega
theorem Cut.done {l : List Int} {n : Nat} {t : Int} (h : Cut l n t) (hd : W64.Dig l) (hz : ¬ (0 < t ∧ rd l (t - 1) = 0)) : l.take t.toNat = W64.digs n ∧ (W64.digs n).length = t.toNat := by
  obtain ⟨k, rfl, h1, h2⟩ := h
  rw [Int.toNat_natCast]
  have htop : W64.Top (l.take k) := by
    intro hne hl
    apply hz
    have hk : 0 < k := by
      apply Classical.byContradiction
      intro h0
      obtain rfl : k = 0 := by omega
      exact hne rfl
    refine ⟨by omega, ?_⟩
    obtain ⟨m, rfl⟩ : ∃ m, k = m + 1 := ⟨k - 1, by omega⟩
    rw [show ((m + 1 : Nat) : Int) - 1 = (m : Int) by omega]
    rw [← hl, W64.rd_lt (by omega), List.getLast_eq_getElem]
    simp only [List.length_take, List.getElem_take]
    congr 1
    omega
  have he := W64.canon (hd.take k) htop h2
  refine ⟨he, ?_⟩
  rw [← he, List.length_take]
  omega
theorem cut_V {w : World} {ok : Nat → Prop} {A : Option Addr} {c n k : Nat} {l : List Int} (he : l.take k = W64.digs n ∧ (W64.digs n).length = k) (hk : k ≤ l.length) (hc : l.length ≤ c) (hF : Kd.F (Kd.int .u64) w ok A l.length l) : Wdv w ok (.slice A k c) n := by
  have h := Kd.F_take hF hk
  rw [he.1] at h
  refine ⟨A, c, by rw [he.2], by omega, h⟩
set_option maxHeartbeats 1000000 in
theorem norm_n (l : List Int) (n : Nat) (hd : W64.Dig l) (hl : l.length ≤ 100000) (hn : W64.val l = n) (ok : Nat → Prop) (v : Value) (w : World) (hv : Kd.V (Kd.int .u64) 0 w 0 ok v l) :
    Calls Tryz.prog 61 #[v] w fun e w' => ∃ u, e = .returned u ∧ Wdv w' ok u n ∧ w' = w := by
  obtain ⟨A, c, rfl⟩ := Kd.V_slice hv
  obtain ⟨_, hlc, hF⟩ := Kd.V_at hv
  have HC := Aside0.mk (Kd.F_now hF)
  have HST := Cut.start hn
  have HD := Aside0.mk hd
  have HF := Aside0.mk hF
  have HLC := Aside0.mk hlc
  have hli : (l.length : Int) ≤ 100000 := by omega
  clear hd hl hn hv hF hlc
  go_enter Tryz.func61, Tryz.ntmps61
  go_wp2
  go_loopg [3] l.length (fun g v3 w' => ∃ t : Int, v3 = .int .i64 t ∧ Cut l n t ∧ Aside0 (t = g) ∧ w' = w)
  case atStart => exact ⟨l.length, rfl, HST, ⟨rfl⟩, rfl⟩
  case round =>
    obtain ⟨t, rfl, HI, HG, rfl⟩ := hrel
    obtain ⟨t0, t1⟩ := HI.bound
    by_cases hpos : 0 < t
    · obtain ⟨ad, e0, hx⟩ := Kd.at_int HC.out (t - 1) (by omega) (by omega)
      cases e0
      rw [show (t - 1).toNat = t.toNat - 1 by omega] at hx
      have h1 : 1 ≤ t := by omega
      by_cases hz : rd l (t - 1) = 0
      · have HS := Aside0.mk (HI.step hpos hz)
        rw [hz] at hx
        clear HI hz
        go_wp2
        go_roundg (gk - 1)
        case measure => have := HG.out; omega
        case rel => exact ⟨t - 1, rfl, HS.out, ⟨by have := HG.out; omega⟩, rfl⟩
      · have HE := Aside0.mk (HI.done HD.out (fun h => hz h.2))
        have hz2 : (rd l (t - 1) == 0) = false := beq_eq_false_iff_ne.mpr hz
        generalize rd l (t - 1) = X at *
        have HT := Aside0.mk (And.intro t0 t1)
        have htc : t ≤ (c : Int) := by have := HLC.out; omega
        clear HI hz
        go_wp2
        go_ret
        exact ⟨_, rfl, cut_V HE.out (by have := HT.out; omega) HLC.out HF.out, rfl⟩
    · have HE := Aside0.mk (HI.done HD.out (fun h => hpos h.1))
      obtain rfl : t = 0 := by omega
      clear HI
      go_wp2
      go_ret
      exact ⟨_, rfl, cut_V HE.out (by omega) HLC.out HF.out, rfl⟩

theorem Wdv.far2 {w : World} {ok : Nat → Prop} {v : Value} {n g : Nat} (h : Wdv w ok v n) (ho : ∀ k, ok k → k ≠ g) (j k : Nat) (x y : Value) : Wdv ((w.setCell ⟨g, j, none⟩ x).setCell ⟨g, k, none⟩ y) ok v n :=
  (h.far (p := ⟨g, j, none⟩) ho x).far (p := ⟨g, k, none⟩) ho y
theorem Box.put21 {w : World} {g : Nat} {x y : Value} (h : Box w g [x, y]) (a b : Value) : Box ((w.setCell ⟨g, 1, none⟩ b).setCell ⟨g, 0, none⟩ a) g [a, b] := by
  have h0 := h.c0; have h1 := h.c1
  have k0 := h.f0; have k1 := h.f1
  refine Box.mk2 ?_ ?_ ?_ ?_ <;> simp [go_sem, h0, h1, k0, k1]
theorem Box.put1 {w : World} {g : Nat} {x y : Value} (h : Box w g [x, y]) (b : Value) : Box (w.setCell ⟨g, 1, none⟩ b) g [x, b] := by
  have h0 := h.c0; have h1 := h.c1
  have k0 := h.f0; have k1 := h.f1
  refine Box.mk2 ?_ ?_ ?_ ?_ <;> simp [go_sem, h0, h1, k0, k1]
theorem Box.put0 {w : World} {g : Nat} {x y : Value} (h : Box w g [x, y]) (a : Value) : Box (w.setCell ⟨g, 0, none⟩ a) g [a, y] := by
  have h0 := h.c0; have h1 := h.c1
  have k0 := h.f0; have k1 := h.f1
  refine Box.mk2 ?_ ?_ ?_ ?_ <;> simp [go_sem, h0, h1, k0, k1]
/-- All but one block is as it was. -/
structure KeptB (w w' : World) (g : Nat) : Prop where
  mk :: (os : w'.os = w.os) (tape : w'.tape = w.tape) (output : w'.output = w.output) (size : w.heap.size ≤ w'.heap.size) (block : ∀ k, k < w.heap.size → k ≠ g → w'.heap[k]? = w.heap[k]?)
theorem KeptB.of_below {w w' : World} {g : Nat} (h : Below w.heap.size w w') : KeptB w w' g := ⟨h.os, h.tape, h.output, h.size, fun k hk _ => h.block k hk⟩
theorem KeptB.set {w w' : World} {g j : Nat} (h : KeptB w w' g) (u : Value) : KeptB w (w'.setCell ⟨g, j, none⟩ u) g :=
  ⟨h.os, h.tape, h.output, by simpa using h.size, fun k hk hne => (Below.heap_setCell w' ⟨g, j, none⟩ u k hne).trans (h.block k hk hne)⟩
theorem KeptB.then {w w1 w2 : World} {g : Nat} (h : KeptB w w1 g) (k : KeptB w1 w2 g) : KeptB w w2 g :=
  ⟨k.os.trans h.os, k.tape.trans h.tape, k.output.trans h.output, Nat.le_trans h.size k.size, fun i hi hne => (k.block i (Nat.lt_of_lt_of_le hi h.size) hne).trans (h.block i hi hne)⟩
theorem KeptB.below {w w' w0 : World} {g : Nat} (h : KeptB w w' g) (hb : Below w0.heap.size w0 w) (hg : w0.heap.size ≤ g) : Below w0.heap.size w0 w' :=
  ⟨h.os.trans hb.os, h.tape.trans hb.tape, h.output.trans hb.output, Nat.le_trans hb.size h.size, fun k hk => (h.block k (Nat.lt_of_lt_of_le hk hb.size) (by omega)).trans (hb.block k hk)⟩
theorem Box.kept {w w' : World} {g g' : Nat} {l : List Value} (h : Box w g' l) (hk : KeptB w w' g) (hne : g' ≠ g) : Box w' g' l := by
  refine ⟨fun j v hj => ?_⟩
  obtain ⟨h1, h2⟩ := h.out j v hj
  have hb := hk.block g' (World.block_lt_of_cell? w _ h1) hne
  exact ⟨(World.cell?_of_block (a := ⟨g', j, none⟩) hb).trans h1, (World.frozen?_of_block (a := ⟨g', j, none⟩) hb).trans h2⟩
theorem Wdv.kept {w w' : World} {g n : Nat} {ok : Nat → Prop} {v : Value} (h : Wdv w ok v n) (hk : KeptB w w' g) (hne : ∀ k, ok k → k ≠ g) : Wdv w' ok v n :=
  ⟨Kd.V_step h.out (fun k ho hl => hk.block k hl (hne k ho))⟩
theorem Blk.kept {w w' : World} {g g' : Nat} (h : Blk w g') (hk : KeptB w w' g) (hne : g' ≠ g) : Blk w' g' := by
  obtain ⟨ca, ta, e⟩ := h.out
  exact ⟨ca, ta, (hk.block g' h.lt hne).trans e⟩
theorem Big.kept {w w' : World} {g g' n : Nat} {b : Bool} {ok : Nat → Prop} (h : Big w ok g' b n) (hk : KeptB w w' g) (hne : ∀ k, ok k → k ≠ g) (hg : g' ≠ g) : Big w' ok g' b n := by
  obtain ⟨v, h1, h2⟩ := h.out
  exact ⟨⟨v, Box.kept h1 hk hg, h2.kept hk hne⟩, h.blk.kept hk hg⟩
theorem _root_.Go.Proofs.YteohmbannpbokaaGreatDoor.NatWalk.Rdv.kept {w w' : World} {g n : Nat} {ok : Nat → Prop} {v : Value} (h : NatWalk.Rdv w ok v n) (hk : KeptB w w' g) (hne : ∀ k, ok k → k ≠ g) : NatWalk.Rdv w' ok v n :=
  ⟨Kd.V_step h.out (fun k ho hl => hk.block k hl (hne k ho))⟩

end Go.Proofs.YteohmbannpbokaaGreatDoor.BigWalk
