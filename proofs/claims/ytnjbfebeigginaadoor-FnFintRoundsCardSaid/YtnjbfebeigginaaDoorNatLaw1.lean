/-
  What the reference's loops over limbs come to (zeros cut off, from a machine number, comparison, product): a plain law over the functions that the print wrote.
-/
import Derived.Test.YtnjbfebeigginaaDoorPFnFixTruncx2
import Derived.Test.YtnjbfebeigginaaDoorDigs
set_option linter.unusedVariables false
set_option linter.unusedSimpArgs false
namespace Go.Proofs.YtnjbfebeigginaaDoor.NatLaw
open Go.RowKit Go.Proofs.YtnjbfebeigginaaDoorW.PrintWords Go.Proofs.YtnjbfebeigginaaDoor.Digs
open Go.Proofs.YtnjbfebeigginaaDoor.PFnFixTrunc

theorem ev_eq {α : Type} {g : Nat → Option α} {r r' : α} (e : r = r') (h : Ev g r) : Ev g r' := e ▸ h

/-! ### zeros cut off -/
theorem trim_ev : ∀ (m : Nat) (l : List Int), l.length = m → m ≤ 4000000000 → Dig l → ∀ n : Nat, val l = n → Ev (fun k => spec_natTrim.f k l) (digs n) := by
  intro m
  induction m with
  | zero =>
    intro l hl hm hd n hv
    obtain rfl := List.length_eq_zero_iff.1 hl
    have : n = 0 := by simp only [val] at hv; omega
    subst this
    rw [digs_zero]
    exact Ev.step (f := fun _ => some []) (fun k => by simp [spec_natTrim.f, spec_natTrim.l0]) (Ev.now _)
  | succ m ih =>
    intro l hl hm hd n hv
    have e : wrap64 ((l.length : Int) - 1) = (m : Int) := by rw [w64 _ (by omega) (by omega)]; omega
    have hne : l ≠ [] := fun h => by subst h; simp at hl
    by_cases hz : rd l (m : Int) = 0
    · refine Ev.step (f := fun k => spec_natTrim.f k (l.take m)) (fun k => ?_) (ih (l.take m) (by simp; omega) (by omega) (hd.take _) n ?_)
      · simp only [spec_natTrim.f, spec_natTrim.l0, e]
        rw [if_pos (by omega), if_pos (by omega), if_pos (by omega), if_pos hz, if_pos (by omega)]
        rfl
      · have := val_take_succ (l := l) (i := m) (by omega)
        rw [hz, Int.zero_mul, Int.add_zero, ← hl, List.take_length] at this
        rw [← this, hv]
    · refine Ev.step (f := fun _ => some l) (fun k => ?_) (ev_eq (canon hd (fun _ => ?_) hv) (Ev.now _))
      · simp only [spec_natTrim.f, spec_natTrim.l0, e]
        rw [if_pos (by omega), if_pos (by omega), if_pos (by omega), if_neg hz]
      · rw [rd_lt (by omega)] at hz
        rw [List.getLast_eq_getElem]
        simpa [hl] using hz

/-! ### from a machine number -/
theorem from_ev_l : ∀ (n : Nat) (acc : List Int), n < 18446744073709551616 → acc.length + (digs n).length ≤ 1000 → Ev (fun k => spec_NatFrom.l0 k n acc) (acc ++ digs n) := by
  intro n
  induction n using Nat.strongRecOn with
  | _ n ih =>
    intro acc hn hl
    by_cases h : n = 0
    · subst h
      rw [digs_zero, List.append_nil]
      exact Ev.step (f := fun _ => some acc) (fun k => by simp [spec_NatFrom.l0]) (Ev.now _)
    · have e1 : IntKind.u64.wrap (Int.tdiv (n : Int) 1000000000) = ((n / 1000000000 : Nat) : Int) := by
        rw [Int.tdiv_eq_ediv_of_nonneg (by omega), wu64 _ (by omega) (by omega)]
        omega
      have e2 : Int.tmod (n : Int) 1000000000 % 4294967296 = ((n % 1000000000 : Nat) : Int) := by
        rw [Int.tmod_eq_emod_of_nonneg (by omega)]
        omega
      have hp := digs_pos h
      rw [hp] at hl ⊢
      simp only [List.length_cons] at hl
      refine Ev.step (f := fun k => spec_NatFrom.l0 k ((n / 1000000000 : Nat) : Int) (acc ++ [((n % 1000000000 : Nat) : Int)])) (fun k => ?_) (ev_eq (by simp) (ih (n / 1000000000) (by omega) _ (by omega) (by simp; omega)))
      simp only [spec_NatFrom.l0, e1, e2]
      rw [if_pos (by omega), if_pos (by omega)]
theorem from_ev (n : Nat) (h : n < 18446744073709551616) : Ev (fun k => spec_NatFrom.f k n) (digs n) := by
  have := from_ev_l n [] h (by have := len_digs_le (n := n) (L := 3) (by omega); simp; omega)
  exact this

/-! ### comparison -/
def cmpN (a b : Nat) : Int := if a < b then -1 else if a = b then 0 else 1
def cmpI (a b : Int) : Int := if a < b then -1 else if a = b then 0 else 1
theorem cmp_ev_l (a b : List Int) (ha : Dig a) (hb : Dig b) (hl : a.length = b.length) (hm : a.length ≤ 4000000000) : ∀ t : Nat, t ≤ a.length →
    Ev (fun k => spec_NatCmp.l0 k a b ((t : Int) - 1)) (cmpI (val (a.take t)) (val (b.take t))) := by
  intro t
  induction t with
  | zero => intro _; exact Ev.step (f := fun _ => some 0) (fun k => by simp [spec_NatCmp.l0]) (ev_eq (by simp [cmpI, val]) (Ev.now _))
  | succ t ih =>
    intro ht
    have e : ((t + 1 : Nat) : Int) - 1 = (t : Int) := by omega
    have e1 : wrap64 ((t : Int) - 1) = (t : Int) - 1 := w64 _ (by omega) (by omega)
    have va := val_take_succ (l := a) (i := t) (by omega)
    have vb := val_take_succ (l := b) (i := t) (by omega)
    have la := val_lt (ha.take t)
    have lb := val_lt (hb.take t)
    have na := val_nonneg (ha.take t)
    have nb := val_nonneg (hb.take t)
    rw [List.length_take, Nat.min_eq_left (by omega)] at la lb
    have hP := pw_pos t
    rw [e]
    by_cases h : rd a (t : Int) = rd b (t : Int)
    · refine Ev.step (f := fun k => spec_NatCmp.l0 k a b ((t : Int) - 1)) (fun k => ?_) (ev_eq ?_ (ih (by omega)))
      · simp only [spec_NatCmp.l0, e1]
        rw [if_pos (by omega), if_pos (by omega), if_pos (by omega), if_pos (by omega), if_pos h]
      · rw [va, vb, h]
        generalize rd b (t : Int) * 1000000000 ^ t = q
        simp only [cmpI]
        split <;> split <;> (try split) <;> (try split) <;> omega
    · by_cases h2 : rd a (t : Int) < rd b (t : Int)
      · refine Ev.step (f := fun _ => some (-1)) (fun k => ?_) (ev_eq ?_ (Ev.now _))
        · simp only [spec_NatCmp.l0, e1]
          rw [if_pos (by omega), if_pos (by omega), if_pos (by omega), if_pos (by omega), if_neg h, if_pos h2]
        · have := Int.mul_le_mul_of_nonneg_right (show rd a (t : Int) + 1 ≤ rd b (t : Int) from h2) (Int.le_of_lt hP)
          rw [Int.add_mul] at this
          rw [va, vb, cmpI, if_pos (by omega)]
      · refine Ev.step (f := fun _ => some 1) (fun k => ?_) (ev_eq ?_ (Ev.now _))
        · simp only [spec_NatCmp.l0, e1]
          rw [if_pos (by omega), if_pos (by omega), if_pos (by omega), if_pos (by omega), if_neg h, if_neg h2]
        · have := Int.mul_le_mul_of_nonneg_right (show rd b (t : Int) + 1 ≤ rd a (t : Int) by omega) (Int.le_of_lt hP)
          rw [Int.add_mul] at this
          rw [va, vb, cmpI, if_neg (by omega), if_neg (by omega)]
theorem cmp_ev (a b : Nat) (h : (digs a).length ≤ 4000000000) : Ev (fun k => spec_NatCmp.f k (digs a) (digs b)) (cmpN a b) := by
  by_cases hl : (digs a).length = (digs b).length
  · have := cmp_ev_l (digs a) (digs b) (dig_digs a) (dig_digs b) hl h (digs a).length (Nat.le_refl _)
    rw [List.take_length, hl, List.take_length, val_digs, val_digs] at this
    refine Ev.congr (f := fun k => spec_NatCmp.l0 k (digs a) (digs b) (((digs b).length : Int) - 1)) (fun k => ?_) (ev_eq ?_ this)
    · simp only [spec_NatCmp.f]
      rw [if_pos (by omega), w64 _ (by omega) (by omega), hl]
    · simp only [cmpI, cmpN]
      split <;> split <;> (try split) <;> (try split) <;> omega
  · by_cases h2 : (digs a).length < (digs b).length
    · have := len_digs_lt h2
      refine Ev.congr (f := fun k => some (-1)) (fun k => ?_) (ev_eq ?_ (Ev.now _))
      · simp only [spec_NatCmp.f]
        rw [if_neg (by omega), if_pos (by omega)]
      · simp only [cmpN]; rw [if_pos this]
    · have := len_digs_lt (a := b) (b := a) (by omega)
      refine Ev.congr (f := fun k => some 1) (fun k => ?_) (ev_eq ?_ (Ev.now _))
      · simp only [spec_NatCmp.f]
        rw [if_neg (by omega), if_neg (by omega)]
      · simp only [cmpN]; rw [if_neg (by omega), if_neg (by omega)]

/-! ### product -/
theorem wsum (c o x y : Int) (c0 : 0 ≤ c) (c1 : c < 1000000000) (o0 : 0 ≤ o) (o1 : o < 1000000000) (x0 : 0 ≤ x) (x1 : x < 1000000000) (y0 : 0 ≤ y) (y1 : y < 1000000000) (p0 : 0 ≤ x * y) (p1 : x * y ≤ 999999998000000001) :
    IntKind.u64.wrap (c + IntKind.u64.wrap (IntKind.u64.wrap o + IntKind.u64.wrap (IntKind.u64.wrap x * IntKind.u64.wrap y))) = c + (o + x * y) := by
  rw [wu64 o o0 (by omega), wu64 x x0 (by omega), wu64 y y0 (by omega)]
  generalize x * y = p at *
  rw [wu64 p p0 (by omega), wu64 (o + p) (by omega) (by omega), wu64 (c + (o + p)) (by omega) (by omega)]
theorem mul_ev_l1 (a b : List Int) (ha : Dig a) (hb : Dig b) (hm : a.length + b.length ≤ 4000000000) (i : Nat) (hi : i < a.length) : ∀ (d j : Nat) (out : List Int) (c : Int), b.length - j = d → j ≤ b.length → Dig out → out.length = a.length + b.length → 0 ≤ c → c < 1000000000 →
    ∃ (out' : List Int) (c' : Int), Dig out' ∧ out'.length = out.length ∧ 0 ≤ c' ∧ c' < 1000000000 ∧ val out' + c' * 1000000000 ^ (i + b.length) = val out + c * 1000000000 ^ (i + j) + rd a i * (val b - val (b.take j)) * 1000000000 ^ i ∧ (∀ m : Nat, i + b.length ≤ m → rd out' m = rd out m) ∧
      ∀ r, Ev (fun k => spec_NatMul.l0 k b (out'.set (i + b.length) c') a (a.length : Int) ((i : Int) + 1)) r → Ev (fun k => spec_NatMul.l1 k b out (i : Int) (rd a i) c a (a.length : Int) (i : Int) b (b.length : Int) (j : Int)) r := by
  intro d
  induction d with
  | zero =>
    intro j out c hd hj hD hl h0 h1
    obtain rfl : j = b.length := by omega
    refine ⟨out, c, hD, rfl, h0, h1, ?_, fun m _ => rfl, fun r hr => Ev.step (f := fun k => spec_NatMul.l0 k b (out.set (i + b.length) c) a (a.length : Int) ((i : Int) + 1)) (fun k => ?_) hr⟩
    · rw [List.take_length, Int.sub_self, Int.mul_zero, Int.zero_mul, Int.add_zero]
    · have e1 : wrap64 ((i : Int) + (b.length : Int)) = ((i + b.length : Nat) : Int) := by rw [w64 _ (by omega) (by omega)]; omega
      have e2 : wrap64 ((i : Int) + 1) = (i : Int) + 1 := w64 _ (by omega) (by omega)
      simp only [spec_NatMul.l1, e1, e2]
      rw [if_neg (by omega), if_pos (by omega), if_pos (by omega), Int.emod_eq_of_lt h0 (by omega), Int.toNat_natCast]
  | succ d ih =>
    intro j out c hd hj hD hl h0 h1
    have hij : i + j < out.length := by omega
    have ra := dig_rd ha (i : Int)
    have rb := dig_rd hb (j : Int)
    have ro := dig_rd hD ((i + j : Nat) : Int)
    have hp0 : 0 ≤ rd a i * rd b j := Int.mul_nonneg ra.1 rb.1
    have hp1 : rd a i * rd b j ≤ 999999998000000001 := Int.le_trans (Int.mul_le_mul (show rd a i ≤ 999999999 by omega) (show rd b j ≤ 999999999 by omega) rb.1 (by decide)) (by decide)
    obtain ⟨s, hs⟩ : ∃ s, s = c + (rd out ((i + j : Nat) : Int) + rd a i * rd b j) := ⟨_, rfl⟩
    have hs0 : 0 ≤ s := by omega
    have hs1 : s < 1000000000000000000 := by omega
    have hq : 1000000000 * (s / 1000000000) + s % 1000000000 = s := Int.mul_ediv_add_emod s 1000000000
    have hr0 : 0 ≤ s % 1000000000 := Int.emod_nonneg _ (by decide)
    have hr1 : s % 1000000000 < 1000000000 := Int.emod_lt_of_pos _ (by decide)
    obtain ⟨out', c', g1, g2, g3, g4, g5, g6, g7⟩ := ih (j + 1) (out.set (i + j) (s % 1000000000)) (s / 1000000000) (by omega) (by omega) (hD.set _ ⟨hr0, hr1⟩) (by rw [List.length_set, hl]) (by omega) (by omega)
    refine ⟨out', c', g1, by rw [g2, List.length_set], g3, g4, ?_, fun m hm => ?_, fun r hr => Ev.step (f := fun k => spec_NatMul.l1 k b (out.set (i + j) (s % 1000000000)) (i : Int) (rd a i) (s / 1000000000) a (a.length : Int) (i : Int) b (b.length : Int) ((j + 1 : Nat) : Int)) (fun k => ?_) (g7 r hr)⟩
    · rw [g5, val_set _ _ _ hij, val_take_succ (l := b) (by omega)]
      have e3 : (1000000000 : Int) ^ (i + (j + 1)) = 1000000000 * 1000000000 ^ (i + j) := by rw [← Nat.add_assoc, pw_succ]
      have e4 : (1000000000 : Int) ^ (i + j) = 1000000000 ^ i * 1000000000 ^ j := Int.pow_add _ _ _
      rw [e3, e4]
      have hq2 : s % 1000000000 = s - 1000000000 * (s / 1000000000) := by omega
      rw [hq2, hs]
      grind
    · rw [g6 m hm, rd_set_ne (by omega)]
    · have e1 : wrap64 ((i : Int) + (j : Int)) = ((i + j : Nat) : Int) := by rw [w64 _ (by omega) (by omega)]; omega
      have e2 : wrap64 ((j : Int) + 1) = ((j + 1 : Nat) : Int) := by rw [w64 _ (by omega) (by omega)]; omega
      have hw : IntKind.u64.wrap (s / 1000000000) = s / 1000000000 := wu64 _ (by omega) (by omega)
      have hr2 : s % 1000000000 < 4294967296 := by omega
      have q1 : (j : Int) < (b.length : Int) := by clear e1 e2 hw g5; omega
      have q4 : ((i + j : Nat) : Int) < (out.length : Int) := by clear e1 e2 hw g5; omega
      have e5 : IntKind.u64.wrap (c + IntKind.u64.wrap (IntKind.u64.wrap (rd out ((i + j : Nat) : Int)) + IntKind.u64.wrap (IntKind.u64.wrap (rd a i) * IntKind.u64.wrap (rd b j)))) = s := by
        rw [hs]
        exact wsum c (rd out ((i + j : Nat) : Int)) (rd a i) (rd b j) h0 h1 ro.1 ro.2 ra.1 ra.2 rb.1 rb.2 hp0 hp1
      simp only [spec_NatMul.l1, e1, e2, e5]
      rw [if_pos q1, if_pos (Int.natCast_nonneg _), if_pos q1, if_pos (Int.natCast_nonneg _), if_pos q4, Int.tmod_eq_emod_of_nonneg hs0, Int.tdiv_eq_ediv_of_nonneg hs0, hw, Int.emod_eq_of_lt hr0 hr2, Int.toNat_natCast]
theorem mul_ev_l0 (a b : List Int) (ha : Dig a) (hb : Dig b) (hm : a.length + b.length ≤ 4000000000) (n : Nat) (hn : val a * val b = n) : ∀ (d i : Nat) (out : List Int), a.length - i = d → i ≤ a.length → Dig out → out.length = a.length + b.length → val out = val (a.take i) * val b →
    (∀ m : Nat, i + b.length ≤ m → rd out m = 0) → Ev (fun k => spec_NatMul.l0 k b out a (a.length : Int) (i : Int)) (digs n) := by
  intro d
  induction d with
  | zero =>
    intro i out hd hi hD hl hv hz
    obtain rfl : i = a.length := by omega
    rw [List.take_length, hn] at hv
    refine Ev.step (f := fun k => (spec_natTrim.f k out).bind fun t => some t) (fun k => ?_) (Ev.bind (f := fun _ t => some t) (trim_ev _ out rfl (by omega) hD n hv) (Ev.now _))
    simp only [spec_NatMul.l0]
    rw [if_neg (by omega)]
  | succ d ih =>
    intro i out hd hi hD hl hv hz
    obtain ⟨out', c', g1, g2, g3, g4, g5, g6, g7⟩ := mul_ev_l1 a b ha hb hm i (by omega) _ 0 out 0 rfl (by omega) hD hl (by omega) (by omega)
    have hlt : i + b.length < out'.length := by omega
    refine Ev.step (f := fun k => spec_NatMul.l1 k b out (i : Int) (rd a i) 0 a (a.length : Int) (i : Int) b (b.length : Int) ((0 : Nat) : Int)) (fun k => ?_) (g7 _ (ih (i + 1) (out'.set (i + b.length) c') (by omega) (by omega) (g1.set _ ⟨g3, g4⟩) (by rw [List.length_set, g2, hl]) ?_ fun m hm => ?_))
    · simp only [spec_NatMul.l0]
      rw [if_pos (by omega), if_pos (by omega), if_pos (by omega)]
      rfl
    · rw [val_set _ _ _ hlt, g6 _ (Nat.le_refl _), hz _ (Nat.le_refl _), val_take_succ (l := a) (by omega)]
      rw [List.take_zero, hv] at g5
      simp only [val] at g5
      grind
    · rw [rd_set_ne (by omega), g6 _ (by omega), hz _ (by omega)]
theorem mul_ev (a b : Nat) (h : (digs a).length + (digs b).length ≤ 4000000000) : Ev (fun k => spec_NatMul.f k (digs a) (digs b)) (digs (a * b)) := by
  have e : wrap64 (((digs a).length : Int) + ((digs b).length : Int)) = (((digs a).length + (digs b).length : Nat) : Int) := by rw [w64 _ (by omega) (by omega)]; omega
  refine Ev.congr (f := fun k => spec_NatMul.l0 k (digs b) (List.replicate ((digs a).length + (digs b).length) 0) (digs a) ((digs a).length : Int) ((0 : Nat) : Int)) (fun k => ?_) (mul_ev_l0 (digs a) (digs b) (dig_digs a) (dig_digs b) h (a * b) (by rw [val_digs, val_digs]; exact (Int.natCast_mul a b).symm) _ 0 _ rfl (by omega) (Dig.rep _) (by simp) (by simp [val_rep, val]) (fun m _ => rd_rep _ m))
  simp only [spec_NatMul.f, e]
  rw [if_pos (by omega), if_pos (by rw [Int.toNat_natCast]; omega), Int.toNat_natCast]
  rfl
end Go.Proofs.YtnjbfebeigginaaDoor.NatLaw
