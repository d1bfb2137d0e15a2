/-
 What the reference's other loops over limbs come to (difference, quotients, powers of ten): a plain law over the functions that the print wrote.
 The reference's text of a number: for the limbs of a number (at most 4,000,000,000 of them) the call returns its decimal digits, and changes nothing that was there.
 The reference's calls over natural numbers of any length, told by the numbers alone, and where the limbs of what they return lie; nothing that was there is changed.
 The reference's reading of digits: the number that they are.
 Words for this claim.
-/
import Derived.Test.YteohmbannpbokaaGreatDoorJ07
import Derived.Test.YteohmbannpbokaaGreatDoorJ06
import Derived.Test.YteohmbannpbokaaGreatDoorJ03
import Derived.RegionTactic
import Derived.BigRegion
import Derived.ChangeAlike
import Derived.Test.YteohmbannpbokaaGreatDoorProg
import Derived.Below
import Derived.Deep.Draws
import Derived.Deep.AppendLies
import Derived.Maps.AppendAt
import Derived.OwnWalk
import Derived.Laws.BytesArg
import Derived.Laws.MakeOwn
import Derived.Laws.OwnMore
import Derived.Deep.OwnRows
import Derived.Tactics
import Derived.Lib.ConvBytes
import Derived.Laws.Slices
import Derived.WalkKit
import Derived.KernelRfl
import Derived.RowKit3
import Derived.Deep.LoopGhost
import Derived.Deep.QuietTactic
import Derived.BigQuiet
import Derived.WideLaws
import Derived.Deep.DeepCutAuto
import Derived.Deep.CutBlock
import Derived.Deep.RegionHeld3
import Derived.Laws.Rows
import Derived.Lib.AppendStr
import Derived.ArgAppend
import Derived.Laws.IdiomCopy
import Derived.OrdersHeld
import Derived.Laws.BitsLemmas
import Derived.RowKit
import Derived.Test.YteohmbannpbokaaGreatDoorJ02
import Derived.Test.YteohmbannpbokaaGreatDoorJ01
import Derived.Test.YteohmbannpbokaaGreatDoorJ04
set_option linter.unusedVariables false
set_option linter.unusedSimpArgs false
namespace Go.Proofs.YteohmbannpbokaaGreatDoor.NatLaw
open Go.RowKit Go.Proofs.YteohmbannpbokaaGreatDoorW.PrintWords Go.Proofs.YteohmbannpbokaaGreatDoorW.PrintMore Go.Proofs.YteohmbannpbokaaGreatDoor.Digs
open Go.Proofs.YteohmbannpbokaaGreatDoor.PNatMul Go.Proofs.YteohmbannpbokaaGreatDoor.PNatCmp Go.Proofs.YteohmbannpbokaaGreatDoor.PPow10 Go.Proofs.YteohmbannpbokaaGreatDoor.PNatFrom
open Go.Proofs.YteohmbannpbokaaGreatDoor.PnatShort (spec_natShort.f spec_natShort.l0 spec_natShort.calls)
theorem trim_same : Go.Proofs.YteohmbannpbokaaGreatDoor.PnatShort.spec_natTrim.f = spec_natTrim.f := by funext k l; show Go.Proofs.YteohmbannpbokaaGreatDoor.PnatShort.spec_natTrim.l0 k l = spec_natTrim.l0 k l; induction k generalizing l with | zero => rfl | succ k ih => simp only [Go.Proofs.YteohmbannpbokaaGreatDoor.PnatShort.spec_natTrim.l0, spec_natTrim.l0, ih]
theorem take_val_end {l : List Int} {i : Nat} (h : l.length ≤ i) : val (l.take i) = val l := by rw [List.take_of_length_le h]
theorem sub_step (b : List Int) (i : Nat) : ∃ y, (i < b.length → y = rd b i) ∧ (¬ i < b.length → y = 0) ∧ val (b.take (i + 1)) = val (b.take i) + y * 1000000000 ^ i := by
 by_cases h : i < b.length
 · exact ⟨rd b i, fun _ => rfl, fun h' => absurd h h', val_take_succ h⟩
 · exact ⟨0, fun h' => absurd h' h, fun _ => rfl, by rw [take_val_end (by omega), take_val_end (by omega)]; omega⟩
structure SubInv (a b : Nat) (out : List Int) (c i : Int) : Prop where
 mk :: (out : ∃ m : Nat, i = m ∧ m ≤ (digs a).length ∧ Dig out ∧ out.length = m ∧ (c = 0 ∨ c = 1) ∧ val out - c * 1000000000 ^ m = val ((digs a).take m) - val ((digs b).take m))
theorem SubInv.start (a b : Nat) : SubInv a b [] 0 0 := ⟨0, rfl, Nat.zero_le _, Dig.nil, rfl, .inl rfl, by simp [val]⟩
theorem SubInv.bound {a b : Nat} {out : List Int} {c i : Int} (h : SubInv a b out c i) : 0 ≤ i ∧ i ≤ (digs a).length ∧ 0 ≤ c ∧ c ≤ 1 ∧ (out.length : Int) = i := by
 obtain ⟨m, rfl, hm, _, hl, hc, _⟩ := h
 refine ⟨by omega, by omega, ?_, ?_, by omega⟩ <;> rcases hc with h | h <;> omega
theorem SubInv.step {a b : Nat} {out : List Int} {c i y z c' : Int} (h : SubInv a b out c i) (hi : i < (digs a).length) (hy : (i < (digs b).length ∧ y = rd (digs b) i) ∨ (¬ i < (digs b).length ∧ y = 0)) (hc' : c' = 0 ∨ c' = 1) (hz : 0 ≤ z ∧ z < 1000000000) (hz2 : z = rd (digs a) i - (c + y) + c' * 1000000000) :
   SubInv a b (out ++ [z]) c' (i + 1) := by
 obtain ⟨m, rfl, hm, hD, hl, hc, hv⟩ := h
 have va := val_take_succ (l := digs a) (i := m) (by omega)
 obtain ⟨y', hy1, hy2, vb⟩ := sub_step (digs b) m
 have e : y = y' := by
   rcases hy with ⟨h1, h2⟩ | ⟨h1, h2⟩
   · rw [h2, hy1 (by omega)]
   · rw [h2, hy2 (by omega)]
 subst e
 refine ⟨m + 1, by omega, by omega, hD.append (Dig.cons hz Dig.nil), by simp; omega, hc', ?_⟩
 rw [val_append, va, vb, hl, pw_succ, hz2]
 simp only [val]
 grind
theorem SubInv.done {a b : Nat} {out : List Int} {c i : Int} (h : SubInv a b out c i) (hi : ¬ i < (digs a).length) (hab : b ≤ a) : Dig out ∧ val out = ((a - b : Nat) : Int) := by
 obtain ⟨m, rfl, hm, hD, hl, hc, hv⟩ := h
 have hlb := len_digs_mono hab
 rw [take_val_end (by omega), take_val_end (by omega), val_digs, val_digs] at hv
 have h1 := val_lt hD
 rw [hl] at h1
 refine ⟨hD, ?_⟩
 rcases hc with h | h
 · rw [h, Int.zero_mul] at hv; omega
 · rw [h, Int.one_mul] at hv; omega
theorem pow10_list (n : Nat) : (List.replicate (n / 9 + 1) (0 : Int)).set (n / 9) ((10 ^ (n % 9) : Nat) : Int) = digs (10 ^ n) := by
 have h9 : n % 9 < 9 := Nat.mod_lt _ (by decide)
 have hx : 10 ^ (n % 9) < 1000000000 := Nat.lt_of_lt_of_le (Nat.pow_lt_pow_right (by decide) h9) (by decide)
 have hx0 : 0 < 10 ^ (n % 9) := Nat.pow_pos (by decide)
 generalize hq : 10 ^ (n % 9) = x at *
 refine canon ((Dig.rep _).set _ (by omega)) ?_ ?_
 · intro h
   rw [List.getLast_eq_getElem]
   simp only [List.length_set, List.length_replicate, Nat.add_sub_cancel, List.getElem_set_self]
   omega
 · rw [val_set _ _ _ (by simp), val_rep, rd_rep, ← hq]
   have e : (10 : Nat) ^ n = 10 ^ (n % 9) * 1000000000 ^ (n / 9) := by
     rw [show (1000000000 : Nat) = 10 ^ 9 by decide, ← Nat.pow_mul, ← Nat.pow_add]
     congr 1
     omega
   rw [e]
   simp
theorem pow10_ev_l (n : Nat) (hn : n ≤ 1000000) (out : List Int) (hl : out.length = n / 9 + 1) : ∀ (d i : Nat), n % 9 - i = d → i ≤ n % 9 → Ev (fun k => spec_Pow10.l0 k n out ((10 ^ i : Nat) : Int) i) (out.set (n / 9) ((10 ^ (n % 9) : Nat) : Int)) := by
 have e1 : Int.tmod (n : Int) 9 = ((n % 9 : Nat) : Int) := by rw [Int.tmod_eq_emod_of_nonneg (by omega)]; omega
 have e2 : wrap64 (Int.tdiv (n : Int) 9) = ((n / 9 : Nat) : Int) := by rw [Int.tdiv_eq_ediv_of_nonneg (by omega), w64 _ (by omega) (by omega)]; omega
 intro d
 induction d with
 | zero =>
   intro i hd hi
   obtain rfl : i = n % 9 := by omega
   refine Ev.step (f := fun _ => some _) (fun k => ?_) (Ev.now _)
   simp only [spec_Pow10.l0, e1, e2]
   rw [if_neg (by omega), if_pos (by omega), if_pos (by omega), Int.toNat_natCast]
 | succ d ih =>
   intro i hd hi
   have e3 : wrap64 ((i : Int) + 1) = ((i + 1 : Nat) : Int) := by rw [w64 _ (by omega) (by omega)]; omega
   have hx : 10 ^ i ≤ 10 ^ 8 := Nat.pow_le_pow_right (by decide) (by omega)
   have e4 : ((10 ^ i : Nat) : Int) * 10 % 4294967296 = ((10 ^ (i + 1) : Nat) : Int) := by
     rw [Nat.pow_succ]
     generalize 10 ^ i = x at *
     omega
   refine Ev.step (f := fun k => spec_Pow10.l0 k n out ((10 ^ (i + 1) : Nat) : Int) ((i + 1 : Nat) : Int)) (fun k => ?_) (ih (i + 1) (by omega) (by omega))
   simp only [spec_Pow10.l0, e1, e3, e4]
   rw [if_pos (by omega)]
theorem pow10_ev (n : Nat) (hn : n ≤ 1000000) : Ev (fun k => spec_Pow10.f k n) (digs (10 ^ n)) := by
 have e2 : wrap64 (Int.tdiv (n : Int) 9) = ((n / 9 : Nat) : Int) := by rw [Int.tdiv_eq_ediv_of_nonneg (by omega), w64 _ (by omega) (by omega)]; omega
 have e3 : wrap64 (((n / 9 : Nat) : Int) + 1) = ((n / 9 + 1 : Nat) : Int) := by rw [w64 _ (by omega) (by omega)]; omega
 refine Ev.congr (f := fun k => spec_Pow10.l0 k n (List.replicate (n / 9 + 1) 0) ((10 ^ 0 : Nat) : Int) ((0 : Nat) : Int)) (fun k => ?_) (ev_eq (pow10_list n) (pow10_ev_l n hn _ (by simp) _ 0 rfl (by omega)))
 simp only [spec_Pow10.f, e2, e3]
 rw [if_neg (by omega), if_pos (by omega), if_pos (by rw [Int.toNat_natCast]; omega), Int.toNat_natCast]
 rfl
theorem short_ev_l (a : List Int) (ha : Dig a) (hm : a.length ≤ 4000000000) (b : Int) (hb0 : 0 < b) (hb1 : b < 4294967296) (n : Nat) (hn : val a = n) : ∀ (t : Nat) (out : List Int) (r : Int), t ≤ a.length → Dig out → out.length = a.length → 0 ≤ r → r < b → (∀ m : Nat, m < t → rd out m = 0) →
   val out * b + r * 1000000000 ^ t + val (a.take t) = val a → Ev (fun k => spec_natShort.l0 k a b out r ((t : Int) - 1)) (digs (n / b.toNat), ((n % b.toNat : Nat) : Int)) := by
 have eb : IntKind.u64.wrap b = b := wu64 _ (by omega) (by omega)
 intro t
 induction t with
 | zero =>
   intro out r ht hD hl h0 h1 hz hv
   obtain ⟨bn, rfl⟩ := Int.eq_ofNat_of_zero_le (Int.le_of_lt hb0)
   obtain ⟨rn, rfl⟩ := Int.eq_ofNat_of_zero_le h0
   obtain ⟨q, hq⟩ := Int.eq_ofNat_of_zero_le (val_nonneg hD)
   simp only [val, List.take_zero, Int.pow_zero, Int.mul_one, Int.add_zero, hn, hq] at hv
   have hv2 : q * bn + rn = n := by
     have : ((q * bn + rn : Nat) : Int) = (n : Int) := by simp only [Int.natCast_add, Int.natCast_mul]; exact hv
     omega
   have hrb : rn < bn := by omega
   have e1 : n / bn = q := by rw [← hv2, Nat.mul_comm, Nat.mul_add_div (by omega), Nat.div_eq_of_lt hrb, Nat.add_zero]
   have e2 : n % bn = rn := by rw [← hv2, Nat.mul_comm, Nat.mul_add_mod, Nat.mod_eq_of_lt hrb]
   rw [Int.toNat_natCast, e1, e2]
   refine Ev.step (f := fun k => (spec_natTrim.f k out).bind fun t => some (t, (rn : Int))) (fun k => ?_) (Ev.bind (f := fun _ t => some (t, (rn : Int))) (trim_ev _ out rfl (by omega) hD q hq) (Ev.now _))
   simp only [trim_same, spec_natShort.l0]
   rw [if_neg (by omega), Int.emod_eq_of_lt (by omega) (by omega)]
 | succ t ih =>
   intro out r ht hD hl h0 h1 hz hv
   have ra := dig_rd ha (t : Int)
   have va := val_take_succ (l := a) (i := t) (by omega)
   have e : ((t + 1 : Nat) : Int) - 1 = (t : Int) := by omega
   have e1 : wrap64 ((t : Int) - 1) = (t : Int) - 1 := w64 _ (by omega) (by omega)
   obtain ⟨s, hs⟩ : ∃ s, s = r * 1000000000 + rd a (t : Int) := ⟨_, rfl⟩
   have hs0 : 0 ≤ s := by omega
   have hs1 : s < b * 1000000000 := by omega
   have hq0 : 0 ≤ s / b := Int.ediv_nonneg hs0 (by omega)
   have hq1 : s / b < 1000000000 := Int.ediv_lt_of_lt_mul hb0 (by rw [Int.mul_comm]; exact hs1)
   have hr0 : 0 ≤ s % b := Int.emod_nonneg _ (by omega)
   have hr1 : s % b < b := Int.emod_lt_of_pos _ hb0
   have hqr : b * (s / b) + s % b = s := Int.mul_ediv_add_emod s b
   have hot : t < out.length := by omega
   have key := ih (out.set t (s / b)) (s % b) (by omega) (hD.set _ ⟨hq0, hq1⟩) (by rw [List.length_set, hl]) hr0 hr1 (fun m hm => by rw [rd_set_ne (by omega), hz m (by omega)]) (by
     rw [val_set _ _ _ hot, hz t (by omega), ← hv, va, pw_succ]
     have : s % b = s - b * (s / b) := by omega
     rw [this, hs]
     grind)
   have hsm : s < 4294967296000000000 := by omega
   have e2 : IntKind.u64.wrap (r * 1000000000) = r * 1000000000 := wu64 _ (by omega) (by omega)
   have e3 : IntKind.u64.wrap (rd a (t : Int)) = rd a (t : Int) := wu64 _ (by omega) (by omega)
   have e4 : IntKind.u64.wrap (r * 1000000000 + rd a (t : Int)) = s := by rw [← hs]; exact wu64 _ hs0 (by omega)
   have e5 : IntKind.u64.wrap (s / b) = s / b := wu64 _ hq0 (by omega)
   have q1 : ¬ b = 0 := by omega
   have q2 : (t : Int) < (a.length : Int) := by clear e1 e2 e3 e4 e5 eb key; omega
   have q3 : (t : Int) < (out.length : Int) := by clear e1 e2 e3 e4 e5 eb key; omega
   have q4 : (0 : Int) ≤ (t : Int) := Int.natCast_nonneg _
   rw [e]
   refine Ev.step (f := fun k => spec_natShort.l0 k a b (out.set t (s / b)) (s % b) ((t : Int) - 1)) (fun k => ?_) key
   simp only [trim_same, spec_natShort.l0, e1, eb, e2, e3, e4]
   rw [if_pos q4, if_pos q4, if_pos q2, if_neg q1, if_pos q3, Int.tdiv_eq_ediv_of_nonneg hs0, Int.tmod_eq_emod_of_nonneg hs0, e5, Int.emod_eq_of_lt (a := s / b) hq0 (by clear e1 e2 e3 e4 e5 eb key; omega), Int.toNat_natCast]
theorem short_ev (n b : Nat) (hb0 : 0 < b) (hb1 : b < 4294967296) (hm : (digs n).length ≤ 4000000000) : Ev (fun k => spec_natShort.f k (digs n) b) (digs (n / b), ((n % b : Nat) : Int)) := by
 have h := short_ev_l (digs n) (dig_digs n) hm b (by omega) (by omega) n (val_digs n) (digs n).length (List.replicate (digs n).length 0) 0 (Nat.le_refl _) (Dig.rep _) (by simp) (by omega) (by omega) (fun m _ => rd_rep _ m) (by rw [val_rep, List.take_length]; omega)
 rw [Int.toNat_natCast] at h
 refine Ev.congr (fun k => ?_) h
 simp only [spec_natShort.f]
 rw [if_pos (Int.natCast_nonneg _), if_pos (by rw [Int.toNat_natCast]; omega), Int.toNat_natCast, w64 _ (by omega) (by omega)]
structure AddInv (a b : Nat) (out : List Int) (c i : Int) : Prop where
 mk :: (out : ∃ m : Nat, i = m ∧ Dig out ∧ out.length = m ∧ (c = 0 ∨ c = 1) ∧ (m ≤ (digs a).length ∨ m ≤ (digs b).length ∨ c = 0) ∧ (m ≤ (digs a).length ∨ m ≤ (digs b).length ∨ Top out) ∧ val out + c * 1000000000 ^ m = val ((digs a).take m) + val ((digs b).take m))
theorem AddInv.start (a b : Nat) : AddInv a b [] 0 0 := ⟨0, rfl, Dig.nil, rfl, .inl rfl, .inl (Nat.zero_le _), .inl (Nat.zero_le _), by simp [val]⟩
theorem AddInv.bound {a b : Nat} {out : List Int} {c i : Int} (h : AddInv a b out c i) : 0 ≤ i ∧ 0 ≤ c ∧ c ≤ 1 ∧ (out.length : Int) = i := by
 obtain ⟨m, rfl, _, hl, hc, _, _, _⟩ := h
 refine ⟨by omega, ?_, ?_, by omega⟩ <;> rcases hc with h | h <;> omega
theorem top_snoc (out : List Int) (z : Int) (h : z ≠ 0) : Top (out ++ [z]) := fun hne => by simp [h]
theorem AddInv.step {a b : Nat} {out : List Int} {c i x y : Int} (h : AddInv a b out c i) (hx : (i < (digs a).length ∧ x = rd (digs a) i) ∨ (¬ i < (digs a).length ∧ x = 0)) (hy : (i < (digs b).length ∧ y = rd (digs b) i) ∨ (¬ i < (digs b).length ∧ y = 0)) (hg : i < (digs a).length ∨ i < (digs b).length ∨ 0 < c) :
   AddInv a b (out ++ [(c + x + y) % 1000000000]) ((c + x + y) / 1000000000) (i + 1) := by
 obtain ⟨m, rfl, hD, hl, hc, ho, ht, hv⟩ := h
 obtain ⟨x', hx1, hx2, va⟩ := sub_step (digs a) m
 obtain ⟨y', hy1, hy2, vb⟩ := sub_step (digs b) m
 have ra := dig_rd (dig_digs a) (m : Int)
 have rb := dig_rd (dig_digs b) (m : Int)
 have e1 : x = x' ∧ 0 ≤ x ∧ x < 1000000000 := by
   rcases hx with ⟨h1, h2⟩ | ⟨h1, h2⟩
   · rw [h2]; exact ⟨(hx1 (by omega)).symm, ra⟩
   · rw [h2]; exact ⟨(hx2 (by omega)).symm, by omega⟩
 have e2 : y = y' ∧ 0 ≤ y ∧ y < 1000000000 := by
   rcases hy with ⟨h1, h2⟩ | ⟨h1, h2⟩
   · rw [h2]; exact ⟨(hy1 (by omega)).symm, rb⟩
   · rw [h2]; exact ⟨(hy2 (by omega)).symm, by omega⟩
 obtain ⟨rfl, x0, x1⟩ := e1
 obtain ⟨rfl, y0, y1⟩ := e2
 have hcb : 0 ≤ c ∧ c ≤ 1 := by rcases hc with h | h <;> omega
 have hq : 1000000000 * ((c + x + y) / 1000000000) + (c + x + y) % 1000000000 = c + x + y := Int.mul_ediv_add_emod _ _
 refine ⟨m + 1, by omega, hD.append (Dig.cons (by omega) Dig.nil), by simp; omega, by omega, ?_, ?_, ?_⟩
 · by_cases h1 : m < (digs a).length
   · exact .inl h1
   · by_cases h2 : m < (digs b).length
     · exact .inr (.inl h2)
     · refine .inr (.inr ?_)
       have : x = 0 := by rcases hx with h | h <;> omega
       have : y = 0 := by rcases hy with h | h <;> omega
       omega
 · by_cases h1 : m < (digs a).length
   · exact .inl h1
   · by_cases h2 : m < (digs b).length
     · exact .inr (.inl h2)
     · refine .inr (.inr (top_snoc _ _ ?_))
       have : x = 0 := by rcases hx with h | h <;> omega
       have : y = 0 := by rcases hy with h | h <;> omega
       omega
 · rw [val_append, va, vb, hl, pw_succ]
   simp only [val]
   grind
theorem top_of_val {l : List Int} {m : Nat} (hl : l.length = m + 1) (hd : Dig l) (hv : 1000000000 ^ m ≤ val l) : Top l := fun hne => by
 intro h0
 have e : l = l.take m ++ [0] := by
   have := take_succ_rd (l := l) (i := m) (by omega)
   rw [← hl, List.take_length, rd_lt (by omega)] at this
   rw [List.getLast_eq_getElem] at h0
   have e2 : l[m]'(by omega) = 0 := by simpa [hl] using h0
   rw [e2] at this
   exact this
 have h1 := val_lt (hd.take m)
 rw [e, val_append] at hv
 simp only [val, List.length_take, Nat.min_eq_left (show m ≤ l.length by omega), List.take_append_of_le_length (show m ≤ (l.take m).length by simp; omega), List.take_take, Nat.min_self] at hv h1
 omega
theorem AddInv.done {a b : Nat} {out : List Int} {c i : Int} (h : AddInv a b out c i) (h1 : ¬ i < (digs a).length) (h2 : ¬ i < (digs b).length) (h3 : ¬ 0 < c) : out = digs (a + b) := by
 obtain ⟨m, rfl, hD, hl, hc, ho, ht, hv⟩ := h
 have hc0 : c = 0 := by rcases hc with h | h <;> omega
 rw [take_val_end (by omega), take_val_end (by omega), val_digs, val_digs, hc0, Int.zero_mul, Int.add_zero] at hv
 refine canon hD ?_ (by rw [hv]; omega)
 have hp : ∀ n : Nat, n ≠ 0 → 1000000000 ^ ((digs n).length - 1) ≤ n := by
   intro n hn
   rcases Nat.lt_or_ge n (1000000000 ^ ((digs n).length - 1)) with h | h
   · have := len_digs_le h
     have := len_pos hn
     omega
   · exact h
 have hpi : ∀ n k : Nat, n ≠ 0 → (digs n).length = k + 1 → (1000000000 : Int) ^ k ≤ n := by
   intro n k hn hk
   have := hp n hn
   rw [hk, Nat.add_sub_cancel] at this
   have e : ((1000000000 ^ k : Nat) : Int) = (1000000000 : Int) ^ k := by simp
   omega
 rcases Nat.eq_zero_or_pos m with hm | hm
 · have : out = [] := List.length_eq_zero_iff.1 (by omega)
   rw [this]
   exact fun h => absurd rfl h
 · obtain ⟨k, rfl⟩ : ∃ k, m = k + 1 := ⟨m - 1, by omega⟩
   by_cases ha : (digs a).length = k + 1
   · have h0 : a ≠ 0 := by intro h; rw [h, digs_zero] at ha; simp at ha
     have := hpi a k h0 ha
     exact top_of_val hl hD (by omega)
   · by_cases hb : (digs b).length = k + 1
     · have h0 : b ≠ 0 := by intro h; rw [h, digs_zero] at hb; simp at hb
       have := hpi b k h0 hb
       exact top_of_val hl hD (by omega)
     · rcases ht with h | h | h
       · omega
       · omega
       · exact h
end Go.Proofs.YteohmbannpbokaaGreatDoor.NatLaw
namespace Go.Proofs.YteohmbannpbokaaGreatDoor.StrWalk
open Go.RowKit Go.Proofs.YteohmbannpbokaaGreatDoorW.PrintWords Go.Proofs.YteohmbannpbokaaGreatDoorW.PrintLast Go.Proofs.YteohmbannpbokaaGreatDoorW.PrintMore Go.Proofs.YteohmbannpbokaaGreatDoor.Digs Go.Proofs.YteohmbannpbokaaGreatDoor.StrLaw
theorem infoB : (Tryz.prog.info? 5).map (fun i => (i.zero, i.size, i.bytes)) = some (some (.int .u8 0), 1, 1) := by kernel_rfl
set_option maxHeartbeats 4000000 in
set_option maxRecDepth 100000 in
theorem string_calls (n : Nat) (A0 : Option Addr) (c0 : Nat) (w : World) (hr0 : Kd.C (Kd.int .u32) w A0 (digs n).length (digs n)) (hc0 : (digs n).length ≤ c0) (hlen : ((digs n).length : Int) ≤ 4000000000) :
   Calls Tryz.prog 14 #[.slice A0 (digs n).length c0] w fun e w' => e = .returned (.string (text n)) ∧ Below w.heap.size w w' := by
 have HR0 := Aside0.mk hr0
 have HC0 := Aside0.mk hc0
 clear hr0 hc0
 have HB := Aside0.mk (Below.refl w.heap.size w)
 go_enter Tryz.func14, Tryz.ntmps14
 go_wp2
 go_loopg [3, 11] (digs n).length (fun g v3 v11 w' => ∃ (x : List Int) (i : Int), v11 = .int .i64 i ∧ Out n i x ∧ Aside0 (i + (g : Int) = ((digs n).length : Int)) ∧ Aside0 (Kd.R (Kd.int .u8) 5 w' w.heap.size (fun _ => True) v3 x) ∧ Aside0 (Below w.heap.size w w'))
 case atStart => exact ⟨[], 0, rfl, Out.start n, ⟨by simp⟩, ⟨Kd.R_nil _ _ _ _ _⟩, HB⟩
 case round =>
   clear HB
   obtain ⟨x, i, rfl, HI, HG, HO, HB⟩ := hrel
   have hb := HI.bound
   obtain ⟨b1, b2, b3⟩ := hb
   have HX := Aside0.mk b3
   clear b3
   by_cases hi : i < ((digs n).length : Int)
   · obtain ⟨ad, e0, hx⟩ := Kd.at_int HR0.out i b1 hi
     cases e0
     replace hx := (HB.out.cell (World.block_lt_of_cell? w _ hx)).trans hx
     obtain ⟨og, hog⟩ : ∃ og, og = gk := ⟨gk, rfl⟩
     subst hog
     go_wp2
     go_loopg [3, 5, 6] 9 (fun g2 v3 v5 v6 w' => ∃ (x : List Int) (c k : Int), v5 = .int .u32 c ∧ v6 = .int .i64 k ∧ Inn n i k c x ∧ Aside0 (k + (g2 : Int) = 9) ∧ Aside0 (Kd.R (Kd.int .u8) 5 w' w.heap.size (fun _ => True) v3 x) ∧ Aside0 (Below w.heap.size w w'))
     case atStart => exact ⟨x, rd (digs n) i, 0, rfl, rfl, HI.inn hi, ⟨by simp⟩, HO, HB⟩
     case round =>
       clear HI HO HB HX hx
       obtain ⟨x, c, k, rfl, rfl, HI, HG2, HO, HB⟩ := hrel
       obtain ⟨q1, q2, k1, k2, c1, c2, q3⟩ := HI.bound
       have HX := Aside0.mk q3
       clear q1 q2 q3
       by_cases hk : k < 9
       · by_cases hc : 0 < c
         · have HCS : Aside0 (0 < c ∨ i + 1 < (digs n).length) := ⟨.inl hc⟩
           go_wp2_with (first | ((with_reducible refine gate_builtin (b := .append) (xs := #[.tmp 31, .tmp 36]) rfl ?_); at_builtin; refine Kd.R_append (Kd.int .u8) (w0 := w) w.heap.size rfl (.tmp 31) (.tmp 36) 77 5 (.int .u8 0) 1 rfl Tryz.underlying77 infoB rfl (by decide) (by omega) u3 x (48 + c % 10) [.int .u8 (48 + c % 10)] (fun _ => True) (fun _ => False) rfl rfl ?aP (fun _ hk => hk.elim) ?aF ?aO ?aB ?aS ?aL ?_; (case aP => exact rfl); (case aB => exact HB.out); (case aF => exact (fun _ _ => trivial)); (case aO => exact HO.out); (case aS => exact below_size HB.out); (case aL => have := HX.out; omega); intro v1 w1 ho hb hg hat; have HO1 := Aside0.mk ho; have HB1 := Aside0.mk hb; clear HB HO ho hb hg hat))
           go_roundg (gk - 1)
           case measure => have := HG2.out; omega
           case rel => exact ⟨_, _, _, rfl, rfl, HI.step hk (HCS.out), ⟨by have := HG2.out; omega⟩, HO1, HB1⟩
         · by_cases hi1 : i + 1 < ((digs n).length : Int)
           · have HCS : Aside0 (0 < c ∨ i + 1 < (digs n).length) := ⟨.inr hi1⟩
             go_wp2_with (first | ((with_reducible refine gate_builtin (b := .append) (xs := #[.tmp 31, .tmp 36]) rfl ?_); at_builtin; refine Kd.R_append (Kd.int .u8) (w0 := w) w.heap.size rfl (.tmp 31) (.tmp 36) 77 5 (.int .u8 0) 1 rfl Tryz.underlying77 infoB rfl (by decide) (by omega) u3 x (48 + c % 10) [.int .u8 (48 + c % 10)] (fun _ => True) (fun _ => False) rfl rfl ?aP (fun _ hk => hk.elim) ?aF ?aO ?aB ?aS ?aL ?_; (case aP => exact rfl); (case aB => exact HB.out); (case aF => exact (fun _ _ => trivial)); (case aO => exact HO.out); (case aS => exact below_size HB.out); (case aL => have := HX.out; omega); intro v1 w1 ho hb hg hat; have HO1 := Aside0.mk ho; have HB1 := Aside0.mk hb; clear HB HO ho hb hg hat))
             go_roundg (gk - 1)
             case measure => have := HG2.out; omega
             case rel => exact ⟨_, _, _, rfl, rfl, HI.step hk (HCS.out), ⟨by have := HG2.out; omega⟩, HO1, HB1⟩
           · have HE := Aside0.mk (HI.stop0 hk hc hi1)
             clear HI
             go_wp2
             go_roundg (og - 1)
             case measure => have := HG.out; omega
             case rel => exact ⟨x, i + 1, rfl, HE.out, ⟨by have := HG.out; omega⟩, HO, HB⟩
       · have HE := Aside0.mk (HI.stop9 hk)
         clear HI
         go_wp2
         go_roundg (og - 1)
         case measure => have := HG.out; omega
         case rel => exact ⟨x, i + 1, rfl, HE.out, ⟨by have := HG.out; omega⟩, HO, HB⟩
   · have HE := HI.done hi
     clear HI HX HG b1 b2
     subst HE
     have hib : decide (i < ((digs n).length : Int)) = false := decide_eq_false hi
     clear hi
     by_cases hn : n = 0
     · have HN := Aside0.mk hn
       have c0b : (((dbyt n (nd n)).length : Int) == 0) = true := beq_iff_eq.mpr (dbyt_nil.2 hn)
       clear hn
       generalize dbyt n (nd n) = X at *
       obtain ⟨Ao, co, eo⟩ := Kd.R_slice HO.out
       subst eo
       go_wp2
       go_ret
       exact ⟨by rw [HN.out, text_zero]; rfl, HB.out⟩
     · have c1b : (((dbyt n (nd n)).length : Int) == 0) = false := beq_eq_false_iff_ne.mpr (fun h => hn (dbyt_nil.1 h))
       have HN := Aside0.mk (text_pos hn)
       clear hn
       have hm : ((dbyt n (nd n)).length : Int) ≤ 36000000000 := by rw [dbyt_len]; have := nd_le_len n; omega
       generalize dbyt n (nd n) = X at *
       obtain ⟨Ao, co, eo⟩ := Kd.R_slice HO.out
       subst eo
       go_wp2
       go_loopg [7, 8] X.length (fun g v7 v8 w' => ∃ (y : List Int) (i j : Int), v7 = .int .i64 i ∧ v8 = .int .i64 j ∧ Aside0 (Rev X y i j) ∧ Aside0 (j - i < (g : Int)) ∧ Aside0 (Kd.R (Kd.int .u8) 5 w' w.heap.size (fun _ => True) (.slice Ao X.length co) y) ∧ Aside0 (Below w.heap.size w w'))
       case atStart => exact ⟨X, 0, (X.length : Int) - 1, rfl, rfl, ⟨Rev.start X⟩, ⟨by omega⟩, HO, HB⟩
       case round =>
         clear HO HB hib
         obtain ⟨y, a, b, rfl, rfl, HI, HG, HO, HB⟩ := hrel
         obtain ⟨hl, a0, b1, b2⟩ := HI.out.bound
         have HL := Aside0.mk hl
         clear hl
         by_cases hab : a < b
         · have hab2 := b2 hab
           clear b2
           have b0 : 0 ≤ b := by omega
           have a1 : a < (X.length : Int) := by omega
           obtain ⟨g0, c1, e1, gb, gl, cl, HC⟩ := Kd.R_form HO.out (by have := HL.out; omega)
           injection e1 with ea en ec
           subst ea
           subst ec
           clear en
           have GB := Aside0.mk gb
           clear HC cl gl gb
           have hca := Kd.R_celln 0 HO.out a a0 a1
           have hcb := Kd.R_celln 0 HO.out b b0 b1
           obtain ⟨hca1, hca2⟩ := hca
           obtain ⟨hcb1, hcb2⟩ := hcb
           change _ = some (Value.int .u8 (rd y a)) at hca1
           change _ = some (Value.int .u8 (rd y b)) at hcb1
           go_wp2
           go_region
           go_wp2
           go_roundg (gk - 1)
           case measure => have := HG.out; omega
           case rel => exact ⟨_, _, _, rfl, rfl, ⟨HI.out.step hab⟩, ⟨by have := HG.out; omega⟩, ⟨Kd.R_putn (Kd.R_putn (Kd.R_drew HO.out) a (rd y b)) b (rd y a)⟩, ⟨((HB.out.setCell GB.out _).setCell GB.out _).drew⟩⟩
         · have HE := HI.out.done hab
           clear b2
           subst HE
           have hrd := (Kd.R_reads' HO.out).2.2
           rw [← (Kd.R_reads' HO.out).1] at hrd
           have hcv := Kd.C_string (P := Tryz.prog) (src := 77) (dst := 9) (c := co) Tryz.underlying77 Tryz.underlying5 Tryz.underlying9 hrd
           have HRD := Aside0.mk hrd
           clear hrd
           go_wp2
           go_ret
           exact ⟨by rw [HN.out]; rfl, HB.out⟩
end Go.Proofs.YteohmbannpbokaaGreatDoor.StrWalk
namespace Go.Proofs.YteohmbannpbokaaGreatDoor.NatWalk
open Go.RowKit Go.Proofs.YteohmbannpbokaaGreatDoorW.PrintWords Go.Proofs.YteohmbannpbokaaGreatDoorW.PrintLast Go.Proofs.YteohmbannpbokaaGreatDoorW.PrintMore Go.Proofs.YteohmbannpbokaaGreatDoor.Digs Go.Proofs.YteohmbannpbokaaGreatDoor.StrLaw Go.Proofs.YteohmbannpbokaaGreatDoor.NatLaw
open Go.Proofs.YteohmbannpbokaaGreatDoor.PNatMul Go.Proofs.YteohmbannpbokaaGreatDoor.PNatCmp Go.Proofs.YteohmbannpbokaaGreatDoor.PPow10 Go.Proofs.YteohmbannpbokaaGreatDoor.PNatFrom
open Go.Proofs.YteohmbannpbokaaGreatDoor.PnatShort (spec_natShort.f spec_natShort.l0 spec_natShort.calls)
structure Rdv (w : World) (ok : Nat → Prop) (v : Value) (n : Nat) : Prop where
 mk :: (out : Kd.V (Kd.int .u32) 0 w 0 ok v (digs n))
section
variable {w w1 : World} {ok ok' : Nat → Prop} {v : Value} {n : Nat}
theorem Rdv.form (h : Rdv w ok v n) : ∃ A c, v = .slice A (digs n).length c ∧ (digs n).length ≤ c ∧ Kd.C (Kd.int .u32) w A (digs n).length (digs n) := by
 obtain ⟨A, c, e, hl, hf⟩ := h
 exact ⟨A, c, e, hl, Kd.F_now hf⟩
theorem Rdv.mono (h : Rdv w ok v n) (ho : ∀ k, ok k → ok' k) : Rdv w ok' v n := ⟨Kd.V_mono h.out ho⟩
theorem Rdv.bound (h : Rdv w ok v n) : Rdv w (fun k => ok k ∧ k < w.heap.size) v n := ⟨Kd.V_bound h.out⟩
theorem Rdv.below (h : Rdv w ok v n) (hb : Below w.heap.size w w1) : Rdv w1 ok v n := ⟨Kd.V_below h.out hb⟩
theorem Rdv.far (h : Rdv w ok v n) {p : Addr} (ho : ∀ k, ok k → k ≠ p.block) (u : Value) : Rdv (w.setCell p u) ok v n := ⟨Kd.V_far h.out ho u⟩
theorem Rdv.far2 {g : Nat} (h : Rdv w ok v n) (ho : ∀ k, ok k → k ≠ g) (x y : Value) : Rdv ((w.setCell ⟨g, 0, none⟩ x).setCell ⟨g, 1, none⟩ y) ok v n :=
 (h.far (p := ⟨g, 0, none⟩) ho x).far (p := ⟨g, 1, none⟩) ho y
theorem Rdv.far3 {g : Nat} (h : Rdv w ok v n) (ho : ∀ k, ok k → k ≠ g) (x y z : Value) : Rdv (((w.setCell ⟨g, 0, none⟩ x).setCell ⟨g, 1, none⟩ y).setCell ⟨g, 2, none⟩ z) ok v n :=
 (h.far2 ho x y).far (p := ⟨g, 2, none⟩) ho z
theorem Rdv.drew (h : Rdv w ok v n) : Rdv w.drew ok v n := ⟨Kd.V_drew h.out⟩
theorem Rdv.of_R {e base : Nat} (h : Kd.R (Kd.int .u32) e w base ok v (digs n)) : Rdv w (fun k => base ≤ k) v n :=
 have h1 : Kd.V (Kd.int .u32) e w 0 (fun k => base ≤ k) v (digs n) := Kd.R_V (Kd.R_mono (Kd.R_bound h) (fun _ hk => hk.2.1))
 ⟨h1⟩
theorem Rdv.of_V {e base : Nat} (h : Kd.V (Kd.int .u32) e w base ok v (digs n)) : Rdv w ok v n := ⟨h⟩
theorem Rdv.nil (w : World) : Rdv w (fun _ => False) (.slice none 0 0) 0 := ⟨by rw [digs_zero]; exact Kd.V_nil _ _ _ _ _⟩
end
theorem from_n (n : Nat) (w : World) (h : n < 18446744073709551616) : Calls Tryz.prog 36 #[.int .u64 n] w fun e w' => ∃ v, e = .returned v ∧ Rdv w' (fun k => w.heap.size ≤ k) v n ∧ Below w.heap.size w w' := by
 obtain ⟨k, hk⟩ := (from_ev n h).rounds
 refine (spec_NatFrom.calls k n (digs n) w hk).mono ?_
 rintro e w' ⟨v, rfl, hr, hb⟩
 exact ⟨v, rfl, Rdv.of_R hr, hb⟩
theorem pow10_n (n : Nat) (w : World) (h : n ≤ 1000000) : Calls Tryz.prog 13 #[.int .i64 n] w fun e w' => ∃ v, e = .returned v ∧ Rdv w' (fun k => w.heap.size ≤ k) v (10 ^ n) ∧ Below w.heap.size w w' := by
 obtain ⟨k, hk⟩ := (pow10_ev n h).rounds
 refine (spec_Pow10.calls k n (digs (10 ^ n)) w hk).mono ?_
 rintro e w' ⟨v, rfl, hr, hb⟩
 exact ⟨v, rfl, Rdv.of_R hr, hb⟩
theorem mul_n (a b : Nat) (oa ob : Nat → Prop) (v u : Value) (w : World) (hv : Rdv w oa v a) (hu : Rdv w ob u b) (hl : (digs a).length + (digs b).length ≤ 4000000000) :
   Calls Tryz.prog 37 #[v, u] w fun e w' => ∃ v, e = .returned v ∧ Rdv w' (fun k => w.heap.size ≤ k) v (a * b) ∧ Below w.heap.size w w' := by
 obtain ⟨A, c, rfl, hl0, hc0⟩ := hv.form
 obtain ⟨A1, c1, rfl, hl1, hc1⟩ := hu.form
 obtain ⟨k, hk⟩ := (mul_ev a b hl).rounds
 refine (spec_NatMul.calls k A c (digs a) A1 c1 (digs b) (digs (a * b)) w hc0 hl0 hc1 hl1 hk).mono ?_
 rintro e w' ⟨v, rfl, hr, hb⟩
 exact ⟨v, rfl, Rdv.of_V hr, hb⟩
theorem cmp_n (a b : Nat) (oa ob : Nat → Prop) (v u : Value) (w : World) (hv : Rdv w oa v a) (hu : Rdv w ob u b) (hl : (digs a).length ≤ 4000000000) :
   Calls Tryz.prog 38 #[v, u] w fun e w' => e = .returned (.int .i64 (cmpN a b)) ∧ Drawn0 w w' := by
 obtain ⟨A, c, rfl, hl0, hc0⟩ := hv.form
 obtain ⟨A1, c1, rfl, hl1, hc1⟩ := hu.form
 obtain ⟨k, hk⟩ := (cmp_ev a b hl).rounds
 exact spec_NatCmp.calls k A c (digs a) A1 c1 (digs b) _ w hc0 hl0 hc1 hl1 hk
theorem trim_n (l : List Int) (hd : Dig l) (hl : l.length ≤ 4000000000) (n : Nat) (hn : val l = n) (ok : Nat → Prop) (v : Value) (w : World) (hv : Kd.V (Kd.int .u32) 0 w 0 ok v l) :
   Calls Tryz.prog 40 #[v] w fun e w' => ∃ v, e = .returned v ∧ Rdv w' (fun k => ok k ∨ w.heap.size ≤ k) v n ∧ Below w.heap.size w w' := by
 obtain ⟨A, c, rfl⟩ := Kd.V_slice hv
 obtain ⟨k, hk⟩ := (trim_ev l.length l rfl hl hd n hn).rounds
 refine (spec_natTrim.calls k ok A c l (digs n) w hv hk).mono ?_
 rintro e w' ⟨v, rfl, hr, hb⟩
 exact ⟨v, rfl, Rdv.of_V hr, hb⟩
theorem short_n (n b : Nat) (oa : Nat → Prop) (v : Value) (w : World) (hv : Rdv w oa v n) (hb0 : 0 < b) (hb1 : b < 4294967296) (hl : (digs n).length ≤ 4000000000) :
   Calls Tryz.prog 39 #[v, .int .u32 b] w fun e w' => ∃ v, e = .returned (.tuple #[v, .int .u32 ((n % b : Nat) : Int)]) ∧ Rdv w' (fun k => w.heap.size ≤ k) v (n / b) ∧ Below w.heap.size w w' := by
 obtain ⟨A, c, rfl, hl0, hc0⟩ := hv.form
 obtain ⟨k, hk⟩ := (short_ev n b hb0 hb1 hl).rounds
 refine (spec_natShort.calls k A c (digs n) b _ _ w hc0 hl0 hk).mono ?_
 rintro e w' ⟨v, rfl, hr, hb⟩
 exact ⟨v, rfl, Rdv.of_V hr, hb⟩
theorem size_text {n : Nat} (h : n ≠ 0) : (text n).size = nd n := by
 rw [text_pos h]
 simp [strOfNums, ByteArray.size, dbyt_len]
end Go.Proofs.YteohmbannpbokaaGreatDoor.NatWalk
namespace Go.Proofs.YteohmbannpbokaaGreatDoor.TextWalk
open Go.RowKit Go.Proofs.YteohmbannpbokaaGreatDoorW.PrintWords Go.Proofs.YteohmbannpbokaaGreatDoorW.PrintLast Go.Proofs.YteohmbannpbokaaGreatDoorW.PrintMore Go.Proofs.YteohmbannpbokaaGreatDoor.Digs Go.Proofs.YteohmbannpbokaaGreatDoor.StrLaw Go.Proofs.YteohmbannpbokaaGreatDoor.NatLaw Go.Proofs.YteohmbannpbokaaGreatDoor.NatWalk Go.Proofs.YteohmbannpbokaaGreatDoor.TextLaw
theorem toList_len (s : ByteArray) : s.toList.length = s.size := by rw [ByteArray.toList_eq, Array.length_toList]; rfl
theorem infoU : (Tryz.prog.info? 44).map (fun i => (i.zero, i.size, i.bytes)) = some (some (.int .u32 0), 1, 4) := by kernel_rfl
set_option maxHeartbeats 4000000 in
set_option maxRecDepth 100000 in
theorem NatOf_n (s : ByteArray) (w : World) (hD : Digits s) (hl : s.size ≤ 1000000000) :
   Calls Tryz.prog 53 #[.string s] w fun e w' => ∃ v, e = .returned (.tuple #[v, .bool true]) ∧ Rdv w' (fun k => w.heap.size ≤ k) v (dnum s) ∧ Below w.heap.size w w' := by
 have HD := Aside0.mk hD
 have HB := Aside0.mk (Below.refl w.heap.size w)
 have hs1 : (s.size : Int) ≤ 1000000000 := by omega
 have hs0 : 0 < s.size := hD.pos
 have hne : s.toList.isEmpty = false := by
   rw [List.isEmpty_eq_false_iff]; intro h
   have h1 := toList_len s
   rw [h] at h1
   simp at h1
   omega
 have HNE := Aside0.mk hne
 clear hD hl hne
 go_enter Tryz.func53, Tryz.ntmps53
 go_wp2
 go_loopg [4, 5] (s.size + 20) (fun g v4 v5 w' => ∃ (out : List Int) (e : Int), v5 = .int .i64 e ∧ OfInv s out e ∧ Aside0 (e + 9 ≤ (g : Int)) ∧ Aside0 (Kd.R (Kd.int .u32) 44 w' w.heap.size (fun _ => True) v4 out) ∧ Aside0 (Below w.heap.size w w'))
 case atStart => exact ⟨[], s.size, rfl, OfInv.start s, ⟨by omega⟩, ⟨Kd.R_nil _ _ _ _ _⟩, HB⟩
 case round =>
   clear HB
   obtain ⟨out, e, rfl, HI, HG, HO, HB⟩ := hrel
   obtain ⟨b1, b2, b3⟩ := HI.bound
   have HX := Aside0.mk b3
   clear b3
   by_cases he : 0 < e
   · have HE := Aside0.mk he
     have hw9 : wrap64 (e - 9) = e - 9 := w64 _ (by omega) (by omega)
     have HI9 := Aside0.mk HI
     clear HI
     by_cases h9 : 0 < e - 9
     · have h9' : 9 < e := by omega
       obtain ⟨a, ha⟩ : ∃ a : Nat, (a : Int) = e - 9 := ⟨(e - 9).toNat, by omega⟩
       have HA := Aside0.mk (show (a : Int) = max 0 (e - 9) by omega)
       have HA2 := Aside0.mk ha
       clear ha
       have HE9 := Aside0.mk (show 0 < e by omega)
       go_wp2
       clear h9 h9'
       obtain ⟨G0, rfl⟩ : ∃ G0, G0 = gk := ⟨_, rfl⟩
       go_loopg [6, 7] 9 (fun g v6 v7 w' => ∃ (n i : Int), v6 = .int .u32 n ∧ v7 = .int .i64 i ∧ InInv s a n i ∧ Aside0 (i + (g : Int) ≤ (a : Int) + 9 ∧ i ≤ e ∧ e - i ≤ (g : Int)) ∧ Aside0 (Kd.R (Kd.int .u32) 44 w' w.heap.size (fun _ => True) u4 out) ∧ Aside0 (Below w.heap.size w w'))
       case atStart => exact ⟨0, e - 9, rfl, rfl, by rw [← HA2.out]; exact InInv.start s a, ⟨by have := HA2.out; simp; omega⟩, HO, HB⟩
       case round =>
         clear HB HO
         obtain ⟨n, i, rfl, rfl, HI, HM, HO, HB⟩ := hrel
         obtain ⟨c1, c2, c3, c4⟩ := HI.bound HD.out (by have := HM.out; omega) (by have := HM.out; omega)
         have c0 : 0 ≤ i := by omega
         have HC := Aside0.mk c1
         by_cases hie : i < e
         · have c5 := c4 (by have := HA.out; have := HE9.out; omega)
           have hall := HD.out.all i.toNat (by omega)
           rw [show ((i.toNat : Nat) : Int) = i by omega] at hall
           obtain ⟨d1, d2⟩ := hall
           have HI2 := Aside0.mk (HI.step HD.out (by omega))
           have hx := bt_at s i
           have p7 := eq_true c0
           have q7 := eq_true (show i < (s.size : Int) by omega)
           have hlt := hie
           clear HI c4
           generalize bt s i = y at *
           go_wp2
           go_roundg (gk - 1)
           case measure => have := HM.out; omega
           case rel => exact ⟨n * 10 + (y - 48), i + 1, rfl, rfl, HI2.out, ⟨by have := HM.out; omega⟩, HO, HB⟩
         · have HIE := Aside0.mk hie
           obtain ⟨k, hk, hn⟩ := HI.out
           have HST := Aside0.mk (HI9.out.step HD.out HE9.out (a := a) (k := k) (by have := HA.out; omega) (by have := HM.out; omega))
           rw [← hn] at HST
           clear HI c4 hk hn
           go_wp2_with (first | ((with_reducible refine gate_builtin (b := .append) (xs := #[.tmp 40, .tmp 42]) rfl ?_); at_builtin; refine Kd.R_append (Kd.int .u32) (w0 := w) w.heap.size rfl (.tmp 40) (.tmp 42) 24 44 (.int .u32 0) 4 rfl Tryz.underlying24 infoU rfl (by decide) (by omega) u4 out (n) [.int .u32 (n)] (fun _ => True) (fun _ => False) rfl rfl ?aP (fun _ hk => hk.elim) ?aF ?aO ?aB ?aS ?aL ?_; (case aP => exact rfl); (case aB => exact HB.out); (case aF => exact (fun _ _ => trivial)); (case aO => exact HO.out); (case aS => exact below_size HB.out); (case aL => (have := HX.out; omega)); intro v1 w1 ho hb hg hat; have HO1 := Aside0.mk ho; have HB1 := Aside0.mk hb; clear HB HO ho hb hg hat))
           go_roundg (G0 - 1)
           case measure => have := HG.out; have := HE9.out; omega
           case rel => exact ⟨_, e - 9, by first | rfl | rw [hw9], HST.out, ⟨by have := HG.out; have := HE9.out; omega⟩, HO1, HB1⟩
     · have h9' : e ≤ 9 := by omega
       obtain ⟨a, ha⟩ : ∃ a : Nat, a = 0 := ⟨0, rfl⟩
       have HA := Aside0.mk (show (a : Int) = max 0 (e - 9) by omega)
       have HA2 := Aside0.mk ha
       clear ha
       have HE9 := Aside0.mk (show 0 < e by have := HE.out; omega)
       go_wp2
       clear h9
       obtain ⟨G0, rfl⟩ : ∃ G0, G0 = gk := ⟨_, rfl⟩
       go_loopg [6, 7] 9 (fun g v6 v7 w' => ∃ (n i : Int), v6 = .int .u32 n ∧ v7 = .int .i64 i ∧ InInv s a n i ∧ Aside0 (i + (g : Int) ≤ (a : Int) + 9 ∧ i ≤ e ∧ e - i ≤ (g : Int)) ∧ Aside0 (Kd.R (Kd.int .u32) 44 w' w.heap.size (fun _ => True) u4 out) ∧ Aside0 (Below w.heap.size w w'))
       case atStart => exact ⟨0, 0, rfl, rfl, by have h := InInv.start s a; rw [HA2.out] at h ⊢; exact h, ⟨by have := HA2.out; simp; omega⟩, HO, HB⟩
       case round =>
         clear HB HO
         obtain ⟨n, i, rfl, rfl, HI, HM, HO, HB⟩ := hrel
         obtain ⟨c1, c2, c3, c4⟩ := HI.bound HD.out (by have := HM.out; omega) (by have := HM.out; omega)
         have c0 : 0 ≤ i := by omega
         have HC := Aside0.mk c1
         by_cases hie : i < e
         · have c5 := c4 (by have := HA.out; have := HE9.out; omega)
           have hall := HD.out.all i.toNat (by omega)
           rw [show ((i.toNat : Nat) : Int) = i by omega] at hall
           obtain ⟨d1, d2⟩ := hall
           have HI2 := Aside0.mk (HI.step HD.out (by omega))
           have hx := bt_at s i
           have p7 := eq_true c0
           have q7 := eq_true (show i < (s.size : Int) by omega)
           have hlt := hie
           clear HI c4
           generalize bt s i = y at *
           go_wp2
           go_roundg (gk - 1)
           case measure => have := HM.out; omega
           case rel => exact ⟨n * 10 + (y - 48), i + 1, rfl, rfl, HI2.out, ⟨by have := HM.out; omega⟩, HO, HB⟩
         · have HIE := Aside0.mk hie
           obtain ⟨k, hk, hn⟩ := HI.out
           have HST := Aside0.mk (HI9.out.step HD.out HE9.out (a := a) (k := k) (by have := HA.out; omega) (by have := HM.out; omega))
           rw [← hn] at HST
           clear HI c4 hk hn
           go_wp2_with (first | ((with_reducible refine gate_builtin (b := .append) (xs := #[.tmp 40, .tmp 42]) rfl ?_); at_builtin; refine Kd.R_append (Kd.int .u32) (w0 := w) w.heap.size rfl (.tmp 40) (.tmp 42) 24 44 (.int .u32 0) 4 rfl Tryz.underlying24 infoU rfl (by decide) (by omega) u4 out (n) [.int .u32 (n)] (fun _ => True) (fun _ => False) rfl rfl ?aP (fun _ hk => hk.elim) ?aF ?aO ?aB ?aS ?aL ?_; (case aP => exact rfl); (case aB => exact HB.out); (case aF => exact (fun _ _ => trivial)); (case aO => exact HO.out); (case aS => exact below_size HB.out); (case aL => (have := HX.out; omega)); intro v1 w1 ho hb hg hat; have HO1 := Aside0.mk ho; have HB1 := Aside0.mk hb; clear HB HO ho hb hg hat))
           go_roundg (G0 - 1)
           case measure => have := HG.out; have := HE9.out; omega
           case rel => exact ⟨_, e - 9, by first | rfl | rw [hw9], HST.out, ⟨by have := HG.out; have := HE9.out; omega⟩, HO1, HB1⟩
   · have HN := Aside0.mk (HI.done he)
     have hdg := HI.dig
     clear HI
     have HT := Aside0.mk (fun ok v w hv => trim_n out hdg (by have := HX.out; omega) (dnum s) HN.out ok v w hv)
     clear hdg
     have hV : Kd.V (Kd.int .u32) 44 wr 0 (fun k => w.heap.size ≤ k) u4 out := Kd.R_V (Kd.R_mono (Kd.R_bound HO.out) (fun _ hk => hk.2.1))
     have HV := Aside0.mk hV
     have hnn := HNE.out
     clear hV
     go_wp2_with (go_at_call 40; refine (HT.out _ _ _ HV.out).mono ?_; rintro e w1 ⟨z, rfl, hz, hb⟩; have HZ := Aside0.mk hz; have HB1 := Aside0.mk hb; clear hz hb)
     go_ret2
     exact ⟨z, by first | rfl | simp [HNE.out], HZ.out.mono (fun k hk => by have := HB.out.size; rcases hk with hk | hk <;> omega), below_step HB.out HB1.out⟩
end Go.Proofs.YteohmbannpbokaaGreatDoor.TextWalk
namespace Go.Proofs.YteohmbannpbokaaGreatDoor.Pone
open Go.RowKit Go.Proofs.YteohmbannpbokaaGreatDoorW.PrintWords Go.Proofs.YteohmbannpbokaaGreatDoorW.PrintLast Go.Proofs.YteohmbannpbokaaGreatDoorW.PrintMore
attribute [local go_sem] max2_int min2_int max_two min_two max_three min_three max_four min_four
set_option linter.unusedVariables false
set_option linter.unusedSimpArgs false
def errW : Option Int → Value
 | none => .nilIface
 | some c => .iface 0 (.int .i64 c)
theorem errW_none : errW none = .nilIface := rfl
theorem errW_some (c : Int) : errW (some c) = .iface 0 (.int .i64 c) := rfl
theorem info44 : (Tryz.prog.info? 44).map (fun i => (i.zero, i.size, i.bytes)) = some (some (.int .u32 0), 1, 4) := by kernel_rfl
end Go.Proofs.YteohmbannpbokaaGreatDoor.Pone
