/-
  Texts of numbers: a plain law, with no program in sight.
  Digits with a point among them: a plain law.
  The text of an exponent: what the specification's reading says is what the library's says. A plain law.
-/
import Derived.Test.YteohmbannpbokaaDoorLaws
import Derived.Test.YteohmbannpbokaaDoorWalks1
import Derived.Test.YteohmbannpbokaaDoorPzzReplaceAllx1
import Derived.Test.YteohmbannpbokaaDoorPparseInt64SkipIndexx1
import Derived.Test.YteohmbannpbokaaDoorPteShortx1
import Derived.Lib.ParseIntB
set_option linter.unusedVariables false
set_option linter.unusedSimpArgs false
namespace Go.Proofs.YteohmbannpbokaaDoor.ParseLaw
open Go.RowKit Go.Proofs.YteohmbannpbokaaDoorW.PrintWords Go.Proofs.YteohmbannpbokaaDoor.StrLaw Go.Proofs.YteohmbannpbokaaDoor.TextLaw Go.Proofs.YteohmbannpbokaaDoor.SpecWalk
open Go.Proofs.YteohmbannpbokaaDoor.PzzReplaceAll Go.Proofs.YteohmbannpbokaaDoor.PparseInt64SkipIndex

theorem bt_lt {s : ByteArray} {i : Nat} (h : i < s.size) : bt s i = ((s[i]'h).toNat : Int) := by
  unfold bt
  rw [dif_pos (by simpa using h)]
  simp
theorem bt_ge {s : ByteArray} {i : Nat} (h : ¬ i < s.size) : bt s i = 0 := by
  unfold bt
  rw [dif_neg (by simpa using h)]
theorem size_extract {s : ByteArray} {a b : Nat} (h : b ≤ s.size) : (s.extract a b).size = b - a := by
  rw [ByteArray.size_extract, Nat.min_eq_left h]
theorem bt_extract {s : ByteArray} {a b i : Nat} (h : b ≤ s.size) (hi : i < b - a) : bt (s.extract a b) i = bt s ((a + i : Nat) : Int) := by
  have h1 : i < (s.extract a b).size := by rw [size_extract h]; exact hi
  rw [bt_lt h1, bt_lt (show a + i < s.size by omega)]
  congr 2
  exact ByteArray.getElem_extract h1
theorem bt_append {s t : ByteArray} {i : Nat} (h : i < s.size + t.size) : bt (s ++ t) i = if i < s.size then bt s i else bt t ((i - s.size : Nat) : Int) := by
  have h1 : i < (s ++ t).size := by rw [ByteArray.size_append]; exact h
  rw [bt_lt h1]
  by_cases hi : i < s.size
  · rw [if_pos hi, bt_lt hi, ByteArray.getElem_append_left hi]
  · rw [if_neg hi, bt_lt (show i - s.size < t.size by omega), ByteArray.getElem_append_right (by omega)]
theorem ext_bt {s t : ByteArray} (h : s.size = t.size) (hb : ∀ i : Nat, i < s.size → bt s i = bt t i) : s = t := by
  apply ByteArray.ext
  apply Array.ext
  · exact h
  · intro i h1 h2
    have := hb i h1
    rw [bt_lt (show i < s.size from h1), bt_lt (show i < t.size from h2)] at this
    refine UInt8.toNat_inj.1 ?_
    have h3 : (s[i]'(show i < s.size from h1)).toNat = (t[i]'(show i < t.size from h2)).toNat := by omega
    exact h3
theorem ofNums_bytes (s : ByteArray) : strOfNums (bytesOf s) = s := by
  refine ext_bt (by rw [strOfNums_size, bytesOf_length]) (fun i hi => ?_)
  rw [strOfNums_size, bytesOf_length] at hi
  rw [bt_nums _ ?_ i (by rw [bytesOf_length]; exact hi)]
  · have := rd_bytesOf s i
    rw [← this]
    unfold rd
    simp [List.getD_eq_getElem?_getD, bytesOf_length, hi]
  · intro x hx
    obtain ⟨b, _, rfl⟩ := List.mem_map.1 hx
    have := b.toNat_lt
    omega
/-- All bytes are ASCII's. -/
structure Ascii (t : ByteArray) : Prop where
  mk :: (all : ∀ i : Nat, i < t.size → bt t i < 128)
theorem first_of {s : ByteArray} {a b c : UInt8} (h : s.toList = [a, b, c]) : bt s 0 = (a.toNat : Int) := by
  have hs : s.data.toList = [a, b, c] := by rw [← ByteArray.toList_eq]; exact h
  have h2 : s = ⟨#[a, b, c]⟩ := by
    apply ByteArray.ext
    rw [← Array.toList_inj]
    exact hs
  rw [h2]
  rfl
theorem take_bytes (t : ByteArray) (i : Nat) (hi : i < t.size) : (bytesOf t).take i ++ [bt t i] = (bytesOf t).take (i + 1) := by
  rw [List.take_succ_eq_append_getElem (by rw [bytesOf_length]; exact hi), ← rd_bytesOf]
  congr 2
  unfold rd
  simp [bytesOf_length, hi]
theorem repl_ev (t : ByteArray) (hA : Ascii t) (hs : t.size ≤ 2147483647) : ∀ (d i : Nat), i + d = t.size → Ev (fun k => shopspring_zzReplaceAll.l0 k t ⟨#[226, 136, 146]⟩ ⟨#[45]⟩ ((bytesOf t).take i) i) t := by
  intro d
  induction d with
  | zero =>
    intro i hi
    refine Ev.step (f := fun _ => some t) (fun k => ?_) (Ev.now _)
    simp only [shopspring_zzReplaceAll.l0]
    rw [if_neg (by omega), List.take_of_length_le (by rw [bytesOf_length]; omega), ofNums_bytes]
  | succ d ih =>
    intro i hi
    refine Ev.step (f := fun k => shopspring_zzReplaceAll.l0 k t ⟨#[226, 136, 146]⟩ ⟨#[45]⟩ ((bytesOf t).take (i + 1)) ((i + 1 : Nat) : Int)) (fun k => ?_) (ih (i + 1) (by omega))
    have h3 : (((⟨#[226, 136, 146]⟩ : ByteArray).size : Nat) : Int) = 3 := rfl
    have hl : ((bytesOf t).take i).length < 140737488355328 := by rw [List.length_take, bytesOf_length]; omega
    have hw : wrap64 ((i : Int) + 3) = (i : Int) + 3 := Digs.w64 _ (by omega) (by omega)
    have hw1 : wrap64 ((i : Int) + 1) = ((i + 1 : Nat) : Int) := by rw [Digs.w64 _ (by omega) (by omega)]; omega
    simp only [shopspring_zzReplaceAll.l0, h3, hw, hw1, take_bytes t i (show i < t.size by omega)]
    rw [if_pos (by omega)]
    by_cases h4 : (i : Int) + 3 ≤ t.size
    · have hne : ¬ (t.extract ((i : Int)).toNat ((i : Int) + 3).toNat).toList = (⟨#[226, 136, 146]⟩ : ByteArray).toList := by
        intro he
        have he2 : (t.extract i (i + 3)).toList = [226, 136, 146] := by
          have e1 : ((i : Int)).toNat = i := by omega
          have e2 : ((i : Int) + 3).toNat = i + 3 := by omega
          rw [e1, e2] at he
          rw [he, ByteArray.toList_eq]
        have h5 := first_of he2
        have h6 : bt (t.extract i (i + 3)) 0 = bt t i := by
          have := bt_extract (s := t) (a := i) (b := i + 3) (i := 0) (by omega) (by omega)
          simpa using this
        have h7 := hA.all i (by omega)
        rw [← h6, h5] at h7
        exact absurd h7 (by decide)
      rw [if_pos h4, if_pos (by omega), if_pos (by omega), if_neg hne, if_pos hl]
    · rw [if_neg h4, if_pos (by omega), if_pos hl]
theorem repl_all (t : ByteArray) (hA : Ascii t) (hs : t.size ≤ 2147483647) : Ev (fun k => shopspring_zzReplaceAll.f k t ⟨#[226, 136, 146]⟩ ⟨#[45]⟩) t := by
  refine Ev.congr (fun k => ?_) (repl_ev t hA hs t.size 0 (by omega))
  simp [shopspring_zzReplaceAll.f]
end Go.Proofs.YteohmbannpbokaaDoor.ParseLaw

set_option linter.unusedVariables false
set_option linter.unusedSimpArgs false
namespace Go.Proofs.YteohmbannpbokaaDoor.ParseLaw
open Go.RowKit Go.Proofs.YteohmbannpbokaaDoorW.PrintWords Go.Proofs.YteohmbannpbokaaDoor.StrLaw Go.Proofs.YteohmbannpbokaaDoor.TextLaw Go.Proofs.YteohmbannpbokaaDoor.SpecWalk
open Go.Proofs.YteohmbannpbokaaDoor.PzzReplaceAll Go.Proofs.YteohmbannpbokaaDoor.PparseInt64SkipIndex

/-- The number of k bytes from place a on, without place pt. -/
def dskip (t : ByteArray) (pt : Int) (a : Nat) : Nat → Nat
  | 0 => 0
  | k + 1 => if ((a + k : Nat) : Int) = pt then dskip t pt a k else dskip t pt a k * 10 + dgt t (a + k)
/-- How many of them are digits. -/
def dcnt (pt : Int) (a : Nat) : Nat → Nat
  | 0 => 0
  | k + 1 => if ((a + k : Nat) : Int) = pt then dcnt pt a k else dcnt pt a k + 1
theorem dcnt_out {pt : Int} {a : Nat} : ∀ k, (pt < a ∨ ((a + k : Nat) : Int) ≤ pt) → dcnt pt a k = k := by
  intro k
  induction k with
  | zero => intro _; rfl
  | succ k ih =>
    intro h
    rw [dcnt, if_neg (by omega), ih (by omega)]
theorem dcnt_in {pt : Int} {a : Nat} : ∀ k, (a : Int) ≤ pt → pt < ((a + k : Nat) : Int) → dcnt pt a k + 1 = k := by
  intro k
  induction k with
  | zero => intro h1 h2; omega
  | succ k ih =>
    intro h1 h2
    rw [dcnt]
    by_cases h : ((a + k : Nat) : Int) = pt
    · rw [if_pos h, dcnt_out k (by omega)]
    · rw [if_neg h, ih h1 (by omega)]
/-- Digits from a place on to another, but for the point. -/
structure DigsPt (t : ByteArray) (pt : Int) (a m : Nat) : Prop where
  mk :: (all : ∀ i : Nat, a ≤ i → i < m → (i : Int) ≠ pt → 48 ≤ bt t i ∧ bt t i ≤ 57)
theorem DigsPt.at_ {t : ByteArray} {pt : Int} {a m : Nat} (h : DigsPt t pt a m) {i : Nat} (h0 : a ≤ i) (h1 : i < m) (h2 : (i : Int) ≠ pt) : bt t i = 48 + (dgt t i : Int) ∧ dgt t i ≤ 9 := by
  have := h.all i h0 h1 h2
  unfold TextLaw.dgt
  omega
theorem dskip_lt {t : ByteArray} {pt : Int} {a m : Nat} (h : DigsPt t pt a m) : ∀ k, a + k ≤ m → dskip t pt a k < 10 ^ dcnt pt a k := by
  intro k
  induction k with
  | zero => intro _; simp [dskip, dcnt]
  | succ k ih =>
    intro hk
    have h1 := ih (by omega)
    rw [dskip, dcnt]
    by_cases h2 : ((a + k : Nat) : Int) = pt
    · rw [if_pos h2, if_pos h2]; exact h1
    · rw [if_neg h2, if_neg h2, Nat.pow_succ]
      have := (h.at_ (i := a + k) (by omega) (by omega) h2).2
      omega
theorem dskip_same {t v : ByteArray} {pt : Int} {a : Nat} : ∀ k, (∀ i : Nat, a ≤ i → i < a + k → bt v i = bt t i) → dskip v pt a k = dskip t pt a k := by
  intro k
  induction k with
  | zero => intro _; rfl
  | succ k ih =>
    intro h
    rw [dskip, dskip, ih (fun i h1 h2 => h i h1 (by omega))]
    unfold dgt
    rw [h (a + k) (by omega) (by omega)]
/-- Another count of the places. -/
theorem dskip_shift {t v : ByteArray} {pt : Int} {a b : Nat} : ∀ k, (∀ i : Nat, i < k → bt v ((a + i : Nat) : Int) = bt t ((b + i : Nat) : Int)) → dskip v (pt + a) a k = dskip t (pt + b) b k := by
  intro k
  induction k with
  | zero => intro _; rfl
  | succ k ih =>
    intro h
    have e : (((a + k : Nat) : Int) = pt + a) ↔ (((b + k : Nat) : Int) = pt + b) := by omega
    rw [dskip, dskip, ih (fun i h1 => h i (by omega))]
    unfold dgt
    rw [h k (by omega)]
    by_cases h2 : ((a + k : Nat) : Int) = pt + a
    · rw [if_pos h2, if_pos (e.1 h2)]
    · rw [if_neg h2, if_neg (fun h3 => h2 (e.2 h3))]
/-- No point. -/
theorem dskip_none {t : ByteArray} {pt : Int} {a : Nat} : ∀ k, (pt < a ∨ ((a + k : Nat) : Int) ≤ pt) → dskip t pt a k = dseg t a k := by
  intro k
  induction k with
  | zero => intro _; rfl
  | succ k ih =>
    intro h
    rw [dskip, dseg, if_neg (by omega), ih (by omega)]
theorem dskip_add {t : ByteArray} {pt : Int} {a j : Nat} : ∀ k, ((a + j : Nat) : Int) > pt → dskip t pt a (j + k) = dskip t pt a j * 10 ^ k + dseg t (a + j) k := by
  intro k
  induction k with
  | zero => intro _; simp [dseg]
  | succ k ih =>
    intro h
    rw [← Nat.add_assoc, dskip, if_neg (by omega), ih h, dseg, Nat.pow_succ, Nat.add_mul, Nat.add_assoc, ← Nat.mul_assoc, Nat.add_assoc a j k]

theorem dskip_pt {v : ByteArray} {pt : Int} {a k : Nat} (h : ((a + k : Nat) : Int) = pt) : dskip v pt a (k + 1) = dskip v pt a k := by rw [dskip, if_pos h]
theorem dskip_dg {v : ByteArray} {pt : Int} {a k : Nat} (h : ¬ ((a + k : Nat) : Int) = pt) : dskip v pt a (k + 1) = dskip v pt a k * 10 + dgt v (a + k) := by rw [dskip, if_neg h]
theorem dcnt_pt {pt : Int} {a k : Nat} (h : ((a + k : Nat) : Int) = pt) : dcnt pt a (k + 1) = dcnt pt a k := by rw [dcnt, if_pos h]
theorem dcnt_dg {pt : Int} {a k : Nat} (h : ¬ ((a + k : Nat) : Int) = pt) : dcnt pt a (k + 1) = dcnt pt a k + 1 := by rw [dcnt, if_neg h]
theorem sint_wrap (b : Bool) (N : Nat) (h : N < 1000000000000000000) : (if b = true then wrap64 (-(N : Int)) else (N : Int)) = if b then -(N : Int) else N := by
  cases b
  · rfl
  · simp only [if_true]
    exact Digs.w64 _ (by omega) (by omega)
theorem parse64_ev (v : ByteArray) (pt : Int) (sg : Nat) (neg : Bool) (hD : DigsPt v pt sg v.size) (hs : v.size ≤ 1000) (hc : dcnt pt sg (v.size - sg) ≤ 18) : ∀ (d k : Nat), sg + k + d = v.size →
    Ev (fun n => shopspring_parseInt64SkipIndex.l0 n v pt ((sg + k : Nat) : Int) neg (dskip v pt sg k) (dcnt pt sg k)) ((if neg then -((dskip v pt sg (v.size - sg) : Nat) : Int) else ((dskip v pt sg (v.size - sg) : Nat) : Int)), decide (((dcnt pt sg (v.size - sg) : Nat) : Int) > 0)) := by
  have hmono : ∀ k j, dcnt pt sg k ≤ dcnt pt sg (k + j) := by
    intro k j
    induction j with
    | zero => exact Nat.le_refl _
    | succ j ih => rw [← Nat.add_assoc, dcnt]; split <;> omega
  have hle : ∀ k, sg + k ≤ v.size → dcnt pt sg k ≤ 18 ∧ dskip v pt sg k < 1000000000000000000 := by
    intro k hk
    have h1 := hmono k (v.size - sg - k)
    rw [show k + (v.size - sg - k) = v.size - sg by omega] at h1
    have h2 := dskip_lt hD k hk
    have h3 : 10 ^ dcnt pt sg k ≤ 10 ^ 18 := Nat.pow_le_pow_right (by decide) (by omega)
    omega
  intro d
  induction d with
  | zero =>
    intro k hk
    have hk2 : k = v.size - sg := by omega
    obtain ⟨h1, h2⟩ := hle k (by omega)
    refine Ev.step (f := fun _ => some _) (fun n => ?_) (Ev.now _)
    simp only [shopspring_parseInt64SkipIndex.l0]
    rw [if_neg (by omega), ← hk2, ← sint_wrap neg _ h2]
    cases neg
    · rw [if_neg (by decide), if_neg (by decide)]
    · rw [if_pos rfl, if_pos rfl]
  | succ d ih =>
    intro k hk
    obtain ⟨h1, h2⟩ := hle k (by omega)
    obtain ⟨h3, h4⟩ := hle (k + 1) (by omega)
    refine Ev.step (fun n => ?_) (ih (k + 1) (by omega))
    have hw1 : wrap64 (((sg + k : Nat) : Int) + 1) = ((sg + (k + 1) : Nat) : Int) := by rw [Digs.w64 _ (by omega) (by omega)]; omega
    simp only [shopspring_parseInt64SkipIndex.l0, hw1]
    rw [if_pos (by omega)]
    by_cases hp : ((sg + k : Nat) : Int) = pt
    · have e1 : dskip v pt sg (k + 1) = dskip v pt sg k := dskip_pt hp
      have e2 : dcnt pt sg (k + 1) = dcnt pt sg k := dcnt_pt hp
      rw [if_pos hp, e1, e2]
    · have e1 : dskip v pt sg (k + 1) = dskip v pt sg k * 10 + dgt v (sg + k) := dskip_dg hp
      have e2 : dcnt pt sg (k + 1) = dcnt pt sg k + 1 := dcnt_dg hp
      obtain ⟨hb, h9⟩ := hD.at_ (i := sg + k) (by omega) (by omega) hp
      have g0 : (0 : Int) ≤ ((sg + k : Nat) : Int) := Int.natCast_nonneg _
      have g1 : ¬ bt v ((sg + k : Nat) : Int) < 48 := by rw [hb]; clear h4 h3 e1 e2; omega
      have g2 : ¬ bt v ((sg + k : Nat) : Int) > 57 := by rw [hb]; clear h4 h3 e1 e2; omega
      rw [e1] at h4
      have hwn : wrap64 (wrap64 (((dskip v pt sg k : Nat) : Int) * 10) + (bt v ((sg + k : Nat) : Int) - 48) % 256) = ((dskip v pt sg k * 10 + dgt v (sg + k) : Nat) : Int) := by
        rw [hb, Digs.w64 (((dskip v pt sg k : Nat) : Int) * 10) (by omega) (by omega), Digs.w64 _ (by omega) (by omega)]
        omega
      have hwc : wrap64 (((dcnt pt sg k : Nat) : Int) + 1) = ((dcnt pt sg k + 1 : Nat) : Int) := by rw [Digs.w64 _ (by omega) (by omega)]; omega
      rw [if_neg hp, if_pos g0, if_neg g1, if_neg g2, hwn, hwc, e1, e2]
/-- The sign that a text begins with, and its length. -/
structure Sgn (v : ByteArray) (sg : Nat) (neg : Bool) : Prop where
  mk :: (out : (sg = 1 ∧ 0 < v.size ∧ ((bt v 0 = 45 ∧ neg = true) ∨ (bt v 0 = 43 ∧ neg = false))) ∨ (sg = 0 ∧ neg = false ∧ bt v 0 ≠ 45 ∧ bt v 0 ≠ 43))
theorem parse64_all (v : ByteArray) (pt : Int) (sg : Nat) (neg : Bool) (hS : Sgn v sg neg) (hD : DigsPt v pt sg v.size) (hs : v.size ≤ 1000) (hc : dcnt pt sg (v.size - sg) ≤ 18) (hp : pt = 0 → sg = 0) (hsz : sg ≤ v.size) :
    Ev (fun n => shopspring_parseInt64SkipIndex.f n v pt) ((if neg then -((dskip v pt sg (v.size - sg) : Nat) : Int) else ((dskip v pt sg (v.size - sg) : Nat) : Int)), decide (((dcnt pt sg (v.size - sg) : Nat) : Int) > 0)) := by
  have h := parse64_ev v pt sg neg hD hs hc (v.size - sg) 0 (by omega)
  have h1 : Ev (fun n => shopspring_parseInt64SkipIndex.j1 n v pt (sg : Int) neg) _ := Ev.step (fun n => by simp [shopspring_parseInt64SkipIndex.j1, dskip, dcnt]) h
  rcases hS.out with ⟨rfl, hpos, hcase⟩ | ⟨rfl, rfl, h45, h43⟩
  · have hp0 : ¬ pt = 0 := fun h => by have := hp h; omega
    rcases hcase with ⟨hb, rfl⟩ | ⟨hb, rfl⟩
    · have h2 : Ev (fun n => shopspring_parseInt64SkipIndex.j0 n v pt 0 false true) _ := Ev.step (fun n => by simp only [shopspring_parseInt64SkipIndex.j0]; rw [if_pos trivial, if_pos (by omega), hb]; rfl) h1
      refine Ev.congr (fun n => ?_) h2
      simp only [shopspring_parseInt64SkipIndex.f]
      rw [if_pos (by omega), if_neg hp0, if_pos (by omega), if_neg (by rw [hb]; decide), hb]
      rfl
    · have h2 : Ev (fun n => shopspring_parseInt64SkipIndex.j0 n v pt 0 false true) _ := Ev.step (fun n => by simp only [shopspring_parseInt64SkipIndex.j0]; rw [if_pos trivial, if_pos (by omega), hb]; rfl) h1
      refine Ev.congr (fun n => ?_) h2
      simp only [shopspring_parseInt64SkipIndex.f]
      rw [if_pos (by omega), if_neg hp0, if_pos (by omega), if_pos hb]
  · have h2 : Ev (fun n => shopspring_parseInt64SkipIndex.j0 n v pt 0 false false) _ := Ev.step (fun n => by simp only [shopspring_parseInt64SkipIndex.j0]; rw [if_neg (by decide)]; rfl) h1
    have hb2 : (bt v 0 == 45) = false := beq_eq_false_iff_ne.mpr h45
    refine Ev.congr (fun n => ?_) h2
    simp only [shopspring_parseInt64SkipIndex.f]
    by_cases hz : (v.size : Int) > 0
    · rw [if_pos hz]
      by_cases hp0 : pt = 0
      · rw [if_pos hp0]
      · rw [if_neg hp0, if_pos (by omega), if_neg h43, hb2]
    · rw [if_neg hz]
end Go.Proofs.YteohmbannpbokaaDoor.ParseLaw

set_option linter.unusedVariables false
set_option linter.unusedSimpArgs false
namespace Go.Proofs.YteohmbannpbokaaDoor.ParseLaw
open Go.RowKit Go.Proofs.YteohmbannpbokaaDoorW.PrintWords Go.Proofs.YteohmbannpbokaaDoor.StrLaw Go.Proofs.YteohmbannpbokaaDoor.TextLaw Go.Proofs.YteohmbannpbokaaDoor.SpecWalk
open Go.Proofs.YteohmbannpbokaaDoor.PteShort

theorem dseg_mono (d : ByteArray) (a j k : Nat) : dseg d a j ≤ dseg d a (j + k) := by
  rw [dseg_add]
  have : dseg d a j * 1 ≤ dseg d a j * 10 ^ k := Nat.mul_le_mul_left _ (Nat.pow_pos (by decide))
  omega
theorem list_drop {d : ByteArray} {k : Nat} (h : k < d.size) : d.data.toList.drop k = d[k] :: d.data.toList.drop (k + 1) := by
  have h1 : k < d.data.toList.length := by simpa using h
  rw [List.drop_eq_getElem_cons h1]
  rfl
/-- The library's reading of digits. -/
theorem parseM (d : ByteArray) (hd : ∀ i : Nat, i < d.size → 48 ≤ bt d i ∧ bt d i ≤ 57) (hb : dseg d 0 d.size ≤ 999999999) : ∀ n k : Nat, k + n = d.size → Lib.parseUintM 4294967295 (dseg d 0 k) (d.data.toList.drop k) = .ok (dseg d 0 d.size) := by
  intro n
  induction n with
  | zero =>
    intro k hk
    rw [List.drop_of_length_le (by simp; omega), Lib.parseUintM, show k = d.size by omega]
  | succ n ih =>
    intro k hk
    have hkl : k < d.size := by omega
    have h1 := hd k hkl
    have h2 : dseg d 0 (k + 1) = dseg d 0 k * 10 + (d[k].toNat - 48) := by
      rw [dseg, Nat.zero_add]
      unfold dgt
      rw [bt_lt hkl]
      omega
    have h3 := dseg_mono d 0 k (d.size - k)
    have h4 := dseg_mono d 0 (k + 1) (d.size - (k + 1))
    rw [show k + (d.size - k) = d.size by omega] at h3
    rw [show k + 1 + (d.size - (k + 1)) = d.size by omega] at h4
    rw [bt_lt hkl] at h1
    rw [list_drop hkl, Lib.parseUintM, if_pos (by omega), if_neg (by omega), if_neg (by omega), ← h2]
    exact ih (k + 1) (by omega)
/-- What the reading of an exponent's digits says. -/
structure ExpOk (d : ByteArray) (neg : Bool) (n : Int) (ok : Bool) : Prop where
  mk :: (good : ok = true → (∀ i : Nat, i < d.size → 48 ≤ bt d i ∧ bt d i ≤ 57) ∧ dseg d 0 d.size ≤ 999999999 ∧ 0 < d.size ∧ n = if neg then -((dseg d 0 d.size : Nat) : Int) else ((dseg d 0 d.size : Nat) : Int)) (range : -1000000000 ≤ n ∧ n ≤ 1000000000)
theorem exp_l (d : ByteArray) (neg : Bool) (hs : d.size ≤ 2147483647) : ∀ m i : Nat, i + m = d.size → (∀ j : Nat, j < i → 48 ≤ bt d j ∧ bt d j ≤ 57) → dseg d 0 i ≤ 999999999 → ∃ n ok, Ev (fun k => spec_exponent.l0 k d neg ((dseg d 0 i : Nat) : Int) (i : Int)) (n, ok) ∧ ExpOk d neg n ok := by
  intro m
  induction m with
  | zero =>
    intro i hi hd hb
    have hil : i = d.size := by omega
    subst hil
    have hfin : (d.toList != ([] : List UInt8)) = true → 0 < d.size := by
      intro h
      apply Classical.byContradiction
      intro h0
      have h1 : d.toList.length = 0 := by rw [ByteArray.toList_eq, Array.length_toList]; exact Nat.eq_zero_of_not_pos h0
      rw [List.length_eq_zero_iff] at h1
      rw [h1] at h
      exact absurd h (by decide)
    refine ⟨if neg then -((dseg d 0 d.size : Nat) : Int) else ((dseg d 0 d.size : Nat) : Int), (d.toList != ([] : List UInt8)), Ev.step (f := fun _ => some _) (fun k => ?_) (Ev.now _), fun h => ⟨hd, hb, hfin h, rfl⟩, by cases neg <;> simp <;> omega⟩
    have hw : wrap64 (-((dseg d 0 d.size : Nat) : Int)) = -((dseg d 0 d.size : Nat) : Int) := Digs.w64 _ (by omega) (by omega)
    simp only [spec_exponent.l0, hw]
    rw [if_neg (by omega)]
    cases neg
    · rw [if_neg (by decide), if_neg (by decide)]
    · rw [if_pos rfl, if_pos rfl]
  | succ m ih =>
    intro i hi hd hb
    have hil : i < d.size := by omega
    have hii : (i : Int) < (d.size : Int) := by omega
    have hi0 : (0 : Int) ≤ (i : Int) := Int.natCast_nonneg _
    have hbad : ∀ (hq : ∀ k, spec_exponent.l0 (k + 1) d neg ((dseg d 0 i : Nat) : Int) (i : Int) = some (0, false)), ∃ n ok, Ev (fun k => spec_exponent.l0 k d neg ((dseg d 0 i : Nat) : Int) (i : Int)) (n, ok) ∧ ExpOk d neg n ok := fun hq => ⟨0, false, Ev.step (f := fun _ => some _) hq (Ev.now _), ⟨fun h => absurd h (by decide), by decide⟩⟩
    by_cases h1 : bt d (i : Int) < 48
    · exact hbad (fun k => by simp only [spec_exponent.l0]; rw [if_pos hii, if_pos hi0, if_pos h1])
    · by_cases h2 : bt d (i : Int) > 57
      · exact hbad (fun k => by simp only [spec_exponent.l0]; rw [if_pos hii, if_pos hi0, if_neg h1, if_pos h2])
      · by_cases h3 : ((dseg d 0 i : Nat) : Int) > 99999999
        · exact hbad (fun k => by simp only [spec_exponent.l0]; rw [if_pos hii, if_pos hi0, if_neg h1, if_neg h2, if_pos h3])
        · have h4 : dseg d 0 (i + 1) = dseg d 0 i * 10 + dgt d i := by rw [dseg, Nat.zero_add]
          have h5 : bt d (i : Int) = 48 + (dgt d i : Int) ∧ dgt d i ≤ 9 := by unfold dgt; omega
          obtain ⟨n, ok, h6, h7⟩ := ih (i + 1) (by omega) (fun j hj => by
            by_cases hji : j = i
            · subst hji; omega
            · exact hd j (by omega)) (by omega)
          refine ⟨n, ok, Ev.step (fun k => ?_) h6, h7⟩
          have hw1 : wrap64 ((i : Int) + 1) = ((i + 1 : Nat) : Int) := by rw [Digs.w64 _ (by omega) (by omega)]; omega
          have hwn : wrap64 (wrap64 (((dseg d 0 i : Nat) : Int) * 10) + (bt d (i : Int) - 48) % 256) = ((dseg d 0 (i + 1) : Nat) : Int) := by
            rw [Digs.w64 (((dseg d 0 i : Nat) : Int) * 10) (by omega) (by omega), Digs.w64 _ (by omega) (by omega)]
            omega
          simp only [spec_exponent.l0]
          rw [if_pos hii, if_pos hi0, if_neg h1, if_neg h2, if_neg h3, hw1, hwn]
/-- The text of an exponent, as the library reads it. -/
structure ExpText (s : ByteArray) (n : Int) : Prop where
  mk :: (lib : Lib.parseIntB 32 s.data.toList = .ok n) (chars : ∀ i : Nat, i < s.size → bt s i < 128 ∧ bt s i ≠ 69 ∧ bt s i ≠ 101 ∧ bt s i ≠ 46)
theorem lib_of (d : ByteArray) (hd : ∀ i : Nat, i < d.size → 48 ≤ bt d i ∧ bt d i ≤ 57) (hb : dseg d 0 d.size ≤ 999999999) (hp : 0 < d.size) : Lib.parseUintB 32 d.data.toList = .ok (dseg d 0 d.size) := by
  have hne : d.data.toList ≠ [] := by
    intro h
    have h2 : d.data.toList.length = d.size := by rw [Array.length_toList]; rfl
    rw [h, List.length_nil] at h2
    omega
  have h := parseM d hd hb d.size 0 (by omega)
  rw [List.drop_zero] at h
  unfold Lib.parseUintB
  rw [if_neg hne]
  exact h
theorem exp_all (s : ByteArray) (hs : s.size ≤ 2147483647) : ∃ n ok, Ev (fun k => spec_exponent.f k s) (n, ok) ∧ (ok = true → ExpText s n) ∧ (-1000000000 ≤ n ∧ n ≤ 1000000000) := by
  have hl : s.toList.length = s.size := by rw [ByteArray.toList_eq, Array.length_toList]; rfl
  by_cases h0 : s.size = 0
  · have he : s.toList = [] := List.length_eq_zero_iff.1 (by omega)
    obtain ⟨n, ok, h1, h2⟩ := exp_l s false hs s.size 0 (by omega) (fun j hj => by omega) (by simp [dseg])
    refine ⟨n, ok, ?_, fun h => by have := (h2.good h).2.2.1; omega, h2.range⟩
    have e1 : Ev (fun k => spec_exponent.j2 k s false) (n, ok) := Ev.step (fun k => by simp [spec_exponent.j2, dseg]) h1
    have e2 : Ev (fun k => spec_exponent.j1 k s false false) (n, ok) := Ev.step (fun k => by simp [spec_exponent.j1]) e1
    have e3 : Ev (fun k => spec_exponent.j0 k s false) (n, ok) := Ev.step (fun k => by simp only [spec_exponent.j0]; rw [if_pos he]) e2
    exact Ev.congr (fun k => by simp only [spec_exponent.f]; rw [if_pos he]) e3
  · have he : ¬ s.toList = [] := fun h => by rw [h] at hl; simp at hl; omega
    have hp : (0 : Int) < (s.size : Int) := by omega
    have hp1 : (1 : Int) ≤ (s.size : Int) := by omega
    by_cases hsg : bt s 0 = 45 ∨ bt s 0 = 43
    · -- a sign
      have hsz : (s.extract 1 s.size).size = s.size - 1 := size_extract (Nat.le_refl _)
      have hb : ∀ i : Nat, i < s.size - 1 → bt (s.extract 1 s.size) i = bt s ((1 + i : Nat) : Int) := fun i hi => bt_extract (Nat.le_refl _) hi
      obtain ⟨n, ok, h1, h2⟩ := exp_l (s.extract 1 s.size) (bt s 0 == 45) (by omega) (s.size - 1) 0 (by omega) (fun j hj => by omega) (by simp [dseg])
      refine ⟨n, ok, ?_, fun h => ?_, h2.range⟩
      · have e1 : Ev (fun k => spec_exponent.j2 k (s.extract 1 s.size) (bt s 0 == 45)) (n, ok) := Ev.step (fun k => by simp [spec_exponent.j2, dseg]) h1
        have e2 : Ev (fun k => spec_exponent.j1 k s (bt s 0 == 45) true) (n, ok) := Ev.step (fun k => by simp only [spec_exponent.j1]; rw [if_pos trivial, if_pos hp1]) e1
        have e3 : Ev (fun k => spec_exponent.j0 k s (bt s 0 == 45)) (n, ok) := Ev.step (fun k => by
          simp only [spec_exponent.j0]
          rw [if_neg he, if_pos hp]
          rcases hsg with h | h
          · rw [if_pos h]
          · rw [if_neg (by rw [h]; decide), h]; rfl) e2
        exact Ev.congr (fun k => by simp only [spec_exponent.f]; rw [if_neg he, if_pos hp]) e3
      · obtain ⟨g1, g2, g3, g4⟩ := h2.good h
        have hlib := lib_of _ g1 g2 g3
        have hlist : s.data.toList = s[0]'(by omega) :: (s.extract 1 s.size).data.toList := by
          have h5 := list_drop (d := s) (k := 0) (by omega)
          rw [List.drop_zero, Nat.zero_add] at h5
          rw [h5]
          congr 1
          rw [ByteArray.data_extract, Array.toList_extract, List.extract_eq_take_drop]
          rw [List.take_of_length_le (by simp)]
        refine ⟨?_, fun i hi => ?_⟩
        · have hc : ((s[0]'(by omega)).toNat : Int) = bt s 0 := by have := bt_lt (s := s) (i := 0) (by omega); simpa using this.symm
          rw [hlist, Lib.parseIntB]
          rw [if_pos (by omega), hlib]
          have hp31 : (2 : Nat) ^ (32 - 1) = 2147483648 := by decide
          rw [hp31]
          dsimp only
          rcases hsg with h | h
          · have h45 : (s[0]'(by omega)).toNat = 45 := by omega
            rw [h] at g4
            rw [if_neg (by omega), if_neg (by omega), if_pos h45, g4]
            rfl
          · have h45 : ¬ (s[0]'(by omega)).toNat = 45 := by omega
            rw [h] at g4
            rw [if_neg (by omega), if_neg (by omega), if_neg h45, g4]
            rfl
        · by_cases hi0 : i = 0
          · subst hi0
            rw [show ((0 : Nat) : Int) = 0 from rfl]
            rcases hsg with h | h <;> rw [h] <;> decide
          · have h6 := g1 (i - 1) (by omega)
            rw [hb (i - 1) (by omega), show 1 + (i - 1) = i by omega] at h6
            omega
    · have h45 : ¬ bt s 0 = 45 := fun h => hsg (.inl h)
      have h43 : ¬ bt s 0 = 43 := fun h => hsg (.inr h)
      have hb45 : (bt s 0 == 45) = false := beq_eq_false_iff_ne.mpr h45
      have hb43 : (bt s 0 == 43) = false := beq_eq_false_iff_ne.mpr h43
      obtain ⟨n, ok, h1, h2⟩ := exp_l s false hs s.size 0 (by omega) (fun j hj => by omega) (by simp [dseg])
      refine ⟨n, ok, ?_, fun h => ?_, h2.range⟩
      · have e1 : Ev (fun k => spec_exponent.j2 k s false) (n, ok) := Ev.step (fun k => by simp [spec_exponent.j2, dseg]) h1
        have e2 : Ev (fun k => spec_exponent.j1 k s false false) (n, ok) := Ev.step (fun k => by simp [spec_exponent.j1]) e1
        have e3 : Ev (fun k => spec_exponent.j0 k s false) (n, ok) := Ev.step (fun k => by simp only [spec_exponent.j0]; rw [if_neg he, if_pos hp, if_neg h45, hb43]) e2
        exact Ev.congr (fun k => by simp only [spec_exponent.f]; rw [if_neg he, if_pos hp, hb45]) e3
      · obtain ⟨g1, g2, g3, g4⟩ := h2.good h
        have hlib := lib_of _ g1 g2 g3
        have h5 := list_drop (d := s) (k := 0) (by omega)
        rw [List.drop_zero, Nat.zero_add] at h5
        have hc : ((s[0]'(by omega)).toNat : Int) = bt s 0 := by have := bt_lt (s := s) (i := 0) (by omega); simpa using this.symm
        refine ⟨?_, fun i hi => ?_⟩
        · rw [h5] at hlib
          rw [h5, Lib.parseIntB]
          rw [if_neg (by omega), hlib]
          have hp31 : (2 : Nat) ^ (32 - 1) = 2147483648 := by decide
          rw [hp31]
          dsimp only
          rw [if_neg (by omega), if_neg (by omega), if_neg (by omega), g4]
          rfl
        · have := g1 i hi
          omega
end Go.Proofs.YteohmbannpbokaaDoor.ParseLaw
