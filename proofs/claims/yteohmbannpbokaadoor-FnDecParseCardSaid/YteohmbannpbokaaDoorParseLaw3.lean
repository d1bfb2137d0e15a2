/-
  What the specification's reading of a number has found. A plain law.
-/
import Derived.Test.YteohmbannpbokaaDoorParseLaws
import Derived.Test.YteohmbannpbokaaDoorParseDoor
set_option linter.unusedVariables false
set_option linter.unusedSimpArgs false
namespace Go.Proofs.YteohmbannpbokaaDoor.ParseWalk
open Go.RowKit Go.Proofs.YteohmbannpbokaaDoorW.PrintWords Go.Proofs.YteohmbannpbokaaDoor.StrLaw Go.Proofs.YteohmbannpbokaaDoor.TextLaw Go.Proofs.YteohmbannpbokaaDoor.SpecWalk Go.Proofs.YteohmbannpbokaaDoor.ParseLaw

/-- A text of digits, perhaps none. -/
structure Digs0 (u : ByteArray) : Prop where
  mk :: (all : ∀ i : Nat, i < u.size → 48 ≤ bt u i ∧ bt u i ≤ 57)
/-- What the loop has found in the text without its sign. -/
structure ScanD (s u : ByteArray) (i : Nat) (pt : Int) : Prop where
  mk :: (le : i ≤ s.size) (pnt : pt = -1 ∨ (0 ≤ pt ∧ pt < i ∧ bt s pt = 46)) (dig : DigsPt s pt 0 i) (len : u.size = dcnt pt 0 i) (ud : Digs0 u) (num : dnum u = dskip s pt 0 i)
theorem ScanD.start (s : ByteArray) : ScanD s ⟨#[]⟩ 0 (-1) := ⟨Nat.zero_le _, .inl rfl, ⟨fun i h0 h1 => by omega⟩, rfl, ⟨fun i hi => by have : i < 0 := hi; omega⟩, rfl⟩
theorem dcnt_le (pt : Int) (a : Nat) : ∀ k, dcnt pt a k ≤ k := by
  intro k
  induction k with
  | zero => exact Nat.le_refl _
  | succ k ih => rw [dcnt]; split <;> omega
theorem ScanD.small {s u : ByteArray} {i : Nat} {pt : Int} (h : ScanD s u i pt) : u.size ≤ s.size := by
  have := dcnt_le pt 0 i
  have := h.len
  have := h.le
  omega
theorem dseg_app (u c : ByteArray) : ∀ k, k ≤ u.size → dseg (u ++ c) 0 k = dseg u 0 k := by
  intro k hk
  refine dseg_shift k (fun i hi => ?_)
  rw [bt_append (by omega), if_pos (by omega)]
theorem ScanD.digit {s u : ByteArray} {i : Nat} {pt : Int} (h : ScanD s u i pt) (hi : i < s.size) (hd : 48 ≤ bt s i ∧ bt s i ≤ 57) : ScanD s (u ++ s.extract i (i + 1)) (i + 1) pt := by
  have hne : (i : Int) ≠ pt := by rcases h.pnt with h | h <;> omega
  have hcs : (s.extract i (i + 1)).size = 1 := by rw [size_extract (by omega)]; omega
  have hc0 : bt (s.extract i (i + 1)) 0 = bt s i := by have := bt_extract (s := s) (a := i) (b := i + 1) (i := 0) (by omega) (by omega); simpa using this
  have hsz : (u ++ s.extract i (i + 1)).size = u.size + 1 := by rw [ByteArray.size_append, hcs]
  have hlast : bt (u ++ s.extract i (i + 1)) (u.size : Int) = bt s i := by
    rw [bt_append (by omega), if_neg (by omega), Nat.sub_self]
    exact hc0
  refine ⟨by omega, by rcases h.pnt with h | h; exact .inl h; exact .inr ⟨h.1, by omega, h.2.2⟩, ⟨fun j h0 h1 h2 => ?_⟩, ?_, ⟨fun j hj => ?_⟩, ?_⟩
  · by_cases hj : j = i
    · subst hj; exact hd
    · exact h.dig.all j h0 (by omega) h2
  · rw [hsz, h.len, dcnt_dg (by rw [Nat.zero_add]; exact hne)]
  · rw [hsz] at hj
    by_cases hj2 : j = u.size
    · subst hj2; rw [hlast]; exact hd
    · rw [bt_append (by omega), if_pos (by omega)]
      exact h.ud.all j (by omega)
  · have e : dnum (u ++ s.extract i (i + 1)) = dseg (u ++ s.extract i (i + 1)) 0 u.size * 10 + dgt (u ++ s.extract i (i + 1)) (0 + u.size) := by
      show dseg _ 0 (u ++ s.extract i (i + 1)).size = _
      rw [hsz, dseg]
    rw [e, dseg_app _ _ _ (Nat.le_refl _), dskip_dg (by rw [Nat.zero_add]; exact hne), Nat.zero_add, Nat.zero_add, ← h.num]
    congr 1
    unfold dgt
    rw [hlast]
theorem ScanD.point {s u : ByteArray} {i : Nat} (h : ScanD s u i (-1)) (hi : i < s.size) (hd : bt s i = 46) : ScanD s u (i + 1) (i : Int) := by
  refine ⟨by omega, .inr ⟨by omega, by omega, hd⟩, ⟨fun j h0 h1 h2 => h.dig.all j h0 (by omega) (by omega)⟩, ?_, h.ud, ?_⟩
  · rw [h.len, dcnt_pt (by rw [Nat.zero_add]), dcnt_out _ (by omega), dcnt_out _ (by omega)]
  · rw [h.num, dskip_pt (by rw [Nat.zero_add]), dskip_none _ (by omega), dskip_none _ (by omega)]
/-- The sign of the whole text, and the text without it. -/
structure Cutt (t s : ByteArray) (sg : Nat) (neg : Bool) : Prop where
  mk :: (sgn : Sgn t sg neg) (size : sg + s.size = t.size) (same : ∀ i : Nat, i < s.size → bt s i = bt t ((sg + i : Nat) : Int))
theorem Cutt.none {t : ByteArray} (h1 : bt t 0 ≠ 45) (h2 : bt t 0 ≠ 43) : Cutt t t 0 false := ⟨⟨.inr ⟨rfl, rfl, h1, h2⟩⟩, by omega, fun i hi => by rw [Nat.zero_add]⟩
theorem Cutt.one {t : ByteArray} {neg : Bool} (hp : 0 < t.size) (h : (bt t 0 = 45 ∧ neg = true) ∨ (bt t 0 = 43 ∧ neg = false)) : Cutt t (t.extract 1 t.size) 1 neg := by
  have hs : (t.extract 1 t.size).size = t.size - 1 := size_extract (Nat.le_refl _)
  exact ⟨⟨.inl ⟨rfl, hp, h⟩⟩, by omega, fun i hi => bt_extract (Nat.le_refl _) (by omega)⟩
/-- What was read, of the whole text. -/
structure Read (t : ByteArray) (b : Bool) (N : Nat) (E : Int) : Prop where
  mk :: (out : ∃ sg m neg pt x, Parsed t sg m neg pt x ∧ N = dskip t pt sg (m - sg) ∧ b = SpecWalk.sgn neg N ∧ E = x + if pt = -1 then 0 else pt + 1 - m)
theorem read_of {t s u : ByteArray} {sg i : Nat} {neg : Bool} {pt x : Int} (hc : Cutt t s sg neg) (h : ScanD s u i pt) (ht : t.size ≤ 300) (hu : 0 < u.size)
    (he : (i = s.size ∧ x = 0) ∨ (i < s.size ∧ (bt s i = 69 ∨ bt s i = 101) ∧ ExpText (s.extract (i + 1) s.size) x ∧ -1000000000 ≤ x ∧ x ≤ 1000000000)) (E : Int) (hE : E = x + if pt = -1 then 0 else pt + 1 - i) :
    Read t (SpecWalk.sgn neg (dnum u)) (dnum u) E := by
  have hle := h.le
  have hsz := hc.size
  have hsame : ∀ j : Nat, j < s.size → bt t ((sg + j : Nat) : Int) = bt s j := fun j hj => (hc.same j hj).symm
  have hb : ∀ j : Nat, sg ≤ j → j < t.size → bt t (j : Int) = bt s ((j - sg : Nat) : Int) := by
    intro j h0 h1
    have := hsame (j - sg) (by omega)
    rwa [show sg + (j - sg) = j by omega] at this
  obtain ⟨pt', hp', hpv⟩ : ∃ pt' : Int, ((pt = -1 ∧ pt' = -1) ∨ (0 ≤ pt ∧ pt < i ∧ pt' = pt + sg)) ∧ (pt' = -1 ∨ ((sg : Int) ≤ pt' ∧ pt' < ((sg + i : Nat) : Int) ∧ bt t pt' = 46)) := by
    rcases h.pnt with h1 | ⟨h1, h2, h3⟩
    · exact ⟨-1, .inl ⟨h1, rfl⟩, .inl rfl⟩
    · obtain ⟨q, rfl⟩ := Int.eq_ofNat_of_zero_le h1
      refine ⟨(q : Int) + sg, .inr ⟨h1, h2, rfl⟩, .inr ⟨by omega, by omega, ?_⟩⟩
      have := hsame q (by omega)
      rw [show ((sg + q : Nat) : Int) = (q : Int) + sg by omega] at this
      rw [this]
      exact h3
  have hcnt : dcnt pt' sg (sg + i - sg) = dcnt pt 0 i := by
    rw [show sg + i - sg = i by omega]
    rcases hp' with ⟨h1, h2⟩ | ⟨h1, h2, h3⟩
    · rw [h1, h2, dcnt_out _ (by omega), dcnt_out _ (by omega)]
    · have e1 := dcnt_in (pt := pt) (a := 0) i (by omega) (by omega)
      have e2 := dcnt_in (pt := pt') (a := sg) i (by omega) (by omega)
      omega
  have hnum : dnum u = dskip t pt' sg (sg + i - sg) := by
    rw [show sg + i - sg = i by omega, h.num]
    rcases hp' with ⟨h1, h2⟩ | ⟨h1, h2, h3⟩
    · rw [h1, h2, dskip_none _ (by omega), dskip_none _ (by omega)]
      exact dseg_shift _ (fun j hj => by rw [Nat.zero_add]; exact (hsame j (by omega)).symm)
    · have := dskip_shift (t := t) (v := s) (pt := pt) (a := 0) (b := sg) i (fun j hj => by rw [Nat.zero_add]; exact (hsame j (by omega)).symm)
      rw [h3, ← this]
      simp
  refine ⟨sg, sg + i, neg, pt', x, ⟨ht, hc.sgn, by omega, by omega, hpv, ⟨fun j h0 h1 h2 => ?_⟩, by rw [hcnt, ← h.len]; exact hu, ?_, ?_⟩, hnum, rfl, ?_⟩
  · rw [hb j h0 (by omega)]
    exact h.dig.all (j - sg) (by omega) (by omega) (by omega)
  · rcases he with ⟨h1, h2⟩ | ⟨h1, h2, h3, h4⟩
    · exact .inl ⟨by omega, h2⟩
    · have hext : s.extract (i + 1) s.size = t.extract (sg + i + 1) t.size := by
        refine ext_bt (by rw [size_extract (Nat.le_refl _), size_extract (Nat.le_refl _)]; omega) (fun j hj => ?_)
        rw [size_extract (Nat.le_refl _)] at hj
        rw [bt_extract (Nat.le_refl _) hj, bt_extract (Nat.le_refl _) (by omega), ← hsame (i + 1 + j) (by omega)]
        congr 2
        omega
      refine .inr ⟨by omega, by rw [hsame i h1]; exact h2, by rw [← hext]; exact h3.lib, fun j h5 h6 => ?_⟩
      have := h3.chars (j - (sg + i + 1)) (by rw [hext, size_extract (Nat.le_refl _)]; omega)
      rw [hext, bt_extract (Nat.le_refl _) (by omega), show sg + i + 1 + (j - (sg + i + 1)) = j by omega] at this
      exact this
  · rcases he with ⟨h1, h2⟩ | ⟨h1, h2, h3, h4⟩ <;> omega
  · rw [hE]
    rcases hp' with ⟨h1, h2⟩ | ⟨h1, h2, h3⟩
    · rw [if_pos h1, if_pos h2]
    · rw [if_neg (by omega), if_neg (by omega)]; omega
end Go.Proofs.YteohmbannpbokaaDoor.ParseWalk
