/-
  A text that is a number: what is known of it; the loop over its runes.
-/
import Derived.Test.YteohmbannpbokaaDoorParseLaws
import Derived.Test.YteohmbannpbokaaDoorParseWalk1
import Derived.Laws.RangeString
set_option linter.unusedVariables false
set_option linter.unusedSimpArgs false
namespace Go.Proofs.YteohmbannpbokaaDoor.ParseWalk
open Go.RowKit Go.Proofs.YteohmbannpbokaaDoorW.PrintWords Go.Proofs.YteohmbannpbokaaDoorW.PrintLast Go.Proofs.YteohmbannpbokaaDoorW.PrintMore Go.Proofs.YteohmbannpbokaaDoor.SpecWalk Go.Proofs.YteohmbannpbokaaDoor.BigWalk Go.Proofs.YteohmbannpbokaaDoor.WordWalk Go.Proofs.YteohmbannpbokaaDoor.TextLaw Go.Proofs.YteohmbannpbokaaDoor.ScanWalk Go.Proofs.YteohmbannpbokaaDoor.ParseLaw
open Go.Proofs.YteohmbannpbokaaDoor.PzzReplaceAll Go.Proofs.YteohmbannpbokaaDoor.PparseInt64SkipIndex

theorem dseg_shift {t v : ByteArray} {a b : Nat} : ∀ k, (∀ i : Nat, i < k → bt v ((a + i : Nat) : Int) = bt t ((b + i : Nat) : Int)) → dseg v a k = dseg t b k := by
  intro k
  induction k with
  | zero => intro _; rfl
  | succ k ih =>
    intro h
    rw [dseg, dseg, ih (fun i h1 => h i (by omega))]
    unfold dgt
    rw [h k (by omega)]
/-- A text that is a number: sign, digits with a point or without, exponent. -/
structure Parsed (t : ByteArray) (sg m : Nat) (neg : Bool) (pt x : Int) : Prop where
  mk :: (small : t.size ≤ 300) (sgn : Sgn t sg neg) (le1 : sg ≤ m) (le2 : m ≤ t.size) (pnt : pt = -1 ∨ ((sg : Int) ≤ pt ∧ pt < m ∧ bt t pt = 46)) (dig : DigsPt t pt sg m) (some : 0 < dcnt pt sg (m - sg)) (exp : (m = t.size ∧ x = 0) ∨ (m < t.size ∧ (bt t m = 69 ∨ bt t m = 101) ∧ Lib.parseIntB 32 (t.extract (m + 1) t.size).data.toList = .ok x ∧ ∀ i : Nat, m < i → i < t.size → bt t i < 128 ∧ bt t i ≠ 69 ∧ bt t i ≠ 101 ∧ bt t i ≠ 46)) (range : -2000000000 ≤ x ∧ x ≤ 2000000000)
/-- What stands at a place. -/
theorem Parsed.char {t : ByteArray} {sg m : Nat} {neg : Bool} {pt x : Int} (h : Parsed t sg m neg pt x) {i : Nat} (hi : i < t.size) :
    bt t i < 128 ∧ ((i = m ∧ (bt t i = 69 ∨ bt t i = 101)) ∨ (i ≠ m ∧ bt t i ≠ 69 ∧ bt t i ≠ 101 ∧ (((i : Int) = pt ∧ bt t i = 46) ∨ ((i : Int) ≠ pt ∧ bt t i ≠ 46)))) := by
  have hp := h.pnt
  by_cases h1 : i < sg
  · have hsg : i = 0 ∧ sg = 1 := by rcases h.sgn.out with ⟨h2, _⟩ | ⟨h2, _⟩ <;> omega
    obtain ⟨rfl, rfl⟩ := hsg
    have hb : bt t ((0 : Nat) : Int) = 45 ∨ bt t ((0 : Nat) : Int) = 43 := by rcases h.sgn.out with ⟨_, _, h3 | h3⟩ | ⟨h3, _⟩; exact .inl h3.1; exact .inr h3.1; omega
    have := h.le1
    exact ⟨by rcases hb with h | h <;> rw [h] <;> decide, .inr ⟨by omega, by rcases hb with h | h <;> rw [h] <;> decide, by rcases hb with h | h <;> rw [h] <;> decide, .inr ⟨by rcases hp with h | h <;> omega, by rcases hb with h | h <;> rw [h] <;> decide⟩⟩⟩
  · by_cases h2 : i < m
    · by_cases h3 : (i : Int) = pt
      · have hb : bt t (i : Int) = 46 := by rcases hp with h | h; omega; rw [h3]; exact h.2.2
        rw [hb]
        exact ⟨by decide, .inr ⟨by omega, by decide, by decide, .inl ⟨h3, rfl⟩⟩⟩
      · have := h.dig.all i (by omega) h2 h3
        exact ⟨by omega, .inr ⟨by omega, by omega, by omega, .inr ⟨h3, by omega⟩⟩⟩
    · rcases h.exp with h4 | ⟨h4, h5, _, h6⟩
      · omega
      · by_cases h7 : i = m
        · subst h7
          exact ⟨by rcases h5 with h | h <;> rw [h] <;> decide, .inl ⟨rfl, h5⟩⟩
        · obtain ⟨a1, a2, a3, a4⟩ := h6 i (by omega) hi
          exact ⟨a1, .inr ⟨h7, a2, a3, .inr ⟨by rcases hp with h | h <;> omega, a4⟩⟩⟩
theorem Parsed.ascii {t : ByteArray} {sg m : Nat} {neg : Bool} {pt x : Int} (h : Parsed t sg m neg pt x) : Ascii t := ⟨fun i hi => (h.char hi).1⟩
theorem repl_n (t : ByteArray) (hA : Ascii t) (hs : t.size ≤ 2147483647) (w : World) : Calls Tryd.prog 18 #[.string t, .string ⟨#[226, 136, 146]⟩, .string ⟨#[45]⟩] w fun e w' => e = .returned (.string t) ∧ Below w.heap.size w w' := by
  obtain ⟨k, hk⟩ := (repl_all t hA hs).rounds
  exact shopspring_zzReplaceAll.calls k t _ _ t w hk
theorem parseInt_n (s : ByteArray) (x : Int) (w : World) (hs : s.size ≤ 1000) (h : Lib.parseIntB 32 s.data.toList = .ok x) : Calls Tryd.prog 20 #[.string s, .int .i64 10, .int .i64 32] w fun e w' => e = .returned (.tuple #[.int .i64 x, .nilIface]) ∧ Below w.heap.size w w' := by
  refine (Tryd.strconv_ParseInt_10_at32_ok s (by omega) x h w).mono ?_
  rintro e w' ⟨rfl, h⟩
  refine ⟨rfl, ?_⟩
  rcases h with rfl | ⟨t, rfl⟩
  · exact Below.refl _ _
  · exact bytes_below (Below.refl _ _) (Nat.le_refl _) _ _
theorem parse64_n (v : ByteArray) (pt : Int) (sg : Nat) (neg : Bool) (w : World) (hS : Sgn v sg neg) (hD : DigsPt v pt sg v.size) (hs : v.size ≤ 1000) (hc : dcnt pt sg (v.size - sg) ≤ 18) (hc0 : 0 < dcnt pt sg (v.size - sg)) (hp : pt = 0 → sg = 0) (hsz : sg ≤ v.size) :
    Calls Tryd.prog 21 #[.string v, .int .i64 pt] w fun e w' => e = .returned (.tuple #[.int .i64 (sint neg (dskip v pt sg (v.size - sg))), .bool true]) ∧ Below w.heap.size w w' := by
  obtain ⟨k, hk⟩ := (parse64_all v pt sg neg hS hD hs hc hp hsz).rounds
  have hd : decide (((dcnt pt sg (v.size - sg) : Nat) : Int) > 0) = true := decide_eq_true (by omega)
  rw [hd] at hk
  refine (shopspring_parseInt64SkipIndex.calls k v pt _ _ w hk).mono ?_
  rintro e w' ⟨rfl, h⟩
  exact ⟨rfl, h.below⟩
/-- What the loop over the runes has found. -/
structure Found (t : ByteArray) (m : Nat) (pt : Int) (i : Nat) (ei pi : Int) : Prop where
  mk :: (e1 : i ≤ m → ei = -1) (e2 : m < i → ei = m) (p1 : (i : Int) ≤ pt → pi = -1) (p2 : pt < i → pi = pt)
theorem Found.start (t : ByteArray) (m : Nat) (pt : Int) (h : -1 ≤ pt) : Found t m pt 0 (-1) (-1) := ⟨fun _ => rfl, fun h => by omega, fun _ => rfl, fun h2 => by omega⟩
theorem bt_nat {t : ByteArray} {i : Nat} (h : i < t.size) : ((t[i]'h).toNat : Int) = bt t i := (bt_lt h).symm

theorem Found.stepE {t : ByteArray} {m i : Nat} {pt ei pi : Int} (h : Found t m pt i ei pi) (hi : i = m) (hp : pt < m) : Found t m pt (i + 1) i pi :=
  ⟨fun h1 => by omega, fun _ => by omega, fun h1 => h.p1 (by omega), fun h1 => h.p2 (by omega)⟩
theorem Found.stepP {t : ByteArray} {m i : Nat} {pt ei pi : Int} (h : Found t m pt i ei pi) (hi : i ≠ m) (hp : (i : Int) = pt) : Found t m pt (i + 1) ei i :=
  ⟨fun h1 => h.e1 (by omega), fun h1 => h.e2 (by omega), fun h1 => by omega, fun h1 => by omega⟩
theorem Found.stepN {t : ByteArray} {m i : Nat} {pt ei pi : Int} (h : Found t m pt i ei pi) (hi : i ≠ m) (hp : (i : Int) ≠ pt) : Found t m pt (i + 1) ei pi :=
  ⟨fun h1 => h.e1 (by omega), fun h1 => h.e2 (by omega), fun h1 => h.p1 (by omega), fun h1 => h.p2 (by omega)⟩
/-- The text up to the exponent. -/
structure Mant (t v : ByteArray) (m : Nat) : Prop where
  mk :: (size : v.size = m) (same : ∀ i : Nat, i < m → bt v i = bt t i)
theorem Mant.all (t : ByteArray) : Mant t t t.size := ⟨rfl, fun _ _ => rfl⟩
theorem Mant.cut {t : ByteArray} {m : Nat} (h : m ≤ t.size) : Mant t (t.extract 0 m) m :=
  ⟨by rw [size_extract h]; omega, fun i hi => by rw [bt_extract h (by omega), Nat.zero_add]⟩
section
variable {t v : ByteArray} {sg m : Nat} {neg : Bool} {pt x : Int}
theorem Parsed.pos (h : Parsed t sg m neg pt x) : sg < m := by
  apply Classical.byContradiction
  intro h1
  have h2 := h.some
  rw [show m - sg = 0 by omega] at h2
  simp [dcnt] at h2
theorem Parsed.vsgn (h : Parsed t sg m neg pt x) (hv : Mant t v m) : Sgn v sg neg := by
  have hp := h.pos
  have hb : bt v 0 = bt t 0 := by simpa using hv.same 0 (by omega)
  refine ⟨?_⟩
  rw [hb]
  rcases h.sgn.out with ⟨h1, h2, h3⟩ | h1
  · exact .inl ⟨h1, by rw [hv.size]; omega, h3⟩
  · exact .inr h1
theorem Parsed.vdig (h : Parsed t sg m neg pt x) (hv : Mant t v m) : DigsPt v pt sg v.size :=
  ⟨fun i h0 h1 h2 => by rw [hv.size] at h1; rw [hv.same i h1]; exact h.dig.all i h0 h1 h2⟩
theorem Parsed.vnum (h : Parsed t sg m neg pt x) (hv : Mant t v m) : dskip v pt sg (v.size - sg) = dskip t pt sg (m - sg) := by
  rw [hv.size]
  exact dskip_same _ (fun i h0 h1 => hv.same i (by have := h.pos; omega))
theorem Sgn.len {s : ByteArray} (h : Sgn s sg neg) : (sg : Int) = sgl s ∧ decide (bt s 0 = 45) = neg := by
  unfold sgl
  rcases h.out with ⟨rfl, _, ⟨h1, rfl⟩ | ⟨h1, rfl⟩⟩ | ⟨rfl, rfl, h1, h2⟩
  · rw [h1]; exact ⟨rfl, rfl⟩
  · rw [h1]; exact ⟨rfl, rfl⟩
  · rw [if_neg (by rintro (h | h); exact h1 h; exact h2 h), decide_eq_false h1]; exact ⟨rfl, rfl⟩
/-- A text for the package's own reading: sign and digits. -/
structure Plain (s : ByteArray) (sg : Nat) (neg : Bool) (N : Nat) : Prop where
  mk :: (sgn : Sgn s sg neg) (dig : DigsFrom s sg) (pos : sg < s.size) (num : dseg s sg (s.size - sg) = N) (small : s.size ≤ 800)
theorem Parsed.plain (h : Parsed t sg m neg pt x) (hv : Mant t v m) (hp : pt = -1) : Plain v sg neg (dskip t pt sg (m - sg)) :=
  ⟨h.vsgn hv, ⟨fun i h0 h1 => (h.vdig hv).all i h0 h1 (by omega)⟩, by rw [hv.size]; exact h.pos, by rw [← h.vnum hv]; exact (dskip_none _ (by omega)).symm, by rw [hv.size]; have := h.le2; have := h.small; omega⟩
theorem Parsed.plainP (h : Parsed t sg m neg pt x) (hv : Mant t v m) (q : Nat) (hq : pt = q) : Plain (v.extract 0 q ++ v.extract (q + 1) v.size) sg neg (dskip t pt sg (m - sg)) := by
  have hp : (sg : Int) ≤ pt ∧ pt < m := by rcases h.pnt with h | h; omega; exact ⟨h.1, h.2.1⟩
  have hpos := h.pos
  have hvs := hv.size
  have hsz : (v.extract 0 q ++ v.extract (q + 1) v.size).size = m - 1 := by rw [ByteArray.size_append, size_extract (by omega), size_extract (Nat.le_refl _)]; omega
  have hb : ∀ i : Nat, i < m - 1 → bt (v.extract 0 q ++ v.extract (q + 1) v.size) i = if i < q then bt v i else bt v ((i + 1 : Nat) : Int) := by
    intro i hi
    rw [bt_append (by rw [← ByteArray.size_append, hsz]; exact hi), size_extract (by omega), Nat.sub_zero]
    by_cases h1 : i < q
    · rw [if_pos h1, if_pos h1, bt_extract (by omega) (by omega), Nat.zero_add]
    · rw [if_neg h1, if_neg h1, bt_extract (Nat.le_refl _) (by omega)]
      congr 2
      omega
  have hcnt : dcnt pt sg (m - sg) + 1 = m - sg := dcnt_in _ hp.1 (by omega)
  have hsome := h.some
  have h1 := h.vnum hv
  have hvd := h.vdig hv
  refine ⟨⟨?_⟩, ⟨fun i h0 h2 => ?_⟩, by rw [hsz]; omega, ?_, by rw [hsz]; have := h.le2; have := h.small; omega⟩
  · have hb0 := hb 0 (by omega)
    have hsg := (h.vsgn hv).out
    rcases hsg with ⟨e1, e2, e3⟩ | ⟨e1, e2, e3, e4⟩
    · refine .inl ⟨e1, by rw [hsz]; omega, ?_⟩
      rw [if_pos (by omega)] at hb0
      rw [show ((0 : Nat) : Int) = 0 from rfl] at hb0
      rw [hb0]
      exact e3
    · refine .inr ⟨e1, e2, ?_⟩
      rw [show ((0 : Nat) : Int) = 0 from rfl] at hb0
      rw [hb0]
      by_cases hq0 : 0 < q
      · rw [if_pos hq0]
        exact ⟨e3, e4⟩
      · rw [if_neg hq0]
        have := hvd.all 1 (by omega) (by omega) (by omega)
        rw [show ((0 + 1 : Nat) : Int) = ((1 : Nat) : Int) from rfl]
        omega
  · rw [hsz] at h2
    rw [hb i h2]
    by_cases h3 : i < q
    · rw [if_pos h3]; exact hvd.all i h0 (by omega) (by omega)
    · rw [if_neg h3]; exact hvd.all (i + 1) (by omega) (by omega) (by omega)
  · rw [hsz, ← h1, show v.size - sg = m - sg by rw [hvs]]
    have e1 : dseg (v.extract 0 q ++ v.extract (q + 1) v.size) sg (m - 1 - sg) = dseg (v.extract 0 q ++ v.extract (q + 1) v.size) sg (q - sg) * 10 ^ (m - 1 - q) + dseg (v.extract 0 q ++ v.extract (q + 1) v.size) (sg + (q - sg)) (m - 1 - q) := by
      have := dseg_add (v.extract 0 q ++ v.extract (q + 1) v.size) sg (q - sg) (m - 1 - q)
      rw [show q - sg + (m - 1 - q) = m - 1 - sg by omega] at this
      exact this
    have e2 : dskip v pt sg (m - sg) = dskip v pt sg (q - sg + 1) * 10 ^ (m - 1 - q) + dseg v (sg + (q - sg + 1)) (m - 1 - q) := by
      have := dskip_add (t := v) (pt := pt) (a := sg) (j := q - sg + 1) (m - 1 - q) (by omega)
      rw [show q - sg + 1 + (m - 1 - q) = m - sg by omega] at this
      exact this
    have e3 : dskip v pt sg (q - sg + 1) = dseg v sg (q - sg) := by rw [dskip_pt (by omega), dskip_none _ (by omega)]
    rw [e1, e2, e3]
    congr 1
    · congr 1
      exact dseg_shift _ (fun i hi => by rw [hb (sg + i) (by omega), if_pos (by omega)])
    · exact dseg_shift _ (fun i hi => by
        rw [hb (sg + (q - sg) + i) (by omega), if_neg (by omega)]
        congr 2
        omega)
end
theorem sint_sgn (b : Bool) (N : Nat) : sint (SpecWalk.sgn b N) N = sint b N := by
  by_cases h : N = 0
  · subst h; cases b <;> rfl
  · have : SpecWalk.sgn b N = b := by cases b <;> simp [SpecWalk.sgn, Nat.pos_of_ne_zero h]
    rw [this]
theorem sgn_own (b : Bool) (n : Nat) : SpecWalk.sgn (SpecWalk.sgn b n) n = SpecWalk.sgn b n := by cases b <;> simp [SpecWalk.sgn]
/-- The short way: a word, and a number of it. -/
theorem small_n {t v : ByteArray} {sg m N : Nat} {neg : Bool} {pt x : Int} (h : Parsed t sg m neg pt x) (hN : N = dskip t pt sg (m - sg)) (hv : Mant t v m) (hc : dcnt pt sg (m - sg) ≤ 18) :
    (∀ w : World, Calls Tryd.prog 21 #[.string v, .int .i64 pt] w fun e w' => e = .returned (.tuple #[.int .i64 (sint neg N), .bool true]) ∧ Below w.heap.size w w') ∧
    (∀ w : World, Calls Tryd.prog 22 #[.int .i64 (sint neg N)] w fun e w' => ∃ g, e = .returned (.pointer (some ⟨g, 0, none⟩)) ∧ w.heap.size ≤ g ∧ Big w' (fun k => w.heap.size ≤ k ∧ k ≠ g) g (SpecWalk.sgn neg N) N ∧ Below w.heap.size w w') := by
  subst hN
  have hp := h.pos
  have hl := h.le2
  have hs := h.small
  have hlt := dskip_lt h.dig (m - sg) (by omega)
  have h18 : 10 ^ dcnt pt sg (m - sg) ≤ 10 ^ 18 := Nat.pow_le_pow_right (by decide) hc
  refine ⟨fun w => ?_, fun w => ?_⟩
  · rw [← h.vnum hv]
    exact parse64_n v pt sg neg w (h.vsgn hv) (h.vdig hv) (by rw [hv.size]; omega) (by rw [hv.size]; exact hc) (by rw [hv.size]; exact h.some) (fun e => by rcases h.pnt with h | h <;> omega) (by rw [hv.size]; omega)
  · rw [← sint_sgn]
    exact NewInt_n _ _ w (sgn_own _ _) (by omega)
theorem _root_.Go.Proofs.YteohmbannpbokaaDoor.SpecWalk.Box.put2 {w : World} {g : Nat} {x y : Value} (h : Box w g [x, y]) (a b : Value) : Box ((w.setCell ⟨g, 0, none⟩ a).setCell ⟨g, 1, none⟩ b) g [a, b] := by
  have h0 := h.c0; have h1 := h.c1
  have k0 := h.f0; have k1 := h.f1
  refine Box.mk2 ?_ ?_ ?_ ?_ <;> simp [go_sem, h0, h1, k0, k1]
/-- The long way: a number of any length. -/
theorem big_n {s : ByteArray} {sg N : Nat} {neg : Bool} {p : Addr} {w : World} (h : Plain s sg neg N) (hE : Eof w p) :
    Calls Tryd.prog 23 #[.pointer (some ⟨w.heap.size, 0, none⟩), .string s, .int .i64 10] (w.alloc (.cells #[.bool false, .slice none 0 0] 64)) fun e w' => e = .returned (.tuple #[.pointer (some ⟨w.heap.size, 0, none⟩), .bool true]) ∧ Big w' (fun k => w.heap.size < k) w.heap.size (SpecWalk.sgn neg N) N ∧ Below w.heap.size w w' := by
  have hel : 1 < w.heap.size := World.block_lt_of_cell? w _ hE.out
  obtain ⟨h1, h2⟩ := Sgn.len h.sgn
  have ha : Below w.heap.size w (w.alloc (.cells #[.bool false, .slice none 0 0] 64)) := (Below.refl _ _).alloc (Nat.le_refl _) _
  refine (SetString_n w.heap.size s sg p _ (Box.new2 _ _ _ _ _ rfl) (Blk.new _ _ _ _ rfl) (hE.below ha) (by omega) h1 h.dig h.pos h.small).mono ?_
  rintro e w' ⟨rfl, hb, _, hB⟩
  rw [h2, h.num] at hb
  refine ⟨rfl, hb.mono (fun k hk => ?_), below_trans ha (hB _ (Nat.le_refl _)) (by simp)⟩
  have hk' : (w.alloc (.cells #[.bool false, .slice none 0 0] 64)).heap.size ≤ k := hk
  simp at hk'
  omega
theorem big_nd {s : ByteArray} {sg N : Nat} {neg : Bool} {p : Addr} {w : World} (h : Plain s sg neg N) (hE : Eof w p) :
    Calls Tryd.prog 23 #[.pointer (some ⟨w.heap.size, 0, none⟩), .string s, .int .i64 10] (w.alloc (.cells #[.bool false, .slice none 0 0] 64)).drew fun e w' => e = .returned (.tuple #[.pointer (some ⟨w.heap.size, 0, none⟩), .bool true]) ∧ Big w' (fun k => w.heap.size < k) w.heap.size (SpecWalk.sgn neg N) N ∧ Below w.heap.size w w' := by
  have hel : 1 < w.heap.size := World.block_lt_of_cell? w _ hE.out
  obtain ⟨h1, h2⟩ := Sgn.len h.sgn
  have ha : Below w.heap.size w (w.alloc (.cells #[.bool false, .slice none 0 0] 64)).drew := ((Below.refl _ _).alloc (Nat.le_refl _) _).drew
  refine (SetString_n w.heap.size s sg p _ (Box.new2 _ _ _ _ _ rfl).drew ((Blk.new w _ _ _ rfl).below (Below.refl _ _).drew) (hE.below ha) (by omega) h1 h.dig h.pos h.small).mono ?_
  rintro e w' ⟨rfl, hb, _, hB⟩
  rw [h2, h.num] at hb
  refine ⟨rfl, hb.mono (fun k hk => ?_), below_trans ha (hB _ (Nat.le_refl _)) (by simp)⟩
  have hk' : (w.alloc (.cells #[.bool false, .slice none 0 0] 64)).drew.heap.size ≤ k := hk
  simp at hk'
  omega
theorem big_far2 {w4 w : World} {g N : Nat} {b : Bool} {x y : Value} (h : Big w4 (fun k => w.heap.size < k) g b N) (hg : w.heap.size < g) : Big ((w4.setCell ⟨w.heap.size, 0, none⟩ x).setCell ⟨w.heap.size, 1, none⟩ y) (fun k => w.heap.size ≤ k) g b N :=
  ((h.far (p := ⟨w.heap.size, 0, none⟩) (fun k (hk : w.heap.size < k) => by show k ≠ w.heap.size; omega) (by show g ≠ w.heap.size; omega) x).far (p := ⟨w.heap.size, 1, none⟩) (fun k (hk : w.heap.size < k) => by show k ≠ w.heap.size; omega) (by show g ≠ w.heap.size; omega) y).mono (fun k (hk : w.heap.size < k) => by omega)
set_option maxRecDepth 100000 in
set_option maxHeartbeats 8000000 in
theorem NFS_n (t : ByteArray) (sg m : Nat) (neg : Bool) (pt x : Int) (p : Addr) (w : World) (h : Parsed t sg m neg pt x) (hE : Eof w p) (hM : w.cell? ⟨0, 0, none⟩ = some (.int .i64 10000)) (X : Int) (hX : X = x + if pt = -1 then 0 else pt + 1 - m) (hX0 : -400 ≤ X ∧ X ≤ 400) :
    Calls Tryd.prog 13 #[.string t] w fun e w' => ∃ g, e = .returned (.tuple #[.agg #[.pointer (some ⟨g, 0, none⟩), .int .i32 X], .nilIface]) ∧ w.heap.size ≤ g ∧ Big w' (fun k => w.heap.size ≤ k) g (SpecWalk.sgn neg (dskip t pt sg (m - sg))) (dskip t pt sg (m - sg)) ∧ Below w.heap.size w w' := by
  have HRP := Aside0.mk (fun w => repl_n t h.ascii (by have := h.small; omega) w)
  have HP := Aside0.mk h
  have HE := Aside0.mk hE
  have HM := Aside0.mk hM
  have HX := Aside0.mk (And.intro hX hX0)
  obtain ⟨N, hN⟩ : ∃ N, N = dskip t pt sg (m - sg) := ⟨_, rfl⟩
  rw [← hN]
  have HNN := Aside0.mk hN
  clear h hE hM hX hX0 hN
  go_enter Tryd.func13, Tryd.ntmps13
  go_wp2_with (go_at_call 18; refine (HRP.out _).mono ?_; rintro e w1 ⟨rfl, hb⟩; have HB1 := Aside0.mk hb; clear hb)
  have HF0 := Aside0.mk (Found.start t m pt (by have := HP.out.pnt; omega))
  clear HRP
  go_loopg [5, 6] t.size (fun gg v5 v6 w' => ∃ (i : Nat) (ei pi : Int), v5 = .int .i64 ei ∧ v6 = .int .i64 pi ∧ Aside0 (Found t m pt i ei pi) ∧ Aside0 (i + gg = t.size) ∧ w' = w1.iter t i)
  case atStart => exact ⟨0, -1, -1, rfl, rfl, HF0, ⟨by simp⟩, rfl⟩
  case round =>
    clear HF0
    obtain ⟨i, ei, pi, rfl, rfl, HF, HG, rfl⟩ := hrel
    have hsm : (t.size : Int) ≤ 300 := by have := HP.out.small; omega
    have hii : (i : Int) ≤ 300 := by have := HG.out; omega
    by_cases hi : i < t.size
    · obtain ⟨ha, hcase⟩ := HP.out.char hi
      have hnx := fun ty => run_next_ascii (P := Tryd.prog) w1 t i ty hi (by rw [bt_lt hi] at ha; omega)
      simp only [bt_nat hi] at hnx
      have HI := Aside0.mk hi
      clear ha hi
      generalize bt t i = y at *
      rcases hcase with ⟨him, hy⟩ | ⟨him, hy1, hy2, hy⟩
      · obtain rfl : ei = -1 := HF.out.e1 (by omega)
        have HN := Aside0.mk (HF.out.stepE him (by rcases HP.out.pnt with h | h <;> omega))
        clear HF him
        rcases hy with rfl | rfl
        · go_wp2
          go_roundg (gk - 1)
          case measure => have := HG.out; have := HI.out; omega
          case rel => exact ⟨i + 1, _, _, rfl, rfl, HN, ⟨by have := HG.out; have := HI.out; omega⟩, rfl⟩
        · go_wp2
          go_roundg (gk - 1)
          case measure => have := HG.out; have := HI.out; omega
          case rel => exact ⟨i + 1, _, _, rfl, rfl, HN, ⟨by have := HG.out; have := HI.out; omega⟩, rfl⟩
      · have z1 : (y == 69) = false := beq_eq_false_iff_ne.mpr hy1
        have z2 : (y == 101) = false := beq_eq_false_iff_ne.mpr hy2
        rcases hy with ⟨hp, rfl⟩ | ⟨hp, hy3⟩
        · obtain rfl : pi = -1 := HF.out.p1 (by omega)
          have HN := Aside0.mk (HF.out.stepP him hp)
          clear HF z1 z2 hy1 hy2 him hp
          go_wp2
          go_roundg (gk - 1)
          case measure => have := HG.out; have := HI.out; omega
          case rel => exact ⟨i + 1, _, _, rfl, rfl, HN, ⟨by have := HG.out; have := HI.out; omega⟩, rfl⟩
        · have z3 : (y == 46) = false := beq_eq_false_iff_ne.mpr hy3
          have HN := Aside0.mk (HF.out.stepN him hp)
          clear HF hy1 hy2 hy3 him hp
          go_wp2
          go_roundg (gk - 1)
          case measure => have := HG.out; have := HI.out; omega
          case rel => exact ⟨i + 1, _, _, rfl, rfl, HN, ⟨by have := HG.out; have := HI.out; omega⟩, rfl⟩
    · obtain rfl : i = t.size := by have := HG.out; omega
      have hnx := fun ty => run_next_end (P := Tryd.prog) w1 t t.size ty hi
      have hbi : Below w1.heap.size w1 (w1.iter t t.size) := (Below.refl _ _).alloc (Nat.le_refl _) _
      have hb0 : Below w.heap.size w (w.alloc (.cells #[.pointer none, .int .i32 0] 44)) := (Below.refl _ _).alloc (Nat.le_refl _) _
      have HBC := Aside0.mk (below_step (below_step hb0 HB1.out) hbi)
      have BXC := Aside0.mk (((Box.new2 w _ (.pointer none) (.int .i32 0) 44 rfl).below HB1.out).below hbi)
      have EC := Aside0.mk (HE.out.below HBC.out)
      have MC := Aside0.mk (pw_cell_below HBC.out HM.out)
      clear hbi hb0 HB1 HE HM hi HG hii hsm
      rcases HP.out.exp with ⟨hms, hx0⟩ | ⟨hms, hme, hpi, _⟩
      · subst hx0
        obtain rfl : ei = -1 := HF.out.e1 (by omega)
        have hv : Mant t t m := by rw [hms]; exact Mant.all t
        have HPS := Aside0.mk (small_n HP.out HNN.out hv)
        by_cases hpt : pt = -1
        · obtain rfl : pi = -1 := by rw [← hpt]; exact HF.out.p2 (by omega)
          subst hpt
          by_cases h18 : m ≤ 18
          · have hsz : (t.size : Int) ≤ 18 := by omega
            obtain ⟨hp6, hni⟩ := HPS.out (by rw [dcnt_out _ (by omega)]; omega)
            skip
            have HP6 := Aside0.mk hp6
            have HNI := Aside0.mk hni
            clear hp6 hni HPS
            generalize sint neg N = iv at *
            go_wp2_with (first | (go_at_call 20; refine (HPI.out _).mono ?_; rintro e w2 ⟨rfl, hb⟩; replace HBC := Aside0.mk (below_step HBC.out hb); replace BXC := Aside0.mk (BXC.out.below hb); replace EC := Aside0.mk (EC.out.below hb); replace MC := Aside0.mk (pw_cell_below hb MC.out); clear hb) | (go_at_call 21; refine (HP6.out _).mono ?_; rintro e w3 ⟨rfl, hb⟩; replace HBC := Aside0.mk (below_step HBC.out hb); replace BXC := Aside0.mk (BXC.out.below hb); replace EC := Aside0.mk (EC.out.below hb); replace MC := Aside0.mk (pw_cell_below hb MC.out); clear hb) | (go_at_call 22; refine (HNI.out _).mono ?_; have HCL := Aside0.mk (World.block_lt_of_cell? _ _ BXC.out.c0); rintro e w4 ⟨g, rfl, hge, hbig, hb⟩; have HGE := Aside0.mk (Nat.lt_of_lt_of_le HCL.out hge); have HBG := Aside0.mk (hbig.mono (fun k hk => Nat.lt_of_lt_of_le HCL.out hk.1)); replace HBC := Aside0.mk (below_step HBC.out hb); replace BXC := Aside0.mk (BXC.out.below hb); replace EC := Aside0.mk (EC.out.below hb); replace MC := Aside0.mk (pw_cell_below hb MC.out); clear hb; have km := MC.out; have kb0 := BXC.out.c0; have kb1 := BXC.out.c1; have kf0 := BXC.out.f0; have kf1 := BXC.out.f1; clear hge hbig))
            have hbx := Box.put2 BXC.out (.pointer (some ⟨g, 0, none⟩)) (.int .i32 (0))
            have hbg := HBG.out
            refine bodyPost_ret (v := .tuple #[.agg #[.pointer (some ⟨g, 0, none⟩), .int .i32 (0)], .nilIface]) (by simp [results, Tryd.results13, go_sem, hbx.c0, hbx.c1]) rfl ⟨g, by rw [show (0) = X from by have := HX.out.1; simp at this; omega], Nat.le_of_lt HGE.out, ?_, below2 HBC.out (Nat.le_refl _) _ _⟩
            exact big_far2 hbg HGE.out
          · have hsz : (t.size : Int) > 18 := by omega
            have hszu : (t.size : Int) ≤ 300 := by have := HP.out.small; have := HP.out.le2; omega
            have hszn : ¬ (t.size : Int) ≤ 18 := by omega
            have HPL := Aside0.mk (HNN.out ▸ HP.out.plain hv rfl)
            go_wp2_with (first | (go_at_call 20; refine (HPI.out _).mono ?_; rintro e w2 ⟨rfl, hb⟩; replace HBC := Aside0.mk (below_step HBC.out hb); replace BXC := Aside0.mk (BXC.out.below hb); replace EC := Aside0.mk (EC.out.below hb); replace MC := Aside0.mk (pw_cell_below hb MC.out); clear hb) | (go_at_call 21; refine (HP6.out _).mono ?_; rintro e w3 ⟨rfl, hb⟩; replace HBC := Aside0.mk (below_step HBC.out hb); replace BXC := Aside0.mk (BXC.out.below hb); replace EC := Aside0.mk (EC.out.below hb); replace MC := Aside0.mk (pw_cell_below hb MC.out); clear hb) | (go_at_call 22; refine (HNI.out _).mono ?_; have HCL := Aside0.mk (World.block_lt_of_cell? _ _ BXC.out.c0); rintro e w4 ⟨g, rfl, hge, hbig, hb⟩; have HGE := Aside0.mk (Nat.lt_of_lt_of_le HCL.out hge); have HBG := Aside0.mk (hbig.mono (fun k hk => Nat.lt_of_lt_of_le HCL.out hk.1)); replace HBC := Aside0.mk (below_step HBC.out hb); replace BXC := Aside0.mk (BXC.out.below hb); replace EC := Aside0.mk (EC.out.below hb); replace MC := Aside0.mk (pw_cell_below hb MC.out); clear hb; have km := MC.out; have kb0 := BXC.out.c0; have kb1 := BXC.out.c1; have kf0 := BXC.out.f0; have kf1 := BXC.out.f1; clear hge hbig) | (go_at_call 23; refine (big_n HPL.out EC.out).mono ?_; have HCL := Aside0.mk (World.block_lt_of_cell? _ _ BXC.out.c0); rintro e w4 ⟨rfl, hbig, hb⟩; have HGE := Aside0.mk HCL.out; have HBG := Aside0.mk (hbig.mono (fun k hk => Nat.lt_trans HCL.out hk)); replace HBC := Aside0.mk (below_step HBC.out hb); replace BXC := Aside0.mk (BXC.out.below hb); replace EC := Aside0.mk (EC.out.below hb); replace MC := Aside0.mk (pw_cell_below hb MC.out); clear hb; have km := MC.out; have kb0 := BXC.out.c0; have kb1 := BXC.out.c1; have kf0 := BXC.out.f0; have kf1 := BXC.out.f1; clear hbig))
            have hbx := Box.put2 BXC.out (.pointer (some ⟨(w1.iter t t.size).heap.size, 0, none⟩)) (.int .i32 (0))
            have hbg := HBG.out
            refine bodyPost_ret (v := .tuple #[.agg #[.pointer (some ⟨(w1.iter t t.size).heap.size, 0, none⟩), .int .i32 (0)], .nilIface]) (by simp [results, Tryd.results13, go_sem, hbx.c0, hbx.c1]) rfl ⟨_, by rw [show (0) = X from by have := HX.out.1; simp at this; omega], Nat.le_of_lt HGE.out, ?_, below2 HBC.out (Nat.le_refl _) _ _⟩
            exact big_far2 hbg HGE.out
        · obtain ⟨q, hq⟩ : ∃ q : Nat, pt = q := ⟨pt.toNat, by rcases HP.out.pnt with h | h <;> omega⟩
          obtain ⟨hq0, hq1⟩ : sg ≤ q ∧ q < m := by rcases HP.out.pnt with h | h <;> omega
          obtain rfl : pi = (q : Int) := by rw [← hq]; exact HF.out.p2 (by omega)
          subst hq
          have hqn : ((q : Int) == -1) = false := beq_eq_false_iff_ne.mpr (by omega)
          have hqm : (q : Int) < (t.size : Int) := by omega
          by_cases hqq : q + 1 < m
          · by_cases h18 : m ≤ 19
            · have hsz : (t.size : Int) ≤ 19 := by omega
              have hbn := HP.out.dig.all (q + 1) (by omega) (by omega) (by omega)
              have hx1 : ∀ h : q + 1 < t.size, ((t[q + 1]'h).toNat : Int) = bt t ((q + 1 : Nat) : Int) := fun h => bt_nat h
              have hx2 : ∀ h : q + 1 < (t.extract 0 m).size, (((t.extract 0 m)[q + 1]'h).toNat : Int) = bt t ((q + 1 : Nat) : Int) := fun h => (bt_nat h).trans ((Mant.cut (t := t) (m := m) (by omega)).same (q + 1) (by omega))
              have q7 := eq_true (show (q : Int) + 1 < (t.size : Int) by omega)
              generalize bt t ((q + 1 : Nat) : Int) = y at *
              have y1 : (y == 45) = false := beq_eq_false_iff_ne.mpr (by omega)
              have y2 : (y == 43) = false := beq_eq_false_iff_ne.mpr (by omega)
              have y3 : ¬ y = 45 := by omega
              have y4 : ¬ y = 43 := by omega
              clear hbn
              obtain ⟨hp6, hni⟩ := HPS.out (by have := dcnt_in (pt := (q : Int)) (a := sg) (m - sg) (by omega) (by omega); omega)
              skip
              have HP6 := Aside0.mk hp6
              have HNI := Aside0.mk hni
              clear hp6 hni HPS
              generalize sint neg N = iv at *
              go_wp2_with (first | (go_at_call 20; refine (HPI.out _).mono ?_; rintro e w2 ⟨rfl, hb⟩; replace HBC := Aside0.mk (below_step HBC.out hb); replace BXC := Aside0.mk (BXC.out.below hb); replace EC := Aside0.mk (EC.out.below hb); replace MC := Aside0.mk (pw_cell_below hb MC.out); clear hb) | (go_at_call 21; refine (HP6.out _).mono ?_; rintro e w3 ⟨rfl, hb⟩; replace HBC := Aside0.mk (below_step HBC.out hb); replace BXC := Aside0.mk (BXC.out.below hb); replace EC := Aside0.mk (EC.out.below hb); replace MC := Aside0.mk (pw_cell_below hb MC.out); clear hb) | (go_at_call 22; refine (HNI.out _).mono ?_; have HCL := Aside0.mk (World.block_lt_of_cell? _ _ BXC.out.c0); rintro e w4 ⟨g, rfl, hge, hbig, hb⟩; have HGE := Aside0.mk (Nat.lt_of_lt_of_le HCL.out hge); have HBG := Aside0.mk (hbig.mono (fun k hk => Nat.lt_of_lt_of_le HCL.out hk.1)); replace HBC := Aside0.mk (below_step HBC.out hb); replace BXC := Aside0.mk (BXC.out.below hb); replace EC := Aside0.mk (EC.out.below hb); replace MC := Aside0.mk (pw_cell_below hb MC.out); clear hb; have km := MC.out; have kb0 := BXC.out.c0; have kb1 := BXC.out.c1; have kf0 := BXC.out.f0; have kf1 := BXC.out.f1; clear hge hbig))
              have hbx := Box.put2 BXC.out (.pointer (some ⟨g, 0, none⟩)) (.int .i32 (-((t.size - (q + 1) : Nat) : Int)))
              have hbg := HBG.out
              refine bodyPost_ret (v := .tuple #[.agg #[.pointer (some ⟨g, 0, none⟩), .int .i32 (-((t.size - (q + 1) : Nat) : Int))], .nilIface]) (by simp [results, Tryd.results13, go_sem, hbx.c0, hbx.c1]) rfl ⟨g, by rw [show (-((t.size - (q + 1) : Nat) : Int)) = X from by have := HX.out.1; rw [if_neg (by omega)] at this; omega], Nat.le_of_lt HGE.out, ?_, below2 HBC.out (Nat.le_refl _) _ _⟩
              exact big_far2 hbg HGE.out
            · have hsz : (t.size : Int) > 19 := by omega
              have hszu : (t.size : Int) ≤ 300 := by have := HP.out.small; have := HP.out.le2; omega
              have hszn : ¬ (t.size : Int) ≤ 19 := by omega
              have hbn := HP.out.dig.all (q + 1) (by omega) (by omega) (by omega)
              have hx1 : ∀ h : q + 1 < t.size, ((t[q + 1]'h).toNat : Int) = bt t ((q + 1 : Nat) : Int) := fun h => bt_nat h
              have hx2 : ∀ h : q + 1 < (t.extract 0 m).size, (((t.extract 0 m)[q + 1]'h).toNat : Int) = bt t ((q + 1 : Nat) : Int) := fun h => (bt_nat h).trans ((Mant.cut (t := t) (m := m) (by omega)).same (q + 1) (by omega))
              have q7 := eq_true (show (q : Int) + 1 < (t.size : Int) by omega)
              generalize bt t ((q + 1 : Nat) : Int) = y at *
              have y1 : (y == 45) = false := beq_eq_false_iff_ne.mpr (by omega)
              have y2 : (y == 43) = false := beq_eq_false_iff_ne.mpr (by omega)
              have y3 : ¬ y = 45 := by omega
              have y4 : ¬ y = 43 := by omega
              clear hbn
              have HPL := Aside0.mk (HNN.out ▸ HP.out.plainP hv q rfl)
              go_wp2_with (first | (go_at_call 20; refine (HPI.out _).mono ?_; rintro e w2 ⟨rfl, hb⟩; replace HBC := Aside0.mk (below_step HBC.out hb); replace BXC := Aside0.mk (BXC.out.below hb); replace EC := Aside0.mk (EC.out.below hb); replace MC := Aside0.mk (pw_cell_below hb MC.out); clear hb) | (go_at_call 21; refine (HP6.out _).mono ?_; rintro e w3 ⟨rfl, hb⟩; replace HBC := Aside0.mk (below_step HBC.out hb); replace BXC := Aside0.mk (BXC.out.below hb); replace EC := Aside0.mk (EC.out.below hb); replace MC := Aside0.mk (pw_cell_below hb MC.out); clear hb) | (go_at_call 22; refine (HNI.out _).mono ?_; have HCL := Aside0.mk (World.block_lt_of_cell? _ _ BXC.out.c0); rintro e w4 ⟨g, rfl, hge, hbig, hb⟩; have HGE := Aside0.mk (Nat.lt_of_lt_of_le HCL.out hge); have HBG := Aside0.mk (hbig.mono (fun k hk => Nat.lt_of_lt_of_le HCL.out hk.1)); replace HBC := Aside0.mk (below_step HBC.out hb); replace BXC := Aside0.mk (BXC.out.below hb); replace EC := Aside0.mk (EC.out.below hb); replace MC := Aside0.mk (pw_cell_below hb MC.out); clear hb; have km := MC.out; have kb0 := BXC.out.c0; have kb1 := BXC.out.c1; have kf0 := BXC.out.f0; have kf1 := BXC.out.f1; clear hge hbig) | (go_at_call 23; refine (big_n HPL.out EC.out).mono ?_; have HCL := Aside0.mk (World.block_lt_of_cell? _ _ BXC.out.c0); rintro e w4 ⟨rfl, hbig, hb⟩; have HGE := Aside0.mk HCL.out; have HBG := Aside0.mk (hbig.mono (fun k hk => Nat.lt_trans HCL.out hk)); replace HBC := Aside0.mk (below_step HBC.out hb); replace BXC := Aside0.mk (BXC.out.below hb); replace EC := Aside0.mk (EC.out.below hb); replace MC := Aside0.mk (pw_cell_below hb MC.out); clear hb; have km := MC.out; have kb0 := BXC.out.c0; have kb1 := BXC.out.c1; have kf0 := BXC.out.f0; have kf1 := BXC.out.f1; clear hbig))
              go_region
              go_wp2_with (first | (go_at_call 20; refine (HPI.out _).mono ?_; rintro e w2 ⟨rfl, hb⟩; replace HBC := Aside0.mk (below_step HBC.out hb); replace BXC := Aside0.mk (BXC.out.below hb); replace EC := Aside0.mk (EC.out.below hb); replace MC := Aside0.mk (pw_cell_below hb MC.out); clear hb) | (go_at_call 21; refine (HP6.out _).mono ?_; rintro e w3 ⟨rfl, hb⟩; replace HBC := Aside0.mk (below_step HBC.out hb); replace BXC := Aside0.mk (BXC.out.below hb); replace EC := Aside0.mk (EC.out.below hb); replace MC := Aside0.mk (pw_cell_below hb MC.out); clear hb) | (go_at_call 22; refine (HNI.out _).mono ?_; have HCL := Aside0.mk (World.block_lt_of_cell? _ _ BXC.out.c0); rintro e w4 ⟨g, rfl, hge, hbig, hb⟩; have HGE := Aside0.mk (Nat.lt_of_lt_of_le HCL.out hge); have HBG := Aside0.mk (hbig.mono (fun k hk => Nat.lt_of_lt_of_le HCL.out hk.1)); replace HBC := Aside0.mk (below_step HBC.out hb); replace BXC := Aside0.mk (BXC.out.below hb); replace EC := Aside0.mk (EC.out.below hb); replace MC := Aside0.mk (pw_cell_below hb MC.out); clear hb; have km := MC.out; have kb0 := BXC.out.c0; have kb1 := BXC.out.c1; have kf0 := BXC.out.f0; have kf1 := BXC.out.f1; clear hge hbig) | (go_at_call 23; refine (big_nd HPL.out EC.out).mono ?_; have HCL := Aside0.mk (World.block_lt_of_cell? _ _ BXC.out.c0); rintro e w4 ⟨rfl, hbig, hb⟩; have HGE := Aside0.mk HCL.out; have HBG := Aside0.mk (hbig.mono (fun k hk => Nat.lt_trans HCL.out hk)); replace HBC := Aside0.mk (below_step HBC.out hb); replace BXC := Aside0.mk (BXC.out.below hb); replace EC := Aside0.mk (EC.out.below hb); replace MC := Aside0.mk (pw_cell_below hb MC.out); clear hb; have km := MC.out; have kb0 := BXC.out.c0; have kb1 := BXC.out.c1; have kf0 := BXC.out.f0; have kf1 := BXC.out.f1; clear hbig))
              have hbx := Box.put2 BXC.out (.pointer (some ⟨(w1.iter t t.size).heap.size, 0, none⟩)) (.int .i32 (-((t.size - (q + 1) : Nat) : Int)))
              have hbg := HBG.out
              refine bodyPost_ret (v := .tuple #[.agg #[.pointer (some ⟨(w1.iter t t.size).heap.size, 0, none⟩), .int .i32 (-((t.size - (q + 1) : Nat) : Int))], .nilIface]) (by simp [results, Tryd.results13, go_sem, hbx.c0, hbx.c1]) rfl ⟨_, by rw [show (-((t.size - (q + 1) : Nat) : Int)) = X from by have := HX.out.1; rw [if_neg (by omega)] at this; omega], Nat.le_of_lt HGE.out, ?_, below2 HBC.out (Nat.le_refl _) _ _⟩
              exact big_far2 hbg HGE.out
          · by_cases h18 : m ≤ 19
            · have hsz : (t.size : Int) ≤ 19 := by omega
              have hqe : ¬ (q : Int) + 1 < (t.size : Int) := by omega
              obtain ⟨hp6, hni⟩ := HPS.out (by have := dcnt_in (pt := (q : Int)) (a := sg) (m - sg) (by omega) (by omega); omega)
              skip
              have HP6 := Aside0.mk hp6
              have HNI := Aside0.mk hni
              clear hp6 hni HPS
              generalize sint neg N = iv at *
              go_wp2_with (first | (go_at_call 20; refine (HPI.out _).mono ?_; rintro e w2 ⟨rfl, hb⟩; replace HBC := Aside0.mk (below_step HBC.out hb); replace BXC := Aside0.mk (BXC.out.below hb); replace EC := Aside0.mk (EC.out.below hb); replace MC := Aside0.mk (pw_cell_below hb MC.out); clear hb) | (go_at_call 21; refine (HP6.out _).mono ?_; rintro e w3 ⟨rfl, hb⟩; replace HBC := Aside0.mk (below_step HBC.out hb); replace BXC := Aside0.mk (BXC.out.below hb); replace EC := Aside0.mk (EC.out.below hb); replace MC := Aside0.mk (pw_cell_below hb MC.out); clear hb) | (go_at_call 22; refine (HNI.out _).mono ?_; have HCL := Aside0.mk (World.block_lt_of_cell? _ _ BXC.out.c0); rintro e w4 ⟨g, rfl, hge, hbig, hb⟩; have HGE := Aside0.mk (Nat.lt_of_lt_of_le HCL.out hge); have HBG := Aside0.mk (hbig.mono (fun k hk => Nat.lt_of_lt_of_le HCL.out hk.1)); replace HBC := Aside0.mk (below_step HBC.out hb); replace BXC := Aside0.mk (BXC.out.below hb); replace EC := Aside0.mk (EC.out.below hb); replace MC := Aside0.mk (pw_cell_below hb MC.out); clear hb; have km := MC.out; have kb0 := BXC.out.c0; have kb1 := BXC.out.c1; have kf0 := BXC.out.f0; have kf1 := BXC.out.f1; clear hge hbig))
              have hbx := Box.put2 BXC.out (.pointer (some ⟨g, 0, none⟩)) (.int .i32 (-((t.size - (q + 1) : Nat) : Int)))
              have hbg := HBG.out
              refine bodyPost_ret (v := .tuple #[.agg #[.pointer (some ⟨g, 0, none⟩), .int .i32 (-((t.size - (q + 1) : Nat) : Int))], .nilIface]) (by simp [results, Tryd.results13, go_sem, hbx.c0, hbx.c1]) rfl ⟨g, by rw [show (-((t.size - (q + 1) : Nat) : Int)) = X from by have := HX.out.1; rw [if_neg (by omega)] at this; omega], Nat.le_of_lt HGE.out, ?_, below2 HBC.out (Nat.le_refl _) _ _⟩
              exact big_far2 hbg HGE.out
            · have hsz : (t.size : Int) > 19 := by omega
              have hszu : (t.size : Int) ≤ 300 := by have := HP.out.small; have := HP.out.le2; omega
              have hszn : ¬ (t.size : Int) ≤ 19 := by omega
              have hqe : ¬ (q : Int) + 1 < (t.size : Int) := by omega
              have HPL := Aside0.mk (HNN.out ▸ HP.out.plainP hv q rfl)
              go_wp2_with (first | (go_at_call 20; refine (HPI.out _).mono ?_; rintro e w2 ⟨rfl, hb⟩; replace HBC := Aside0.mk (below_step HBC.out hb); replace BXC := Aside0.mk (BXC.out.below hb); replace EC := Aside0.mk (EC.out.below hb); replace MC := Aside0.mk (pw_cell_below hb MC.out); clear hb) | (go_at_call 21; refine (HP6.out _).mono ?_; rintro e w3 ⟨rfl, hb⟩; replace HBC := Aside0.mk (below_step HBC.out hb); replace BXC := Aside0.mk (BXC.out.below hb); replace EC := Aside0.mk (EC.out.below hb); replace MC := Aside0.mk (pw_cell_below hb MC.out); clear hb) | (go_at_call 22; refine (HNI.out _).mono ?_; have HCL := Aside0.mk (World.block_lt_of_cell? _ _ BXC.out.c0); rintro e w4 ⟨g, rfl, hge, hbig, hb⟩; have HGE := Aside0.mk (Nat.lt_of_lt_of_le HCL.out hge); have HBG := Aside0.mk (hbig.mono (fun k hk => Nat.lt_of_lt_of_le HCL.out hk.1)); replace HBC := Aside0.mk (below_step HBC.out hb); replace BXC := Aside0.mk (BXC.out.below hb); replace EC := Aside0.mk (EC.out.below hb); replace MC := Aside0.mk (pw_cell_below hb MC.out); clear hb; have km := MC.out; have kb0 := BXC.out.c0; have kb1 := BXC.out.c1; have kf0 := BXC.out.f0; have kf1 := BXC.out.f1; clear hge hbig) | (go_at_call 23; refine (big_n HPL.out EC.out).mono ?_; have HCL := Aside0.mk (World.block_lt_of_cell? _ _ BXC.out.c0); rintro e w4 ⟨rfl, hbig, hb⟩; have HGE := Aside0.mk HCL.out; have HBG := Aside0.mk (hbig.mono (fun k hk => Nat.lt_trans HCL.out hk)); replace HBC := Aside0.mk (below_step HBC.out hb); replace BXC := Aside0.mk (BXC.out.below hb); replace EC := Aside0.mk (EC.out.below hb); replace MC := Aside0.mk (pw_cell_below hb MC.out); clear hb; have km := MC.out; have kb0 := BXC.out.c0; have kb1 := BXC.out.c1; have kf0 := BXC.out.f0; have kf1 := BXC.out.f1; clear hbig))
              go_region
              go_wp2_with (first | (go_at_call 20; refine (HPI.out _).mono ?_; rintro e w2 ⟨rfl, hb⟩; replace HBC := Aside0.mk (below_step HBC.out hb); replace BXC := Aside0.mk (BXC.out.below hb); replace EC := Aside0.mk (EC.out.below hb); replace MC := Aside0.mk (pw_cell_below hb MC.out); clear hb) | (go_at_call 21; refine (HP6.out _).mono ?_; rintro e w3 ⟨rfl, hb⟩; replace HBC := Aside0.mk (below_step HBC.out hb); replace BXC := Aside0.mk (BXC.out.below hb); replace EC := Aside0.mk (EC.out.below hb); replace MC := Aside0.mk (pw_cell_below hb MC.out); clear hb) | (go_at_call 22; refine (HNI.out _).mono ?_; have HCL := Aside0.mk (World.block_lt_of_cell? _ _ BXC.out.c0); rintro e w4 ⟨g, rfl, hge, hbig, hb⟩; have HGE := Aside0.mk (Nat.lt_of_lt_of_le HCL.out hge); have HBG := Aside0.mk (hbig.mono (fun k hk => Nat.lt_of_lt_of_le HCL.out hk.1)); replace HBC := Aside0.mk (below_step HBC.out hb); replace BXC := Aside0.mk (BXC.out.below hb); replace EC := Aside0.mk (EC.out.below hb); replace MC := Aside0.mk (pw_cell_below hb MC.out); clear hb; have km := MC.out; have kb0 := BXC.out.c0; have kb1 := BXC.out.c1; have kf0 := BXC.out.f0; have kf1 := BXC.out.f1; clear hge hbig) | (go_at_call 23; refine (big_nd HPL.out EC.out).mono ?_; have HCL := Aside0.mk (World.block_lt_of_cell? _ _ BXC.out.c0); rintro e w4 ⟨rfl, hbig, hb⟩; have HGE := Aside0.mk HCL.out; have HBG := Aside0.mk (hbig.mono (fun k hk => Nat.lt_trans HCL.out hk)); replace HBC := Aside0.mk (below_step HBC.out hb); replace BXC := Aside0.mk (BXC.out.below hb); replace EC := Aside0.mk (EC.out.below hb); replace MC := Aside0.mk (pw_cell_below hb MC.out); clear hb; have km := MC.out; have kb0 := BXC.out.c0; have kb1 := BXC.out.c1; have kf0 := BXC.out.f0; have kf1 := BXC.out.f1; clear hbig))
              have hbx := Box.put2 BXC.out (.pointer (some ⟨(w1.iter t t.size).heap.size, 0, none⟩)) (.int .i32 (-((t.size - (q + 1) : Nat) : Int)))
              have hbg := HBG.out
              refine bodyPost_ret (v := .tuple #[.agg #[.pointer (some ⟨(w1.iter t t.size).heap.size, 0, none⟩), .int .i32 (-((t.size - (q + 1) : Nat) : Int))], .nilIface]) (by simp [results, Tryd.results13, go_sem, hbx.c0, hbx.c1]) rfl ⟨_, by rw [show (-((t.size - (q + 1) : Nat) : Int)) = X from by have := HX.out.1; rw [if_neg (by omega)] at this; omega], Nat.le_of_lt HGE.out, ?_, below2 HBC.out (Nat.le_refl _) _ _⟩
              exact big_far2 hbg HGE.out
      · obtain rfl : ei = (m : Int) := HF.out.e2 hms
        have hv : Mant t (t.extract 0 m) m := Mant.cut (by omega)
        have HPS := Aside0.mk (small_n HP.out HNN.out hv)
        have HPI := Aside0.mk (fun w => parseInt_n (t.extract (m + 1) t.size) x w (by rw [size_extract (Nat.le_refl _)]; have := HP.out.small; omega) hpi)
        have hmn : ((m : Int) == -1) = false := beq_eq_false_iff_ne.mpr (by omega)
        have hm1 : (m : Int) + 1 ≤ (t.size : Int) := by omega
        have hmin : min m t.size = m := by omega
        clear hpi hme
        by_cases hpt : pt = -1
        · obtain rfl : pi = -1 := by rw [← hpt]; exact HF.out.p2 (by omega)
          subst hpt
          by_cases h18 : m ≤ 18
          · have hsz : (m : Int) ≤ 18 := by omega
            have hxr := HP.out.range
            have hx4 := HX.out.2
            have hxx := HX.out.1
            have hxe : X = x := by simp at hxx; omega
            rw [hxe] at hx4
            clear hxx hxe
            obtain ⟨hp6, hni⟩ := HPS.out (by rw [dcnt_out _ (by omega)]; omega)
            skip
            have HP6 := Aside0.mk hp6
            have HNI := Aside0.mk hni
            clear hp6 hni HPS
            generalize sint neg N = iv at *
            go_wp2_with (first | (go_at_call 20; refine (HPI.out _).mono ?_; rintro e w2 ⟨rfl, hb⟩; replace HBC := Aside0.mk (below_step HBC.out hb); replace BXC := Aside0.mk (BXC.out.below hb); replace EC := Aside0.mk (EC.out.below hb); replace MC := Aside0.mk (pw_cell_below hb MC.out); clear hb) | (go_at_call 21; refine (HP6.out _).mono ?_; rintro e w3 ⟨rfl, hb⟩; replace HBC := Aside0.mk (below_step HBC.out hb); replace BXC := Aside0.mk (BXC.out.below hb); replace EC := Aside0.mk (EC.out.below hb); replace MC := Aside0.mk (pw_cell_below hb MC.out); clear hb) | (go_at_call 22; refine (HNI.out _).mono ?_; have HCL := Aside0.mk (World.block_lt_of_cell? _ _ BXC.out.c0); rintro e w4 ⟨g, rfl, hge, hbig, hb⟩; have HGE := Aside0.mk (Nat.lt_of_lt_of_le HCL.out hge); have HBG := Aside0.mk (hbig.mono (fun k hk => Nat.lt_of_lt_of_le HCL.out hk.1)); replace HBC := Aside0.mk (below_step HBC.out hb); replace BXC := Aside0.mk (BXC.out.below hb); replace EC := Aside0.mk (EC.out.below hb); replace MC := Aside0.mk (pw_cell_below hb MC.out); clear hb; have km := MC.out; have kb0 := BXC.out.c0; have kb1 := BXC.out.c1; have kf0 := BXC.out.f0; have kf1 := BXC.out.f1; clear hge hbig))
            have hbx := Box.put2 BXC.out (.pointer (some ⟨g, 0, none⟩)) (.int .i32 (x))
            have hbg := HBG.out
            refine bodyPost_ret (v := .tuple #[.agg #[.pointer (some ⟨g, 0, none⟩), .int .i32 (x)], .nilIface]) (by simp [results, Tryd.results13, go_sem, hbx.c0, hbx.c1]) rfl ⟨g, by rw [show (x) = X from by have := HX.out.1; simp at this; omega], Nat.le_of_lt HGE.out, ?_, below2 HBC.out (Nat.le_refl _) _ _⟩
            exact big_far2 hbg HGE.out
          · have hsz : (m : Int) > 18 := by omega
            have hszu : (m : Int) ≤ 300 := by have := HP.out.small; have := HP.out.le2; omega
            have hszn : ¬ (m : Int) ≤ 18 := by omega
            have hxr := HP.out.range
            have hx4 := HX.out.2
            have hxx := HX.out.1
            have hxe : X = x := by simp at hxx; omega
            rw [hxe] at hx4
            clear hxx hxe
            have HPL := Aside0.mk (HNN.out ▸ HP.out.plain hv rfl)
            go_wp2_with (first | (go_at_call 20; refine (HPI.out _).mono ?_; rintro e w2 ⟨rfl, hb⟩; replace HBC := Aside0.mk (below_step HBC.out hb); replace BXC := Aside0.mk (BXC.out.below hb); replace EC := Aside0.mk (EC.out.below hb); replace MC := Aside0.mk (pw_cell_below hb MC.out); clear hb) | (go_at_call 21; refine (HP6.out _).mono ?_; rintro e w3 ⟨rfl, hb⟩; replace HBC := Aside0.mk (below_step HBC.out hb); replace BXC := Aside0.mk (BXC.out.below hb); replace EC := Aside0.mk (EC.out.below hb); replace MC := Aside0.mk (pw_cell_below hb MC.out); clear hb) | (go_at_call 22; refine (HNI.out _).mono ?_; have HCL := Aside0.mk (World.block_lt_of_cell? _ _ BXC.out.c0); rintro e w4 ⟨g, rfl, hge, hbig, hb⟩; have HGE := Aside0.mk (Nat.lt_of_lt_of_le HCL.out hge); have HBG := Aside0.mk (hbig.mono (fun k hk => Nat.lt_of_lt_of_le HCL.out hk.1)); replace HBC := Aside0.mk (below_step HBC.out hb); replace BXC := Aside0.mk (BXC.out.below hb); replace EC := Aside0.mk (EC.out.below hb); replace MC := Aside0.mk (pw_cell_below hb MC.out); clear hb; have km := MC.out; have kb0 := BXC.out.c0; have kb1 := BXC.out.c1; have kf0 := BXC.out.f0; have kf1 := BXC.out.f1; clear hge hbig) | (go_at_call 23; refine (big_n HPL.out EC.out).mono ?_; have HCL := Aside0.mk (World.block_lt_of_cell? _ _ BXC.out.c0); rintro e w4 ⟨rfl, hbig, hb⟩; have HGE := Aside0.mk HCL.out; have HBG := Aside0.mk (hbig.mono (fun k hk => Nat.lt_trans HCL.out hk)); replace HBC := Aside0.mk (below_step HBC.out hb); replace BXC := Aside0.mk (BXC.out.below hb); replace EC := Aside0.mk (EC.out.below hb); replace MC := Aside0.mk (pw_cell_below hb MC.out); clear hb; have km := MC.out; have kb0 := BXC.out.c0; have kb1 := BXC.out.c1; have kf0 := BXC.out.f0; have kf1 := BXC.out.f1; clear hbig))
            have hbx := Box.put2 BXC.out (.pointer (some ⟨w2.heap.size, 0, none⟩)) (.int .i32 (x))
            have hbg := HBG.out
            refine bodyPost_ret (v := .tuple #[.agg #[.pointer (some ⟨w2.heap.size, 0, none⟩), .int .i32 (x)], .nilIface]) (by simp [results, Tryd.results13, go_sem, hbx.c0, hbx.c1]) rfl ⟨_, by rw [show (x) = X from by have := HX.out.1; simp at this; omega], Nat.le_of_lt HGE.out, ?_, below2 HBC.out (Nat.le_refl _) _ _⟩
            exact big_far2 hbg HGE.out
        · obtain ⟨q, hq⟩ : ∃ q : Nat, pt = q := ⟨pt.toNat, by rcases HP.out.pnt with h | h <;> omega⟩
          obtain ⟨hq0, hq1⟩ : sg ≤ q ∧ q < m := by rcases HP.out.pnt with h | h <;> omega
          obtain rfl : pi = (q : Int) := by rw [← hq]; exact HF.out.p2 (by omega)
          subst hq
          have hqn : ((q : Int) == -1) = false := beq_eq_false_iff_ne.mpr (by omega)
          have hqm : (q : Int) < (m : Int) := by omega
          by_cases hqq : q + 1 < m
          · by_cases h18 : m ≤ 19
            · have hsz : (m : Int) ≤ 19 := by omega
              have hbn := HP.out.dig.all (q + 1) (by omega) (by omega) (by omega)
              have hx1 : ∀ h : q + 1 < t.size, ((t[q + 1]'h).toNat : Int) = bt t ((q + 1 : Nat) : Int) := fun h => bt_nat h
              have hx2 : ∀ h : q + 1 < (t.extract 0 m).size, (((t.extract 0 m)[q + 1]'h).toNat : Int) = bt t ((q + 1 : Nat) : Int) := fun h => (bt_nat h).trans ((Mant.cut (t := t) (m := m) (by omega)).same (q + 1) (by omega))
              have q7 := eq_true (show (q : Int) + 1 < (m : Int) by omega)
              generalize bt t ((q + 1 : Nat) : Int) = y at *
              have y1 : (y == 45) = false := beq_eq_false_iff_ne.mpr (by omega)
              have y2 : (y == 43) = false := beq_eq_false_iff_ne.mpr (by omega)
              have y3 : ¬ y = 45 := by omega
              have y4 : ¬ y = 43 := by omega
              clear hbn
              have hxr := HP.out.range
              have hx4 := HX.out.2
              have hxx := HX.out.1
              have hxe : X = x + -((m - (q + 1) : Nat) : Int) := by rw [if_neg (by omega)] at hxx; omega
              rw [hxe] at hx4
              clear hxx hxe
              obtain ⟨hp6, hni⟩ := HPS.out (by have := dcnt_in (pt := (q : Int)) (a := sg) (m - sg) (by omega) (by omega); omega)
              skip
              have HP6 := Aside0.mk hp6
              have HNI := Aside0.mk hni
              clear hp6 hni HPS
              generalize sint neg N = iv at *
              go_wp2_with (first | (go_at_call 20; refine (HPI.out _).mono ?_; rintro e w2 ⟨rfl, hb⟩; replace HBC := Aside0.mk (below_step HBC.out hb); replace BXC := Aside0.mk (BXC.out.below hb); replace EC := Aside0.mk (EC.out.below hb); replace MC := Aside0.mk (pw_cell_below hb MC.out); clear hb) | (go_at_call 21; refine (HP6.out _).mono ?_; rintro e w3 ⟨rfl, hb⟩; replace HBC := Aside0.mk (below_step HBC.out hb); replace BXC := Aside0.mk (BXC.out.below hb); replace EC := Aside0.mk (EC.out.below hb); replace MC := Aside0.mk (pw_cell_below hb MC.out); clear hb) | (go_at_call 22; refine (HNI.out _).mono ?_; have HCL := Aside0.mk (World.block_lt_of_cell? _ _ BXC.out.c0); rintro e w4 ⟨g, rfl, hge, hbig, hb⟩; have HGE := Aside0.mk (Nat.lt_of_lt_of_le HCL.out hge); have HBG := Aside0.mk (hbig.mono (fun k hk => Nat.lt_of_lt_of_le HCL.out hk.1)); replace HBC := Aside0.mk (below_step HBC.out hb); replace BXC := Aside0.mk (BXC.out.below hb); replace EC := Aside0.mk (EC.out.below hb); replace MC := Aside0.mk (pw_cell_below hb MC.out); clear hb; have km := MC.out; have kb0 := BXC.out.c0; have kb1 := BXC.out.c1; have kf0 := BXC.out.f0; have kf1 := BXC.out.f1; clear hge hbig))
              have hbx := Box.put2 BXC.out (.pointer (some ⟨g, 0, none⟩)) (.int .i32 (x + -((m - (q + 1) : Nat) : Int)))
              have hbg := HBG.out
              refine bodyPost_ret (v := .tuple #[.agg #[.pointer (some ⟨g, 0, none⟩), .int .i32 (x + -((m - (q + 1) : Nat) : Int))], .nilIface]) (by simp [results, Tryd.results13, go_sem, hbx.c0, hbx.c1]) rfl ⟨g, by rw [show (x + -((m - (q + 1) : Nat) : Int)) = X from by have := HX.out.1; rw [if_neg (by omega)] at this; omega], Nat.le_of_lt HGE.out, ?_, below2 HBC.out (Nat.le_refl _) _ _⟩
              exact big_far2 hbg HGE.out
            · have hsz : (m : Int) > 19 := by omega
              have hszu : (m : Int) ≤ 300 := by have := HP.out.small; have := HP.out.le2; omega
              have hszn : ¬ (m : Int) ≤ 19 := by omega
              have hbn := HP.out.dig.all (q + 1) (by omega) (by omega) (by omega)
              have hx1 : ∀ h : q + 1 < t.size, ((t[q + 1]'h).toNat : Int) = bt t ((q + 1 : Nat) : Int) := fun h => bt_nat h
              have hx2 : ∀ h : q + 1 < (t.extract 0 m).size, (((t.extract 0 m)[q + 1]'h).toNat : Int) = bt t ((q + 1 : Nat) : Int) := fun h => (bt_nat h).trans ((Mant.cut (t := t) (m := m) (by omega)).same (q + 1) (by omega))
              have q7 := eq_true (show (q : Int) + 1 < (m : Int) by omega)
              generalize bt t ((q + 1 : Nat) : Int) = y at *
              have y1 : (y == 45) = false := beq_eq_false_iff_ne.mpr (by omega)
              have y2 : (y == 43) = false := beq_eq_false_iff_ne.mpr (by omega)
              have y3 : ¬ y = 45 := by omega
              have y4 : ¬ y = 43 := by omega
              clear hbn
              have hxr := HP.out.range
              have hx4 := HX.out.2
              have hxx := HX.out.1
              have hxe : X = x + -((m - (q + 1) : Nat) : Int) := by rw [if_neg (by omega)] at hxx; omega
              rw [hxe] at hx4
              clear hxx hxe
              have HPL := Aside0.mk (HNN.out ▸ HP.out.plainP hv q rfl)
              go_wp2_with (first | (go_at_call 20; refine (HPI.out _).mono ?_; rintro e w2 ⟨rfl, hb⟩; replace HBC := Aside0.mk (below_step HBC.out hb); replace BXC := Aside0.mk (BXC.out.below hb); replace EC := Aside0.mk (EC.out.below hb); replace MC := Aside0.mk (pw_cell_below hb MC.out); clear hb) | (go_at_call 21; refine (HP6.out _).mono ?_; rintro e w3 ⟨rfl, hb⟩; replace HBC := Aside0.mk (below_step HBC.out hb); replace BXC := Aside0.mk (BXC.out.below hb); replace EC := Aside0.mk (EC.out.below hb); replace MC := Aside0.mk (pw_cell_below hb MC.out); clear hb) | (go_at_call 22; refine (HNI.out _).mono ?_; have HCL := Aside0.mk (World.block_lt_of_cell? _ _ BXC.out.c0); rintro e w4 ⟨g, rfl, hge, hbig, hb⟩; have HGE := Aside0.mk (Nat.lt_of_lt_of_le HCL.out hge); have HBG := Aside0.mk (hbig.mono (fun k hk => Nat.lt_of_lt_of_le HCL.out hk.1)); replace HBC := Aside0.mk (below_step HBC.out hb); replace BXC := Aside0.mk (BXC.out.below hb); replace EC := Aside0.mk (EC.out.below hb); replace MC := Aside0.mk (pw_cell_below hb MC.out); clear hb; have km := MC.out; have kb0 := BXC.out.c0; have kb1 := BXC.out.c1; have kf0 := BXC.out.f0; have kf1 := BXC.out.f1; clear hge hbig) | (go_at_call 23; refine (big_n HPL.out EC.out).mono ?_; have HCL := Aside0.mk (World.block_lt_of_cell? _ _ BXC.out.c0); rintro e w4 ⟨rfl, hbig, hb⟩; have HGE := Aside0.mk HCL.out; have HBG := Aside0.mk (hbig.mono (fun k hk => Nat.lt_trans HCL.out hk)); replace HBC := Aside0.mk (below_step HBC.out hb); replace BXC := Aside0.mk (BXC.out.below hb); replace EC := Aside0.mk (EC.out.below hb); replace MC := Aside0.mk (pw_cell_below hb MC.out); clear hb; have km := MC.out; have kb0 := BXC.out.c0; have kb1 := BXC.out.c1; have kf0 := BXC.out.f0; have kf1 := BXC.out.f1; clear hbig))
              have hvs : (t.extract 0 m).size = m := hv.size
              generalize t.extract 0 m = v at *
              rw [hvs] at HPL
              have HX4 := Aside0.mk (And.intro hx4 hxr)
              clear hx4 hxr hmin hm1 hmn hms
              go_region
              go_wp2_with (first | (go_at_call 20; refine (HPI.out _).mono ?_; rintro e w2 ⟨rfl, hb⟩; replace HBC := Aside0.mk (below_step HBC.out hb); replace BXC := Aside0.mk (BXC.out.below hb); replace EC := Aside0.mk (EC.out.below hb); replace MC := Aside0.mk (pw_cell_below hb MC.out); clear hb) | (go_at_call 21; refine (HP6.out _).mono ?_; rintro e w3 ⟨rfl, hb⟩; replace HBC := Aside0.mk (below_step HBC.out hb); replace BXC := Aside0.mk (BXC.out.below hb); replace EC := Aside0.mk (EC.out.below hb); replace MC := Aside0.mk (pw_cell_below hb MC.out); clear hb) | (go_at_call 22; refine (HNI.out _).mono ?_; have HCL := Aside0.mk (World.block_lt_of_cell? _ _ BXC.out.c0); rintro e w4 ⟨g, rfl, hge, hbig, hb⟩; have HGE := Aside0.mk (Nat.lt_of_lt_of_le HCL.out hge); have HBG := Aside0.mk (hbig.mono (fun k hk => Nat.lt_of_lt_of_le HCL.out hk.1)); replace HBC := Aside0.mk (below_step HBC.out hb); replace BXC := Aside0.mk (BXC.out.below hb); replace EC := Aside0.mk (EC.out.below hb); replace MC := Aside0.mk (pw_cell_below hb MC.out); clear hb; have km := MC.out; have kb0 := BXC.out.c0; have kb1 := BXC.out.c1; have kf0 := BXC.out.f0; have kf1 := BXC.out.f1; clear hge hbig) | (go_at_call 23; refine (big_nd HPL.out EC.out).mono ?_; have HCL := Aside0.mk (World.block_lt_of_cell? _ _ BXC.out.c0); rintro e w4 ⟨rfl, hbig, hb⟩; have HGE := Aside0.mk HCL.out; have HBG := Aside0.mk (hbig.mono (fun k hk => Nat.lt_trans HCL.out hk)); replace HBC := Aside0.mk (below_step HBC.out hb); replace BXC := Aside0.mk (BXC.out.below hb); replace EC := Aside0.mk (EC.out.below hb); replace MC := Aside0.mk (pw_cell_below hb MC.out); clear hb; have km := MC.out; have kb0 := BXC.out.c0; have kb1 := BXC.out.c1; have kf0 := BXC.out.f0; have kf1 := BXC.out.f1; clear hbig; obtain ⟨hx4, hxr⟩ := HX4.out))
              have hbx := Box.put2 BXC.out (.pointer (some ⟨w2.heap.size, 0, none⟩)) (.int .i32 (x + -((m - (q + 1) : Nat) : Int)))
              have hbg := HBG.out
              refine bodyPost_ret (v := .tuple #[.agg #[.pointer (some ⟨w2.heap.size, 0, none⟩), .int .i32 (x + -((m - (q + 1) : Nat) : Int))], .nilIface]) (by simp [results, Tryd.results13, go_sem, hbx.c0, hbx.c1]) rfl ⟨_, by rw [show (x + -((m - (q + 1) : Nat) : Int)) = X from by have := HX.out.1; rw [if_neg (by omega)] at this; omega], Nat.le_of_lt HGE.out, ?_, below2 HBC.out (Nat.le_refl _) _ _⟩
              exact big_far2 hbg HGE.out
          · by_cases h18 : m ≤ 19
            · have hsz : (m : Int) ≤ 19 := by omega
              have hqe : ¬ (q : Int) + 1 < (m : Int) := by omega
              have hxr := HP.out.range
              have hx4 := HX.out.2
              have hxx := HX.out.1
              have hxe : X = x + -((m - (q + 1) : Nat) : Int) := by rw [if_neg (by omega)] at hxx; omega
              rw [hxe] at hx4
              clear hxx hxe
              obtain ⟨hp6, hni⟩ := HPS.out (by have := dcnt_in (pt := (q : Int)) (a := sg) (m - sg) (by omega) (by omega); omega)
              skip
              have HP6 := Aside0.mk hp6
              have HNI := Aside0.mk hni
              clear hp6 hni HPS
              generalize sint neg N = iv at *
              go_wp2_with (first | (go_at_call 20; refine (HPI.out _).mono ?_; rintro e w2 ⟨rfl, hb⟩; replace HBC := Aside0.mk (below_step HBC.out hb); replace BXC := Aside0.mk (BXC.out.below hb); replace EC := Aside0.mk (EC.out.below hb); replace MC := Aside0.mk (pw_cell_below hb MC.out); clear hb) | (go_at_call 21; refine (HP6.out _).mono ?_; rintro e w3 ⟨rfl, hb⟩; replace HBC := Aside0.mk (below_step HBC.out hb); replace BXC := Aside0.mk (BXC.out.below hb); replace EC := Aside0.mk (EC.out.below hb); replace MC := Aside0.mk (pw_cell_below hb MC.out); clear hb) | (go_at_call 22; refine (HNI.out _).mono ?_; have HCL := Aside0.mk (World.block_lt_of_cell? _ _ BXC.out.c0); rintro e w4 ⟨g, rfl, hge, hbig, hb⟩; have HGE := Aside0.mk (Nat.lt_of_lt_of_le HCL.out hge); have HBG := Aside0.mk (hbig.mono (fun k hk => Nat.lt_of_lt_of_le HCL.out hk.1)); replace HBC := Aside0.mk (below_step HBC.out hb); replace BXC := Aside0.mk (BXC.out.below hb); replace EC := Aside0.mk (EC.out.below hb); replace MC := Aside0.mk (pw_cell_below hb MC.out); clear hb; have km := MC.out; have kb0 := BXC.out.c0; have kb1 := BXC.out.c1; have kf0 := BXC.out.f0; have kf1 := BXC.out.f1; clear hge hbig))
              have hbx := Box.put2 BXC.out (.pointer (some ⟨g, 0, none⟩)) (.int .i32 (x + -((m - (q + 1) : Nat) : Int)))
              have hbg := HBG.out
              refine bodyPost_ret (v := .tuple #[.agg #[.pointer (some ⟨g, 0, none⟩), .int .i32 (x + -((m - (q + 1) : Nat) : Int))], .nilIface]) (by simp [results, Tryd.results13, go_sem, hbx.c0, hbx.c1]) rfl ⟨g, by rw [show (x + -((m - (q + 1) : Nat) : Int)) = X from by have := HX.out.1; rw [if_neg (by omega)] at this; omega], Nat.le_of_lt HGE.out, ?_, below2 HBC.out (Nat.le_refl _) _ _⟩
              exact big_far2 hbg HGE.out
            · have hsz : (m : Int) > 19 := by omega
              have hszu : (m : Int) ≤ 300 := by have := HP.out.small; have := HP.out.le2; omega
              have hszn : ¬ (m : Int) ≤ 19 := by omega
              have hqe : ¬ (q : Int) + 1 < (m : Int) := by omega
              have hxr := HP.out.range
              have hx4 := HX.out.2
              have hxx := HX.out.1
              have hxe : X = x + -((m - (q + 1) : Nat) : Int) := by rw [if_neg (by omega)] at hxx; omega
              rw [hxe] at hx4
              clear hxx hxe
              have HPL := Aside0.mk (HNN.out ▸ HP.out.plainP hv q rfl)
              go_wp2_with (first | (go_at_call 20; refine (HPI.out _).mono ?_; rintro e w2 ⟨rfl, hb⟩; replace HBC := Aside0.mk (below_step HBC.out hb); replace BXC := Aside0.mk (BXC.out.below hb); replace EC := Aside0.mk (EC.out.below hb); replace MC := Aside0.mk (pw_cell_below hb MC.out); clear hb) | (go_at_call 21; refine (HP6.out _).mono ?_; rintro e w3 ⟨rfl, hb⟩; replace HBC := Aside0.mk (below_step HBC.out hb); replace BXC := Aside0.mk (BXC.out.below hb); replace EC := Aside0.mk (EC.out.below hb); replace MC := Aside0.mk (pw_cell_below hb MC.out); clear hb) | (go_at_call 22; refine (HNI.out _).mono ?_; have HCL := Aside0.mk (World.block_lt_of_cell? _ _ BXC.out.c0); rintro e w4 ⟨g, rfl, hge, hbig, hb⟩; have HGE := Aside0.mk (Nat.lt_of_lt_of_le HCL.out hge); have HBG := Aside0.mk (hbig.mono (fun k hk => Nat.lt_of_lt_of_le HCL.out hk.1)); replace HBC := Aside0.mk (below_step HBC.out hb); replace BXC := Aside0.mk (BXC.out.below hb); replace EC := Aside0.mk (EC.out.below hb); replace MC := Aside0.mk (pw_cell_below hb MC.out); clear hb; have km := MC.out; have kb0 := BXC.out.c0; have kb1 := BXC.out.c1; have kf0 := BXC.out.f0; have kf1 := BXC.out.f1; clear hge hbig) | (go_at_call 23; refine (big_n HPL.out EC.out).mono ?_; have HCL := Aside0.mk (World.block_lt_of_cell? _ _ BXC.out.c0); rintro e w4 ⟨rfl, hbig, hb⟩; have HGE := Aside0.mk HCL.out; have HBG := Aside0.mk (hbig.mono (fun k hk => Nat.lt_trans HCL.out hk)); replace HBC := Aside0.mk (below_step HBC.out hb); replace BXC := Aside0.mk (BXC.out.below hb); replace EC := Aside0.mk (EC.out.below hb); replace MC := Aside0.mk (pw_cell_below hb MC.out); clear hb; have km := MC.out; have kb0 := BXC.out.c0; have kb1 := BXC.out.c1; have kf0 := BXC.out.f0; have kf1 := BXC.out.f1; clear hbig))
              have hvs : (t.extract 0 m).size = m := hv.size
              generalize t.extract 0 m = v at *
              rw [hvs] at HPL
              have HX4 := Aside0.mk (And.intro hx4 hxr)
              clear hx4 hxr hmin hm1 hmn hms
              go_region
              go_wp2_with (first | (go_at_call 20; refine (HPI.out _).mono ?_; rintro e w2 ⟨rfl, hb⟩; replace HBC := Aside0.mk (below_step HBC.out hb); replace BXC := Aside0.mk (BXC.out.below hb); replace EC := Aside0.mk (EC.out.below hb); replace MC := Aside0.mk (pw_cell_below hb MC.out); clear hb) | (go_at_call 21; refine (HP6.out _).mono ?_; rintro e w3 ⟨rfl, hb⟩; replace HBC := Aside0.mk (below_step HBC.out hb); replace BXC := Aside0.mk (BXC.out.below hb); replace EC := Aside0.mk (EC.out.below hb); replace MC := Aside0.mk (pw_cell_below hb MC.out); clear hb) | (go_at_call 22; refine (HNI.out _).mono ?_; have HCL := Aside0.mk (World.block_lt_of_cell? _ _ BXC.out.c0); rintro e w4 ⟨g, rfl, hge, hbig, hb⟩; have HGE := Aside0.mk (Nat.lt_of_lt_of_le HCL.out hge); have HBG := Aside0.mk (hbig.mono (fun k hk => Nat.lt_of_lt_of_le HCL.out hk.1)); replace HBC := Aside0.mk (below_step HBC.out hb); replace BXC := Aside0.mk (BXC.out.below hb); replace EC := Aside0.mk (EC.out.below hb); replace MC := Aside0.mk (pw_cell_below hb MC.out); clear hb; have km := MC.out; have kb0 := BXC.out.c0; have kb1 := BXC.out.c1; have kf0 := BXC.out.f0; have kf1 := BXC.out.f1; clear hge hbig) | (go_at_call 23; refine (big_nd HPL.out EC.out).mono ?_; have HCL := Aside0.mk (World.block_lt_of_cell? _ _ BXC.out.c0); rintro e w4 ⟨rfl, hbig, hb⟩; have HGE := Aside0.mk HCL.out; have HBG := Aside0.mk (hbig.mono (fun k hk => Nat.lt_trans HCL.out hk)); replace HBC := Aside0.mk (below_step HBC.out hb); replace BXC := Aside0.mk (BXC.out.below hb); replace EC := Aside0.mk (EC.out.below hb); replace MC := Aside0.mk (pw_cell_below hb MC.out); clear hb; have km := MC.out; have kb0 := BXC.out.c0; have kb1 := BXC.out.c1; have kf0 := BXC.out.f0; have kf1 := BXC.out.f1; clear hbig; obtain ⟨hx4, hxr⟩ := HX4.out))
              have hbx := Box.put2 BXC.out (.pointer (some ⟨w2.heap.size, 0, none⟩)) (.int .i32 (x + -((m - (q + 1) : Nat) : Int)))
              have hbg := HBG.out
              refine bodyPost_ret (v := .tuple #[.agg #[.pointer (some ⟨w2.heap.size, 0, none⟩), .int .i32 (x + -((m - (q + 1) : Nat) : Int))], .nilIface]) (by simp [results, Tryd.results13, go_sem, hbx.c0, hbx.c1]) rfl ⟨_, by rw [show (x + -((m - (q + 1) : Nat) : Int)) = X from by have := HX.out.1; rw [if_neg (by omega)] at this; omega], Nat.le_of_lt HGE.out, ?_, below2 HBC.out (Nat.le_refl _) _ _⟩
              exact big_far2 hbg HGE.out
end Go.Proofs.YteohmbannpbokaaDoor.ParseWalk
