/-
  A reader over a text: a byte read, a byte given back, the sign.
  Powers of ten in a word; what a scan has come to.
  The package's reading of digits into words.
  The package's whole number of a text.
-/
import Derived.Test.YteohmbannpbokaaDoorWords
import Derived.LaidEql
import Derived.Test.YteohmbannpbokaaDoorLaws
import Derived.Test.YteohmbannpbokaaDoorPpowx1
set_option linter.unusedVariables false
set_option linter.unusedSimpArgs false
namespace Go.Proofs.YteohmbannpbokaaDoor.ScanWalk
open Go.RowKit Go.Proofs.YteohmbannpbokaaDoorW.PrintWords Go.Proofs.YteohmbannpbokaaDoorW.PrintLast Go.Proofs.YteohmbannpbokaaDoorW.PrintMore Go.Proofs.YteohmbannpbokaaDoor.SpecWalk Go.Proofs.YteohmbannpbokaaDoor.BigWalk Go.Proofs.YteohmbannpbokaaDoor.WordWalk

/-- What the library's end of a file is. -/
structure Eof (w : World) (p : Addr) : Prop where
  mk :: (out : w.cell? ⟨1, 0, none⟩ = some (.iface 71 (.pointer (some p))))
theorem Eof.below {w w1 : World} {p : Addr} (h : Eof w p) (hb : Below w.heap.size w w1) : Eof w1 p := ⟨pw_cell_below hb h.out⟩
theorem Eof.kept {w w1 : World} {p : Addr} {g : Nat} (h : Eof w p) (hk : KeptB w w1 g) (hg : g ≠ 1) : Eof w1 p := ⟨KeptB.cell hk (fun e => hg e.symm) h.out⟩
/-- A reader: its text and its place. -/
structure Rdr (w : World) (g : Nat) (s : ByteArray) (i : Int) : Prop where
  mk :: (out : ∃ p : Int, Box w g [.string s, .int .i64 i, .int .i64 p])
theorem Rdr.below {w w1 : World} {g : Nat} {s : ByteArray} {i : Int} (h : Rdr w g s i) (hb : Below w.heap.size w w1) : Rdr w1 g s i := by
  obtain ⟨p, h⟩ := h.out
  exact ⟨p, h.below hb⟩
theorem Rdr.kept {w w1 : World} {g g' : Nat} {s : ByteArray} {i : Int} (h : Rdr w g s i) (hk : KeptB w w1 g') (hg : g ≠ g') : Rdr w1 g s i := by
  obtain ⟨p, h⟩ := h.out
  exact ⟨p, Box.kept h hk hg⟩
theorem Box.set2 {w : World} {g : Nat} {x y z : Value} (h : Box w g [x, y, z]) (c : Value) : Box (w.setCell ⟨g, 2, none⟩ c) g [x, y, c] := by
  have h0 := h.c0; have h1 := h.c1; have h2 := h.c2
  have k0 := h.f0; have k1 := h.f1; have k2 := h.f2
  refine Box.mk3 ?_ ?_ ?_ ?_ ?_ ?_ <;> simp [go_sem, h0, h1, h2, k0, k1, k2]
theorem Box.set1 {w : World} {g : Nat} {x y z : Value} (h : Box w g [x, y, z]) (c : Value) : Box (w.setCell ⟨g, 1, none⟩ c) g [x, c, z] := by
  have h0 := h.c0; have h1 := h.c1; have h2 := h.c2
  have k0 := h.f0; have k1 := h.f1; have k2 := h.f2
  refine Box.mk3 ?_ ?_ ?_ ?_ ?_ ?_ <;> simp [go_sem, h0, h1, h2, k0, k1, k2]

theorem _root_.Go.Proofs.YteohmbannpbokaaDoor.BigWalk.KeptB.drew {w w' : World} {g : Nat} (h : KeptB w w' g) : KeptB w w'.drew g := h.then (KeptB.of_below (Below.refl _ _).drew)
theorem NewReader_n (s : ByteArray) (w : World) : Calls Tryd.prog 31 #[.string s] w fun e w' => e = .returned (.pointer (some ⟨w.heap.size, 0, none⟩)) ∧ Rdr w' w.heap.size s 0 ∧ w'.heap.size = w.heap.size + 1 ∧ Below w.heap.size w w' := by
  go_enter Tryd.func31, Tryd.ntmps31
  go_wp2
  go_ret
  exact ⟨rfl, ⟨_, Box.new3 _ _ _ _ _ _ rfl⟩, by simp, (Below.refl _ _).alloc (Nat.le_refl _) _⟩

theorem ReadByte_n (g : Nat) (s : ByteArray) (i : Int) (w : World) (h : Rdr w g s i) (hs : s.size ≤ 2147483647) (h0 : 0 ≤ i) (h1 : i < s.size) :
    Calls Tryd.prog 107 #[.pointer (some ⟨g, 0, none⟩)] w fun e w' => e = .returned (.tuple #[.int .u8 (bt s i), .nilIface]) ∧ Rdr w' g s (i + 1) ∧ KeptB w w' g := by
  obtain ⟨p, hB⟩ := h.out
  have c0 := hB.c0; have c1 := hB.c1; have c2 := hB.c2
  have f0 := hB.f0; have f1 := hB.f1; have f2 := hB.f2
  have HB := Aside0.mk hB
  have hx := bt_at s i
  have p7 := eq_true h0
  have q7 := eq_true h1
  have hsi : (s.size : Int) ≤ 2147483647 := by omega
  have hB1 := Box.set2 hB (.int .i64 (-1))
  have d0 := hB1.c0; have d1 := hB1.c1; have d2 := hB1.c2
  have e0 := hB1.f0; have e1 := hB1.f1; have e2 := hB1.f2
  have HB1 := Aside0.mk hB1
  clear h hB hB1
  go_enter Tryd.func107, Tryd.ntmps107
  go_wp2
  go_region
  go_wp2
  go_region
  go_wp2
  go_ret2
  refine ⟨by first | rfl | simp, ⟨-1, ?_⟩, ?_⟩
  · exact Box.set1 (Box.drew (Box.drew HB1.out)) _
  · exact (((((KeptB.refl w g).set _).drew).drew).set _)
theorem ReadByte_end (g : Nat) (s : ByteArray) (i : Int) (p : Addr) (w : World) (h : Rdr w g s i) (hE : Eof w p) (hg : g ≠ 1) (h1 : ¬ i < s.size) :
    Calls Tryd.prog 107 #[.pointer (some ⟨g, 0, none⟩)] w fun e w' => e = .returned (.tuple #[.int .u8 0, .iface 71 (.pointer (some p))]) ∧ Rdr w' g s i ∧ KeptB w w' g := by
  obtain ⟨p0, hB⟩ := h.out
  have c0 := hB.c0; have c1 := hB.c1; have c2 := hB.c2
  have f0 := hB.f0; have f1 := hB.f1; have f2 := hB.f2
  have HB := Aside0.mk hB
  have he := hE.out
  have q7 : (s.size : Int) ≤ i := by omega
  have hne : ¬ ((1 : Nat) = g) := fun e => hg e.symm
  have hB1 := Box.set2 hB (.int .i64 (-1))
  have d0 := hB1.c0; have d1 := hB1.c1; have d2 := hB1.c2
  have e0 := hB1.f0; have e1 := hB1.f1; have e2 := hB1.f2
  have HB1 := Aside0.mk hB1
  have he2 : (w.setCell ⟨g, 2, none⟩ (.int .i64 (-1))).cell? ⟨1, 0, none⟩ = some (.iface 71 (.pointer (some p))) := KeptB.cell ((KeptB.refl w g).set _) (fun e => hg e.symm) he
  clear h hB hB1
  go_enter Tryd.func107, Tryd.ntmps107
  go_wp2
  go_region
  go_wp2
  go_region
  go_wp2
  go_ret2
  exact ⟨by first | rfl | simp, ⟨-1, (HB1.out).drew.drew⟩, (((KeptB.refl w g).set _).drew).drew⟩
theorem UnreadByte_n (g : Nat) (s : ByteArray) (i : Int) (w : World) (h : Rdr w g s i) (h0 : 0 < i) (h1 : i ≤ 2147483647) :
    Calls Tryd.prog 108 #[.pointer (some ⟨g, 0, none⟩)] w fun e w' => e = .returned .nilIface ∧ Rdr w' g s (i - 1) ∧ KeptB w w' g := by
  obtain ⟨p, hB⟩ := h.out
  have c0 := hB.c0; have c1 := hB.c1; have c2 := hB.c2
  have f0 := hB.f0; have f1 := hB.f1; have f2 := hB.f2
  have HB := Aside0.mk hB
  have q7 : ¬ i ≤ 0 := by omega
  clear h hB
  go_enter Tryd.func108, Tryd.ntmps108
  go_wp2
  go_ret
  exact ⟨rfl, ⟨-1, Box.set1 (Box.set2 HB.out _) _⟩, ((KeptB.refl w g).set _).set _⟩
theorem methR (a : Option Addr) (w : World) : (method 263 79 (.pointer a) "ReadByte").run Tryd.prog w = .ok (107, .pointer a) w := by kernel_rfl
theorem methU (a : Option Addr) (w : World) : (method 263 79 (.pointer a) "UnreadByte").run Tryd.prog w = .ok (108, .pointer a) w := by kernel_rfl
/-- The sign that a text begins with: how many bytes it takes. -/
def sgl (s : ByteArray) : Int := if bt s 0 = 45 ∨ bt s 0 = 43 then 1 else 0
set_option maxRecDepth 100000 in
set_option maxHeartbeats 1000000 in
theorem scanSign_n (g : Nat) (s : ByteArray) (w : World) (h : Rdr w g s 0) (hs : s.size ≤ 2147483647) (h1 : 0 < s.size) :
    Calls Tryd.prog 46 #[.iface 79 (.pointer (some ⟨g, 0, none⟩))] w fun e w' => e = .returned (.tuple #[.bool (decide (bt s 0 = 45)), .nilIface]) ∧ Rdr w' g s (sgl s) ∧ KeptB w w' g := by
  have hmR := methR
  have hmU := methU
  have HR := Aside0.mk (ReadByte_n g s 0 w h hs (by omega) (by omega))
  have HU := Aside0.mk (fun w h => UnreadByte_n g s (0 + 1) w h (by omega) (by omega))
  have hsg : sgl s = if bt s 0 = 45 ∨ bt s 0 = 43 then 1 else 0 := rfl
  have HS := Aside0.mk hsg
  clear h hsg
  generalize sgl s = sg at *
  generalize bt s 0 = c at *
  by_cases h45 : c = 45
  · subst h45
    go_enter Tryd.func46, Tryd.ntmps46
    go_wp2_with (first | (go_at_call 107; refine HR.out.mono ?_; rintro e w1 ⟨rfl, hr, hk⟩; have HR1 := Aside0.mk hr; have HK1 := Aside0.mk hk; clear hr hk) | (go_at_call 108; refine (HU.out _ HR1.out).mono ?_; rintro e w2 ⟨rfl, hr, hk⟩; have HR2 := Aside0.mk hr; have HK2 := Aside0.mk hk; clear hr hk))
    go_ret2
    obtain rfl : sg = 1 := by have := HS.out; simpa using this
    exact ⟨by first | rfl | simp, HR1.out, HK1.out⟩
  · have p45 : (c == 45) = false := beq_eq_false_iff_ne.mpr h45
    have d45 : decide (c = 45) = false := decide_eq_false h45
    rw [d45]
    by_cases h43 : c = 43
    · subst h43
      clear p45 d45 h45
      go_enter Tryd.func46, Tryd.ntmps46
      go_wp2_with (first | (go_at_call 107; refine HR.out.mono ?_; rintro e w1 ⟨rfl, hr, hk⟩; have HR1 := Aside0.mk hr; have HK1 := Aside0.mk hk; clear hr hk) | (go_at_call 108; refine (HU.out _ HR1.out).mono ?_; rintro e w2 ⟨rfl, hr, hk⟩; have HR2 := Aside0.mk hr; have HK2 := Aside0.mk hk; clear hr hk))
      go_ret2
      obtain rfl : sg = 1 := by have := HS.out; simpa using this
      exact ⟨by first | rfl | simp, HR1.out, HK1.out⟩
    · have p43 : (c == 43) = false := beq_eq_false_iff_ne.mpr h43
      have HS0 := Aside0.mk (show sg = 0 by rw [HS.out, if_neg (by rintro (h | h); exact h45 h; exact h43 h)])
      clear HS h45 h43 d45
      go_enter Tryd.func46, Tryd.ntmps46
      go_wp2_with (first | (go_at_call 107; refine HR.out.mono ?_; rintro e w1 ⟨rfl, hr, hk⟩; have HR1 := Aside0.mk hr; have HK1 := Aside0.mk hk; clear hr hk) | (go_at_call 108; refine (HU.out _ HR1.out).mono ?_; rintro e w2 ⟨rfl, hr, hk⟩; have HR2 := Aside0.mk hr; have HK2 := Aside0.mk hk; clear hr hk))
      go_ret2
      rw [HS0.out]
      exact ⟨by first | rfl | simp, HR2.out, HK1.out.then HK2.out⟩
end Go.Proofs.YteohmbannpbokaaDoor.ScanWalk

set_option linter.unusedVariables false
set_option linter.unusedSimpArgs false
namespace Go.Proofs.YteohmbannpbokaaDoor.ScanWalk
open Go.RowKit Go.Proofs.YteohmbannpbokaaDoorW.PrintWords Go.Proofs.YteohmbannpbokaaDoorW.PrintLast Go.Proofs.YteohmbannpbokaaDoorW.PrintMore Go.Proofs.YteohmbannpbokaaDoor.SpecWalk Go.Proofs.YteohmbannpbokaaDoor.BigWalk Go.Proofs.YteohmbannpbokaaDoor.WordWalk Go.Proofs.YteohmbannpbokaaDoor.TextLaw

theorem pow_all : ((List.range 19).all fun i => Go.Proofs.YteohmbannpbokaaDoor.Ppow.bigall_pow.f 10 10 (i : Int) == some (10 ^ i : Int)) = true := by kernel_rfl
theorem pow_n (i : Nat) (w : World) (h : i < 19) : Calls Tryd.prog 51 #[.int .u64 10, .int .i64 i] w fun e w' => e = .returned (.int .u64 ((10 ^ i : Nat) : Int)) ∧ Below w.heap.size w w' := by
  have h1 := List.all_eq_true.1 pow_all i (List.mem_range.2 h)
  have h2 : Go.Proofs.YteohmbannpbokaaDoor.Ppow.bigall_pow.f 10 10 (i : Int) = some (10 ^ i : Int) := by simpa using h1
  refine (Go.Proofs.YteohmbannpbokaaDoor.Ppow.bigall_pow.calls 10 10 i _ w h2).mono ?_
  rintro e w' ⟨rfl, hd⟩
  exact ⟨by simp, hd.below⟩
theorem p10_le {k : Nat} (h : k ≤ 17) : ((10 ^ (k + 1) : Nat) : Int) ≤ 1844674407370955161 := by
  have h1 : 10 ^ (k + 1) ≤ 10 ^ 18 := Nat.pow_le_pow_right (by decide) (by omega)
  omega
set_option maxHeartbeats 1000000 in
theorem maxPow_n (w : World) : Calls Tryd.prog 49 #[.int .u64 10] w fun e w' => e = .returned (.tuple #[.int .u64 10000000000000000000, .int .i64 19]) ∧ w' = w := by
  go_enter Tryd.func49, Tryd.ntmps49
  go_wp2
  go_loopg [2, 3] 18 (fun gg v2 v3 w' => ∃ k : Nat, v2 = .int .u64 ((10 ^ (k + 1) : Nat) : Int) ∧ v3 = .int .i64 ((k : Int) + 1) ∧ Aside0 (k + gg = 18) ∧ w' = w)
  case atStart => exact ⟨0, rfl, rfl, ⟨rfl⟩, rfl⟩
  case round =>
    obtain ⟨k, rfl, rfl, HG, rfl⟩ := hrel
    by_cases hk : k ≤ 17
    · have h1 := p10_le hk
      have h2 : ((10 ^ (k + 1 + 1) : Nat) : Int) = ((10 ^ (k + 1) : Nat) : Int) * 10 := by rw [Nat.pow_succ 10 (k + 1), Int.natCast_mul]; rfl
      have h0 : (0 : Int) ≤ ((10 ^ (k + 1) : Nat) : Int) := Int.natCast_nonneg _
      have hki : (k : Int) ≤ 17 := by omega
      have HW := Aside0.mk h2
      have HKI := Aside0.mk hk
      clear h2 hk
      generalize hp : ((10 ^ (k + 1) : Nat) : Int) = p at *
      have hm : p ≤ IntKind.u64.wrap (Int.tdiv 18446744073709551615 10) := by rw [u64_w]; simpa using h1
      go_wp2
      go_roundg (gk - 1)
      case measure => have := HG.out; have := HKI.out; omega
      case rel => exact ⟨k + 1, by rw [HW.out], by first | rfl | simp, ⟨by have := HG.out; have := HKI.out; omega⟩, rfl⟩
    · obtain rfl : k = 18 := by have := HG.out; omega
      go_wp2
      go_ret2
      exact ⟨by first | rfl | simp, rfl⟩
/-- The digits from a place on. -/
structure DigsFrom (s : ByteArray) (a : Nat) : Prop where
  mk :: (all : ∀ i : Nat, a ≤ i → i < s.size → 48 ≤ bt s i ∧ bt s i ≤ 57)
theorem DigsFrom.at_ {s : ByteArray} {a : Nat} (h : DigsFrom s a) {i : Nat} (h0 : a ≤ i) (h1 : i < s.size) : bt s i = 48 + (dgt s i : Int) ∧ dgt s i ≤ 9 := by
  have := h.all i h0 h1
  unfold TextLaw.dgt
  omega
theorem dseg_less {s : ByteArray} {a : Nat} (h : DigsFrom s a) : ∀ k, a + k ≤ s.size → dseg s a k < 10 ^ k := by
  intro k
  induction k with
  | zero => intro _; simp [dseg]
  | succ k ih =>
    intro hk
    have h1 := ih (by omega)
    have h2 := (h.at_ (i := a + k) (by omega) (by omega)).2
    rw [dseg, Nat.pow_succ]
    omega
/-- What a scan has come to: whole groups of 19 digits, and a group begun. -/
structure ScI (s : ByteArray) (a c M di i : Nat) : Prop where
  mk :: (val : dseg s a c = M * 10 ^ i + di) (less : i < 19) (low : di < 10 ^ i)
theorem ScI.start (s : ByteArray) (a : Nat) : ScI s a 0 0 0 0 := ⟨by simp [dseg], by decide, by simp⟩
theorem ScI.next {s : ByteArray} {a c M di i : Nat} (h : ScI s a c M di i) (hd : dgt s (a + c) ≤ 9) : dseg s a (c + 1) = M * 10 ^ (i + 1) + (di * 10 + dgt s (a + c)) ∧ di * 10 + dgt s (a + c) < 10 ^ (i + 1) := by
  have h1 := h.val
  have h2 := h.low
  rw [dseg, h1, Nat.pow_succ, ← Nat.mul_assoc]
  generalize 10 ^ i = p at *
  generalize M * p = q at *
  omega
theorem ScI.step {s : ByteArray} {a c M di i : Nat} (h : ScI s a c M di i) (hd : dgt s (a + c) ≤ 9) (hi : i + 1 < 19) : ScI s a (c + 1) M (di * 10 + dgt s (a + c)) (i + 1) := by
  obtain ⟨h1, h2⟩ := h.next hd
  exact ⟨h1, hi, h2⟩
theorem ScI.full {s : ByteArray} {a c M di i : Nat} (h : ScI s a c M di i) (hd : dgt s (a + c) ≤ 9) (hi : i + 1 = 19) : ScI s a (c + 1) (M * 10000000000000000000 + (di * 10 + dgt s (a + c))) 0 0 := by
  obtain ⟨h1, h2⟩ := h.next hd
  rw [hi] at h1
  exact ⟨by rw [h1]; simp, by decide, by simp⟩
theorem ScI.word {s : ByteArray} {a c M di i : Nat} (h : ScI s a c M di i) (hd : dgt s (a + c) ≤ 9) : di * 10 + dgt s (a + c) < 10000000000000000000 ∧ di < 1000000000000000000 := by
  have h2 := (h.next hd).2
  have h3 := h.low
  have h4 := h.less
  have h5 : 10 ^ (i + 1) ≤ 10 ^ 19 := Nat.pow_le_pow_right (by decide) (by omega)
  have h6 : 10 ^ i ≤ 10 ^ 18 := Nat.pow_le_pow_right (by decide) (by omega)
  omega
theorem len_ten (k N : Nat) (h : N < 10 ^ k) : (W64.digs N).length ≤ k :=
  W64.len_digs_le (Nat.lt_of_lt_of_le h (Nat.pow_le_pow_left (by decide) k))
theorem ScI.len {s : ByteArray} {a c M di i : Nat} (h : ScI s a c M di i) (hD : DigsFrom s a) (hc : a + c ≤ s.size) : (W64.digs M).length ≤ c := by
  refine len_ten c M ?_
  have h1 := dseg_less hD c hc
  have h2 := h.val
  have h3 : M * 1 ≤ M * 10 ^ i := Nat.mul_le_mul_left _ (Nat.pow_pos (by decide))
  omega
end Go.Proofs.YteohmbannpbokaaDoor.ScanWalk

set_option linter.unusedVariables false
set_option linter.unusedSimpArgs false
namespace Go.Proofs.YteohmbannpbokaaDoor.ScanWalk
open Go.RowKit Go.Proofs.YteohmbannpbokaaDoorW.PrintWords Go.Proofs.YteohmbannpbokaaDoorW.PrintLast Go.Proofs.YteohmbannpbokaaDoorW.PrintMore Go.Proofs.YteohmbannpbokaaDoor.SpecWalk Go.Proofs.YteohmbannpbokaaDoor.BigWalk Go.Proofs.YteohmbannpbokaaDoor.WordWalk Go.Proofs.YteohmbannpbokaaDoor.TextLaw

theorem Box.below_of {B : Nat} {w w1 : World} {g : Nat} {l : List Value} (h : Box w g l) (hb : Below B w w1) (hg : g < B) : Box w1 g l := by
  refine ⟨fun j v hj => ?_⟩
  obtain ⟨h1, h2⟩ := h.out j v hj
  have hk := hb.block g hg
  exact ⟨(World.cell?_of_block (a := ⟨g, j, none⟩) hk).trans h1, (World.frozen?_of_block (a := ⟨g, j, none⟩) hk).trans h2⟩
theorem Rdr.below_of {B : Nat} {w w1 : World} {g : Nat} {s : ByteArray} {i : Int} (h : Rdr w g s i) (hb : Below B w w1) (hg : g < B) : Rdr w1 g s i := by
  obtain ⟨p, h⟩ := h.out
  exact ⟨p, Box.below_of h hb hg⟩
theorem Eof.below_of {B : Nat} {w w1 : World} {p : Addr} (h : Eof w p) (hb : Below B w w1) (hg : 1 < B) : Eof w1 p :=
  ⟨(World.cell?_of_block (a := ⟨1, 0, none⟩) (hb.block 1 hg)).trans h.out⟩
theorem _root_.Go.Proofs.YteohmbannpbokaaDoor.WordWalk.Zs.kept {w w1 : World} {base g : Nat} {v : Value} {n : Nat} (h : Zs w base v n) (hk : KeptB w w1 g) (hg : g < base) : Zs w1 base v n := by
  rcases h.out with h | ⟨g2, cs, e, h1, h2, h3⟩
  · exact ⟨.inl h⟩
  · exact ⟨.inr ⟨g2, cs, e, h1, h2.kept hk (by omega), h3⟩⟩
theorem kept_low {w w1 w2 : World} {g : Nat} (h : KeptB w w1 g) (hb : Below w.heap.size w1 w2) : KeptB w w2 g :=
  ⟨hb.os.trans h.os, hb.tape.trans h.tape, hb.output.trans h.output, Nat.le_trans h.size hb.size, fun k hk hne => (hb.block k hk).trans (h.block k hk hne)⟩

theorem eof_same (p : Addr) (w : World) : (binOp .eql 46 (.iface 71 (.pointer (some p))) (.iface 71 (.pointer (some p)))).run Tryd.prog w = .ok (.bool true) w := by
  obtain ⟨i, hi, hc⟩ := Option.map_eq_some_iff.1 (show (Tryd.prog.info? 71).map (·.comparable) = some true by kernel_rfl)
  obtain ⟨j, hj, _⟩ := Option.map_eq_some_iff.1 (show (Tryd.prog.info? 73).map (·.size) = some 1 by kernel_rfl)
  exact run_eql_iface_ptr_same w p Tryd.underlying46 Tryd.underlying71 hi hc hj
set_option maxRecDepth 100000 in
set_option maxHeartbeats 8000000 in
theorem natscan_n (gr : Nat) (s : ByteArray) (a : Nat) (p : Addr) (w : World) (hR : Rdr w gr s a) (hE : Eof w p) (hg : gr ≠ 1) (hgb : gr < w.heap.size) (hD : DigsFrom s a) (ha : a < s.size) (hs : s.size ≤ 800) :
    Calls Tryd.prog 47 #[.slice none 0 0, .iface 79 (.pointer (some ⟨gr, 0, none⟩)), .int .i64 10, .bool false] w fun e w' => ∃ u, e = .returned (.tuple #[u, .int .i64 10, .int .i64 ((s.size - a : Nat) : Int), .nilIface]) ∧ Zs w' w.heap.size u (dseg s a (s.size - a)) ∧ Rdr w' gr s s.size ∧ Eof w' p ∧ KeptB w w' gr := by
  have hmR := methR
  have hmU := methU
  have hgl : 1 < w.heap.size := World.block_lt_of_cell? w _ hE.out
  have HGB := Aside0.mk (And.intro hgb hgl)
  have HRB := Aside0.mk (fun (i : Nat) (w1 : World) (h : Rdr w1 gr s i) (h1 : i < s.size) => ReadByte_n gr s i w1 h (by omega) (by omega) (by omega))
  have HRE := Aside0.mk (fun (w1 : World) (h : Rdr w1 gr s s.size) (he : Eof w1 p) => ReadByte_end gr s s.size p w1 h he hg (by omega))
  have HMP := Aside0.mk maxPow_n
  have HR0 := Aside0.mk hR
  have HE0 := Aside0.mk hE
  have HD := Aside0.mk hD
  have HS := Aside0.mk hs
  have HA := Aside0.mk ha
  obtain ⟨L, hL⟩ : ∃ L, L = s.size - a := ⟨_, rfl⟩
  rw [← hL]
  have HL := Aside0.mk (show a + L = s.size ∧ 0 < L ∧ L ≤ 800 by omega)
  clear hR hE hgb hgl hD ha hs hL
  go_enter Tryd.func47, Tryd.ntmps47
  go_wp2_with (first | (go_at_call 107; refine (HRB.out a _ HR0.out HA.out).mono ?_; rintro e w1 ⟨rfl, hr, hk⟩; have HR1 := Aside0.mk hr; have HK1 := Aside0.mk hk; clear hr hk) | (go_at_call 49; refine (HMP.out _).mono ?_; rintro e w2 ⟨rfl, rfl⟩))
  have HKA := Aside0.mk HK1.out
  have HE1 := Aside0.mk (HE0.out.kept HK1.out hg)
  have HZ1 := Aside0.mk (Zs.nil w2 w.heap.size)
  have HI0 := Aside0.mk (ScI.start s a)
  have HGN := Aside0.mk hg
  clear HE0 HK1 hg HR0
  go_loopg [0, 10, 11, 13, 14, 15, 20, 21, 22] L (fun gg v0 v10 v11 v13 v14 v15 v20 v21 v22 w' => ∃ (c M di i : Nat) (pv : Int), v14 = .bool false ∧ v22 = .int .i64 (-1) ∧ v10 = .int .i64 c ∧ v20 = .int .u64 di ∧ v21 = .int .i64 i ∧ v13 = .int .i32 pv ∧ Aside0 (pv = 46 ∨ pv = 48) ∧ Aside0 (ScI s a c M di i) ∧ Aside0 (c + gg = L) ∧ Aside0 (Zs w' w.heap.size v0 M) ∧ Aside0 (KeptB w w' gr) ∧ Aside0 (Eof w' p) ∧ ((v11 = .nilIface ∧ v15 = .int .u8 (bt s ((a + c : Nat) : Int)) ∧ Aside0 (c < L) ∧ Aside0 (Rdr w' gr s ((a + c + 1 : Nat) : Int))) ∨ (v11 = (.iface 71 (.pointer (some p))) ∧ Aside0 (c = L) ∧ (∃ x : Int, v15 = .int .u8 x) ∧ Aside0 (Rdr w' gr s s.size))))
  case atStart => exact ⟨0, 0, 0, 0, 46, rfl, rfl, rfl, rfl, rfl, rfl, ⟨.inl rfl⟩, HI0, ⟨by simp⟩, HZ1, HKA, HE1, .inl ⟨rfl, rfl, ⟨by have := HL.out; omega⟩, ⟨HR1.out⟩⟩⟩
  case round =>
    clear HKA HE1 HZ1 HI0 HR1 HMP
    obtain ⟨c, M, di, i, pv, rfl, rfl, rfl, rfl, rfl, rfl, HPV, HI, HG, HZ, HK, HE, hcase⟩ := hrel
    have hci : (c : Int) ≤ 800 := by have := HG.out; have := HL.out; omega
    have hil : (i : Int) < 19 := by have := HI.out.less; omega
    have HZF := HZ.out.form
    rcases hcase with ⟨rfl, rfl, HC, HR⟩ | ⟨rfl, HC, ⟨x, rfl⟩, HR⟩
    · obtain ⟨hbd, hd9⟩ := HD.out.at_ (i := a + c) (by omega) (by have := HL.out; have := HC.out; omega)
      obtain ⟨hwd, hdi⟩ := HI.out.word hd9
      have hdi1 : (di : Int) < 1000000000000000000 := by omega
      have y0 : 48 ≤ bt s ((a + c : Nat) : Int) := by omega
      have y1 : bt s ((a + c : Nat) : Int) ≤ 57 := by omega
      have HYD := Aside0.mk hbd
      have HW := Aside0.mk hwd
      have HDI := Aside0.mk hdi
      have HD9 := Aside0.mk hd9
      have HLN := Aside0.mk (HI.out.len HD.out (by have := HL.out; have := HC.out; omega))
      obtain ⟨A0, c0, rfl⟩ := HZF
      by_cases hi : i + 1 = 19
      · have HF := Aside0.mk (HI.out.full hd9 hi)
        have hmw := fun v hz => mulAddWW_n M 10000000000000000000 (di * 10 + dgt s (a + c)) v w.heap.size wr (by decide) (by decide) (by omega) hz HK.out.size (by have := HLN.out; have := HG.out; have := HL.out; omega)
        rw [show ((10000000000000000000 : Nat) : Int) = 10000000000000000000 from rfl, show ((di * 10 + dgt s (a + c) : Nat) : Int) = (di : Int) * 10 + (bt s ((a + c : Nat) : Int) - 48) by omega] at hmw
        have HMW := Aside0.mk (hmw _ HZ.out)
        have hi19 : (i : Int) = 18 := by omega
        clear hmw hwd hdi hd9 hbd hi HI
        generalize dgt s (a + c) = d at *
        generalize bt s ((a + c : Nat) : Int) = y at *
        have y46 : (y == 46) = false := beq_eq_false_iff_ne.mpr (by omega)
        have y95 : (y == 95) = false := beq_eq_false_iff_ne.mpr (by omega)
        have y10 : ¬ (10 ≤ y - 48) := by omega
        generalize (W64.digs M).length = lm at *
        rw [hi19]
        clear hi19 hil
        by_cases hn : c + 1 < L
        · go_wp2_with (first | (go_at_call 107; refine ((HRB.out (a + c + 1) _ HR.out (by have := HL.out; omega))).mono ?_; rintro e w5 ⟨rfl, hr, hk⟩; have HR5 := Aside0.mk hr; have HK5 := Aside0.mk hk; clear hr hk) | (go_at_call 50; refine (HMW.out).mono ?_; rintro e w4 ⟨u4, rfl, hu, hb⟩; have HU4 := Aside0.mk hu; have HB4 := Aside0.mk hb; clear hu hb; replace HR := Aside0.mk (Rdr.below_of HR.out HB4.out HGB.out.1); replace HE := Aside0.mk (Eof.below_of HE.out HB4.out HGB.out.2)))
          go_roundg (gk - 1)
          case measure => have := HG.out; have := HC.out; omega
          case rel => exact ⟨c + 1, _, 0, 0, 48, rfl, rfl, by simp, rfl, rfl, rfl, ⟨.inr rfl⟩, HF, ⟨by have := HG.out; have := HC.out; omega⟩, ⟨HU4.out.kept HK5.out HGB.out.1⟩, ⟨(kept_low HK.out HB4.out).then HK5.out⟩, ⟨HE.out.kept HK5.out HGN.out⟩, .inl ⟨rfl, by rw [show ((a + (c + 1) : Nat) : Int) = (a : Int) + c + 1 by omega], ⟨hn⟩, ⟨by have := HR5.out; rwa [show ((a + c + 1 : Nat) : Int) + 1 = ((a + (c + 1) + 1 : Nat) : Int) by omega] at this⟩⟩⟩
        · replace HR := Aside0.mk (show Rdr wr gr s s.size by have := HR.out; rwa [show a + c + 1 = s.size by have := HL.out; have := HC.out; omega] at this)
          go_wp2_with (first | (go_at_call 107; refine ((HRE.out _ HR.out HE.out)).mono ?_; rintro e w5 ⟨rfl, hr, hk⟩; have HR5 := Aside0.mk hr; have HK5 := Aside0.mk hk; clear hr hk) | (go_at_call 50; refine (HMW.out).mono ?_; rintro e w4 ⟨u4, rfl, hu, hb⟩; have HU4 := Aside0.mk hu; have HB4 := Aside0.mk hb; clear hu hb; replace HR := Aside0.mk (Rdr.below_of HR.out HB4.out HGB.out.1); replace HE := Aside0.mk (Eof.below_of HE.out HB4.out HGB.out.2)))
          go_roundg (gk - 1)
          case measure => have := HG.out; have := HC.out; omega
          case rel => exact ⟨c + 1, _, 0, 0, 48, rfl, rfl, by simp, rfl, rfl, rfl, ⟨.inr rfl⟩, HF, ⟨by have := HG.out; have := HC.out; omega⟩, ⟨HU4.out.kept HK5.out HGB.out.1⟩, ⟨(kept_low HK.out HB4.out).then HK5.out⟩, ⟨HE.out.kept HK5.out HGN.out⟩, .inr ⟨rfl, ⟨by have := HC.out; omega⟩, ⟨0, rfl⟩, HR5⟩⟩
      · have HF := Aside0.mk (HI.out.step hd9 (by have := HI.out.less; omega))
        have hi19 : ((i : Int) + 1 == 19) = false := beq_eq_false_iff_ne.mpr (by omega)
        have hr : (di : Int) * 10 + (bt s ((a + c : Nat) : Int) - 48) = ((di * 10 + dgt s (a + c) : Nat) : Int) := by omega
        have HDN := Aside0.mk hr
        clear hr hwd hdi hd9 hbd hi HI
        generalize dgt s (a + c) = d at *
        generalize bt s ((a + c : Nat) : Int) = y at *
        have y46 : (y == 46) = false := beq_eq_false_iff_ne.mpr (by omega)
        have y95 : (y == 95) = false := beq_eq_false_iff_ne.mpr (by omega)
        have y10 : ¬ (10 ≤ y - 48) := by omega
        by_cases hn : c + 1 < L
        · go_wp2_with (first | (go_at_call 107; refine ((HRB.out (a + c + 1) _ HR.out (by have := HL.out; omega))).mono ?_; rintro e w5 ⟨rfl, hr, hk⟩; have HR5 := Aside0.mk hr; have HK5 := Aside0.mk hk; clear hr hk) | (go_at_call 50; refine (False.elim trivial).mono ?_; rintro e w4 ⟨u4, rfl, hu, hb⟩; have HU4 := Aside0.mk hu; have HB4 := Aside0.mk hb; clear hu hb; replace HR := Aside0.mk (Rdr.below_of HR.out HB4.out HGB.out.1); replace HE := Aside0.mk (Eof.below_of HE.out HB4.out HGB.out.2)))
          go_roundg (gk - 1)
          case measure => have := HG.out; have := HC.out; omega
          case rel => exact ⟨c + 1, M, di * 10 + d, i + 1, 48, rfl, rfl, by simp, by rw [HDN.out], by simp, rfl, ⟨.inr rfl⟩, HF, ⟨by have := HG.out; have := HC.out; omega⟩, ⟨HZ.out.kept HK5.out HGB.out.1⟩, ⟨HK.out.then HK5.out⟩, ⟨HE.out.kept HK5.out HGN.out⟩, .inl ⟨rfl, by rw [show ((a + (c + 1) : Nat) : Int) = (a : Int) + c + 1 by omega], ⟨hn⟩, ⟨by have := HR5.out; rwa [show ((a + c + 1 : Nat) : Int) + 1 = ((a + (c + 1) + 1 : Nat) : Int) by omega] at this⟩⟩⟩
        · replace HR := Aside0.mk (show Rdr wr gr s s.size by have := HR.out; rwa [show a + c + 1 = s.size by have := HL.out; have := HC.out; omega] at this)
          go_wp2_with (first | (go_at_call 107; refine ((HRE.out _ HR.out HE.out)).mono ?_; rintro e w5 ⟨rfl, hr, hk⟩; have HR5 := Aside0.mk hr; have HK5 := Aside0.mk hk; clear hr hk) | (go_at_call 50; refine (False.elim trivial).mono ?_; rintro e w4 ⟨u4, rfl, hu, hb⟩; have HU4 := Aside0.mk hu; have HB4 := Aside0.mk hb; clear hu hb; replace HR := Aside0.mk (Rdr.below_of HR.out HB4.out HGB.out.1); replace HE := Aside0.mk (Eof.below_of HE.out HB4.out HGB.out.2)))
          go_roundg (gk - 1)
          case measure => have := HG.out; have := HC.out; omega
          case rel => exact ⟨c + 1, M, di * 10 + d, i + 1, 48, rfl, rfl, by simp, by rw [HDN.out], by simp, rfl, ⟨.inr rfl⟩, HF, ⟨by have := HG.out; have := HC.out; omega⟩, ⟨HZ.out.kept HK5.out HGB.out.1⟩, ⟨HK.out.then HK5.out⟩, ⟨HE.out.kept HK5.out HGN.out⟩, .inr ⟨rfl, ⟨by have := HC.out; omega⟩, ⟨0, rfl⟩, HR5⟩⟩
    · have heq := eof_same p
      have hE0 := HE.out.out
      have hcL : c = L := HC.out
      have hc0 : ((c : Int) == 0) = false := beq_eq_false_iff_ne.mpr (by have := HL.out; omega)
      have hpv : (pv == 95) = false := beq_eq_false_iff_ne.mpr (by rcases HPV.out with h | h <;> omega)
      obtain ⟨A0, c0, rfl⟩ := HZF
      have HV := Aside0.mk HI.out.val
      have HLN := Aside0.mk (HI.out.len HD.out (by have := HL.out; omega))
      have HCL := Aside0.mk hcL
      by_cases hi : i = 0
      · subst hi
        have hdi : di = 0 := by have := HI.out.low; simpa using this
        subst hdi
        have hM : dseg s a c = M := by have := HV.out; simpa using this
        have HM := Aside0.mk hM
        clear hM HI hil
        subst hcL
        go_wp2_with fail
        refine bodyPost_ret (v := .tuple #[.slice A0 (W64.digs M).length c0, .int .i64 10, .int .i64 c, .nilIface]) (by simp [results, Tryd.results47]) rfl ⟨_, rfl, ?_, HR.out, HE.out, HK.out⟩
        rw [HM.out]
        exact HZ.out
      · have hip : (0 : Int) < (i : Int) := by omega
        have hil2 : i < 19 := HI.out.less
        have hp10 : 0 < 10 ^ i := Nat.pow_pos (by decide)
        have hp19 : 10 ^ i ≤ 10 ^ 18 := Nat.pow_le_pow_right (by decide) (by omega)
        have hlow := HI.out.low
        have HPW := Aside0.mk (pow_n i wr hil2)
        have hmw := fun v w1 hz hb => mulAddWW_n M (10 ^ i) di v w.heap.size w1 hp10 (by omega) (by omega) hz hb (by have := HLN.out; have := HG.out; have := HL.out; omega)
        rw [← HV.out] at hmw
        have HMW := Aside0.mk hmw
        clear hmw hp19 hlow hp10 hil2 HI hil hi
        subst hcL
        generalize 10 ^ i = t at *
        go_wp2_with (first | (go_at_call 51; refine (HPW.out).mono ?_; rintro e w6 ⟨rfl, hb⟩; have HB6 := Aside0.mk hb; clear hb) | (go_at_call 50; refine (HMW.out _ _ (HZ.out.below HB6.out) (Nat.le_trans HK.out.size HB6.out.size)).mono ?_; rintro e w7 ⟨u7, rfl, hu, hb⟩; have HU7 := Aside0.mk hu; have HB7 := Aside0.mk hb; clear hu hb))
        refine bodyPost_ret (v := .tuple #[u7, .int .i64 10, .int .i64 c, .nilIface]) (by simp [results, Tryd.results47]) rfl ⟨_, rfl, HU7.out, Rdr.below_of (HR.out.below HB6.out) HB7.out HGB.out.1, Eof.below_of (HE.out.below HB6.out) HB7.out HGB.out.2, kept_low (HK.out.then (KeptB.of_below HB6.out)) HB7.out⟩
end Go.Proofs.YteohmbannpbokaaDoor.ScanWalk

set_option linter.unusedVariables false
set_option linter.unusedSimpArgs false
namespace Go.Proofs.YteohmbannpbokaaDoor.ScanWalk
open Go.RowKit Go.Proofs.YteohmbannpbokaaDoorW.PrintWords Go.Proofs.YteohmbannpbokaaDoorW.PrintLast Go.Proofs.YteohmbannpbokaaDoorW.PrintMore Go.Proofs.YteohmbannpbokaaDoor.SpecWalk Go.Proofs.YteohmbannpbokaaDoor.BigWalk Go.Proofs.YteohmbannpbokaaDoor.WordWalk Go.Proofs.YteohmbannpbokaaDoor.TextLaw

theorem sgl_two (s : ByteArray) : sgl s = 0 ∨ sgl s = 1 := by unfold sgl; split <;> simp
theorem Rdr.lt {w : World} {g : Nat} {s : ByteArray} {i : Int} (h : Rdr w g s i) : g < w.heap.size := by
  obtain ⟨p, h⟩ := h.out
  exact World.block_lt_of_cell? w _ h.c0
theorem neg_val (b : Bool) (N : Nat) : (decide (0 < (W64.digs N).length) && b) = sgn b N := by
  unfold sgn
  rw [Bool.and_comm]
  congr 1
  apply decide_eq_decide.mpr
  constructor
  · intro h
    apply Classical.byContradiction
    intro h0
    obtain rfl : N = 0 := by omega
    rw [W64.digs_zero] at h
    simp at h
  · intro h
    exact W64.len_pos (by omega)
theorem sgn_zero' (b : Bool) : sgn b 0 = false := by cases b <;> rfl
theorem isc_end {w w1 w2 : World} {gi gr N base : Nat} {s : ByteArray} {p : Addr} {u : Value} {b v : Bool} (hB : Box w2 gi [.bool false, .slice none 0 0]) (hk : Blk w2 gi) (hU : Zs w2 base u N) (hsz : w.heap.size ≤ base) (hl : gi < w.heap.size)
    (hR : Rdr w2 gr s s.size) (hG : gr ≠ 1 ∧ gi ≠ 1 ∧ gi ≠ gr) (hE : Eof w2 p) (h1 : KeptB w w1 gr) (h2 : KeptB w1 w2 gr) (hv : v = b) :
    (Ending.returned (.tuple #[.pointer (some ⟨gi, 0, none⟩), .int .i64 10, .nilIface]) = .returned (.tuple #[.pointer (some ⟨gi, 0, none⟩), .int .i64 10, .nilIface])) ∧ Big ((w2.setCell ⟨gi, 1, none⟩ u).setCell ⟨gi, 0, none⟩ (.bool v)) (fun k => w.heap.size ≤ k) gi b N ∧ Rdr ((w2.setCell ⟨gi, 1, none⟩ u).setCell ⟨gi, 0, none⟩ (.bool v)) gr s s.size ∧ Eof ((w2.setCell ⟨gi, 1, none⟩ u).setCell ⟨gi, 0, none⟩ (.bool v)) p ∧ ∀ B, B ≤ gi → B ≤ gr → Below B w ((w2.setCell ⟨gi, 1, none⟩ u).setCell ⟨gi, 0, none⟩ (.bool v)) := by
  subst hv
  have hkk : KeptB w2 ((w2.setCell ⟨gi, 1, none⟩ u).setCell ⟨gi, 0, none⟩ (.bool v)) gi := ((KeptB.refl w2 gi).set _).set _
  refine ⟨rfl, ⟨⟨u, Box.put0 (Box.put1 hB u) _, ?_⟩, (hk.set _ _).set _ _⟩, hR.kept hkk (fun e => hG.2.2 e.symm), hE.kept hkk hG.2.1, fun B b1 b2 => ?_⟩
  · exact ((hU.wdv.mono (fun k (hk : base ≤ k) => Nat.le_trans hsz hk)).far2 (fun k (hk : w.heap.size ≤ k) => by omega) 1 0 u (.bool v))
  · have hb1 : Below B w w2 := below_kept (h1.then h2) b2 (by omega)
    exact (hb1.setCell (by show B ≤ gi; exact b1) _).setCell (by show B ≤ gi; exact b1) _
set_option maxRecDepth 100000 in
set_option maxHeartbeats 2000000 in
theorem Iscan_n (gi gr : Nat) (s : ByteArray) (a : Nat) (p : Addr) (w : World) (hB : Box w gi [.bool false, .slice none 0 0]) (hbk : Blk w gi) (hR : Rdr w gr s 0) (hE : Eof w p) (hg : gr ≠ 1) (hgi : gi ≠ 1) (hgg : gi ≠ gr) (has : (a : Int) = sgl s) (hD : DigsFrom s a) (ha : a < s.size) (hs : s.size ≤ 800) :
    Calls Tryd.prog 40 #[.pointer (some ⟨gi, 0, none⟩), .iface 79 (.pointer (some ⟨gr, 0, none⟩)), .int .i64 10] w fun e w' => e = .returned (.tuple #[.pointer (some ⟨gi, 0, none⟩), .int .i64 10, .nilIface]) ∧ Big w' (fun k => w.heap.size ≤ k) gi (sgn (decide (bt s 0 = 45)) (dseg s a (s.size - a))) (dseg s a (s.size - a)) ∧ Rdr w' gr s s.size ∧ Eof w' p ∧ ∀ B, B ≤ gi → B ≤ gr → Below B w w' := by
  have HS := Aside0.mk (scanSign_n gr s w hR (by omega) (by omega))
  have HN := Aside0.mk (fun (w1 : World) (h : Rdr w1 gr s a) (he : Eof w1 p) => natscan_n gr s a p w1 h he hg h.lt hD ha hs)
  have HB := Aside0.mk hB
  have HK := Aside0.mk hbk
  have HE := Aside0.mk hE
  have HG := Aside0.mk (And.intro hg (And.intro hgi hgg))
  have HA := Aside0.mk has
  have hrl := hR.lt
  have hil := hbk.lt
  have HRL := Aside0.mk (And.intro hrl hil)
  clear hB hbk hR hE hg hgi hgg has hD ha hs hrl hil
  generalize s.size - a = L at *
  generalize dseg s a L = N at *
  generalize hneg : decide (bt s 0 = 45) = b at *
  by_cases hN : N = 0
  · subst hN
    have hl0 : (W64.digs 0).length = 0 := by rw [W64.digs_zero]; rfl
    rw [sgn_zero' b]
    generalize hm : (W64.digs 0).length = m at *
    subst hl0
    go_enter Tryd.func40, Tryd.ntmps40
    go_wp2_with (first | (go_at_call 46; refine HS.out.mono ?_; rintro e w1 ⟨rfl, hr, hk⟩; rw [← HA.out] at hr; have HR1 := Aside0.mk hr; have HK1 := Aside0.mk hk; clear hr hk; have HB1 := Aside0.mk (Box.kept HB.out HK1.out HG.out.2.2); have kb0 := HB1.out.c0; have kb1 := HB1.out.c1; have HE1 := Aside0.mk (HE.out.kept HK1.out HG.out.1)) | (go_at_call 47; refine (HN.out _ HR1.out HE1.out).mono ?_; rintro e w2 ⟨u, rfl, hu, hr, he, hk⟩; have HU := Aside0.mk hu; have HR2 := Aside0.mk hr; have HE2 := Aside0.mk he; have HK2 := Aside0.mk hk; clear hr he hk hu; have HB2 := Aside0.mk (Box.kept HB1.out HK2.out HG.out.2.2); have kc0 := HB2.out.c0; have kc1 := HB2.out.c1; have kd0 := HB2.out.f0; have kd1 := HB2.out.f1; obtain ⟨A0, c0, rfl⟩ := HU.out.form; have hB3 := Box.put1 HB2.out (.slice A0 0 c0); have ke0 := hB3.c0; have ke1 := hB3.c1; have kf0 := hB3.f0; have kf1 := hB3.f1; have HB3 := Aside0.mk hB3; clear hB3))
    refine bodyPost_ret (v := .tuple #[.pointer (some ⟨gi, 0, none⟩), .int .i64 10, .nilIface]) (by simp [results, Tryd.results40]) rfl ?_
    exact isc_end HB2.out (HK.out.kept HK1.out HG.out.2.2 |>.kept HK2.out HG.out.2.2) (by have h := HU.out; rwa [show (W64.digs 0).length = 0 by rw [W64.digs_zero]; rfl] at h) (HK1.out.size) HRL.out.2 HR2.out HG.out HE2.out HK1.out HK2.out (by rfl)
  · have hlp : (0 : Int) < ((W64.digs N).length : Int) := by have := W64.len_pos hN; omega
    have hsn : sgn b N = b := by cases b <;> simp [sgn, Nat.pos_of_ne_zero hN]
    rw [hsn]
    have HSN := Aside0.mk hsn
    cases b
    · go_enter Tryd.func40, Tryd.ntmps40
      go_wp2_with (first | (go_at_call 46; refine HS.out.mono ?_; rintro e w1 ⟨rfl, hr, hk⟩; rw [← HA.out] at hr; have HR1 := Aside0.mk hr; have HK1 := Aside0.mk hk; clear hr hk; have HB1 := Aside0.mk (Box.kept HB.out HK1.out HG.out.2.2); have kb0 := HB1.out.c0; have kb1 := HB1.out.c1; have HE1 := Aside0.mk (HE.out.kept HK1.out HG.out.1)) | (go_at_call 47; refine (HN.out _ HR1.out HE1.out).mono ?_; rintro e w2 ⟨u, rfl, hu, hr, he, hk⟩; have HU := Aside0.mk hu; have HR2 := Aside0.mk hr; have HE2 := Aside0.mk he; have HK2 := Aside0.mk hk; clear hr he hk hu; have HB2 := Aside0.mk (Box.kept HB1.out HK2.out HG.out.2.2); have kc0 := HB2.out.c0; have kc1 := HB2.out.c1; have kd0 := HB2.out.f0; have kd1 := HB2.out.f1; obtain ⟨A0, c0, rfl⟩ := HU.out.form; have hB3 := Box.put1 HB2.out (.slice A0 (W64.digs N).length c0); have ke0 := hB3.c0; have ke1 := hB3.c1; have kf0 := hB3.f0; have kf1 := hB3.f1; have HB3 := Aside0.mk hB3; clear hB3))
      refine bodyPost_ret (v := .tuple #[.pointer (some ⟨gi, 0, none⟩), .int .i64 10, .nilIface]) (by simp [results, Tryd.results40]) rfl ?_
      exact isc_end HB2.out (HK.out.kept HK1.out HG.out.2.2 |>.kept HK2.out HG.out.2.2) HU.out (HK1.out.size) HRL.out.2 HR2.out HG.out HE2.out HK1.out HK2.out (by rfl)
    · go_enter Tryd.func40, Tryd.ntmps40
      go_wp2_with (first | (go_at_call 46; refine HS.out.mono ?_; rintro e w1 ⟨rfl, hr, hk⟩; rw [← HA.out] at hr; have HR1 := Aside0.mk hr; have HK1 := Aside0.mk hk; clear hr hk; have HB1 := Aside0.mk (Box.kept HB.out HK1.out HG.out.2.2); have kb0 := HB1.out.c0; have kb1 := HB1.out.c1; have HE1 := Aside0.mk (HE.out.kept HK1.out HG.out.1)) | (go_at_call 47; refine (HN.out _ HR1.out HE1.out).mono ?_; rintro e w2 ⟨u, rfl, hu, hr, he, hk⟩; have HU := Aside0.mk hu; have HR2 := Aside0.mk hr; have HE2 := Aside0.mk he; have HK2 := Aside0.mk hk; clear hr he hk hu; have HB2 := Aside0.mk (Box.kept HB1.out HK2.out HG.out.2.2); have kc0 := HB2.out.c0; have kc1 := HB2.out.c1; have kd0 := HB2.out.f0; have kd1 := HB2.out.f1; obtain ⟨A0, c0, rfl⟩ := HU.out.form; have hB3 := Box.put1 HB2.out (.slice A0 (W64.digs N).length c0); have ke0 := hB3.c0; have ke1 := hB3.c1; have kf0 := hB3.f0; have kf1 := hB3.f1; have HB3 := Aside0.mk hB3; clear hB3))
      refine bodyPost_ret (v := .tuple #[.pointer (some ⟨gi, 0, none⟩), .int .i64 10, .nilIface]) (by simp [results, Tryd.results40]) rfl ?_
      exact isc_end HB2.out (HK.out.kept HK1.out HG.out.2.2 |>.kept HK2.out HG.out.2.2) HU.out (HK1.out.size) HRL.out.2 HR2.out HG.out HE2.out HK1.out HK2.out (by rfl)
theorem eof_ne (p : Addr) (w : World) : (binOp .neq 46 (.iface 71 (.pointer (some p))) (.iface 71 (.pointer (some p)))).run Tryd.prog w = .ok (.bool false) w := by
  obtain ⟨i, hi, hc⟩ := Option.map_eq_some_iff.1 (show (Tryd.prog.info? 71).map (·.comparable) = some true by kernel_rfl)
  obtain ⟨j, hj, _⟩ := Option.map_eq_some_iff.1 (show (Tryd.prog.info? 73).map (·.size) = some 1 by kernel_rfl)
  simp only [binOp]
  simp [Op.equal, Op.maxDepth, run_equalIn_iface_ptr_same w 9998 p Tryd.underlying46 Tryd.underlying71 hi hc hj]
set_option maxRecDepth 100000 in
set_option maxHeartbeats 2000000 in
theorem setFrom_n (gi gr : Nat) (s : ByteArray) (a : Nat) (p : Addr) (w : World) (hB : Box w gi [.bool false, .slice none 0 0]) (hbk : Blk w gi) (hR : Rdr w gr s 0) (hE : Eof w p) (hg : gr ≠ 1) (hgi : gi ≠ 1) (hgg : gi ≠ gr) (has : (a : Int) = sgl s) (hD : DigsFrom s a) (ha : a < s.size) (hs : s.size ≤ 800) :
    Calls Tryd.prog 30 #[.pointer (some ⟨gi, 0, none⟩), .iface 79 (.pointer (some ⟨gr, 0, none⟩)), .int .i64 10] w fun e w' => e = .returned (.tuple #[.pointer (some ⟨gi, 0, none⟩), .bool true]) ∧ Big w' (fun k => w.heap.size ≤ k) gi (sgn (decide (bt s 0 = 45)) (dseg s a (s.size - a))) (dseg s a (s.size - a)) ∧ Eof w' p ∧ ∀ B, B ≤ gi → B ≤ gr → Below B w w' := by
  have hmR := methR
  have hne := eof_ne p
  have HS := Aside0.mk (Iscan_n gi gr s a p w hB hbk hR hE hg hgi hgg has hD ha hs)
  have HRE := Aside0.mk (fun (w1 : World) (h : Rdr w1 gr s s.size) (he : Eof w1 p) => ReadByte_end gr s s.size p w1 h he hg (by omega))
  have HG := Aside0.mk (And.intro hg (And.intro hgi hgg))
  have HL := Aside0.mk hR.lt
  clear hB hbk hR hE hg hgi hgg has hD ha hs
  generalize dseg s a (s.size - a) = N at *
  generalize decide (bt s 0 = 45) = b at *
  go_enter Tryd.func30, Tryd.ntmps30
  go_wp2_with (first | (go_at_call 40; refine HS.out.mono ?_; rintro e w1 ⟨rfl, hbg, hr, he, hb⟩; have HBG := Aside0.mk hbg; have HR1 := Aside0.mk hr; have HE1 := Aside0.mk he; have HB1 := Aside0.mk hb; clear hbg hr he hb) | (go_at_call 107; refine (HRE.out _ HR1.out HE1.out).mono ?_; rintro e w2 ⟨rfl, hr, hk⟩; have HK2 := Aside0.mk hk; have he2 := (HE1.out.kept hk HG.out.1).out; clear hr hk))
  try (go_region; go_wp2)
  refine bodyPost_ret (v := .tuple #[.pointer (some ⟨gi, 0, none⟩), .bool true]) (by simp [results, Tryd.results30]) rfl ?_
  have hl := HL.out
  have hbg := HBG.out.kept HK2.out (fun k (hk : _ ≤ k) => by omega) HG.out.2.2
  have he := HE1.out.kept HK2.out HG.out.1
  have hb : ∀ B, B ≤ gi → B ≤ gr → Below B w w2 := fun B b1 b2 => below_trans (HB1.out B b1 b2) (below_kept HK2.out b2 (Nat.le_trans (by omega) (HB1.out B b1 b2).size)) (Nat.le_trans (by omega) (HB1.out B b1 b2).size)
  first
    | exact ⟨rfl, hbg, he, hb⟩
    | exact ⟨rfl, hbg.below (Below.refl _ _).drew, he.below (Below.refl _ _).drew, fun B b1 b2 => (hb B b1 b2).drew⟩
set_option maxRecDepth 100000 in
set_option maxHeartbeats 2000000 in
theorem SetString_n (gi : Nat) (s : ByteArray) (a : Nat) (p : Addr) (w : World) (hB : Box w gi [.bool false, .slice none 0 0]) (hbk : Blk w gi) (hE : Eof w p) (hgi : gi ≠ 1) (has : (a : Int) = sgl s) (hD : DigsFrom s a) (ha : a < s.size) (hs : s.size ≤ 800) :
    Calls Tryd.prog 23 #[.pointer (some ⟨gi, 0, none⟩), .string s, .int .i64 10] w fun e w' => e = .returned (.tuple #[.pointer (some ⟨gi, 0, none⟩), .bool true]) ∧ Big w' (fun k => w.heap.size ≤ k) gi (sgn (decide (bt s 0 = 45)) (dseg s a (s.size - a))) (dseg s a (s.size - a)) ∧ Eof w' p ∧ ∀ B, B ≤ gi → Below B w w' := by
  have HN := Aside0.mk (NewReader_n s w)
  have hil := hbk.lt
  have hel : 1 < w.heap.size := World.block_lt_of_cell? w _ hE.out
  have HS := Aside0.mk (fun (w1 : World) (hb : Below w.heap.size w w1) (hr : Rdr w1 w.heap.size s 0) => setFrom_n gi w.heap.size s a p w1 (hB.below hb) (hbk.below hb) hr (hE.below hb) (by omega) hgi (by omega) has hD ha hs)
  have HL := Aside0.mk hil
  clear hB hbk hE hgi has hD ha hs hel
  generalize dseg s a (s.size - a) = N at *
  generalize decide (bt s 0 = 45) = b at *
  go_enter Tryd.func23, Tryd.ntmps23
  go_wp2_with (first | (go_at_call 31; refine HN.out.mono ?_; rintro e w1 ⟨rfl, hr, hsz, hb⟩; have HR1 := Aside0.mk hr; have HB1 := Aside0.mk hb; clear hr hsz hb) | (go_at_call 30; refine (HS.out _ HB1.out HR1.out).mono ?_; rintro e w2 ⟨rfl, hbg, he, hb⟩; have HBG := Aside0.mk hbg; have HE2 := Aside0.mk he; have HB2 := Aside0.mk hb; clear hbg he hb))
  refine bodyPost_ret (v := .tuple #[.pointer (some ⟨gi, 0, none⟩), .bool true]) (by simp [results, Tryd.results23]) rfl ⟨rfl, HBG.out.mono (fun k (hk : _ ≤ k) => Nat.le_trans HB1.out.size hk), HE2.out, fun B hB => ?_⟩
  have hl := HL.out
  exact below_trans (below_less HB1.out (by omega)) (HB2.out B hB (by omega)) (Nat.le_trans (by omega) HB1.out.size)
end Go.Proofs.YteohmbannpbokaaDoor.ScanWalk
