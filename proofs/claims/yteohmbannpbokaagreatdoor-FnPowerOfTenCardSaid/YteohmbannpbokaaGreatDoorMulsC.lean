/-
  A row of words squared, with half of the products: the law.
  A row of words squared, with half of the products.
-/
import Derived.Test.YteohmbannpbokaaGreatDoorMulsB
import Derived.Defers
set_option linter.unusedVariables false
set_option linter.unusedSimpArgs false
namespace Go.Proofs.YteohmbannpbokaaGreatDoor.WordWalk
open Go.RowKit Go.Proofs.YteohmbannpbokaaGreatDoorW.PrintWords Go.Proofs.YteohmbannpbokaaGreatDoorW.PrintLast Go.Proofs.YteohmbannpbokaaGreatDoorW.PrintMore Go.Proofs.YteohmbannpbokaaGreatDoor.SpecWalk Go.Proofs.YteohmbannpbokaaGreatDoor.BigWalk

/-- All but some blocks are as they were. -/
structure KeptP (w w' : World) (P : Nat → Prop) : Prop where
  mk :: (os : w'.os = w.os) (tape : w'.tape = w.tape) (output : w'.output = w.output) (size : w.heap.size ≤ w'.heap.size) (block : ∀ k, k < w.heap.size → ¬ P k → w'.heap[k]? = w.heap[k]?)
section
variable {w w1 w2 : World} {P Q : Nat → Prop} {g : Nat}
theorem KeptP.refl (w : World) (P : Nat → Prop) : KeptP w w P := ⟨rfl, rfl, rfl, Nat.le_refl _, fun _ _ _ => rfl⟩
theorem KeptP.ofB (h : KeptB w w1 g) (hg : P g) : KeptP w w1 P := ⟨h.os, h.tape, h.output, h.size, fun k hk hp => h.block k hk (fun e => hp (e ▸ hg))⟩
theorem KeptP.then (h : KeptP w w1 P) (k : KeptP w1 w2 P) : KeptP w w2 P :=
  ⟨k.os.trans h.os, k.tape.trans h.tape, k.output.trans h.output, Nat.le_trans h.size k.size, fun i hi hp => (k.block i (Nat.lt_of_lt_of_le hi h.size) hp).trans (h.block i hi hp)⟩
theorem KeptP.thenB (h : KeptP w w1 P) (k : KeptB w1 w2 g) (hg : P g ∨ w.heap.size ≤ g) : KeptP w w2 P :=
  ⟨k.os.trans h.os, k.tape.trans h.tape, k.output.trans h.output, Nat.le_trans h.size k.size, fun i hi hp => (k.block i (Nat.lt_of_lt_of_le hi h.size) (by rintro rfl; rcases hg with hg | hg; exact hp hg; omega)).trans (h.block i hi hp)⟩
theorem KeptP.set (h : KeptP w w1 P) (p : Addr) (hp : P p.block ∨ w.heap.size ≤ p.block) (u : Value) : KeptP w (w1.setCell p u) P :=
  ⟨h.os, h.tape, h.output, by simpa using h.size, fun k hk hne => (Below.heap_setCell w1 p u k (by rintro rfl; rcases hp with hp | hp; exact hne hp; omega)).trans (h.block k hk hne)⟩
theorem KeptP.drew (h : KeptP w w1 P) : KeptP w w1.drew P := ⟨h.os, h.tape, h.output, h.size, h.block⟩
theorem KeptP.mono (h : KeptP w w1 P) (hp : ∀ k, P k → Q k) : KeptP w w1 Q := ⟨h.os, h.tape, h.output, h.size, fun k hk hq => h.block k hk (fun c => hq (hp k c))⟩
theorem KeptP.cell {g' j : Nat} {v : Value} (hk : KeptP w w1 P) (hne : ¬ P g') (h : w.cell? ⟨g', j, none⟩ = some v) : w1.cell? ⟨g', j, none⟩ = some v :=
  (World.cell?_of_block (a := ⟨g', j, none⟩) (hk.block g' (World.block_lt_of_cell? w _ h) hne)).trans h
theorem KeptP.box {g' : Nat} {l : List Value} (h : Box w g' l) (hk : KeptP w w1 P) (hne : ¬ P g') : Box w1 g' l := by
  refine ⟨fun j v hj => ?_⟩
  obtain ⟨h1, h2⟩ := h.out j v hj
  have hb := hk.block g' (World.block_lt_of_cell? w _ h1) hne
  exact ⟨(World.cell?_of_block (a := ⟨g', j, none⟩) hb).trans h1, (World.frozen?_of_block (a := ⟨g', j, none⟩) hb).trans h2⟩
theorem KeptP.buf {g' : Nat} {cs : List Int} (h : Buf w g' cs) (hk : KeptP w w1 P) (hne : ¬ P g') : Buf w1 g' cs := ⟨(hk.block g' h.lt hne).trans h.out⟩
theorem KeptP.blk {g' : Nat} (h : Blk w g') (hk : KeptP w w1 P) (hne : ¬ P g') : Blk w1 g' := by
  obtain ⟨ca, ta, e⟩ := h.out
  exact ⟨ca, ta, (hk.block g' h.lt hne).trans e⟩
end
/-- The squares, and the products of two different words, so far. -/
structure Sqrs (xs : List Int) (k : Nat) (sq a : List Int) : Prop where
  mk :: (pos : 1 ≤ k) (lsq : sq.length = 2 * k) (la : a.length = 2 * k - 1) (dsq : W64.Dig sq) (da : W64.Dig a) (zero : rd a 0 = 0) (eqn : W64.val sq + 2 * W64.val a = W64.val (xs.take k) * W64.val (xs.take k))
theorem mul_split (P : Int) : P % 18446744073709551616 + 18446744073709551616 * (P / 18446744073709551616) = P := by omega
theorem dig_two {P : Int} (h0 : 0 ≤ P) (h1 : P ≤ 18446744073709551615 * 18446744073709551615) : W64.Dig [P % 18446744073709551616, P / 18446744073709551616] := by
  intro z hz
  simp only [List.mem_cons, List.not_mem_nil, or_false] at hz
  rcases hz with rfl | rfl <;> omega
theorem val_two (P : Int) : W64.val [P % 18446744073709551616, P / 18446744073709551616] = P := by
  simp [W64.val]; omega
theorem Sqrs.start {xs : List Int} (h : 0 < xs.length) (hd : W64.Dig xs) : Sqrs xs 1 [rd xs 0 * rd xs 0 % 18446744073709551616, rd xs 0 * rd xs 0 / 18446744073709551616] [0] := by
  obtain ⟨x0, x1⟩ := W64.dig_rd hd 0
  obtain ⟨p0, p1⟩ := mul_words (x := rd xs 0) (y := rd xs 0) ⟨x0, x1⟩ ⟨x0, x1⟩
  refine ⟨Nat.le_refl _, rfl, rfl, dig_two p0 p1, by intro z hz; rw [List.mem_singleton] at hz; subst hz; decide, rfl, ?_⟩
  rw [val_two]
  have e : W64.val (xs.take 1) = rd xs 0 := by
    cases xs with
    | nil => exact absurd h (by simp)
    | cons x xs => simp [W64.val, rd]
  rw [e]
  simp [W64.val]
theorem Sqrs.step {xs sq a : List Int} {k : Nat} (h : Sqrs xs k sq a) (hk : k < xs.length) (hd : W64.Dig xs) (out : List Int) (c : Int) (ho : out.length = k) (hdo : W64.Dig out) (hc : Word c)
    (hv : W64.val out + c * 18446744073709551616 ^ k = W64.val (a.drop k ++ [0]) + W64.val (xs.take k) * rd xs k) :
    Sqrs xs (k + 1) (sq ++ [rd xs k * rd xs k % 18446744073709551616, rd xs k * rd xs k / 18446744073709551616]) (a.take k ++ (out ++ [c])) := by
  obtain ⟨x0, x1⟩ := W64.dig_rd hd (k : Int)
  obtain ⟨p0, p1⟩ := mul_words (x := rd xs k) (y := rd xs k) ⟨x0, x1⟩ ⟨x0, x1⟩
  obtain ⟨h1, h2, h3, h4, h5, h6, h7⟩ := h
  have hlt : (a.take k).length = k := by rw [List.length_take]; omega
  refine ⟨by omega, by simp [h2]; omega, by simp [hlt, ho]; omega, h4.append (dig_two p0 p1), ?_, ?_, ?_⟩
  · exact (h5.take k).append (hdo.append (by intro z hz; rw [List.mem_singleton] at hz; subst hz; exact ⟨hc.lo, hc.hi⟩))
  · have e1 : rd (a.take k ++ (out ++ [c])) ((0 : Nat) : Int) = rd a ((0 : Nat) : Int) := by
      rw [W64.rd_lt (by simp [hlt]; omega), W64.rd_lt (by omega), List.getElem_append_left (by omega), List.getElem_take]
    exact e1.trans h6
  · have e0 : W64.val a = W64.val (a.take k) + 18446744073709551616 ^ k * W64.val (a.drop k) := by
      have := W64.val_append (a.take k) (a.drop k)
      rw [List.take_append_drop, hlt] at this
      exact this
    have e1 : W64.val (a.drop k ++ [0]) = W64.val (a.drop k) := by rw [W64.val_append]; simp [W64.val]
    rw [e1] at hv
    rw [W64.val_append, W64.val_append, W64.val_append, hlt, ho, h2, val_two, W64.val_take_succ hk]
    have e2 : W64.val [c] = c := by simp [W64.val]
    rw [e2]
    have e3 : (18446744073709551616 : Int) ^ (2 * k) = 18446744073709551616 ^ k * 18446744073709551616 ^ k := by rw [← Int.pow_add]; congr 1; omega
    rw [e3]
    generalize (18446744073709551616 : Int) ^ k = p at *
    generalize rd xs (k : Int) = x at *
    generalize W64.val (xs.take k) = X at *
    generalize W64.val (a.drop k) = A1 at *
    generalize W64.val (a.take k) = A0 at *
    generalize W64.val out = O at *
    generalize W64.val sq = S at *
    generalize W64.val a = A at *
    subst e0
    have e4 : p * (O + p * c) = p * (A1 + X * x) := by rw [← hv]; grind
    grind
theorem Sqrs.done {xs sq a : List Int} (h : Sqrs xs xs.length sq a) : W64.val sq + 2 * W64.val a = W64.val xs * W64.val xs := by
  have := h.eqn
  rwa [List.take_length] at this
/-- The products doubled: the lowest word is 0, what is over is laid behind. -/
theorem doubled_val {a : List Int} {n : Nat} (hn : 1 < n) (la : a.length = 2 * n - 1) (da : W64.Dig a) (h0 : rd a 0 = 0) :
    W64.Dig (0 :: (shl ((2 : Int) ^ 1) ((2 : Int) ^ 63) 0 (a.drop 1) ++ [shlTop ((2 : Int) ^ 63) 0 (a.drop 1)])) ∧ W64.val (0 :: (shl ((2 : Int) ^ 1) ((2 : Int) ^ 63) 0 (a.drop 1) ++ [shlTop ((2 : Int) ^ 63) 0 (a.drop 1)])) = 2 * W64.val a := by
  have hh := halfs_of (s := 1) (t := 63) rfl
  cases a with
  | nil => exact absurd la (by simp; omega)
  | cons x a =>
    have hx : x = 0 := by simpa [rd] using h0
    subst hx
    rw [List.drop_one, List.tail_cons]
    have hv := shl_val hh 0 a
    have ht := shl_top_word hh 0 a (by decide) (by decide) da.tail
    have hd := shl_dig hh 0 a (by decide) (by decide) da.tail
    refine ⟨W64.Dig.cons (by decide) (hd.append (by intro z hz; rw [List.mem_singleton] at hz; subst hz; have : (2 : Int) ^ 1 = 2 := rfl; omega)), ?_⟩
    simp only [W64.val]
    rw [W64.val_append, shl_len]
    have e1 : W64.val [shlTop ((2 : Int) ^ 63) 0 a] = shlTop ((2 : Int) ^ 63) 0 a := by simp [W64.val]
    rw [e1]
    have e2 : (2 : Int) ^ 1 = 2 := rfl
    rw [e2] at hv
    have e3 : shlTop ((2 : Int) ^ 63) 0 a * 18446744073709551616 ^ a.length = 18446744073709551616 ^ a.length * shlTop ((2 : Int) ^ 63) 0 a := Int.mul_comm _ _
    rw [e3] at hv
    generalize 18446744073709551616 ^ a.length * shlTop ((2 : Int) ^ 63) 0 a = T at *
    rw [e2]
    omega
end Go.Proofs.YteohmbannpbokaaGreatDoor.WordWalk

set_option linter.unusedVariables false
set_option linter.unusedSimpArgs false
namespace Go.Proofs.YteohmbannpbokaaGreatDoor.WordWalk
open Go.RowKit Go.Proofs.YteohmbannpbokaaGreatDoorW.PrintWords Go.Proofs.YteohmbannpbokaaGreatDoorW.PrintLast Go.Proofs.YteohmbannpbokaaGreatDoorW.PrintMore Go.Proofs.YteohmbannpbokaaGreatDoor.SpecWalk Go.Proofs.YteohmbannpbokaaGreatDoor.BigWalk

set_option maxHeartbeats 1000000 in
/-- The deferred end of a use of a stack. -/
theorem rest_d (gs g l c gt : Nat) (u : FrameMode) (w : World) (hs : Box w gs [.pointer (some ⟨g, 0, none⟩)]) (h : Box w g [.slice (some ⟨gt, 0, none⟩) l c]) (hc : (c : Int) ≤ 9223372036854775807) : CallsD Tryz.prog 92 #[.pointer (some ⟨gs, 0, none⟩), .int .i64 0] u w fun e u' w' => u' = u ∧ (e = .returned (.tuple #[]) ∧ w' = w.setCell ⟨g, 0, none⟩ (.slice (some ⟨gt, 0, none⟩) 0 c)) := by
  have h0 := hs.c0
  have HI := Aside0.mk (irest_n g l c gt w h hc)
  clear h hc
  go_enter_d Tryz.func92, Tryz.ntmps92
  go_wp2_with (go_at_call 114; refine HI.out.mono ?_; rintro e w1 ⟨rfl, rfl⟩)
  go_end0
  exact ⟨rfl, rfl⟩
theorem free_d (gs g l c gt : Nat) (u : FrameMode) (w : World) (hs : Box w gs [.pointer (some ⟨g, 0, none⟩)]) (h : Box w g [.slice (some ⟨gt, 0, none⟩) l c]) (hc : (c : Int) ≤ 9223372036854775807) : CallsD Tryz.prog 87 #[.pointer (some ⟨gs, 0, none⟩)] u w fun e u' w' => u' = u ∧ (e = .returned (.tuple #[]) ∧ w' = w.setCell ⟨g, 0, none⟩ (.slice (some ⟨gt, 0, none⟩) 0 c)) := by
  have h0 := hs.c0
  have HI := Aside0.mk (ifree_n g l c gt w h hc)
  clear h hc
  go_enter_d Tryz.func87, Tryz.ntmps87
  go_wp2_with (go_at_call 109; refine HI.out.mono ?_; rintro e w1 ⟨rfl, rfl⟩)
  go_end0
  exact ⟨rfl, rfl⟩
theorem free_nil_d (gs : Nat) (u : FrameMode) (w : World) (hs : Box w gs [.pointer none]) : CallsD Tryz.prog 87 #[.pointer (some ⟨gs, 0, none⟩)] u w fun e u' w' => u' = u ∧ (e = .returned (.tuple #[]) ∧ w' = w) := by
  have h0 := hs.c0
  go_enter_d Tryz.func87, Tryz.ntmps87
  go_wp2
  go_end0
  exact ⟨rfl, rfl⟩
theorem andNot_len {n : Nat} (h : 2 * n ≤ 100) : bits .andNot .i64 (((2 * n : Nat) : Int) + 3) 3 = (((2 * n + 3) / 4 * 4 : Nat) : Int) := by
  have : ∀ k : Fin 51, bits .andNot .i64 (((2 * (k : Nat) : Nat) : Int) + 3) 3 = (((2 * (k : Nat) + 3) / 4 * 4 : Nat) : Int) := by decide
  exact this ⟨n, by omega⟩
/-- A function without results leaves in the same way, whatever its temporaries hold. -/
theorem leaves_any {P : Program} {fn : Func} (hr : fn.results = #[]) {t t' : Array Value} {R : Ending → World → Prop} : ∀ (ds : List Deferred) (u : FrameMode) (w : World), Leaves P fn t R ds u w → Leaves P fn t' R ds u w
  | [], .returning, w, h => by
    obtain ⟨v, h1, h2⟩ := h
    refine ⟨v, ?_, h2⟩
    simpa [results, hr] using h1
  | [], .panicking c, w, h => h
  | [], .run, w, h => h
  | d :: ds, u, w, h => by
    obtain ⟨hu, fv, cap, f, args, h1, h2, h3⟩ := h
    refine ⟨hu, fv, cap, f, args, h1, h2, h3.mono ?_⟩
    intro e u' w' hR
    cases e with
    | returned v => exact leaves_any hr ds _ _ hR
    | panicked c => exact leaves_any hr ds _ _ hR
    | outgrown => exact hR
theorem pair_set {sq cs : List Int} {k : Nat} (h : sq.length = 2 * k) (hc : 2 * k + 2 ≤ cs.length) (l u : Int) : ((sq ++ cs.drop (2 * k)).set (2 * k + 1) u).set (2 * k) l = (sq ++ [l, u]) ++ cs.drop (2 * (k + 1)) := by
  obtain ⟨p, q, e⟩ : ∃ p q, cs.drop (2 * k) = p :: q :: cs.drop (2 * k + 2) := ⟨cs[2 * k], cs[2 * k + 1], by
    rw [List.drop_eq_getElem_cons (by omega), List.drop_eq_getElem_cons (by omega)]⟩
  rw [e, show 2 * (k + 1) = 2 * k + 2 by omega, List.set_append_right _ _ (by omega), List.set_append_right _ _ (by omega), h, Nat.add_sub_cancel_left, Nat.sub_self]
  simp
theorem row_split {a rest : List Int} {k n : Nat} (hk : 1 ≤ k) (hkn : k < n) (ha : a.length = 2 * k - 1) : a ++ (List.replicate (2 * n - (2 * k - 1)) 0 ++ rest) = a.take k ++ ((a.drop k ++ [0]) ++ (List.replicate (2 * n - 2 * k) 0 ++ rest)) := by
  rw [show 2 * n - (2 * k - 1) = (2 * n - 2 * k) + 1 by omega, List.replicate_succ, List.append_assoc (a.drop k), ← List.append_assoc (a.take k), List.take_append_drop]
  rfl
theorem row_set {a out rest : List Int} {k n : Nat} (hk : 1 ≤ k) (hkn : k < n) (ha : a.length = 2 * k - 1) (ho : out.length = k) (c : Int) : (a.take k ++ (out ++ (List.replicate (2 * n - 2 * k) 0 ++ rest))).set (2 * k) c = (a.take k ++ (out ++ [c])) ++ (List.replicate (2 * n - (2 * (k + 1) - 1)) 0 ++ rest) := by
  have hl : (a.take k).length = k := by rw [List.length_take]; omega
  rw [show 2 * n - 2 * k = (2 * n - (2 * (k + 1) - 1)) + 1 by omega, List.replicate_succ, List.set_append_right _ _ (by omega), hl, List.set_append_right _ _ (by omega), ho, show 2 * k - k - k = 0 by omega]
  simp
theorem row_lt {a out rest : List Int} {k n : Nat} (hk : 1 ≤ k) (hkn : k < n) (ha : a.length = 2 * k - 1) (ho : out.length = k) : 2 * k < (a.take k ++ (out ++ (List.replicate (2 * n - 2 * k) 0 ++ rest))).length := by
  simp [ho]; omega
theorem last_lt {at1 rest : List Int} {k : Nat} {p q : Int} (h : at1.length = 2 * k - 2) (hk : 1 < k) : 2 * k - 1 < ([0] ++ (shl p q 0 at1 ++ 0 :: rest)).length := by
  simp [shl_len, h]; omega
/-- The first words of a block cleared. -/
theorem clear0 (w : World) (g n c : Nat) (cs : List Int) (hz : Buf w g cs) (hn : 0 < n) (hl : n ≤ cs.length) : ∃ W, (∀ ty, (Builtin.clear_ #[57] ty #[.slice (some ⟨g, 0, none⟩) n c]).run Tryz.prog w = .ok (.tuple #[]) W) ∧ Buf W g (List.replicate n 0 ++ cs.drop n) ∧ KeptB w W g := by
  have hz2 : Buf w g ([] ++ (cs.take n ++ cs.drop n)) := by rw [List.nil_append, List.take_append_drop]; exact hz
  refine ⟨_, fun ty => run_clear w g n c [] _ _ hz2 hn (by rw [List.length_take]; omega) ty, ?_, kept_puts _ _ _ (KeptB.refl _ _)⟩
  exact Buf.puts (List.replicate n 0) _ [] w (by rw [List.length_replicate, List.length_take]; omega) hz2
set_option maxHeartbeats 8000000 in
set_option maxRecDepth 100000 in
theorem basicSqr_n (g gx gs cx : Nat) (cs xs : List Int) (w : World) (hz : Buf w g cs) (hl : 2 * xs.length ≤ cs.length) (hlm : cs.length ≤ 1000) (h12 : 12 ≤ xs.length) (h40 : xs.length ≤ 40) (hd : W64.Dig xs) (hgx : gx ≠ g) (hgs : gs ≠ g) (hsx : gs ≠ gx) (hxl : gx < w.heap.size) (hcx : xs.length ≤ cx)
    (hxc : ∀ i : Nat, i < xs.length → w.cell? ⟨gx, i, none⟩ = some (.int .u64 (rd xs (i : Int)))) (hB : Box w gs [.pointer none]) (hT : w.cell? ⟨0, 0, none⟩ = some (.int .i64 12)) :
    Calls Tryz.prog 88 #[.pointer (some ⟨gs, 0, none⟩), .slice (some ⟨g, 0, none⟩) (2 * xs.length) cs.length, .slice (some ⟨gx, 0, none⟩) xs.length cx] w fun e w' => e = .returned (.tuple #[]) ∧ ∃ (out : List Int) (gi gt G : Nat), out.length = 2 * xs.length ∧ W64.Dig out ∧ W64.val out = W64.val xs * W64.val xs ∧ Buf w' g (out ++ cs.drop (2 * xs.length)) ∧ w.heap.size ≤ gi ∧ gi < gt ∧ (G : Int) ≤ 9223372036854775807 ∧ Box w' gs [.pointer (some ⟨gi, 0, none⟩)] ∧ Box w' gi [.slice (some ⟨gt, 0, none⟩) 0 G] ∧ KeptP w w' (fun k => k = g ∨ k = gs) := by
  have hglt := hz.lt
  have hslt : gs < w.heap.size := World.block_lt_of_cell? w _ hB.c0
  have HSV := Aside0.mk ((save_nil gs w hB).mono (fun e w' h => And.intro h.1 h.2.symm))
  have HSN := Aside0.mk (snat_new (2 * xs.length) ((2 * xs.length + 3) / 4 * 4) gs w hB (andNot_len (by omega)) (by omega) (by omega) (by omega))
  have HX := Aside0.mk hxc
  have HZ := Aside0.mk hz
  have HD := Aside0.mk hd
  have HNE := Aside0.mk (And.intro hgx (And.intro hgs (And.intro hsx (And.intro hxl (And.intro hglt (And.intro hslt hcx))))))
  have HL := Aside0.mk (And.intro hl hlm)
  have n0 : 12 ≤ (xs.length : Int) := by omega
  have n1 : (xs.length : Int) ≤ 40 := by omega
  have n2 : ((2 * xs.length : Nat) : Int) = 2 * (xs.length : Int) := by omega
  clear hxc hz hd hgx hgs hsx hxl hglt hslt hl hlm hB h12 h40 hcx
  rw [n2] at HSN
  generalize hn : xs.length = n at *
  have HN := Aside0.mk hn
  clear hn
  go_enter_defers Tryz.func88, Tryz.ntmps88
  go_wp2_with (first | (go_at_call 93; refine HSV.out.mono ?_; rintro e w1 ⟨rfl, rfl⟩) | (go_at_call 94; refine HSN.out.mono ?_; rintro e w1 ⟨gi, gt, G, rfl, g1, g2, g3, g4, g5, g6, g7, g8⟩; obtain ⟨W2, hclr, hbt, hkt⟩ := clear0 w1 gt (2 * n) (2 * n) _ g7 (by omega) (by simp; omega)) | (simp only [hclr]))
  clear HSV HSN hclr
  have hne := HNE.out
  have HK := KeptP.thenB (KeptP.ofB (P := fun k => k = g ∨ k = gs) g8 (.inr rfl)) hkt (.inr (show _ ≤ gt by omega))
  have HBZ := KeptP.buf (HZ.out.kept g8 (fun e => hne.2.1 e.symm)) (KeptP.ofB (P := fun k => k = gt) hkt rfl) (by show ¬ g = gt; omega)
  have HXC : ∀ i : Nat, i < n → W2.cell? ⟨gx, i, none⟩ = some (.int .u64 (rd xs (i : Int))) := fun i hi => HK.cell (by rintro (h | h); exact hne.1 h; exact hne.2.2.1 h.symm) (HX.out i hi)
  have HGS := Box.kept g5 hkt (show gs ≠ gt by omega)
  have HGI := Box.kept g6 hkt (show gi ≠ gt by omega)
  have hx0 := W64.dig_rd HD.out 0
  have hxr0 : W2.cell? ⟨gx, 0, none⟩ = some (.int .u64 (rd xs 0)) := HXC 0 (by omega)
  have HMW := Aside0.mk (fun w => mulWW_n (rd xs 0) (rd xs 0) ⟨hx0.1, hx0.2⟩ ⟨hx0.1, hx0.2⟩ w)
  have HS0 := Sqrs.start (xs := xs) (by have := HN.out; omega) HD.out
  generalize hP : rd xs 0 * rd xs 0 = P0 at *
  have HP0 := Aside0.mk hP
  have hcz1 := HBZ.cell (j := 1) (by have := HL.out; omega)
  have hfz1 := HBZ.frozen 1
  have hcz0 := (HBZ.put 1 (P0 / 18446744073709551616)).cell (j := 0) (by have := HL.out; simp; omega)
  have hfz0 := (HBZ.put 1 (P0 / 18446744073709551616)).frozen 0
  have HBZ2 := ((HBZ.put 1 (P0 / 18446744073709551616)).put 0 (P0 % 18446744073709551616)).drew
  have hn0 : 0 < n := by omega
  have h2n0 : (0 : Int) < 2 * (n : Int) := by omega
  have h2n : (1 : Int) < 2 * (n : Int) := by omega
  generalize rd xs 0 = x0 at *
  go_wp2_with fail
  refine start_ (n := 16) (S := fun w' => w'.cell? ⟨gx, 0, none⟩ = some (.int .u64 x0)) (ds := [15]) #[false, false, false, false, false, false, false, false, false, false, false, false, false, false, false, false] (by kernel_rfl) rfl rfl (by simpa using hxr0) (fun hHeld => ?_)
  refine pure_ (i := 0) (N := some 28) (v := ?_) (a' := ?_) #[true, false, false, false, false, false, false, false, false, false, false, false, false, false, false, false] rfl rfl (by kernel_rfl) (fun _ _ _ h => leaves_any rfl _ _ _ h) (Or.inl ⟨by rfl, ?_⟩) ?_ ?_
  rotate_left
  · intro w'
    go_simp
    with_reducible rfl
  rotate_left
  · simp only [Act.put, List.setIfInBounds_toArray, List.set_cons_zero, List.set_cons_succ, i64_w, i32_w]
    rfl
  refine pure_ (i := 1) (N := some 29) (v := ?_) (a' := ?_) #[true, true, false, false, false, false, false, false, false, false, false, false, false, false, false, false] rfl rfl (by kernel_rfl) (fun _ _ _ h => leaves_any rfl _ _ _ h) (Or.inl ⟨by rfl, ?_⟩) ?_ ?_
  rotate_left
  · intro w'
    go_simp
    with_reducible rfl
  rotate_left
  · simp only [Act.put, List.setIfInBounds_toArray, List.set_cons_zero, List.set_cons_succ, i64_w, i32_w]
    rfl
  refine pure_ (i := 2) (N := some 30) (v := ?_) (a' := ?_) #[true, true, true, false, false, false, false, false, false, false, false, false, false, false, false, false] rfl rfl (by kernel_rfl) (fun _ _ _ h => leaves_any rfl _ _ _ h) (Or.inl ⟨by rfl, ?_⟩) ?_ ?_
  rotate_left
  · intro w'
    go_simp
    with_reducible rfl
  rotate_left
  · simp only [Act.put, List.setIfInBounds_toArray, List.set_cons_zero, List.set_cons_succ, i64_w, i32_w]
    rfl
  refine pure_ (i := 3) (N := some 31) (v := ?_) (a' := ?_) #[true, true, true, true, false, false, false, false, false, false, false, false, false, false, false, false] rfl rfl (by kernel_rfl) (fun _ _ _ h => leaves_any rfl _ _ _ h) (Or.inl ⟨by rfl, ?_⟩) ?_ ?_
  rotate_left
  · intro w'
    go_simp
    try simp only [if_pos hn0]
    with_reducible rfl
  rotate_left
  · simp only [Act.put, List.setIfInBounds_toArray, List.set_cons_zero, List.set_cons_succ, i64_w, i32_w]
    rfl
  refine take_ (i := 4) (N := some 32) (v := ?_) (a' := ?_) #[true, true, true, true, true, false, false, false, false, false, false, false, false, false, false, false] rfl rfl (by kernel_rfl) (fun _ _ _ h => leaves_any rfl _ _ _ h) (Or.inl ⟨by rfl, ?_⟩) hHeld ?_ ?_
  rotate_left
  · rintro w' s0
    go_simp
    with_reducible rfl
  rotate_left
  · simp only [Act.put, List.setIfInBounds_toArray, List.set_cons_zero, List.set_cons_succ, i64_w, i32_w]
    rfl
  refine pure_ (i := 5) (N := some 33) (v := ?_) (a' := ?_) #[true, true, true, true, true, true, false, false, false, false, false, false, false, false, false, false] rfl rfl (by kernel_rfl) (fun _ _ _ h => leaves_any rfl _ _ _ h) (Or.inl ⟨by rfl, ?_⟩) ?_ ?_
  rotate_left
  · intro w'
    go_simp
    with_reducible rfl
  rotate_left
  · simp only [Act.put, List.setIfInBounds_toArray, List.set_cons_zero, List.set_cons_succ, i64_w, i32_w]
    rfl
  refine pure_ (i := 6) (N := some 34) (v := ?_) (a' := ?_) #[true, true, true, true, true, true, true, false, false, false, false, false, false, false, false, false] rfl rfl (by kernel_rfl) (fun _ _ _ h => leaves_any rfl _ _ _ h) (Or.inl ⟨by rfl, ?_⟩) ?_ ?_
  rotate_left
  · intro w'
    go_simp
    try simp only [if_pos hn0]
    with_reducible rfl
  rotate_left
  · simp only [Act.put, List.setIfInBounds_toArray, List.set_cons_zero, List.set_cons_succ, i64_w, i32_w]
    rfl
  refine take_ (i := 7) (N := some 35) (v := ?_) (a' := ?_) #[true, true, true, true, true, true, true, true, false, false, false, false, false, false, false, false] rfl rfl (by kernel_rfl) (fun _ _ _ h => leaves_any rfl _ _ _ h) (Or.inl ⟨by rfl, ?_⟩) hHeld ?_ ?_
  rotate_left
  · rintro w' s0
    go_simp
    with_reducible rfl
  rotate_left
  · simp only [Act.put, List.setIfInBounds_toArray, List.set_cons_zero, List.set_cons_succ, i64_w, i32_w]
    rfl
  refine one_ (i := 8) (N := some 36) #[true, true, true, true, true, true, true, true, true, false, false, false, false, false, false, false] rfl rfl (by kernel_rfl) (by decide) (fun K hK => ?_)
  refine goes_ Tryz.func84 (by kernel_rfl) rfl #[.int .u64 x0, .int .u64 x0] (by rfl) rfl rfl (by (try simp only [List.map_toArray, List.map_cons, List.map_nil]); first | done | rfl) ?_
  refine (HMW.out _).mono ?_
  rintro e w1 ⟨rfl, rfl⟩
  refine ⟨_, rfl, ?_⟩
  refine hK.out _ _ (hHeld) (fun hHeld => ?_)
  clear hK K
  refine norm_ (a' := ?_) ?_ ?_
  rotate_left
  · show Act.put _ (some 36) _ = _
    simp only [Act.put, List.setIfInBounds_toArray, List.set_cons_zero, List.set_cons_succ, i64_w, i32_w]
    rfl
  refine pure_ (i := 9) (N := some 27) (v := ?_) (a' := ?_) #[true, true, true, true, true, true, true, true, true, true, false, false, false, false, false, false] rfl rfl (by kernel_rfl) (fun _ _ _ h => leaves_any rfl _ _ _ h) (Or.inl ⟨by rfl, ?_⟩) ?_ ?_
  rotate_left
  · intro w'
    go_simp
    with_reducible rfl
  rotate_left
  · simp only [Act.put, List.setIfInBounds_toArray, List.set_cons_zero, List.set_cons_succ, i64_w, i32_w]
    rfl
  refine pure_ (i := 10) (N := some 37) (v := ?_) (a' := ?_) #[true, true, true, true, true, true, true, true, true, true, true, false, false, false, false, false] rfl rfl (by kernel_rfl) (fun _ _ _ h => leaves_any rfl _ _ _ h) (Or.inl ⟨by rfl, ?_⟩) ?_ ?_
  rotate_left
  · intro w'
    go_simp
    with_reducible rfl
  rotate_left
  · simp only [Act.put, List.setIfInBounds_toArray, List.set_cons_zero, List.set_cons_succ, i64_w, i32_w]
    rfl
  refine pure_ (i := 11) (N := some 38) (v := ?_) (a' := ?_) #[true, true, true, true, true, true, true, true, true, true, true, true, false, false, false, false] rfl rfl (by kernel_rfl) (fun _ _ _ h => leaves_any rfl _ _ _ h) (Or.inl ⟨by rfl, ?_⟩) ?_ ?_
  rotate_left
  · intro w'
    go_simp
    with_reducible rfl
  rotate_left
  · simp only [Act.put, List.setIfInBounds_toArray, List.set_cons_zero, List.set_cons_succ, i64_w, i32_w]
    rfl
  refine pure_ (i := 12) (N := some 39) (v := ?_) (a' := ?_) #[true, true, true, true, true, true, true, true, true, true, true, true, true, false, false, false] rfl rfl (by kernel_rfl) (fun _ _ _ h => leaves_any rfl _ _ _ h) (Or.inl ⟨by rfl, ?_⟩) ?_ ?_
  rotate_left
  · intro w'
    go_simp
    try simp only [if_pos h2n]
    with_reducible rfl
  rotate_left
  · simp only [Act.put, List.setIfInBounds_toArray, List.set_cons_zero, List.set_cons_succ, i64_w, i32_w]
    rfl
  refine one_ (i := 13) (N := none) #[true, true, true, true, true, true, true, true, true, true, true, true, true, true, false, false] rfl rfl (by kernel_rfl) (by decide) (fun K hK => ?_)
  refine skip_ (w1 := ?_) (by rfl) rfl ?_ ?_
  rotate_left
  · go_simp
    rfl
  refine hK.out _ _ (KeptB.cell ((KeptB.refl _ _).set _) hne.1 hHeld) (fun hHeld => ?_)
  clear hK K
  refine pure_ (i := 14) (N := some 40) (v := ?_) (a' := ?_) #[true, true, true, true, true, true, true, true, true, true, true, true, true, true, true, false] rfl rfl (by kernel_rfl) (fun _ _ _ h => leaves_any rfl _ _ _ h) (Or.inl ⟨by rfl, ?_⟩) ?_ ?_
  rotate_left
  · intro w'
    go_simp
    try simp only [if_pos h2n0]
    with_reducible rfl
  rotate_left
  · simp only [Act.put, List.setIfInBounds_toArray, List.set_cons_zero, List.set_cons_succ, i64_w, i32_w]
    rfl
  refine last_ (i := 15) (N := none) #[true, true, true, true, true, true, true, true, true, true, true, true, true, true, true, true] rfl rfl (by kernel_rfl) (by decide) (fun K hK => ?_)
  refine skip_ (w1 := ?_) (by rfl) rfl ?_ ?_
  rotate_left
  · go_simp
    rfl
  refine hK.out _ _ ?_
  clear hK K
  refine done_ (by kernel_rfl) ?_
  have HK3 := ((HK.set ⟨g, 1, none⟩ (.inl (.inl rfl)) (.int .u64 (P0 / 18446744073709551616))).set ⟨g, 0, none⟩ (.inl (.inl rfl)) (.int .u64 (P0 % 18446744073709551616))).drew
  have HGS3 := ((HGS.far (p := ⟨g, 1, none⟩) hne.2.1 (.int .u64 (P0 / 18446744073709551616))).far (p := ⟨g, 0, none⟩) hne.2.1 (.int .u64 (P0 % 18446744073709551616))).drew
  have HGI3 := ((HGI.far (p := ⟨g, 1, none⟩) (show gi ≠ g by omega) (.int .u64 (P0 / 18446744073709551616))).far (p := ⟨g, 0, none⟩) (show gi ≠ g by omega) (.int .u64 (P0 % 18446744073709551616))).drew
  have HBT3 := ((hbt.far (p := ⟨g, 1, none⟩) (show gt ≠ g by omega) (.int .u64 (P0 / 18446744073709551616))).far (p := ⟨g, 0, none⟩) (show gt ≠ g by omega) (.int .u64 (P0 % 18446744073709551616))).drew
  clear HK HGS HGI hbt hkt HBZ HXC hcz1 hfz1 hcz0 hfz0 hxr0 g5 g6 g7 g8 hHeld
  generalize ((W2.setCell ⟨g, 1, none⟩ (.int .u64 (P0 / 18446744073709551616))).setCell ⟨g, 0, none⟩ (.int .u64 (P0 % 18446744073709551616))).drew = W3 at *
  have hcs2 : (cs.set 1 (P0 / 18446744073709551616)).set 0 (P0 % 18446744073709551616) = [P0 % 18446744073709551616, P0 / 18446744073709551616] ++ cs.drop (2 * 1) := by
    have := HL.out
    match cs, this with
    | [], h => exact absurd h.1 (by simp; omega)
    | [a], h => exact absurd h.1 (by simp; omega)
    | a :: b :: cs, _ => rfl
  rw [hcs2] at HBZ2
  generalize hR : List.drop (2 * n) ((List.replicate G (0 : Int)).set 0 1043915) = rest at *
  have HBT4 : Buf W3 gt (([0] : List Int) ++ (List.replicate (2 * n - (2 * 1 - 1)) 0 ++ rest)) := by
    have e : ([0] : List Int) ++ (List.replicate (2 * n - (2 * 1 - 1)) 0 ++ rest) = List.replicate (2 * n) (0 : Int) ++ rest := by
      rw [show 2 * n = (2 * n - (2 * 1 - 1)) + 1 by omega, List.replicate_succ]
      rfl
    rw [e]; exact HBT3
  have HA := Aside0.mk (And.intro HBZ2 (And.intro HBT4 (And.intro HGS3 (And.intro HGI3 HK3))))
  have HSQ := Aside0.mk HS0
  have HG := Aside0.mk (And.intro g1 (And.intro g2 (And.intro g3 (And.intro g4 hR))))
  clear hR HBZ2 HBT3 HBT4 HGS3 HGI3 HK3 HS0 hP hx0 HMW hcs2 g1 g2 g3 hne h2n h2n0
  go_wp2
  go_loopg [8, 9] n (fun gg v8 v9 w' => ∃ (k : Nat) (sq a : List Int), v8 = .int .i64 (k : Int) ∧ Sqrs xs k sq a ∧ Aside0 ((k : Int) + (gg : Int) = n + 1 ∧ k ≤ n) ∧ Aside0 (Buf w' g (sq ++ cs.drop (2 * k)) ∧ Buf w' gt (a ++ (List.replicate (2 * n - (2 * k - 1)) 0 ++ rest)) ∧ Box w' gs [.pointer (some ⟨gi, 0, none⟩)] ∧ Box w' gi [.slice (some ⟨gt, 0, none⟩) ((2 * n + 3) / 4 * 4) G] ∧ KeptP w w' (fun k => k = g ∨ k = gs)))
  case atStart => exact ⟨1, _, _, rfl, HSQ.out, ⟨by omega, by omega⟩, HA⟩
  case round =>
    clear HSQ HA
    obtain ⟨k, sq, a, rfl, HI, HGG, HW⟩ := hrel
    have hpos := HI.pos
    have hla := HI.la
    have hlsq := HI.lsq
    have hkn : (k : Int) ≤ n := by have := HGG.out; omega
    have hk1 : (1 : Int) ≤ k := by omega
    by_cases hi : (k : Int) < (n : Int)
    · have hkl : k < xs.length := by have := HN.out; omega
      have hd := W64.dig_rd HD.out (k : Int)
      have hne := HNE.out
      have hcx : wr.cell? ⟨gx, k, none⟩ = some (.int .u64 (rd xs (k : Int))) := HW.out.2.2.2.2.cell (by rintro (h | h); exact hne.1 h; exact hne.2.2.1 h.symm) (HX.out k (by omega))
      have HMW := Aside0.mk (fun w => (mulWW_n (rd xs k) (rd xs k) ⟨hd.1, hd.2⟩ ⟨hd.1, hd.2⟩ w).mono (fun e w' h => And.intro h.1 h.2.symm))
      have HST := Aside0.mk (fun out c => HI.step hkl HD.out out c)
      have hwd : Word (rd xs k) := ⟨hd.1, hd.2⟩
      have hda := HI.da
      have hcz1 := HW.out.1.cell (j := 2 * k + 1) (by have := HL.out; simp [hlsq]; omega)
      have hfz1 := HW.out.1.frozen (2 * k + 1)
      have hcz0 := HW.out.1.cell (j := 2 * k) (by have := HL.out; simp [hlsq]; omega)
      have hfz0 := HW.out.1.frozen (2 * k)
      have HLA := Aside0.mk (And.intro hpos (And.intro hla hlsq))
      have HHD := Aside0.mk hd
      have HDA := Aside0.mk hda
      have HWD := Aside0.mk hwd
      clear HI hpos hla hlsq hda hwd hd
      generalize hPk : rd xs (k : Int) * rd xs (k : Int) = P at *
      generalize hxk : rd xs (k : Int) = x at *
      have q2 : 2 * (k : Int) + 1 < 2 * (n : Int) := by omega
      have q3 : 2 * (k : Int) < 2 * (n : Int) := by omega
      go_wp2_with (go_at_call 84; refine (HMW.out _).mono ?_; rintro e w4 ⟨rfl, rfl⟩)
      have HWB := HW.out
      have hkb := ((HWB.2.2.2.2.set ⟨g, 2 * k + 1, none⟩ (.inl (.inl rfl)) (.int .u64 (P / 18446744073709551616))).set ⟨g, 2 * k, none⟩ (.inl (.inl rfl)) (.int .u64 (P % 18446744073709551616)))
      have hgsb := (HWB.2.2.1.far (p := ⟨g, 2 * k + 1, none⟩) hne.2.1 (.int .u64 (P / 18446744073709551616))).far (p := ⟨g, 2 * k, none⟩) hne.2.1 (.int .u64 (P % 18446744073709551616))
      have hgl : gi ≠ g ∧ gt ≠ g ∧ gt ≠ gi ∧ gt ≠ gs ∧ gx ≠ gt ∧ gs ≠ gi := by have := HG.out; have := HNE.out; omega
      have hgib := (HWB.2.2.2.1.far (p := ⟨g, 2 * k + 1, none⟩) hgl.1 (.int .u64 (P / 18446744073709551616))).far (p := ⟨g, 2 * k, none⟩) hgl.1 (.int .u64 (P % 18446744073709551616))
      have hgtb := (HWB.2.1.far (p := ⟨g, 2 * k + 1, none⟩) hgl.2.1 (.int .u64 (P / 18446744073709551616))).far (p := ⟨g, 2 * k, none⟩) hgl.2.1 (.int .u64 (P % 18446744073709551616))
      have hgb := (HWB.1.put (2 * k + 1) (P / 18446744073709551616)).put (2 * k) (P % 18446744073709551616)
      generalize (wr.setCell ⟨g, 2 * k + 1, none⟩ (.int .u64 (P / 18446744073709551616))).setCell ⟨g, 2 * k, none⟩ (.int .u64 (P % 18446744073709551616)) = W5 at *
      have hpos := HLA.out.1
      have hkn2 : k < n := by omega
      rw [row_split hpos hkn2 HLA.out.2.1] at hgtb
      have hlx : (xs.take k).length = k := by rw [List.length_take]; have := HN.out; omega
      have hla2 : (a.drop k ++ [0]).length = k := by simp [HLA.out.2.1]; omega
      have HC := addMulVVWW_n gt gx k (2 * n - k) (2 * n - k) cx (a.take k) (a.drop k ++ [0]) _ (xs.take k) x W5.drew hgtb.drew (by rw [List.length_take, HLA.out.2.1]; omega) (by rw [hlx, hla2]) (by rw [hla2]; omega) (by
        refine W64.Dig.append (fun z hz => HDA.out z (List.mem_of_mem_drop hz)) ?_
        intro z hz; rw [List.mem_singleton] at hz; subst hz; decide) (HD.out.take k) HWD.out hgl.2.2.2.2.1 (by
        intro i hi
        rw [hlx] at hi
        have h1 := hkb.cell (g' := gx) (j := i) (by rintro (h | h); exact hne.1 h; exact hne.2.2.1 h.symm) (HX.out i (by omega))
        have h2 : rd (xs.take k) (i : Int) = rd xs (i : Int) := by
          rw [W64.rd_lt (by rw [hlx]; exact hi), W64.rd_lt (by have := HN.out; omega), List.getElem_take]
        rw [h2]
        exact h1)
      rw [hla2] at HC
      have HCA := Aside0.mk HC
      clear HC
      have c1 : 0 ≤ 2 * (k : Int) ∧ 2 * (k : Int) ≤ 2 * (n : Int) := by omega
      have hw : wrap64 (2 * (k : Int)) = 2 * (k : Int) := by unfold wrap64; omega
      have c2 : k ≤ (2 * (k : Int)).toNat := by omega
      have c3 : ¬ (2 * n = k) := by omega
      have c4 : (2 * (k : Int)).toNat - k = k := by omega
      have c5 : 0 ≤ 2 * (k : Int) ∧ 2 * (k : Int) < 2 * (n : Int) := by omega
      have c6 : (2 * (k : Int)).toNat = 2 * k := by omega
      have c7 : k ≤ 2 * k := by omega
      have c8 : 2 * k - k = k := by omega
      have c0 : 0 ≤ (k : Int) ∧ (k : Int) ≤ (cx : Int) := by have := hne.2.2.2.2.2.2; omega
      go_wp2_with fail
      refine start_ (n := 20) (S := fun w' => True) (ds := [19]) #[false, false, false, false, false, false, false, false, false, false, false, false, false, false, false, false, false, false, false, false] (by kernel_rfl) rfl rfl (trivial) (fun hHeld => ?_)
      refine pure_ (i := 0) (N := some 65) (v := ?_) (a' := ?_) #[true, false, false, false, false, false, false, false, false, false, false, false, false, false, false, false, false, false, false, false] rfl rfl (by kernel_rfl) (fun _ _ _ h => leaves_any rfl _ _ _ h) (Or.inl ⟨by rfl, ?_⟩) ?_ ?_
      rotate_left
      · intro w'
        go_simp
        with_reducible rfl
      rotate_left
      · simp only [Act.put, List.setIfInBounds_toArray, List.set_cons_zero, List.set_cons_succ, i64_w, i32_w]
        rfl
      refine pure_ (i := 1) (N := some 66) (v := ?_) (a' := ?_) #[true, true, false, false, false, false, false, false, false, false, false, false, false, false, false, false, false, false, false, false] rfl rfl (by kernel_rfl) (fun _ _ _ h => leaves_any rfl _ _ _ h) (Or.inl ⟨by rfl, ?_⟩) ?_ ?_
      rotate_left
      · intro w'
        go_simp
        with_reducible rfl
      rotate_left
      · simp only [Act.put, List.setIfInBounds_toArray, List.set_cons_zero, List.set_cons_succ, i64_w, i32_w]
        rfl
      refine pure_ (i := 2) (N := some 67) (v := ?_) (a' := ?_) #[true, true, true, false, false, false, false, false, false, false, false, false, false, false, false, false, false, false, false, false] rfl rfl (by kernel_rfl) (fun _ _ _ h => leaves_any rfl _ _ _ h) (Or.inl ⟨by rfl, ?_⟩) ?_ ?_
      rotate_left
      · intro w'
        go_simp
        with_reducible rfl
      rotate_left
      · simp only [Act.put, List.setIfInBounds_toArray, List.set_cons_zero, List.set_cons_succ, i64_w, i32_w]
        rfl
      refine pure_ (i := 3) (N := some 68) (v := ?_) (a' := ?_) #[true, true, true, true, false, false, false, false, false, false, false, false, false, false, false, false, false, false, false, false] rfl rfl (by kernel_rfl) (fun _ _ _ h => leaves_any rfl _ _ _ h) (Or.inl ⟨by rfl, ?_⟩) ?_ ?_
      rotate_left
      · intro w'
        go_simp
        with_reducible rfl
      rotate_left
      · simp only [Act.put, List.setIfInBounds_toArray, List.set_cons_zero, List.set_cons_succ, i64_w, i32_w]
        rfl
      refine pure_ (i := 4) (N := some 69) (v := ?_) (a' := ?_) #[true, true, true, true, true, false, false, false, false, false, false, false, false, false, false, false, false, false, false, false] rfl rfl (by kernel_rfl) (fun _ _ _ h => leaves_any rfl _ _ _ h) (Or.inl ⟨by rfl, ?_⟩) ?_ ?_
      rotate_left
      · intro w'
        go_simp
        with_reducible rfl
      rotate_left
      · simp only [Act.put, List.setIfInBounds_toArray, List.set_cons_zero, List.set_cons_succ, i64_w, i32_w]
        rfl
      refine pure_ (i := 5) (N := some 70) (v := ?_) (a' := ?_) #[true, true, true, true, true, true, false, false, false, false, false, false, false, false, false, false, false, false, false, false] rfl rfl (by kernel_rfl) (fun _ _ _ h => leaves_any rfl _ _ _ h) (Or.inl ⟨by rfl, ?_⟩) ?_ ?_
      rotate_left
      · intro w'
        go_simp
        with_reducible rfl
      rotate_left
      · simp only [Act.put, List.setIfInBounds_toArray, List.set_cons_zero, List.set_cons_succ, i64_w, i32_w]
        rfl
      refine pure_ (i := 6) (N := some 71) (v := ?_) (a' := ?_) #[true, true, true, true, true, true, true, false, false, false, false, false, false, false, false, false, false, false, false, false] rfl rfl (by kernel_rfl) (fun _ _ _ h => leaves_any rfl _ _ _ h) (Or.inl ⟨by rfl, ?_⟩) ?_ ?_
      rotate_left
      · intro w'
        go_simp
        with_reducible rfl
      rotate_left
      · simp only [Act.put, List.setIfInBounds_toArray, List.set_cons_zero, List.set_cons_succ, i64_w, i32_w]
        rfl
      refine pure_ (i := 7) (N := some 72) (v := ?_) (a' := ?_) #[true, true, true, true, true, true, true, true, false, false, false, false, false, false, false, false, false, false, false, false] rfl rfl (by kernel_rfl) (fun _ _ _ h => leaves_any rfl _ _ _ h) (Or.inl ⟨by rfl, ?_⟩) ?_ ?_
      rotate_left
      · intro w'
        go_simp
        try simp only [if_pos c7, c8]
        with_reducible rfl
      rotate_left
      · simp only [Act.put, List.setIfInBounds_toArray, List.set_cons_zero, List.set_cons_succ, i64_w, i32_w]
        rfl
      refine pure_ (i := 8) (N := some 73) (v := ?_) (a' := ?_) #[true, true, true, true, true, true, true, true, true, false, false, false, false, false, false, false, false, false, false, false] rfl rfl (by kernel_rfl) (fun _ _ _ h => leaves_any rfl _ _ _ h) (Or.inl ⟨by rfl, ?_⟩) ?_ ?_
      rotate_left
      · intro w'
        go_simp
        with_reducible rfl
      rotate_left
      · simp only [Act.put, List.setIfInBounds_toArray, List.set_cons_zero, List.set_cons_succ, i64_w, i32_w]
        rfl
      refine pure_ (i := 9) (N := some 74) (v := ?_) (a' := ?_) #[true, true, true, true, true, true, true, true, true, true, false, false, false, false, false, false, false, false, false, false] rfl rfl (by kernel_rfl) (fun _ _ _ h => leaves_any rfl _ _ _ h) (Or.inl ⟨by rfl, ?_⟩) ?_ ?_
      rotate_left
      · intro w'
        go_simp
        with_reducible rfl
      rotate_left
      · simp only [Act.put, List.setIfInBounds_toArray, List.set_cons_zero, List.set_cons_succ, i64_w, i32_w]
        rfl
      refine pure_ (i := 10) (N := some 75) (v := ?_) (a' := ?_) #[true, true, true, true, true, true, true, true, true, true, true, false, false, false, false, false, false, false, false, false] rfl rfl (by kernel_rfl) (fun _ _ _ h => leaves_any rfl _ _ _ h) (Or.inl ⟨by rfl, ?_⟩) ?_ ?_
      rotate_left
      · intro w'
        go_simp
        with_reducible rfl
      rotate_left
      · simp only [Act.put, List.setIfInBounds_toArray, List.set_cons_zero, List.set_cons_succ, i64_w, i32_w]
        rfl
      refine pure_ (i := 11) (N := some 76) (v := ?_) (a' := ?_) #[true, true, true, true, true, true, true, true, true, true, true, true, false, false, false, false, false, false, false, false] rfl rfl (by kernel_rfl) (fun _ _ _ h => leaves_any rfl _ _ _ h) (Or.inl ⟨by rfl, ?_⟩) ?_ ?_
      rotate_left
      · intro w'
        go_simp
        with_reducible rfl
      rotate_left
      · simp only [Act.put, List.setIfInBounds_toArray, List.set_cons_zero, List.set_cons_succ, i64_w, i32_w]
        rfl
      refine pure_ (i := 12) (N := some 77) (v := ?_) (a' := ?_) #[true, true, true, true, true, true, true, true, true, true, true, true, true, false, false, false, false, false, false, false] rfl rfl (by kernel_rfl) (fun _ _ _ h => leaves_any rfl _ _ _ h) (Or.inl ⟨by rfl, ?_⟩) ?_ ?_
      rotate_left
      · intro w'
        go_simp
        try simp only [if_pos c7, c8]
        with_reducible rfl
      rotate_left
      · simp only [Act.put, List.setIfInBounds_toArray, List.set_cons_zero, List.set_cons_succ, i64_w, i32_w]
        rfl
      refine pure_ (i := 13) (N := some 78) (v := ?_) (a' := ?_) #[true, true, true, true, true, true, true, true, true, true, true, true, true, true, false, false, false, false, false, false] rfl rfl (by kernel_rfl) (fun _ _ _ h => leaves_any rfl _ _ _ h) (Or.inl ⟨by rfl, ?_⟩) ?_ ?_
      rotate_left
      · intro w'
        go_simp
        with_reducible rfl
      rotate_left
      · simp only [Act.put, List.setIfInBounds_toArray, List.set_cons_zero, List.set_cons_succ, i64_w, i32_w]
        rfl
      refine pure_ (i := 14) (N := some 79) (v := ?_) (a' := ?_) #[true, true, true, true, true, true, true, true, true, true, true, true, true, true, true, false, false, false, false, false] rfl rfl (by kernel_rfl) (fun _ _ _ h => leaves_any rfl _ _ _ h) (Or.inl ⟨by rfl, ?_⟩) ?_ ?_
      rotate_left
      · intro w'
        go_simp
        with_reducible rfl
      rotate_left
      · simp only [Act.put, List.setIfInBounds_toArray, List.set_cons_zero, List.set_cons_succ, i64_w, i32_w]
        rfl
      refine pure_ (i := 15) (N := some 80) (v := ?_) (a' := ?_) #[true, true, true, true, true, true, true, true, true, true, true, true, true, true, true, true, false, false, false, false] rfl rfl (by kernel_rfl) (fun _ _ _ h => leaves_any rfl _ _ _ h) (Or.inl ⟨by rfl, ?_⟩) ?_ ?_
      rotate_left
      · intro w'
        go_simp
        with_reducible rfl
      rotate_left
      · simp only [Act.put, List.setIfInBounds_toArray, List.set_cons_zero, List.set_cons_succ, i64_w, i32_w]
        rfl
      refine pure_ (i := 16) (N := some 81) (v := ?_) (a' := ?_) #[true, true, true, true, true, true, true, true, true, true, true, true, true, true, true, true, true, false, false, false] rfl rfl (by kernel_rfl) (fun _ _ _ h => leaves_any rfl _ _ _ h) (Or.inl ⟨by rfl, ?_⟩) ?_ ?_
      rotate_left
      · intro w'
        go_simp
        with_reducible rfl
      rotate_left
      · simp only [Act.put, List.setIfInBounds_toArray, List.set_cons_zero, List.set_cons_succ, i64_w, i32_w]
        rfl
      refine one_ (i := 17) (N := some 82) #[true, true, true, true, true, true, true, true, true, true, true, true, true, true, true, true, true, true, false, false] rfl rfl (by kernel_rfl) (by decide) (fun K hK => ?_)
      refine goes_ Tryz.func108 (by kernel_rfl) rfl #[.slice (some ⟨gt, k, none⟩) k (2 * n - k), .slice (some ⟨gt, k, none⟩) k (2 * n - k), .slice (some ⟨gx, 0, none⟩) k cx, .int .u64 x, .int .u64 0] (by rfl) rfl rfl (by (try simp only [List.map_toArray, List.map_cons, List.map_nil]); first | done | rfl) ?_
      refine (HCA.out).mono ?_
      rintro e w1 ⟨out, c, rfl, h⟩
      refine ⟨_, rfl, ?_⟩
      have HH := Aside0.mk h
      have hc0 := h.2.2.2.2.1.cell (row_lt hpos hkn2 HLA.out.2.1 h.2.1)
      have hf0 := h.2.2.2.2.1.frozen (2 * k)
      clear h
      refine hK.out _ _ (trivial) (fun hHeld => ?_)
      clear hK K
      refine norm_ (a' := ?_) ?_ ?_
      rotate_left
      · show Act.put _ (some 82) _ = _
        simp only [Act.put, List.setIfInBounds_toArray, List.set_cons_zero, List.set_cons_succ, i64_w, i32_w]
        rfl
      refine pure_ (i := 18) (N := some 83) (v := ?_) (a' := ?_) #[true, true, true, true, true, true, true, true, true, true, true, true, true, true, true, true, true, true, true, false] rfl rfl (by kernel_rfl) (fun _ _ _ h => leaves_any rfl _ _ _ h) (Or.inl ⟨by rfl, ?_⟩) ?_ ?_
      rotate_left
      · intro w'
        go_simp
        try simp only [hw, if_pos c5, c6]
        with_reducible rfl
      rotate_left
      · simp only [Act.put, List.setIfInBounds_toArray, List.set_cons_zero, List.set_cons_succ, i64_w, i32_w]
        rfl
      refine last_ (i := 19) (N := none) #[true, true, true, true, true, true, true, true, true, true, true, true, true, true, true, true, true, true, true, true] rfl rfl (by kernel_rfl) (by decide) (fun K hK => ?_)
      refine skip_ (w1 := ?_) (by rfl) rfl ?_ ?_
      rotate_left
      · go_simp
        rfl
      refine hK.out _ _ ?_
      clear hK K
      refine done_ (by kernel_rfl) ?_
      go_wp2
      go_roundg (gk - 1)
      case measure => have := HGG.out; omega
      case rel =>
        obtain ⟨hwc, ho, hdo, hv, hb, hkk⟩ := HH.out
        have hb2 := hb.put (2 * k) c
        rw [row_set hpos hkn2 HLA.out.2.1 ho] at hb2
        have hkp := hkb.drew.thenB hkk (.inr (show w.heap.size ≤ gt by have := HG.out; omega))
        have hst := HST.out out c ho hdo hwc hv
        have hgz := (KeptP.buf (hgb.drew.kept hkk (Ne.symm hgl.2.1)) (KeptP.refl _ (fun _ => False)) id).far (p := ⟨gt, 2 * k, none⟩) (Ne.symm hgl.2.1) (.int .u64 c)
        rw [pair_set HLA.out.2.2 (by have := HL.out; omega)] at hgz
        refine ⟨k + 1, _, _, by simp, hst, ⟨by have := HGG.out; omega, by omega⟩, ⟨hgz, hb2, ?_, ?_, hkp.set _ (.inr (show w.heap.size ≤ gt by have := HG.out; omega)) _⟩⟩
        · exact (Box.kept hgsb.drew hkk (Ne.symm hgl.2.2.2.1)).far (p := ⟨gt, 2 * k, none⟩) (Ne.symm hgl.2.2.2.1) _
        · exact (Box.kept hgib.drew hkk (Ne.symm hgl.2.2.1)).far (p := ⟨gt, 2 * k, none⟩) (Ne.symm hgl.2.2.1) _
    · have hkn2 : k = n := by omega
      subst hkn2
      obtain ⟨hb1, hb2, hb3, hb4, hb5⟩ := HW.out
      have hnl := HN.out
      rw [← hnl] at HI
      have hdone := HI.done
      have hdsq := HI.dsq
      have hdbl := doubled_val (n := k) (by omega) hla HI.da HI.zero
      have h0 := HI.zero
      have hdda := HI.da
      obtain ⟨a0, at1, rfl⟩ : ∃ a0 at1, a = a0 :: at1 := by
        cases a with
        | nil => exact absurd hla (by simp; omega)
        | cons a0 at1 => exact ⟨a0, at1, rfl⟩
      have ha0 : a0 = 0 := by simpa [rd] using h0
      subst ha0
      rw [List.drop_one, List.tail_cons] at hdbl
      have hal : at1.length = 2 * k - 2 := by simp at hla; omega
      have ebuf : 0 :: at1 ++ (List.replicate (2 * k - (2 * k - 1)) 0 ++ rest) = [0] ++ (at1 ++ (0 :: rest)) := by
        rw [show 2 * k - (2 * k - 1) = 1 by omega]
        rfl
      rw [ebuf] at hb2
      have HC := Aside0.mk (lshVU_n gt 1 (2 * k - 1) (2 * k - 1) 1 63 [0] at1 (0 :: rest) wr.drew rfl (by decide) (by decide) hb2.drew rfl (by omega) (by omega) hdda.tail)
      rw [hal] at HC
      have e1 : ((1 : Nat) : Int) = 1 := rfl
      have e63 : (2 : Int) ^ 63 = 9223372036854775808 := by decide
      rw [e63] at HC hdbl
      have d1 : 1 ≤ 2 * (k : Int) ∧ 2 * (k : Int) - 1 ≤ 2 * (k : Int) := by omega
      have d2 : (1 : Int) ≤ (((2 * (k : Int)).toNat - 1 : Nat) : Int) := by omega
      have d3 : ¬ (2 * k = 1) := by omega
      have d4 : (2 * (k : Int)).toNat - 1 - 1 = 2 * k - 2 := by omega
      have d7 : (1 : Int) ≤ ((2 * k - 1 : Nat) : Int) := by omega
      have d8 : 2 * k - 1 - 1 = 2 * k - 2 := by omega
      have d5 : 1 ≤ 2 * (k : Int) ∧ 2 * (k : Int) - 1 < 2 * (k : Int) := by omega
      have d6 : (2 * (k : Int)).toNat - 1 = 2 * k - 1 := by omega
      rw [e1] at HC
      have hwa : wrap64 (2 * (k : Int)) = 2 * (k : Int) := by unfold wrap64; omega
      have hwb : wrap64 (2 * (k : Int) - 1) = 2 * (k : Int) - 1 := by unfold wrap64; omega
      have HFIN := Aside0.mk (And.intro hb1 (And.intro hb3 (And.intro hb4 (And.intro hb5 (And.intro hdone (And.intro hdsq (And.intro hdbl (And.intro hal (And.intro hlsq hkn)))))))))
      have hgl : gi ≠ g ∧ gt ≠ g ∧ gt ≠ gi ∧ gt ≠ gs ∧ gx ≠ gt ∧ gs ≠ gi := by have := HG.out; have := HNE.out; omega
      clear HI hb1 hb2 hb3 hb4 hb5 hdone hdsq hdbl hdda h0 HW hlsq ebuf hla
      go_wp2_with fail
      refine start_ (n := 17) (S := fun w' => True) (ds := [16]) #[false, false, false, false, false, false, false, false, false, false, false, false, false, false, false, false, false] (by kernel_rfl) rfl rfl (trivial) (fun hHeld => ?_)
      refine pure_ (i := 0) (N := some 84) (v := ?_) (a' := ?_) #[true, false, false, false, false, false, false, false, false, false, false, false, false, false, false, false, false] rfl rfl (by kernel_rfl) (fun _ _ _ h => leaves_any rfl _ _ _ h) (Or.inl ⟨by rfl, ?_⟩) ?_ ?_
      rotate_left
      · intro w'
        go_simp
        with_reducible rfl
      rotate_left
      · simp only [Act.put, List.setIfInBounds_toArray, List.set_cons_zero, List.set_cons_succ, i64_w, i32_w]
        rfl
      refine pure_ (i := 1) (N := some 85) (v := ?_) (a' := ?_) #[true, true, false, false, false, false, false, false, false, false, false, false, false, false, false, false, false] rfl rfl (by kernel_rfl) (fun _ _ _ h => leaves_any rfl _ _ _ h) (Or.inl ⟨by rfl, ?_⟩) ?_ ?_
      rotate_left
      · intro w'
        go_simp
        with_reducible rfl
      rotate_left
      · simp only [Act.put, List.setIfInBounds_toArray, List.set_cons_zero, List.set_cons_succ, i64_w, i32_w]
        rfl
      refine pure_ (i := 2) (N := some 86) (v := ?_) (a' := ?_) #[true, true, true, false, false, false, false, false, false, false, false, false, false, false, false, false, false] rfl rfl (by kernel_rfl) (fun _ _ _ h => leaves_any rfl _ _ _ h) (Or.inl ⟨by rfl, ?_⟩) ?_ ?_
      rotate_left
      · intro w'
        go_simp
        with_reducible rfl
      rotate_left
      · simp only [Act.put, List.setIfInBounds_toArray, List.set_cons_zero, List.set_cons_succ, i64_w, i32_w]
        rfl
      refine pure_ (i := 3) (N := some 87) (v := ?_) (a' := ?_) #[true, true, true, true, false, false, false, false, false, false, false, false, false, false, false, false, false] rfl rfl (by kernel_rfl) (fun _ _ _ h => leaves_any rfl _ _ _ h) (Or.inl ⟨by rfl, ?_⟩) ?_ ?_
      rotate_left
      · intro w'
        go_simp
        with_reducible rfl
      rotate_left
      · simp only [Act.put, List.setIfInBounds_toArray, List.set_cons_zero, List.set_cons_succ, i64_w, i32_w]
        rfl
      refine pure_ (i := 4) (N := some 88) (v := ?_) (a' := ?_) #[true, true, true, true, true, false, false, false, false, false, false, false, false, false, false, false, false] rfl rfl (by kernel_rfl) (fun _ _ _ h => leaves_any rfl _ _ _ h) (Or.inl ⟨by rfl, ?_⟩) ?_ ?_
      rotate_left
      · intro w'
        go_simp
        with_reducible rfl
      rotate_left
      · simp only [Act.put, List.setIfInBounds_toArray, List.set_cons_zero, List.set_cons_succ, i64_w, i32_w]
        rfl
      refine pure_ (i := 5) (N := some 89) (v := ?_) (a' := ?_) #[true, true, true, true, true, true, false, false, false, false, false, false, false, false, false, false, false] rfl rfl (by kernel_rfl) (fun _ _ _ h => leaves_any rfl _ _ _ h) (Or.inl ⟨by rfl, ?_⟩) ?_ ?_
      rotate_left
      · intro w'
        go_simp
        with_reducible rfl
      rotate_left
      · simp only [Act.put, List.setIfInBounds_toArray, List.set_cons_zero, List.set_cons_succ, i64_w, i32_w]
        rfl
      refine pure_ (i := 6) (N := some 90) (v := ?_) (a' := ?_) #[true, true, true, true, true, true, true, false, false, false, false, false, false, false, false, false, false] rfl rfl (by kernel_rfl) (fun _ _ _ h => leaves_any rfl _ _ _ h) (Or.inl ⟨by rfl, ?_⟩) ?_ ?_
      rotate_left
      · intro w'
        go_simp
        with_reducible rfl
      rotate_left
      · simp only [Act.put, List.setIfInBounds_toArray, List.set_cons_zero, List.set_cons_succ, i64_w, i32_w]
        rfl
      refine pure_ (i := 7) (N := some 91) (v := ?_) (a' := ?_) #[true, true, true, true, true, true, true, true, false, false, false, false, false, false, false, false, false] rfl rfl (by kernel_rfl) (fun _ _ _ h => leaves_any rfl _ _ _ h) (Or.inl ⟨by rfl, ?_⟩) ?_ ?_
      rotate_left
      · intro w'
        go_simp
        with_reducible rfl
      rotate_left
      · simp only [Act.put, List.setIfInBounds_toArray, List.set_cons_zero, List.set_cons_succ, i64_w, i32_w]
        rfl
      refine pure_ (i := 8) (N := some 92) (v := ?_) (a' := ?_) #[true, true, true, true, true, true, true, true, true, false, false, false, false, false, false, false, false] rfl rfl (by kernel_rfl) (fun _ _ _ h => leaves_any rfl _ _ _ h) (Or.inl ⟨by rfl, ?_⟩) ?_ ?_
      rotate_left
      · intro w'
        go_simp
        try simp only [if_pos d7, d8]
        with_reducible rfl
      rotate_left
      · simp only [Act.put, List.setIfInBounds_toArray, List.set_cons_zero, List.set_cons_succ, i64_w, i32_w]
        rfl
      refine pure_ (i := 9) (N := some 93) (v := ?_) (a' := ?_) #[true, true, true, true, true, true, true, true, true, true, false, false, false, false, false, false, false] rfl rfl (by kernel_rfl) (fun _ _ _ h => leaves_any rfl _ _ _ h) (Or.inl ⟨by rfl, ?_⟩) ?_ ?_
      rotate_left
      · intro w'
        go_simp
        with_reducible rfl
      rotate_left
      · simp only [Act.put, List.setIfInBounds_toArray, List.set_cons_zero, List.set_cons_succ, i64_w, i32_w]
        rfl
      refine pure_ (i := 10) (N := some 94) (v := ?_) (a' := ?_) #[true, true, true, true, true, true, true, true, true, true, true, false, false, false, false, false, false] rfl rfl (by kernel_rfl) (fun _ _ _ h => leaves_any rfl _ _ _ h) (Or.inl ⟨by rfl, ?_⟩) ?_ ?_
      rotate_left
      · intro w'
        go_simp
        with_reducible rfl
      rotate_left
      · simp only [Act.put, List.setIfInBounds_toArray, List.set_cons_zero, List.set_cons_succ, i64_w, i32_w]
        rfl
      refine pure_ (i := 11) (N := some 95) (v := ?_) (a' := ?_) #[true, true, true, true, true, true, true, true, true, true, true, true, false, false, false, false, false] rfl rfl (by kernel_rfl) (fun _ _ _ h => leaves_any rfl _ _ _ h) (Or.inl ⟨by rfl, ?_⟩) ?_ ?_
      rotate_left
      · intro w'
        go_simp
        with_reducible rfl
      rotate_left
      · simp only [Act.put, List.setIfInBounds_toArray, List.set_cons_zero, List.set_cons_succ, i64_w, i32_w]
        rfl
      refine pure_ (i := 12) (N := some 96) (v := ?_) (a' := ?_) #[true, true, true, true, true, true, true, true, true, true, true, true, true, false, false, false, false] rfl rfl (by kernel_rfl) (fun _ _ _ h => leaves_any rfl _ _ _ h) (Or.inl ⟨by rfl, ?_⟩) ?_ ?_
      rotate_left
      · intro w'
        go_simp
        with_reducible rfl
      rotate_left
      · simp only [Act.put, List.setIfInBounds_toArray, List.set_cons_zero, List.set_cons_succ, i64_w, i32_w]
        rfl
      refine pure_ (i := 13) (N := some 97) (v := ?_) (a' := ?_) #[true, true, true, true, true, true, true, true, true, true, true, true, true, true, false, false, false] rfl rfl (by kernel_rfl) (fun _ _ _ h => leaves_any rfl _ _ _ h) (Or.inl ⟨by rfl, ?_⟩) ?_ ?_
      rotate_left
      · intro w'
        go_simp
        try simp only [if_pos d7, d8]
        with_reducible rfl
      rotate_left
      · simp only [Act.put, List.setIfInBounds_toArray, List.set_cons_zero, List.set_cons_succ, i64_w, i32_w]
        rfl
      refine one_ (i := 14) (N := some 98) #[true, true, true, true, true, true, true, true, true, true, true, true, true, true, true, false, false] rfl rfl (by kernel_rfl) (by decide) (fun K hK => ?_)
      refine goes_ Tryz.func69 (by kernel_rfl) rfl #[.slice (some ⟨gt, 1, none⟩) (2 * k - 2) (2 * k - 1), .slice (some ⟨gt, 1, none⟩) (2 * k - 2) (2 * k - 1), .int .u64 1] (by rfl) rfl rfl (by (try simp only [List.map_toArray, List.map_cons, List.map_nil]); first | done | rfl) ?_
      refine (HC.out).mono ?_
      rintro e w1 ⟨rfl, h⟩
      refine ⟨_, rfl, ?_⟩
      have HH := Aside0.mk h
      have hc0 := h.1.cell (last_lt hal (by omega))
      have hf0 := h.1.frozen (2 * k - 1)
      clear h
      refine hK.out _ _ (trivial) (fun hHeld => ?_)
      clear hK K
      refine norm_ (a' := ?_) ?_ ?_
      rotate_left
      · show Act.put _ (some 98) _ = _
        simp only [Act.put, List.setIfInBounds_toArray, List.set_cons_zero, List.set_cons_succ, i64_w, i32_w]
        rfl
      refine pure_ (i := 15) (N := some 99) (v := ?_) (a' := ?_) #[true, true, true, true, true, true, true, true, true, true, true, true, true, true, true, true, false] rfl rfl (by kernel_rfl) (fun _ _ _ h => leaves_any rfl _ _ _ h) (Or.inl ⟨by rfl, ?_⟩) ?_ ?_
      rotate_left
      · intro w'
        go_simp
        try simp only [if_pos d5, d6]
        with_reducible rfl
      rotate_left
      · simp only [Act.put, List.setIfInBounds_toArray, List.set_cons_zero, List.set_cons_succ, i64_w, i32_w]
        rfl
      refine last_ (i := 16) (N := none) #[true, true, true, true, true, true, true, true, true, true, true, true, true, true, true, true, true] rfl rfl (by kernel_rfl) (by decide) (fun K hK => ?_)
      refine skip_ (w1 := ?_) (by rfl) rfl ?_ ?_
      rotate_left
      · go_simp
        rfl
      refine hK.out _ _ ?_
      clear hK K
      refine done_ (by kernel_rfl) ?_
      have hkt : KeptP w w1 (fun k => k = g ∨ k = gs) := HFIN.out.2.2.2.1.drew.thenB HH.out.2 (.inr (show w.heap.size ≤ gt by have := HG.out; omega))
      have hb1 := HFIN.out.1.drew.kept HH.out.2 (Ne.symm hgl.2.1)
      have hgs1 := Box.kept HFIN.out.2.1.drew HH.out.2 (Ne.symm hgl.2.2.2.1)
      have hgi1 := Box.kept HFIN.out.2.2.1.drew HH.out.2 (Ne.symm hgl.2.2.1)
      have hbt := HH.out.1.put (2 * k - 1) (shlTop 9223372036854775808 0 at1)
      have erow : ([0] ++ (shl ((2 : Int) ^ 1) 9223372036854775808 0 at1 ++ 0 :: rest)).set (2 * k - 1) (shlTop 9223372036854775808 0 at1) = 0 :: (shl ((2 : Int) ^ 1) 9223372036854775808 0 at1 ++ [shlTop 9223372036854775808 0 at1]) ++ rest := by
        rw [List.set_append_right _ _ (by simp; omega), List.set_append_right _ _ (by rw [shl_len, hal]; simp; omega), shl_len, hal]
        rw [show 2 * k - 1 - [(0 : Int)].length - (2 * k - 2) = 0 by simp; omega]
        simp
      rw [erow] at hbt
      have hne := HNE.out
      have hkt2 := hkt.set ⟨gt, 2 * k - 1, none⟩ (.inr (show w.heap.size ≤ gt by have := HG.out; omega)) (.int .u64 (shlTop 9223372036854775808 0 at1))
      have hb2 := hb1.far (p := ⟨gt, 2 * k - 1, none⟩) (Ne.symm hgl.2.1) (.int .u64 (shlTop 9223372036854775808 0 at1))
      have hgs2 := hgs1.far (p := ⟨gt, 2 * k - 1, none⟩) (Ne.symm hgl.2.2.2.1) (.int .u64 (shlTop 9223372036854775808 0 at1))
      have hgi2 := hgi1.far (p := ⟨gt, 2 * k - 1, none⟩) (Ne.symm hgl.2.2.1) (.int .u64 (shlTop 9223372036854775808 0 at1))
      clear hgs1 hgi1 hb1 hkt hc0 hf0
      generalize w1.setCell ⟨gt, 2 * k - 1, none⟩ (.int .u64 (shlTop 9223372036854775808 0 at1)) = W6 at *
      obtain ⟨_, _, _, _, hdone, hdsq, hdbl, _, hlsq, _⟩ := HFIN.out
      generalize hT2 : 0 :: (shl ((2 : Int) ^ 1) 9223372036854775808 0 at1 ++ [shlTop 9223372036854775808 0 at1]) = tt at *
      have htl : tt.length = 2 * k := by rw [← hT2]; simp [shl_len, hal]; omega
      have hcs := HL.out
      have etk : (sq ++ cs.drop (2 * k)).take (2 * k) = sq := by rw [List.take_append_of_le_length (by omega), List.take_of_length_le (by omega)]
      have HAD := Aside0.mk ((addVV_n g gt (2 * k) cs.length cs.length (2 * k) (sq ++ cs.drop (2 * k)) tt W6 hb2 (by simp; omega) (by omega) (by omega) (by rw [etk]; exact hdsq) hdbl.1 hgl.2.1 (fun i hi => by
        have h1 := hbt.cell (j := i) (by simp; omega)
        have h2 : rd (tt ++ rest) (i : Int) = rd tt (i : Int) := by
          rw [W64.rd_lt (by simp; omega), W64.rd_lt (by omega), List.getElem_append_left (by omega)]
        rw [h2] at h1
        exact h1)).mono (fun e w' h => h))
      rw [etk, List.take_of_length_le (Nat.le_of_eq htl), List.drop_append_of_le_length (by omega), List.drop_of_length_le (by omega), List.nil_append] at HAD
      go_wp2_with (go_at_call 110; refine HAD.out.mono ?_; rintro e w7 ⟨out, c, rfl, h⟩; have HO := Aside0.mk h; clear h)
      have hgs7 := Box.kept hgs2 HO.out.2.2.2.2.2 hne.2.1
      have hgi7 := Box.kept hgi2 HO.out.2.2.2.2.2 hgl.1
      refine leaves_cons (f := 92) (args := #[.pointer (some ⟨gs, 0, none⟩), .int .i64 0]) (by simp) (by simp [go_sem]) ?_
      refine (rest_d gs gi _ G gt .returning w7 hgs7 hgi7 g4).mono ?_
      rintro e u' w'' ⟨rfl, rfl, rfl⟩
      obtain ⟨hc0, hlo, hdo, hvo, hbo, hko⟩ := HO.out
      have hlt := W64.val_lt HD.out
      have h00 := W64.val_nonneg HD.out
      have ho0 := W64.val_nonneg hdo
      have hc : c = 0 := by
        rw [hdbl.2, hdone, show (18446744073709551616 : Int) ^ (2 * k) = 18446744073709551616 ^ k * 18446744073709551616 ^ k by rw [← Int.pow_add]; congr 1; omega] at hvo
        rw [hnl] at hlt
        have hB0 : (0 : Int) ≤ 18446744073709551616 ^ k := Int.pow_nonneg (by decide)
        generalize (18446744073709551616 : Int) ^ k = B at *
        generalize W64.val xs = V at *
        generalize W64.val out = O at *
        apply Classical.byContradiction
        intro hne0
        have h1 : 1 * (B * B) ≤ c * (B * B) := Int.mul_le_mul_of_nonneg_right (by omega) (Int.mul_nonneg hB0 hB0)
        have h2 : V * V < B * B := by
          have h3 : V * V ≤ V * B := Int.mul_le_mul_of_nonneg_left (Int.le_of_lt hlt) h00
          have h4 : V * B < B * B := Int.mul_lt_mul_of_pos_right hlt (by omega)
          omega
        omega
      subst hc
      rw [hdbl.2, hdone, Int.zero_mul, Int.add_zero] at hvo
      have hHG := HG.out
      refine ⟨_, results_none rfl _ _ _, rfl, out, gi, gt, G, hlo, hdo, hvo, ?_, hHG.1, hHG.2.1, g4, ?_, ?_, ?_⟩
      · exact hbo.far (p := ⟨gi, 0, none⟩) (Ne.symm hgl.1) _
      · exact hgs7.far (p := ⟨gi, 0, none⟩) hgl.2.2.2.2.2 _
      · exact hgi7.put1c _
      · exact (hkt2.thenB hko (.inl (.inl rfl))).set ⟨gi, 0, none⟩ (.inr hHG.1) _
end Go.Proofs.YteohmbannpbokaaGreatDoor.WordWalk
