/-
 The library's contracts that this seat takes, laid at its program.
 Words multiplied: a word by a word, and a row of words by a word.
 A block of words, and a row of words multiplied by a word into it.
 Room for words, made or taken anew; a word laid down; a number times a word and a word more, where it stands.
 A number times a word and a word more, where it stands.
-/
import Derived.Shelf.Small.Bits
import Derived.Shelf.Strconv.Itoa0
import Derived.Shelf.Bits.Mul64
import Derived.Test.YteohmbannpbokaaGreatDoorProg
import Derived.Test.YteohmbannpbokaaGreatDoorJ20
import Derived.Laws.Externs
import Derived.RegionTactic
import Derived.BigRegion
import Derived.ChangeAlike
namespace Go.Proofs
def Tryz.lays130_ren : Go.Shelf.Ren := ⟨fun | 130 => 157 | 125 => 71 | 128 => 98 | 129 => 99 | n => n, fun | 46 => 22 | 3 => 3 | 51 => 44 | 53 => 79 | 4 => 4 | 5 => 5 | 9 => 9 | n => n, fun | n => n⟩
theorem Tryz.lays130 : Go.Proofs.Lays.n130 Tryz.prog Tryz.lays130_ren := {
 mixed := by kernel_rfl
 f125 := Tryz.func71.trans (congrArg some (by kernel_rfl))
 f128 := Tryz.func98.trans (congrArg some (by kernel_rfl))
 f129 := Tryz.func99.trans (congrArg some (by kernel_rfl))
 f130 := Tryz.func157.trans (congrArg some (by kernel_rfl))
 t3 := Tryz.underlying3
 a3 := Tryz.isAgg3
 z3 := Tryz.sizeOf3
 v3 := Tryz.zeroValue3
 t4 := Tryz.underlying4
 a4 := Tryz.isAgg4
 z4 := Tryz.sizeOf4
 v4 := Tryz.zeroValue4
 t5 := Tryz.underlying5
 a5 := Tryz.isAgg5
 z5 := Tryz.sizeOf5
 v5 := Tryz.zeroValue5
 t9 := Tryz.underlying9
 a9 := Tryz.isAgg9
 z9 := Tryz.sizeOf9
 v9 := Tryz.zeroValue9
 t46 := Tryz.underlying22
 a46 := Tryz.isAgg22
 z46 := Tryz.sizeOf22
 v46 := Tryz.zeroValue22
 t51 := Tryz.underlying44
 a51 := Tryz.isAgg44
 z51 := Tryz.sizeOf44
 v51 := Tryz.zeroValue44
 t53 := Tryz.underlying79
 a53 := Tryz.isAgg79
 z53 := Tryz.sizeOf79
 v53 := Tryz.zeroValue79 }
theorem Tryz.bits_LeadingZeros (x : Int) (w : World) (h0 : 0 ≤ x) (h1 : x ≤ 18446744073709551615) :
   Calls Tryz.prog 157 #[.int .u64 x] w fun e w' => e = .returned (.int .i64 (64 - (Lib.bitLen x.toNat : Int))) ∧ w' = w := Any.bits_LeadingZeros Tryz.lays130 x w h0 h1
def Tryz.lays212_ren : Go.Shelf.Ren := ⟨fun | 212 => 107 | 263 => 126 | 264 => 127 | n => n, fun | 46 => 22 | 51 => 44 | 146 => 152 | 53 => 79 | 148 => 154 | n => n, fun | n => n⟩
theorem Tryz.lays212 : Go.Proofs.Lays.n212 Tryz.prog Tryz.lays212_ren := {
 mixed := by kernel_rfl
 f212 := Tryz.func107.trans (congrArg some (by kernel_rfl))
 f263 := Tryz.func126.trans (congrArg some (by kernel_rfl))
 f264 := Tryz.func127.trans (congrArg some (by kernel_rfl))
 t46 := Tryz.underlying22
 a46 := Tryz.isAgg22
 z46 := Tryz.sizeOf22
 v46 := Tryz.zeroValue22
 t51 := Tryz.underlying44
 a51 := Tryz.isAgg44
 z51 := Tryz.sizeOf44
 v51 := Tryz.zeroValue44
 t53 := Tryz.underlying79
 a53 := Tryz.isAgg79
 z53 := Tryz.sizeOf79
 v53 := Tryz.zeroValue79
 t146 := Tryz.underlying152
 a146 := Tryz.isAgg152
 z146 := Tryz.sizeOf152
 v146 := Tryz.zeroValue152
 t148 := Tryz.underlying154
 a148 := Tryz.isAgg154
 z148 := Tryz.sizeOf154
 v148 := Tryz.zeroValue154 }
open Go.RowKit Go.Lib in
theorem Tryz.bits_Mul (x y : Nat) (hx : x < 18446744073709551616) (hy : y < 18446744073709551616) (w : World) :
   Calls Tryz.prog 107 #[.int .u64 x, .int .u64 y] w fun e w' => e = .returned (.tuple #[.int .u64 ((x * y / 18446744073709551616 : Nat) : Int), .int .u64 ((x * y % 18446744073709551616 : Nat) : Int)]) ∧ w' = w := Any.bits_Mul Tryz.lays212 x y hx hy w
end Go.Proofs
set_option linter.unusedVariables false
set_option linter.unusedSimpArgs false
namespace Go.Proofs.YteohmbannpbokaaGreatDoor.WordWalk
open Go.RowKit Go.Proofs.YteohmbannpbokaaGreatDoorW.PrintWords Go.Proofs.YteohmbannpbokaaGreatDoorW.PrintLast Go.Proofs.YteohmbannpbokaaGreatDoorW.PrintMore Go.Proofs.YteohmbannpbokaaGreatDoor.SpecWalk Go.Proofs.YteohmbannpbokaaGreatDoor.BigWalk
theorem add64 (x y : Int) (hx : 0 ≤ x) (hy : 0 ≤ y) (w : World) : (callFunc 151 #[.int .u64 x, .int .u64 y, .int .u64 0]).run Tryz.prog w =
   .ok (.value (.tuple #[.int .u64 ((x + y) % 18446744073709551616), .int .u64 ((x + y) / 18446744073709551616)])) w := by
 rw [run_callFunc_extern (fn := Tryz.f151) (e := add64Entry) Tryz.func151 (by kernel_rfl) (by kernel_rfl) (by kernel_rfl) (by kernel_rfl), run_add64 x y 0 hx hy (Int.le_refl 0) (by decide)]
 simp
structure Word (x : Int) : Prop where
 mk :: (lo : 0 ≤ x) (hi : x < 18446744073709551616)
theorem u64_w (x : Int) : IntKind.u64.wrap x = x % 18446744073709551616 := IntKind.wrap_u64 x
theorem mulAddWWW_n (x y c : Int) (hx : Word x) (hy : Word y) (hc : Word c) (w : World) :
   Calls Tryz.prog 149 #[.int .u64 x, .int .u64 y, .int .u64 c] w fun e w' => e = .returned (.tuple #[.int .u64 ((x * y + c) / 18446744073709551616), .int .u64 ((x * y + c) % 18446744073709551616)]) ∧ w' = w := by
 obtain ⟨a, rfl⟩ := Int.eq_ofNat_of_zero_le hx.lo
 obtain ⟨b, rfl⟩ := Int.eq_ofNat_of_zero_le hy.lo
 have ha : a < 18446744073709551616 := by have := hx.hi; omega
 have hb : b < 18446744073709551616 := by have := hy.hi; omega
 obtain ⟨c0, c1⟩ := hc
 have HM := Aside0.mk (fun w => Tryz.bits_Mul a b ha hb w)
 have hlt : a * b / 18446744073709551616 < 18446744073709551615 := by
   have h1 : a * b ≤ 18446744073709551615 * 18446744073709551615 := Nat.mul_le_mul (by omega) (by omega)
   omega
 have e3 : (a : Int) * (b : Int) = ((a * b : Nat) : Int) := (Int.natCast_mul a b).symm
 rw [e3]
 clear e3 ha hb hx hy
 generalize a * b = P at *
 have HA := Aside0.mk (fun w => add64 ((P % 18446744073709551616 : Nat) : Int) c (by omega) c0 w)
 have e1 : ((P / 18446744073709551616 : Nat) : Int) + (((P % 18446744073709551616 : Nat) : Int) + c) / 18446744073709551616 = ((P : Int) + c) / 18446744073709551616 := by omega
 have e2 : (((P % 18446744073709551616 : Nat) : Int) + c) % 18446744073709551616 = ((P : Int) + c) % 18446744073709551616 := by omega
 have e0 : ((P : Int) + c) / 18446744073709551616 < 18446744073709551616 := by omega
 have e4 : 0 ≤ ((P : Int) + c) / 18446744073709551616 := by omega
 have HE := Aside0.mk (And.intro e1 (And.intro e2 (And.intro e0 e4)))
 clear e1 e2 e0 e4 hlt
 generalize ((P / 18446744073709551616 : Nat) : Int) = H at *
 generalize ((P % 18446744073709551616 : Nat) : Int) = L at *
 generalize (P : Int) = Q at *
 go_enter Tryz.func149, Tryz.ntmps149
 go_wp2_with (first | (go_at_call 107; refine (HM.out _).mono ?_; rintro e w' ⟨rfl, rfl⟩) | simp only [HA.out] | go_in)
 go_ret2
 obtain ⟨e1, e2, e0, e4⟩ := HE.out
 have hw : IntKind.u64.wrap (H + (L + c) / 18446744073709551616) = (Q + c) / 18446744073709551616 := by rw [u64_w, e1, Int.emod_eq_of_lt e4 e0]
 exact ⟨by simp [hw, e2], rfl⟩
structure Buf (w : World) (g : Nat) (cs : List Int) : Prop where
 mk :: (out : w.heap[g]? = some (.cells (nums .u64 cs).toArray 89 (0, 0)))
section
variable {w w1 : World} {g : Nat} {cs : List Int}
theorem Buf.lt (h : Buf w g cs) : g < w.heap.size := (Array.getElem?_eq_some_iff.1 h.out).1
theorem Buf.blk (h : Buf w g cs) : Blk w g := ⟨_, _, h.out⟩
theorem Buf.below (h : Buf w g cs) (hb : Below w.heap.size w w1) : Buf w1 g cs := ⟨(hb.block g h.lt).trans h.out⟩
theorem Buf.kept {g' : Nat} (h : Buf w g cs) (hk : KeptB w w1 g') (hne : g ≠ g') : Buf w1 g cs := ⟨(hk.block g h.lt hne).trans h.out⟩
theorem Buf.drew (h : Buf w g cs) : Buf w.drew g cs := ⟨h.out⟩
theorem nums_get (cs : List Int) (j : Nat) (h : j < cs.length) : (nums .u64 cs)[j]? = some (.int .u64 (rd cs (j : Int))) := by
 rw [W64.rd_lt h]
 simp [nums, h]
theorem Buf.cell (h : Buf w g cs) {j : Nat} (hj : j < cs.length) : w.cell? ⟨g, j, none⟩ = some (.int .u64 (rd cs (j : Int))) := by
 rw [← nums_get cs j hj]
 simp [World.cell?, h.out]
theorem Buf.frozen (h : Buf w g cs) (j : Nat) : w.frozen? ⟨g, j, none⟩ = false := by
 simp [World.frozen?, h.out]
theorem Buf.far (h : Buf w g cs) {p : Addr} (hp : g ≠ p.block) (u : Value) : Buf (w.setCell p u) g cs := ⟨(Below.heap_setCell w p u g hp).trans h.out⟩
theorem Buf.put (h : Buf w g cs) (j : Nat) (x : Int) : Buf (w.setCell ⟨g, j, none⟩ (.int .u64 x)) g (cs.set j x) := by
 refine ⟨?_⟩
 have e := h.out
 simp only [World.setCell, Array.getElem?_modify, if_pos, e, Option.map_some]
 simp [nums, List.map_set]
theorem Buf.new (w : World) (m : Nat) : Buf (w.alloc (.cells (madeCells #[.int .u64 0] m) 89)) w.heap.size (List.replicate m 0) := by
 refine ⟨?_⟩
 rw [heap_alloc_new]
 have hl : madeCells #[Value.int .u64 0] m = (nums .u64 (List.replicate m 0)).toArray := by
   apply Array.ext
   · simp [nums, madeCells]
   · intro i h1 h2
     simp [nums, madeCells, Nat.mod_one]
 rw [hl]
theorem Buf.lit (w : World) (xs : List Int) (hg : w.heap.size = g) : Buf (w.alloc (.cells (nums .u64 xs).toArray 89)) g xs := by
 subst hg
 exact ⟨heap_alloc_new w _⟩
theorem Buf.reads (h : Buf w g cs) (hs : cs.length ≤ 1000000) {n : Nat} (hn : n ≤ cs.length) : Kd.C (Kd.int .u64) w (some ⟨g, 0, none⟩) n (cs.take n) := by
 refine Kd.C_of_reads (enc := Value.int .u64) (d := (0 : Int)) (h1 := fun _ => rfl) ⟨by rw [List.length_take]; omega, by omega, fun _ => ⟨_, rfl, fun j hj => ?_⟩⟩
 have hj2 : j < n := by simpa using hj
 rw [add_plain]
 have h1 := h.cell (j := j) (by omega)
 have h2 : rd cs (j : Int) = (cs.take n).getD j 0 := by
   rw [W64.rd_nat, List.getD_eq_getElem?_getD, List.getD_eq_getElem?_getD, List.getElem?_take, if_pos hj2]
 rw [h2] at h1
 exact h1
theorem Buf.V {e base : Nat} (h : Buf w g cs) (hs : cs.length ≤ 1000000) {n cap : Nat} (hn : n ≤ cs.length) (hc : n ≤ cap) : Kd.V (Kd.int .u64) e w base (fun k => k = g) (.slice (some ⟨g, 0, none⟩) n cap) (cs.take n) := by
 have hl : (cs.take n).length = n := by rw [List.length_take]; omega
 refine ⟨_, cap, by rw [hl], by rw [hl]; exact hc, fun W' hW => ?_⟩
 rw [hl]
 exact Buf.reads ⟨(hW g rfl h.lt).trans h.out⟩ hs hn
end
structure MulW (xs : List Int) (y r : Int) (out : List Int) (c i : Int) : Prop where
 mk :: (out : ∃ k : Nat, i = k ∧ k ≤ xs.length ∧ out.length = k ∧ W64.Dig out ∧ 0 ≤ c ∧ c < 18446744073709551616 ∧ W64.val out + c * 18446744073709551616 ^ k = W64.val (xs.take k) * y + r)
theorem MulW.start (xs : List Int) (y r : Int) (hr : Word r) : MulW xs y r [] r 0 :=
 ⟨0, rfl, Nat.zero_le _, rfl, W64.Dig.nil, hr.lo, hr.hi, by simp [W64.val]⟩
theorem MulW.bound {xs : List Int} {y r : Int} {out : List Int} {c i : Int} (h : MulW xs y r out c i) : 0 ≤ i ∧ i ≤ xs.length ∧ (out.length : Int) = i ∧ Word c := by
 obtain ⟨k, rfl, h1, h2, _, h3, h4, _⟩ := h
 exact ⟨by omega, by omega, by omega, ⟨h3, h4⟩⟩
theorem MulW.step {xs : List Int} {y r : Int} {out : List Int} {c i : Int} (h : MulW xs y r out c i) (hd : W64.Dig xs) (hy : Word y) (hi : i < xs.length) :
   MulW xs y r (out ++ [(rd xs i * y + c) % 18446744073709551616]) ((rd xs i * y + c) / 18446744073709551616) (i + 1) := by
 obtain ⟨k, rfl, h1, h2, h3, h4, h5, h6⟩ := h
 have hk : k < xs.length := by omega
 obtain ⟨x0, x1⟩ := W64.dig_rd hd (k : Int)
 obtain ⟨y0, y1⟩ := hy
 have hxy0 : 0 ≤ rd xs k * y := Int.mul_nonneg x0 y0
 have hxy1 : rd xs k * y ≤ 18446744073709551615 * 18446744073709551615 := Int.mul_le_mul (by omega) (by omega) y0 (by omega)
 refine ⟨k + 1, by omega, by omega, by simp [h2], h3.append (by intro z hz; rw [List.mem_singleton] at hz; subst hz; omega), by omega, by omega, ?_⟩
 rw [W64.val_append, W64.val_take_succ hk, h2, W64.pw_succ]
 have e : W64.val [(rd xs (k : Int) * y + c) % 18446744073709551616] = (rd xs (k : Int) * y + c) % 18446744073709551616 := by simp [W64.val]
 rw [e]
 have e2 : (rd xs (k : Int) * y + c) % 18446744073709551616 = (rd xs (k : Int) * y + c) - 18446744073709551616 * ((rd xs (k : Int) * y + c) / 18446744073709551616) := by omega
 rw [e2]
 generalize (rd xs (k : Int) * y + c) / 18446744073709551616 = q
 generalize (18446744073709551616 : Int) ^ k = p at *
 rw [Int.add_mul, Int.mul_sub, Int.mul_add]
 have e3 : p * (rd xs (k : Int) * y) = rd xs (k : Int) * p * y := by rw [Int.mul_comm p, Int.mul_assoc, Int.mul_comm y p, ← Int.mul_assoc]
 have e4 : p * (18446744073709551616 * q) = q * (18446744073709551616 * p) := by rw [Int.mul_comm p, Int.mul_comm 18446744073709551616 q, Int.mul_assoc]
 have e5 : p * c = c * p := Int.mul_comm _ _
 rw [e3, e4, e5]
 omega
theorem MulW.done {xs : List Int} {y r : Int} {out : List Int} {c i : Int} (h : MulW xs y r out c i) (hi : ¬ i < xs.length) : out.length = xs.length ∧ W64.Dig out ∧ W64.val out + c * 18446744073709551616 ^ xs.length = W64.val xs * y + r := by
 obtain ⟨k, rfl, h1, h2, h3, h4, h5, h6⟩ := h
 obtain rfl : k = xs.length := by omega
 rw [List.take_length] at h6
 exact ⟨h2, h3, h6⟩
theorem set_mid {out cs : List Int} {k : Nat} (h : out.length = k) (hk : k < cs.length) (v : Int) : (out ++ cs.drop k).set k v = (out ++ [v]) ++ cs.drop (k + 1) := by
 subst h
 rw [List.set_append_right _ _ (Nat.le_refl _), Nat.sub_self, List.drop_eq_getElem_cons hk, List.set_cons_zero, List.append_assoc]
 rfl
theorem rd_mid {out cs : List Int} {k : Nat} (h : out.length = k) (hk : k < cs.length) : rd (out ++ cs.drop k) (k : Int) = rd cs (k : Int) := by
 subst h
 rw [W64.rd_lt (by simp; omega), W64.rd_lt hk, List.getElem_append_right (Nat.le_refl _)]
 simp
theorem KeptB.cell {w w' : World} {g g' j : Nat} {v : Value} (hk : KeptB w w' g) (hne : g' ≠ g) (h : w.cell? ⟨g', j, none⟩ = some v) : w'.cell? ⟨g', j, none⟩ = some v :=
 (World.cell?_of_block (a := ⟨g', j, none⟩) (hk.block g' (World.block_lt_of_cell? w _ h) hne)).trans h
theorem KeptB.refl (w : World) (g : Nat) : KeptB w w g := ⟨rfl, rfl, rfl, Nat.le_refl _, fun _ _ _ => rfl⟩
set_option maxHeartbeats 4000000 in
theorem mulAddVWW_g_n (g gx cz cx : Nat) (cs xs : List Int) (y r : Int) (w : World) (hz : Buf w g cs) (hl : xs.length ≤ cs.length) (hlm : xs.length ≤ 1000000) (hd : W64.Dig xs) (hy : Word y) (hr : Word r)
   (hx : (gx ≠ g ∧ ∀ i : Nat, i < xs.length → w.cell? ⟨gx, i, none⟩ = some (.int .u64 (rd xs (i : Int)))) ∨ (gx = g ∧ ∀ i : Nat, i < xs.length → rd xs (i : Int) = rd cs (i : Int))) :
   Calls Tryz.prog 130 #[.slice (some ⟨g, 0, none⟩) xs.length cz, .slice (some ⟨gx, 0, none⟩) xs.length cx, .int .u64 y, .int .u64 r] w fun e w' => ∃ out c, e = .returned (.int .u64 c) ∧ Word c ∧ out.length = xs.length ∧ W64.Dig out ∧ W64.val out + c * 18446744073709551616 ^ xs.length = W64.val xs * y + r ∧ Buf w' g (out ++ cs.drop xs.length) ∧ KeptB w w' g := by
 have HX := Aside0.mk hx
 have HL := Aside0.mk hl
 have HD := Aside0.mk hd
 have HY := Aside0.mk hy
 have HS := Aside0.mk (MulW.start xs y r hr)
 have HZ := Aside0.mk hz
 have hli : (xs.length : Int) ≤ 1000000 := by omega
 clear hx hl hd hy hr hz hlm
 generalize hm : xs.length = m at *
 have HM := Aside0.mk hm
 clear hm
 go_enter Tryz.func130, Tryz.ntmps130
 go_wp2
 go_loopg [8, 19] m (fun gg v8 v19 w' => ∃ (out : List Int) (c i : Int), v8 = .int .u64 c ∧ v19 = .int .i64 i ∧ MulW xs y r out c i ∧ Aside0 (i + (gg : Int) = m) ∧ Aside0 (Buf w' g (out ++ cs.drop i.toNat)) ∧ Aside0 (KeptB w w' g))
 case atStart => exact ⟨[], r, 0, rfl, rfl, HS.out, ⟨by simp⟩, ⟨by simpa using HZ.out⟩, ⟨KeptB.refl _ _⟩⟩
 case round =>
   clear HS
   obtain ⟨out, c, i, rfl, rfl, HI, HG, HB, HK⟩ := hrel
   obtain ⟨i0, i1, hlo, hwc⟩ := HI.bound
   have HML := HM.out
   have HLO := Aside0.mk hlo
   clear hlo
   by_cases hi : i < (m : Int)
   · have hrun := mulAddWWW_n (rd xs i) y c (by obtain ⟨a, b⟩ := W64.dig_rd HD.out i; exact ⟨a, b⟩) HY.out hwc
     have hcell : wr.cell? ⟨gx, i.toNat, none⟩ = some (.int .u64 (rd xs i)) := by
       have hin : ((i.toNat : Nat) : Int) = i := by omega
       rcases HX.out with ⟨hne, hc⟩ | ⟨rfl, hc⟩
       · have := KeptB.cell HK.out hne (hc i.toNat (by omega))
         rwa [hin] at this
       · have h1 := HB.out.cell (j := i.toNat) (by have := HL.out; have := HLO.out; simp; omega)
         have h2 := rd_mid (out := out) (cs := cs) (k := i.toNat) (by have := HLO.out; omega) (by have := HL.out; omega)
         rw [h2, ← hc i.toNat (by omega), hin] at h1
         exact h1
     have hst := HI.step HD.out HY.out (by omega)
     obtain ⟨hst0, hst1, hst2, hst3⟩ := hst.bound
     have HST := Aside0.mk hst
     have hput := HB.out.put i.toNat ((rd xs i * y + c) % 18446744073709551616)
     rw [set_mid (by have := HLO.out; omega) (by have := HL.out; omega)] at hput
     have hcz : wr.cell? ⟨g, i.toNat, none⟩ = some (.int .u64 (rd cs i)) := by
       have hin : ((i.toNat : Nat) : Int) = i := by omega
       have h1 := HB.out.cell (j := i.toNat) (by have := HL.out; have := HLO.out; simp; omega)
       have h2 := rd_mid (out := out) (cs := cs) (k := i.toNat) (by have := HLO.out; omega) (by have := HL.out; omega)
       rwa [h2, hin] at h1
     have hfz := HB.out.frozen i.toNat
     have HP := Aside0.mk hput
     have HR := Aside0.mk hrun
     clear HI hst hput hrun hwc hst0 hst1 hst2 hst3 HML
     generalize (rd xs i * y + c) % 18446744073709551616 = z0 at *
     generalize (rd xs i * y + c) / 18446744073709551616 = z1 at *
     generalize rd xs i = x at *
     go_wp2_with (go_at_call 149; refine (HR.out _).mono ?_; rintro e w1 ⟨rfl, rfl⟩)
     go_roundg (gk - 1)
     case measure => have := HG.out; omega
     case rel => exact ⟨_, z1, i + 1, rfl, rfl, HST.out, ⟨by have := HG.out; omega⟩, ⟨by rw [show (i + 1).toNat = i.toNat + 1 by omega]; exact HP.out⟩, ⟨HK.out.set _⟩⟩
   · obtain ⟨e1, e2, e3⟩ := HI.done (by omega)
     have HE := Aside0.mk (And.intro e1 (And.intro e2 e3))
     have HW := Aside0.mk hwc
     clear HI e1 e2 e3 hwc
     go_wp2
     go_ret
     obtain ⟨e1, e2, e3⟩ := HE.out
     refine ⟨out, c, rfl, HW.out, by omega, e2, by rw [← HML]; exact e3, ?_, HK.out⟩
     have := HB.out
     rwa [show i.toNat = m by omega] at this
theorem make_in (g l n cap : Nat) (w : World) (hl : l ≤ cap) (hn : n ≤ cap) (hc : cap ≤ 1000000) :
   Calls Tryz.prog 68 #[.slice (some ⟨g, 0, none⟩) l cap, .int .i64 n] w fun e w' => e = .returned (.slice (some ⟨g, 0, none⟩) n cap) ∧ w' = w := by
 have hci : (cap : Int) ≤ 1000000 := by omega
 have hni : (n : Int) ≤ (cap : Int) := by omega
 have hn0 : (0 : Int) ≤ (n : Int) := by omega
 go_enter Tryz.func68, Tryz.ntmps68
 go_wp2
 go_ret
 exact ⟨rfl, rfl⟩
theorem run_mk1 (W : World) : (Instr.makeSlice 57 (.int .i64 1) (.int .i64 1)).run Tryz.prog W = .ok (.slice (some ⟨W.heap.size, 0, none⟩) 1 1) (W.alloc (.cells (madeCells #[.int .u64 0] 1) 89)) := by
 obtain ⟨i0, hi, hzz⟩ := Option.map_eq_some_iff.1 infoW
 simp only [Prod.mk.injEq] at hzz
 obtain ⟨hz0, hz1, hz2⟩ := hzz
 have hr := run_make (P := Tryz.prog) W 57 89 i0 (.int .u64 0) Tryz.underlying57 hi hz0 .i64 .i64 1 1 (by omega) (by omega) (by rw [hz2]; omega) (by omega)
 rw [hz1, Nat.mul_one] at hr
 exact hr
theorem make_new (A : Option Addr) (l n cap : Nat) (w : World) (h1 : 0 < n) (hn : n ≤ 100000) (hc : cap < n) :
   Calls Tryz.prog 68 #[.slice A l cap, .int .i64 n] w fun e w' => ∃ cap', e = .returned (.slice (some ⟨w.heap.size, 0, none⟩) n cap') ∧ n ≤ cap' ∧ cap' ≤ n + 4 ∧ Buf w' w.heap.size (List.replicate cap' 0) ∧ w'.heap.size = w.heap.size + 1 ∧ Below w.heap.size w w' := by
 have hle : ¬ ((n : Int) ≤ (cap : Int)) := by omega
 have hcn : (cap : Int) < (n : Int) := by omega
 by_cases hn1 : n = 1
 · subst hn1
   have hmk := run_mk1
   have HB := Aside0.mk (Buf.new w 1)
   go_enter Tryz.func68, Tryz.ntmps68
   go_wp2
   go_ret
   exact ⟨1, rfl, by omega, by omega, HB.out, by simp, (Below.refl _ _).alloc (Nat.le_refl _) _⟩
 · have hmk := run_mk n (by omega)
   have hne : ((n : Int) == 1) = false := beq_eq_false_iff_ne.mpr (by omega)
   have HB := Aside0.mk (Buf.new w (n + 4))
   have hni : (n : Int) ≤ 100000 := by omega
   have HN := Aside0.mk hni
   clear hn1 h1 hn
   go_enter Tryz.func68, Tryz.ntmps68
   go_wp2
   go_ret
   exact ⟨n + 4, rfl, by omega, by omega, HB.out, by simp, (Below.refl _ _).alloc (Nat.le_refl _) _⟩
set_option maxHeartbeats 1000000 in
theorem norm_b (l : List Int) (n : Nat) (hd : W64.Dig l) (hl : l.length ≤ 100000) (hn : W64.val l = n) (A : Option Addr) (c : Nat) (w : World) (hlc : l.length ≤ c) (hF : Kd.C (Kd.int .u64) w A l.length l) :
   Calls Tryz.prog 61 #[.slice A l.length c] w fun e w' => e = .returned (.slice A (W64.digs n).length c) ∧ l.take (W64.digs n).length = W64.digs n ∧ w' = w := by
 have HC := Aside0.mk hF
 have HST := Cut.start hn
 have HD := Aside0.mk hd
 have HLC := Aside0.mk hlc
 have hli : (l.length : Int) ≤ 100000 := by omega
 clear hd hl hn hF hlc
 go_enter Tryz.func61, Tryz.ntmps61
 go_wp2
 go_loopg [3] l.length (fun g v3 w' => ∃ t : Int, v3 = .int .i64 t ∧ Cut l n t ∧ Aside0 (t = g) ∧ w' = w)
 case atStart => exact ⟨l.length, rfl, HST, ⟨rfl⟩, rfl⟩
 case round =>
   obtain ⟨t, rfl, HI, HG, rfl⟩ := hrel
   obtain ⟨t0, t1⟩ := HI.bound
   by_cases hpos : 0 < t
   · obtain ⟨ad, e0, hx⟩ := Kd.at_int HC.out (t - 1) (by omega) (by omega)
     cases e0
     rw [show (t - 1).toNat = t.toNat - 1 by omega] at hx
     have h1 : 1 ≤ t := by omega
     by_cases hz : rd l (t - 1) = 0
     · have HS := Aside0.mk (HI.step hpos hz)
       rw [hz] at hx
       clear HI hz
       go_wp2
       go_roundg (gk - 1)
       case measure => have := HG.out; omega
       case rel => exact ⟨t - 1, rfl, HS.out, ⟨by have := HG.out; omega⟩, rfl⟩
     · have HE := Aside0.mk (HI.done HD.out (fun h => hz h.2))
       have hz2 : (rd l (t - 1) == 0) = false := beq_eq_false_iff_ne.mpr hz
       generalize rd l (t - 1) = X at *
       have HT := Aside0.mk (And.intro t0 t1)
       have htc : t ≤ (c : Int) := by have := HLC.out; omega
       clear HI hz
       go_wp2
       go_ret
       exact ⟨by rw [HE.out.2]; rfl, by rw [HE.out.2]; exact HE.out.1, rfl⟩
   · have HE := Aside0.mk (HI.done HD.out (fun h => hpos h.1))
     obtain rfl : t = 0 := by omega
     clear HI
     go_wp2
     go_ret
     exact ⟨by rw [HE.out.2]; rfl, by rw [HE.out.2]; exact HE.out.1, rfl⟩
theorem below_trans {B : Nat} {w0 w w1 : World} (h : Below B w0 w) (k : Below B w w1) (hB : B ≤ w.heap.size) : Below B w0 w1 :=
 ⟨k.os.trans h.os, k.tape.trans h.tape, k.output.trans h.output, Nat.le_trans h.size k.size, fun i hi => (k.block i hi).trans (h.block i hi)⟩
theorem below_less {B C : Nat} {w w1 : World} (h : Below C w w1) (hB : B ≤ C) : Below B w w1 :=
 ⟨h.os, h.tape, h.output, h.size, fun i hi => h.block i (by omega)⟩
theorem below_kept {B g : Nat} {w w1 : World} (h : KeptB w w1 g) (hB : B ≤ g) (hw : B ≤ w.heap.size) : Below B w w1 :=
 ⟨h.os, h.tape, h.output, h.size, fun i hi => h.block i (by omega) (by omega)⟩
structure Zs (w : World) (base : Nat) (v : Value) (n : Nat) : Prop where
 mk :: (out : (v = .slice none 0 0 ∧ n = 0) ∨ ∃ g cs, v = .slice (some ⟨g, 0, none⟩) (W64.digs n).length cs.length ∧ base ≤ g ∧ Buf w g cs ∧ (W64.digs n).length ≤ cs.length ∧ cs.length ≤ 1000 ∧ cs.take (W64.digs n).length = W64.digs n)
theorem Zs.nil (w : World) (base : Nat) : Zs w base (.slice none 0 0) 0 := ⟨.inl ⟨rfl, rfl⟩⟩
theorem Zs.below {w w1 : World} {base : Nat} {v : Value} {n : Nat} (h : Zs w base v n) (hb : Below w.heap.size w w1) : Zs w1 base v n := by
 rcases h.out with h | ⟨g, cs, e, h1, h2, h3⟩
 · exact ⟨.inl h⟩
 · exact ⟨.inr ⟨g, cs, e, h1, h2.below hb, h3⟩⟩
theorem Zs.drew {w : World} {base : Nat} {v : Value} {n : Nat} (h : Zs w base v n) : Zs w.drew base v n := h.below (Below.refl _ _).drew
theorem Zs.form {w : World} {base : Nat} {v : Value} {n : Nat} (h : Zs w base v n) : ∃ A c, v = .slice A (W64.digs n).length c := by
 rcases h.out with ⟨rfl, rfl⟩ | ⟨g, cs, e, _⟩
 · exact ⟨none, 0, by rw [W64.digs_zero]; rfl⟩
 · exact ⟨_, _, e⟩
theorem Zs.wdv {w : World} {base : Nat} {v : Value} {n : Nat} (h : Zs w base v n) : Wdv w (fun k => base ≤ k) v n := by
 rcases h.out with ⟨rfl, rfl⟩ | ⟨g, cs, rfl, h1, h2, h3, h4, h5⟩
 · exact (Wdv.nil w).mono (fun k hk => hk.elim)
 · have hv : Kd.V (Kd.int .u64) 0 w 0 (fun k => k = g) (.slice (some ⟨g, 0, none⟩) (W64.digs n).length cs.length) (cs.take (W64.digs n).length) := Buf.V h2 (by omega) h3 h3
   rw [h5] at hv
   exact Wdv.mono ⟨hv⟩ (fun k hk => by rw [hk]; exact h1)
set_option maxHeartbeats 1000000 in
theorem setWord_n (n : Nat) (x : Nat) (v : Value) (base : Nat) (w : World) (hx : x < 18446744073709551616) (hz : Zs w base v n) (hb : base ≤ w.heap.size) :
   Calls Tryz.prog 112 #[v, .int .u64 x] w fun e w' => ∃ u, e = .returned u ∧ Zs w' base u x ∧ Below base w w' := by
 by_cases h0 : x = 0
 · subst h0
   rcases hz.out with ⟨rfl, rfl⟩ | ⟨g, cs, rfl, h1, h2, h3, h4, h5⟩
   · go_enter Tryz.func112, Tryz.ntmps112
     go_wp2
     go_ret
     exact ⟨_, rfl, Zs.nil _ _, Below.refl _ _⟩
   · have HZ : Aside0 (Zs w base (.slice (some ⟨g, 0, none⟩) 0 cs.length) 0) := ⟨⟨.inr ⟨g, cs, by rw [W64.digs_zero]; rfl, h1, h2, by rw [W64.digs_zero]; exact Nat.zero_le _, h4, by rw [W64.digs_zero]; rfl⟩⟩⟩
     clear hz h1 h2 h3 h5
     generalize (W64.digs n).length = m at *
     go_enter Tryz.func112, Tryz.ntmps112
     go_wp2
     go_ret
     exact ⟨_, rfl, HZ.out, Below.refl _ _⟩
 · have hne : ((x : Int) == 0) = false := beq_eq_false_iff_ne.mpr (by omega)
   have hd1 : W64.digs x = [(x : Int)] := W64.digs_one h0 hx
   have hnew : ∀ A l c, c < 1 → v = .slice A l c → Calls Tryz.prog 112 #[v, .int .u64 x] w fun e w' => ∃ u, e = .returned u ∧ Zs w' base u x ∧ Below base w w' := by
     intro A l c hc hv
     subst hv
     have HM := Aside0.mk (make_new A l 1 c w (by decide) (by decide) hc)
     have HD := Aside0.mk hd1
     have HBS := Aside0.mk hb
     clear hz h0 hx hd1 hb
     generalize (x : Int) = X at *
     go_enter Tryz.func112, Tryz.ntmps112
     go_wp2_with (go_at_call 68; refine HM.out.mono ?_; rintro e w1 ⟨cap, rfl, h1, h2, h3, h4, h5⟩; have hc0 := h3.cell (j := 0) (by simp; omega); have hf0 := h3.frozen 0; have H3 := Aside0.mk h3; have H5 := Aside0.mk h5; have H2 := Aside0.mk (And.intro h1 h2); clear h3 h5)
     go_ret
     have hb3 := H3.out.put 0 X
     refine ⟨_, rfl, ⟨.inr ⟨w.heap.size, (List.replicate cap 0).set 0 X, ?_, HBS.out, hb3, ?_, ?_, ?_⟩⟩, ?_⟩
     · rw [HD.out]; simp
     · rw [HD.out]; have := H2.out; simp; omega
     · have := H2.out; simp; omega
     · rw [HD.out]
       obtain ⟨c', rfl⟩ : ∃ c', cap = c' + 1 := ⟨cap - 1, by have := H2.out; omega⟩
       simp [List.replicate_succ]
     · exact (below_less H5.out HBS.out).setCell (by have := HBS.out; show base ≤ w.heap.size; omega) _
   rcases hz.out with ⟨rfl, rfl⟩ | ⟨g, cs, rfl, h1, h2, h3, h4, h5⟩
   · exact hnew none 0 0 (by decide) rfl
   · by_cases hcs : cs.length < 1
     · exact hnew _ _ _ hcs rfl
     · have HM := Aside0.mk (make_in g (W64.digs n).length 1 cs.length w h3 (by omega) (by omega))
       have hc0 := h2.cell (j := 0) (by omega)
       have hf0 := h2.frozen 0
       have HP := Aside0.mk (h2.put 0 (x : Int))
       have HH := Aside0.mk (And.intro h1 (And.intro h4 hcs))
       have HD := Aside0.mk hd1
       clear hz hnew h0 hx hd1 h2 h3 h5
       generalize (W64.digs n).length = m at *
       generalize hX : (x : Int) = X at *
       go_enter Tryz.func112, Tryz.ntmps112
       go_wp2_with (go_at_call 68; refine HM.out.mono ?_; rintro e w1 ⟨rfl, rfl⟩)
       go_ret
       obtain ⟨h1, h4, hcs⟩ := HH.out
       refine ⟨_, rfl, ⟨.inr ⟨g, cs.set 0 X, ?_, h1, HP.out, ?_, ?_, ?_⟩⟩, (Below.refl _ _).setCell (by show base ≤ g; omega) _⟩
       · rw [HD.out]; simp
       · rw [HD.out]; simp; omega
       · simp; omega
       · rw [HD.out]
         cases cs with
         | nil => exact absurd hcs (by simp)
         | cons a cs => simp
set_option maxHeartbeats 1000000 in
theorem mulAddVWW_n (g gx cz cx : Nat) (cs xs : List Int) (y r : Int) (w : World) (hz : Buf w g cs) (hl : xs.length ≤ cs.length) (hlm : xs.length ≤ 1000000) (hd : W64.Dig xs) (hy : Word y) (hr : Word r)
   (hx : (gx ≠ g ∧ ∀ i : Nat, i < xs.length → w.cell? ⟨gx, i, none⟩ = some (.int .u64 (rd xs (i : Int)))) ∨ (gx = g ∧ ∀ i : Nat, i < xs.length → rd xs (i : Int) = rd cs (i : Int))) :
   Calls Tryz.prog 113 #[.slice (some ⟨g, 0, none⟩) xs.length cz, .slice (some ⟨gx, 0, none⟩) xs.length cx, .int .u64 y, .int .u64 r] w fun e w' => ∃ out c, e = .returned (.int .u64 c) ∧ Word c ∧ out.length = xs.length ∧ W64.Dig out ∧ W64.val out + c * 18446744073709551616 ^ xs.length = W64.val xs * y + r ∧ Buf w' g (out ++ cs.drop xs.length) ∧ KeptB w w' g := by
 have HM := Aside0.mk (mulAddVWW_g_n g gx cz cx cs xs y r w hz hl hlm hd hy hr hx)
 clear hz hl hlm hd hy hr hx
 go_enter Tryz.func113, Tryz.ntmps113
 go_wp2_with (go_at_call 130; refine HM.out.mono ?_; rintro e w1 ⟨out, c, rfl, h⟩; have HH := Aside0.mk h; clear h)
 go_ret
 exact ⟨out, c, rfl, HH.out⟩
theorem val_word {out : List Int} {c : Int} {m N : Nat} (hl : out.length = m) (hd : W64.Dig out) (hc : Word c) (h : W64.val out + c * 18446744073709551616 ^ m = (N : Int)) : W64.Dig (out ++ [c]) ∧ W64.val (out ++ [c]) = (N : Int) := by
 refine ⟨hd.append (by intro z hz; rw [List.mem_singleton] at hz; subst hz; exact ⟨hc.lo, hc.hi⟩), ?_⟩
 rw [W64.val_append, hl, ← h]
 simp [W64.val, Int.mul_comm]
end Go.Proofs.YteohmbannpbokaaGreatDoor.WordWalk
