/-
 Words for this claim.
-/
import Derived.Test.YteohmbannpbokaaGreatDoorJ03
import Derived.Test.YteohmbannpbokaaGreatDoorJ02
import Derived.Laws.StructEq
import Derived.Test.YteohmbannpbokaaGreatDoorJ01
import Derived.Test.YteohmbannpbokaaGreatDoorProg
import Derived.Below
import Derived.Deep.Draws
import Derived.Deep.AppendLies
import Derived.Maps.AppendAt
import Derived.OwnWalk
import Derived.Laws.BytesArg
import Derived.Laws.MakeOwn
import Derived.Laws.OwnMore
import Derived.Deep.OwnRows
import Derived.Tactics
import Derived.Lib.ConvBytes
import Derived.Laws.Slices
import Derived.WalkKit
import Derived.KernelRfl
import Derived.RowKit3
import Derived.Deep.LoopGhost
import Derived.Deep.QuietTactic
import Derived.BigQuiet
import Derived.WideLaws
import Derived.Deep.DeepCutAuto
import Derived.Deep.CutBlock
import Derived.Deep.RegionHeld3
import Derived.Laws.Rows
import Derived.Lib.AppendStr
import Derived.ArgAppend
import Derived.Laws.IdiomCopy
import Derived.OrdersHeld
import Derived.Laws.BitsLemmas
import Derived.RowKit
namespace Go.Proofs.YteohmbannpbokaaGreatDoorW.PrintWords
open Go.RowKit
namespace Kd
def chunks (sz : Nat) (n : Nat) (inner : List Value) : List (List Value) := (List.range n).map fun j => (inner.drop (j * sz)).take sz
theorem chunks_length (sz n : Nat) (inner : List Value) : (chunks sz n inner).length = n := by simp [chunks]
theorem chunks_at {sz n : Nat} {inner : List Value} {j : Nat} (hj : j < n) : (chunks sz n inner)[j]? = some ((inner.drop (j * sz)).take sz) := by simp [chunks, hj]
theorem chunks_get {sz n : Nat} {inner : List Value} {j : Nat} {c : List Value} (h : (chunks sz n inner)[j]? = some c) : c = (inner.drop (j * sz)).take sz := by
 have hj : j < n := by have := (List.getElem?_eq_some_iff.1 h).1; rwa [chunks_length] at this
 rw [chunks_at hj] at h
 injection h with h
 exact h.symm
theorem reps_raw {α : Type} {Rr : α → List Value → Prop} {sz : Nat} {xs : List α} {inner : List Value} (h : Reps Rr sz xs inner) (hR : ∀ x c, Rr x c → c.length = sz ∧ ∀ u ∈ c, u.oneCell' = true) : Reps (fun x cs => cs = x ∧ cs.length = sz ∧ ∀ u ∈ cs, u.oneCell' = true) sz (chunks sz xs.length inner) inner := by
 refine ⟨by rw [chunks_length]; exact h.1, fun j p hj => ?_⟩
 have hjl : j < xs.length := by have := (List.getElem?_eq_some_iff.1 hj).1; rwa [chunks_length] at this
 have hp := chunks_get hj
 exact ⟨hp.symm, hR _ _ (h.2 j _ (List.getElem?_eq_getElem hjl))⟩
section
variable {α : Type} {d : Kd α} {e base n cc g : Nat} {ok ok' okp S : Nat → Prop} {w w1 W W1 : World} {A : Option Addr} {u v v1 : Value} {xs : List α} {x : α} {c : List Value}
def N {α : Type} (d : Kd α) (e : Nat) (w : World) (base : Nat) (ok : Nat → Prop) (v : Value) (xs : List α) : Prop :=
 (∀ k, v.ownBlock = some k → ok k) ∧ ∃ rows : List (List Value), rows.length = xs.length ∧ (raw d.sz).R e w base (fun k => some k = v.ownBlock) v rows ∧ ∀ (j : Nat) (x : α) (c : List Value), xs[j]? = some x → rows[j]? = some c → FK d w (fun k => ok k ∧ some k ≠ v.ownBlock) x c
theorem R_N (h : d.R e w base ok v xs) : N d e w base ok v xs := by
 obtain ⟨h0, inner, ho, hr⟩ := h
 refine ⟨h0, chunks d.sz xs.length inner, chunks_length _ _ _, ⟨fun k hk => hk.symm, inner, by rw [chunks_length]; exact ho, reps_raw hr (fun x c hp => ⟨d.K_len (d.K_of_M hp), d.K_one (d.K_of_M hp)⟩)⟩, fun j x c hx hc => ?_⟩
 rw [chunks_get hc]
 exact FK_of_M (hr.2 j x hx)
theorem N_nil (d : Kd α) (e : Nat) (w : World) (base : Nat) (ok : Nat → Prop) : N d e w base ok (.slice none 0 0) [] := R_N (R_nil _ _ _ _ _)
end
end Kd
end Go.Proofs.YteohmbannpbokaaGreatDoorW.PrintWords
namespace Go.Proofs.YteohmbannpbokaaGreatDoorW.PrintWords
theorem Reps.one {α : Type} {R : α → List Value → Prop} {ps : List α} {cs : List Value} {p : α} {v : Value} (hp : R p [v]) (h : Reps R 1 ps cs) : Reps R 1 (p :: ps) (v :: cs) := by
 refine ⟨by simp [h.1], fun j q hq => ?_⟩
 cases j with
 | zero =>
   simp only [List.getElem?_cons_zero, Option.some.injEq] at hq
   subst hq
   simpa using hp
 | succ j =>
   simp only [List.getElem?_cons_succ] at hq
   have h1 := h.2 j q hq
   simpa [Nat.mul_one] using h1
theorem Reps.front {α : Type} {R : α → List Value → Prop} {size : Nat} {ps : List α} {cs c all : List Value} {p : α} (hp : R p c) (hc : c.length = size) (h : Reps R size ps cs) (ha : c ++ cs = all) : Reps R size (p :: ps) all := by
 subst ha
 refine ⟨by rw [List.length_append, hc, h.1, List.length_cons, Nat.succ_mul, Nat.add_comm], fun j q hq => ?_⟩
 cases j with
 | zero =>
   simp only [List.getElem?_cons_zero, Option.some.injEq] at hq
   subst hq
   rw [Nat.zero_mul, List.drop_zero, List.take_append_of_le_length (by omega), List.take_of_length_le (by omega)]
   exact hp
 | succ j =>
   simp only [List.getElem?_cons_succ] at hq
   have h1 := h.2 j q hq
   rw [Nat.succ_mul, List.drop_append, List.drop_of_length_le (by rw [hc]; exact Nat.le_add_left _ _), List.nil_append, hc, Nat.add_sub_cancel]
   exact h1
theorem Reps.c2 {α : Type} {R : α → List Value → Prop} {ps : List α} {cs : List Value} {p : α} {va vb : Value} (hp : R p [va, vb]) (h : Reps R 2 ps cs) : Reps R 2 (p :: ps) (va :: vb :: cs) := Reps.front hp rfl h rfl
theorem Reps.c3 {α : Type} {R : α → List Value → Prop} {ps : List α} {cs : List Value} {p : α} {va vb vc : Value} (hp : R p [va, vb, vc]) (h : Reps R 3 ps cs) : Reps R 3 (p :: ps) (va :: vb :: vc :: cs) := Reps.front hp rfl h rfl
theorem Reps.c4 {α : Type} {R : α → List Value → Prop} {ps : List α} {cs : List Value} {p : α} {va vb vc vd : Value} (hp : R p [va, vb, vc, vd]) (h : Reps R 4 ps cs) : Reps R 4 (p :: ps) (va :: vb :: vc :: vd :: cs) := Reps.front hp rfl h rfl
theorem Reps.c5 {α : Type} {R : α → List Value → Prop} {ps : List α} {cs : List Value} {p : α} {va vb vc vd ve : Value} (hp : R p [va, vb, vc, vd, ve]) (h : Reps R 5 ps cs) : Reps R 5 (p :: ps) (va :: vb :: vc :: vd :: ve :: cs) := Reps.front hp rfl h rfl
theorem Reps.c6 {α : Type} {R : α → List Value → Prop} {ps : List α} {cs : List Value} {p : α} {va vb vc vd ve vf : Value} (hp : R p [va, vb, vc, vd, ve, vf]) (h : Reps R 6 ps cs) : Reps R 6 (p :: ps) (va :: vb :: vc :: vd :: ve :: vf :: cs) := Reps.front hp rfl h rfl
theorem Reps.c7 {α : Type} {R : α → List Value → Prop} {ps : List α} {cs : List Value} {p : α} {va vb vc vd ve vf vg : Value} (hp : R p [va, vb, vc, vd, ve, vf, vg]) (h : Reps R 7 ps cs) : Reps R 7 (p :: ps) (va :: vb :: vc :: vd :: ve :: vf :: vg :: cs) := Reps.front hp rfl h rfl
theorem Reps.c8 {α : Type} {R : α → List Value → Prop} {ps : List α} {cs : List Value} {p : α} {va vb vc vd ve vf vg vh : Value} (hp : R p [va, vb, vc, vd, ve, vf, vg, vh]) (h : Reps R 8 ps cs) : Reps R 8 (p :: ps) (va :: vb :: vc :: vd :: ve :: vf :: vg :: vh :: cs) := Reps.front hp rfl h rfl
theorem Reps.c9 {α : Type} {R : α → List Value → Prop} {ps : List α} {cs : List Value} {p : α} {va vb vc vd ve vf vg vh vi : Value} (hp : R p [va, vb, vc, vd, ve, vf, vg, vh, vi]) (h : Reps R 9 ps cs) : Reps R 9 (p :: ps) (va :: vb :: vc :: vd :: ve :: vf :: vg :: vh :: vi :: cs) := Reps.front hp rfl h rfl
theorem Reps.c10 {α : Type} {R : α → List Value → Prop} {ps : List α} {cs : List Value} {p : α} {va vb vc vd ve vf vg vh vi vj : Value} (hp : R p [va, vb, vc, vd, ve, vf, vg, vh, vi, vj]) (h : Reps R 10 ps cs) : Reps R 10 (p :: ps) (va :: vb :: vc :: vd :: ve :: vf :: vg :: vh :: vi :: vj :: cs) := Reps.front hp rfl h rfl
end Go.Proofs.YteohmbannpbokaaGreatDoorW.PrintWords
namespace Go.Proofs.YteohmbannpbokaaGreatDoorW.PrintLast
def up (b : Nat → Bool) (i : Nat) : Nat → Bool := fun j => if j = i then true else b j
section
variable {P : Program} {ops : Array Oper} {Q : Exit → Act → World → Prop} {md : Region.Mode} {T : Bool × List (List Nat × List Nat)} {B : List Nat} {O : List Nat} {b : Nat → Bool} {i j n : Nat}
end
end Go.Proofs.YteohmbannpbokaaGreatDoorW.PrintLast
namespace Go.Proofs.YteohmbannpbokaaGreatDoorW.PrintMore
open Go.RowKit Go.Proofs.YteohmbannpbokaaGreatDoorW.PrintWords
namespace Kd
open Go.Proofs.YteohmbannpbokaaGreatDoorW.PrintWords.Kd
end Kd
namespace Kd
open Go.Proofs.YteohmbannpbokaaGreatDoorW.PrintWords.Kd
section
variable {α : Type} {d : Kd α} {e base g N : Nat} {ok : Nat → Prop} {W w1 : World} {u v : Value} {xs : List α}
end
end Kd
theorem max2_int (k k' : IntKind) (x y : Int) : Builtin.max2 (.int k x) (.int k' y) = pure (.int k (if x < y then y else x)) := by simp only [Builtin.max2, gt_iff_lt]
theorem min2_int (k k' : IntKind) (x y : Int) : Builtin.min2 (.int k x) (.int k' y) = pure (.int k (if y < x then y else x)) := by simp only [Builtin.min2]
theorem max_two (ats : Array TypeId) (ty : TypeId) (a b : Value) : Builtin.max_ ats ty #[a, b] = (Builtin.max2 a b >>= fun s => pure s) := by simp only [Builtin.max_, List.foldlM_cons, List.foldlM_nil]
theorem min_two (ats : Array TypeId) (ty : TypeId) (a b : Value) : Builtin.min_ ats ty #[a, b] = (Builtin.min2 a b >>= fun s => pure s) := by simp only [Builtin.min_, List.foldlM_cons, List.foldlM_nil]
theorem max_three (ats : Array TypeId) (ty : TypeId) (a b c : Value) : Builtin.max_ ats ty #[a, b, c] = (Builtin.max2 a b >>= fun s => Builtin.max2 s c >>= fun s => pure s) := by simp only [Builtin.max_, List.foldlM_cons, List.foldlM_nil]
theorem min_three (ats : Array TypeId) (ty : TypeId) (a b c : Value) : Builtin.min_ ats ty #[a, b, c] = (Builtin.min2 a b >>= fun s => Builtin.min2 s c >>= fun s => pure s) := by simp only [Builtin.min_, List.foldlM_cons, List.foldlM_nil]
theorem max_four (ats : Array TypeId) (ty : TypeId) (a b c d : Value) : Builtin.max_ ats ty #[a, b, c, d] = (Builtin.max2 a b >>= fun s => Builtin.max2 s c >>= fun s => Builtin.max2 s d >>= fun s => pure s) := by simp only [Builtin.max_, List.foldlM_cons, List.foldlM_nil]
theorem min_four (ats : Array TypeId) (ty : TypeId) (a b c d : Value) : Builtin.min_ ats ty #[a, b, c, d] = (Builtin.min2 a b >>= fun s => Builtin.min2 s c >>= fun s => Builtin.min2 s d >>= fun s => pure s) := by simp only [Builtin.min_, List.foldlM_cons, List.foldlM_nil]
end Go.Proofs.YteohmbannpbokaaGreatDoorW.PrintMore
namespace Go.Proofs.YteohmbannpbokaaGreatDoorW.PrintWords
open Go.RowKit
section
variable {P : Program} {ops : Array Oper} {rest : List Oper} {o : Oper} {a : Act} {Q : Exit → Act → World → Prop} {W : World}
theorem gate_callee {f : FuncId} {as1 : Array Operand} {ts : Array TypeId} (_ho : o.op = .call { callee := .value (.func f), args := as1, argTypes := ts }) (h : wpList P ops Q (o :: rest) a W) : wpList P ops Q (o :: rest) a W := h
theorem gate_builtin {b : Builtin} {xs : Array Operand} {ts : Array TypeId} (_ho : o.op = .call { callee := .builtin b, args := xs, argTypes := ts }) (h : wpList P ops Q (o :: rest) a W) : wpList P ops Q (o :: rest) a W := h
end
def mn (a b : Int) : Int := if b < a then b else a
def shl (k : IntKind) (x y : Int) : Int := k.wrap (x * 2 ^ min y.toNat k.bits)
def shr (k : IntKind) (x y : Int) : Int := x / 2 ^ min y.toNat k.bits
namespace Kd
section
variable {α : Type} {d : Kd α} {e base : Nat} {ok : Nat → Prop} {W w1 : World} {v : Value} {xs : List α}
end
section
variable {α : Type} {d : Kd α} {e base g n cap : Nat} {ok oki okp : Nat → Prop} {W : World} {xs : List α} {i : Int} {c : List Value}
end
section
variable {α : Type} {d : Kd α} {e base b b' g N : Nat} {ok ok1 : Nat → Prop} {W W2 w1 : World} {u v : Value} {xs ys : List α} {S : Nat → Prop}
end
end Kd
end Go.Proofs.YteohmbannpbokaaGreatDoorW.PrintWords
namespace Go.Proofs.YteohmbannpbokaaGreatDoorW.PrintWords
open Go.RowKit
namespace Kd
def V {α : Type} (d : Kd α) (_e : Nat) (W : World) (_base : Nat) (ok : Nat → Prop) (v : Value) (xs : List α) : Prop := ∃ A c, v = .slice A xs.length c ∧ xs.length ≤ c ∧ F d W ok A xs.length xs
section
variable {α β : Type} {d : Kd α} {e base base' n m c g N' lo hi : Nat} {ok ok' S : Nat → Prop} {w W w1 : World} {A : Option Addr} {ad : Addr} {u v v1 : Value} {xs : List α}
theorem V_map (h : V d e W base ok v xs) (hF : ∀ A, F d W ok A xs.length xs → F d w1 ok' A xs.length xs) : V d e w1 base' ok' v xs := by
 obtain ⟨A, c, hv, hl, hf⟩ := h
 exact ⟨A, c, hv, hl, hF A hf⟩
theorem V_mk (hl : xs.length ≤ c) (hf : F d W ok A xs.length xs) : V d e W base ok (.slice A xs.length c) xs := ⟨A, c, rfl, hl, hf⟩
theorem V_slice (h : V d e W base ok v xs) : ∃ A c, v = .slice A xs.length c := by
 obtain ⟨A, c, hv, _⟩ := h
 exact ⟨A, c, hv⟩
theorem V_at (h : V d e W base ok (.slice A n c) xs) : n = xs.length ∧ n ≤ c ∧ F d W ok A xs.length xs := by
 obtain ⟨A', c', hv, hl, hf⟩ := h
 injection hv with ha hn hc
 subst ha; subst hc
 exact ⟨hn, by rw [hn]; exact hl, hf⟩
theorem V_reads' (h : V d e W base ok (.slice A n c) xs) : n = xs.length ∧ n ≤ c ∧ d.C W A xs.length xs := ⟨(V_at h).1, (V_at h).2.1, F_now (V_at h).2.2⟩
theorem V_nil (d : Kd α) (e : Nat) (W : World) (base : Nat) (ok : Nat → Prop) : V d e W base ok (.slice none 0 0) [] := ⟨none, 0, rfl, Nat.le_refl _, F_nil d W ok⟩
theorem R_V (h : d.R e W base ok v xs) : V d e W base' ok v xs := by
 obtain ⟨A, c, rfl⟩ := R_slice h
 exact ⟨A, c, rfl, (R_reads' h).2.1, R_F h⟩
theorem V_mono (h : V d e W base ok v xs) (hok : ∀ k, ok k → ok' k) : V d e W base ok' v xs := V_map h (fun _ hf => F_mono hf hok)
theorem V_bound (h : V d e W base ok v xs) : V d e W base (fun k => ok k ∧ k < W.heap.size) v xs := V_map h (fun _ hf => F_bound hf)
theorem V_lower (h : V d e W base ok v xs) (_ : base' ≤ base) : V d e W base' ok v xs := h
theorem V_step (h : V d e W base ok v xs) (hm : ∀ k, ok k → k < W.heap.size → w1.heap[k]? = W.heap[k]?) : V d e w1 base ok v xs := V_map h (fun _ hf => F_step hf hm)
theorem V_below (h : V d e W base ok v xs) (hb : Below W.heap.size W w1) : V d e w1 base ok v xs := V_map h (fun _ hf => F_below hf hb)
theorem V_alloc (h : V d e W base ok v xs) (o : Obj) : V d e (W.alloc o) base ok v xs := V_map h (fun _ hf => F_alloc hf o)
theorem V_drew (h : V d e W base ok v xs) : V d e W.drew base ok v xs := V_map h (fun _ hf => F_drew hf)
theorem V_drewN (h : V d e W base ok v xs) (m : Nat) : V d e (W.drewN m) base ok v xs := V_map h (fun _ hf => F_drewN hf m)
theorem V_far (h : V d e W base ok v xs) {p : Addr} (hok : ∀ k, ok k → k ≠ p.block) (u : Value) : V d e (W.setCell p u) base ok v xs := V_map h (fun _ hf => F_far hf hok u)
theorem F_take (h : F d W ok A xs.length xs) (hm : m ≤ xs.length) : F d W ok A (xs.take m).length (xs.take m) := F_imp h (fun _ hC => C_take hC hm)
theorem R_newM {M : Nat → Prop} (h : d.R e w1 W.heap.size ok v xs) (hle : w.heap.size ≤ W.heap.size) (hM : ∀ k, w.heap.size ≤ k → M k) : d.R e w1 W.heap.size (fun k => M k ∧ ok k) v xs := R_mono (R_bound h) (fun k hk => ⟨hM k (Nat.le_trans hle hk.2.1), hk.1⟩)
end
end Kd
end Go.Proofs.YteohmbannpbokaaGreatDoorW.PrintWords
namespace Go.Proofs.YteohmbannpbokaaGreatDoor.PNatMul
open Go.RowKit Go.Proofs.YteohmbannpbokaaGreatDoorW.PrintWords Go.Proofs.YteohmbannpbokaaGreatDoorW.PrintLast Go.Proofs.YteohmbannpbokaaGreatDoorW.PrintMore
attribute [local go_sem] max2_int min2_int max_two min_two max_three min_three max_four min_four
set_option linter.unusedVariables false
set_option linter.unusedSimpArgs false
def errW : Option Int → Value
 | none => .nilIface
 | some c => .iface 0 (.int .i64 c)
theorem errW_none : errW none = .nilIface := rfl
theorem errW_some (c : Int) : errW (some c) = .iface 0 (.int .i64 c) := rfl
theorem info44 : (Tryz.prog.info? 44).map (fun i => (i.zero, i.size, i.bytes)) = some (some (.int .u32 0), 1, 4) := by kernel_rfl
end Go.Proofs.YteohmbannpbokaaGreatDoor.PNatMul
