/-
  DERIVED. GIVEN WITH THE SEED: THE PROGRAM's TIES (one call each: nine closed facts by the kernel) AND EACH ROW's TIE, after the 31st guide's Derived/Test/Toyas{Tie, Card}.lean. No idea stands in it: it is a product of the set-up. Laid BY PROGRAM, IN A SANDBOX (cutbox-door.mjs). By AI agents, Wed Nov 11 2026. No macro, syntax, notation, axiom, sorry.
-/
import Derived.Test.YtnjbfebeigginaaDoorRows
import Derived.LaidByTextLater
import Derived.SevenTiedAt
import Derived.LaidSub
import Derived.LaidOnce
namespace Go.Proofs.YtnjbfebeigginaaDoor
open Go
set_option maxRecDepth 100000
theorem seatTie1 : Tryd.prog.laidByTextLater [("given.example/pub-alexandrine/pub/govalues.errDecimalOverflow", Rows.laid_given_example_pub_alexandrine_pub_govalues_errDecimalOverflow), ("given.example/pub-alexandrine/pub/govalues.errScaleRange", Rows.laid_given_example_pub_alexandrine_pub_govalues_errScaleRange), ("given.example/pub-alexandrine/pub/govalues.pow10", Rows.laid_given_example_pub_alexandrine_pub_govalues_pow10)] [.sentinel, .sentinel, .data] true :=
  Program.laidByTextLater_by_one 52 8 21 (by kernel_rfl) (by kernel_rfl) (by kernel_rfl) (by kernel_rfl) (by kernel_rfl) (by kernel_rfl) (fun _ _ => by kernel_rfl)
theorem noOwnUnsafe : Tryd.pinned.checked.prog.headLifts.contains "ownunsafe" = false := by kernel_rfl
theorem tie : Tryd.prog.laidByTextLater [("given.example/pub-alexandrine/pub/govalues.errDecimalOverflow", Rows.laid_given_example_pub_alexandrine_pub_govalues_errDecimalOverflow), ("given.example/pub-alexandrine/pub/govalues.errScaleRange", Rows.laid_given_example_pub_alexandrine_pub_govalues_errScaleRange), ("given.example/pub-alexandrine/pub/govalues.pow10", Rows.laid_given_example_pub_alexandrine_pub_govalues_pow10)] [.sentinel, .sentinel, .data] true :=
  Program.laidByTextLater.sub seatTie1 ["given.example/pub-alexandrine/pub/govalues.errDecimalOverflow", "given.example/pub-alexandrine/pub/govalues.errScaleRange", "given.example/pub-alexandrine/pub/govalues.pow10"] (by kernel_rfl) (by kernel_rfl)
theorem fnFixTrunc_row_tie : Rows.fnFixTruncRow.laidByTextAt .later Tryd.pinned [.sentinel, .sentinel, .data] true :=
  OpenClaim.laidByTextAt_later rfl rfl tie noOwnUnsafe
theorem fnFixPad_row_tie : Rows.fnFixPadRow.laidByTextAt .later Tryd.pinned [.sentinel, .sentinel, .data] true :=
  OpenClaim.laidByTextAt_later rfl rfl tie noOwnUnsafe
theorem fnFixTrim_row_tie : Rows.fnFixTrimRow.laidByTextAt .later Tryd.pinned [.sentinel, .sentinel, .data] true :=
  OpenClaim.laidByTextAt_later rfl rfl tie noOwnUnsafe
theorem tie2 : Tryd.prog.laidByTextLater [("given.example/pub-alexandrine/pub/govalues.pow10", Rows.laid_given_example_pub_alexandrine_pub_govalues_pow10)] [.data] true :=
  Program.laidByTextLater.sub seatTie1 ["given.example/pub-alexandrine/pub/govalues.pow10"] (by kernel_rfl) (by kernel_rfl)
theorem fnFintRounds_row_tie : Rows.fnFintRoundsRow.laidByTextAt .later Tryd.pinned [.data] true :=
  OpenClaim.laidByTextAt_later rfl rfl tie2 noOwnUnsafe
theorem fnFixTruncUpto_row_tie : Rows.fnFixTruncUptoRow.laidByTextAt .later Tryd.pinned [.sentinel, .sentinel, .data] true :=
  OpenClaim.laidByTextAt_later rfl rfl tie noOwnUnsafe
theorem fnFintRoundsUpto_row_tie : Rows.fnFintRoundsUptoRow.laidByTextAt .later Tryd.pinned [.data] true :=
  OpenClaim.laidByTextAt_later rfl rfl tie2 noOwnUnsafe
theorem fnFixPadUpto_row_tie : Rows.fnFixPadUptoRow.laidByTextAt .later Tryd.pinned [.sentinel, .sentinel, .data] true :=
  OpenClaim.laidByTextAt_later rfl rfl tie noOwnUnsafe
theorem fnFixTrimUpto_row_tie : Rows.fnFixTrimUptoRow.laidByTextAt .later Tryd.pinned [.sentinel, .sentinel, .data] true :=
  OpenClaim.laidByTextAt_later rfl rfl tie noOwnUnsafe
end Go.Proofs.YtnjbfebeigginaaDoor
