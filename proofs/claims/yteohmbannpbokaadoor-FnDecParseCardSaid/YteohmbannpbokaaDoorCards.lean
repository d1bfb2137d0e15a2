/-
  DERIVED. GIVEN WITH THE SEED: THE CARDS: each row of YteohmbannpbokaaDoorRows.lean that lists a variable, with what it lists TIED to the program's text (the seventh form; the later family's looks); each row that meets fmt, with fmt's text TOLD by the authors' own Lean function (tested against real Go, not proved from fmt's source: count such statements apart). THE CARD IS WHAT COUNTS. Prove the row's statement (the work); the ties are given (YteohmbannpbokaaDoorTie.lean); close each card by the builder's one call (the guide's Derived/Test/ToyasCard.lean, 'card_holds'). Laid BY PROGRAM, IN A SANDBOX (cutbox-door.mjs). By AI agents, Wed Nov 11 2026. No macro, syntax, notation, axiom, sorry.
-/
import Derived.Test.YteohmbannpbokaaDoorRows
import GoSem.ClaimSeven
namespace Go.Proofs.YteohmbannpbokaaDoor
namespace Rows

/-- THE TIED CARD OF 'laws.FnDecParse'. -/
def fnDecParseCard : Claim7 := { stood := { row := fnDecParseRow, standIns := [], harness := (true, "331aebca6ac2e2c4283f2d719354603ab7b42ab2ee915ddb7af9d4062973c9b9"), looks := true }, kinds := [], alts := [], laidByText := true, laidKinds := [.data, .data, .data, .sentinel, .sentinel, .sentinel, .sentinel, .sentinel, .data], laidTests := true, laidLooks := .later }
def FnDecParseCardSaid : Prop := Claim7.holds Tryd.pinned (.plain (OpenSpec.ofChange fnDecParseSpec)) fnDecParseCard

/-- THE SECOND FORM's CARD OF 'laws.FnDecParse'. -/
def fnDecParseUptoCard : Claim7 := { stood := { row := fnDecParseUptoRow, standIns := [], harness := (true, "331aebca6ac2e2c4283f2d719354603ab7b42ab2ee915ddb7af9d4062973c9b9"), looks := true }, kinds := [], alts := [], laidByText := true, laidKinds := [.data, .data, .data, .sentinel, .sentinel, .sentinel, .sentinel, .sentinel, .data], laidTests := true, laidLooks := .later }
def FnDecParseUptoCardSaid : Prop := Claim7.holds Tryd.pinned (.plain (OpenSpec.upto fnDecParseSpec)) fnDecParseUptoCard
end Rows
end Go.Proofs.YteohmbannpbokaaDoor
