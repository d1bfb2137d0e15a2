/-
  DERIVED. GIVEN WITH THE SEED: THE CARDS: each row of YtnjbfebeigginaaDoorRows.lean that lists a variable, with what it lists TIED to the program's text (the seventh form; the later family's looks); each row that meets fmt, with fmt's text TOLD by the authors' own Lean function (tested against real Go, not proved from fmt's source: count such statements apart). THE CARD IS WHAT COUNTS. Prove the row's statement (the work); the ties are given (YtnjbfebeigginaaDoorTie.lean); close each card by the builder's one call (the guide's Derived/Test/ToyasCard.lean, 'card_holds'). Laid BY PROGRAM, IN A SANDBOX (cutbox-door.mjs). By AI agents, Wed Nov 11 2026. No macro, syntax, notation, axiom, sorry.
-/
import Derived.Test.YtnjbfebeigginaaDoorRows
import GoSem.ClaimSeven
namespace Go.Proofs.YtnjbfebeigginaaDoor
namespace Rows

/-- THE TIED CARD OF 'laws.FnFixTrunc'. -/
def fnFixTruncCard : Claim7 := { stood := { row := fnFixTruncRow, standIns := [], harness := (true, "9a6afdfb92571cf7e8ece3a74d228950b103fe3ddaac53d5758f68b9c45bf2f6"), looks := false }, kinds := [], alts := [], laidByText := true, laidKinds := [.sentinel, .sentinel, .data], laidTests := true, laidLooks := .later }
def FnFixTruncCardSaid : Prop := Claim7.holds Tryd.pinned (.plain (OpenSpec.ofChange fnFixTruncSpec)) fnFixTruncCard

/-- THE TIED CARD OF 'laws.FnFintRounds'. -/
def fnFintRoundsCard : Claim7 := { stood := { row := fnFintRoundsRow, standIns := [], harness := (true, "9a6afdfb92571cf7e8ece3a74d228950b103fe3ddaac53d5758f68b9c45bf2f6"), looks := false }, kinds := [], alts := [], laidByText := true, laidKinds := [.data], laidTests := true, laidLooks := .later }
def FnFintRoundsCardSaid : Prop := Claim7.holds Tryd.pinned (.plain (OpenSpec.ofChange fnFintRoundsSpec)) fnFintRoundsCard

/-- THE TIED CARD OF 'laws.FnFixPad'. -/
def fnFixPadCard : Claim7 := { stood := { row := fnFixPadRow, standIns := [], harness := (true, "9a6afdfb92571cf7e8ece3a74d228950b103fe3ddaac53d5758f68b9c45bf2f6"), looks := false }, kinds := [], alts := [], laidByText := true, laidKinds := [.sentinel, .sentinel, .data], laidTests := true, laidLooks := .later }
def FnFixPadCardSaid : Prop := Claim7.holds Tryd.pinned (.plain (OpenSpec.ofChange fnFixPadSpec)) fnFixPadCard

/-- THE TIED CARD OF 'laws.FnFixTrim'. -/
def fnFixTrimCard : Claim7 := { stood := { row := fnFixTrimRow, standIns := [], harness := (true, "9a6afdfb92571cf7e8ece3a74d228950b103fe3ddaac53d5758f68b9c45bf2f6"), looks := false }, kinds := [], alts := [], laidByText := true, laidKinds := [.sentinel, .sentinel, .data], laidTests := true, laidLooks := .later }
def FnFixTrimCardSaid : Prop := Claim7.holds Tryd.pinned (.plain (OpenSpec.ofChange fnFixTrimSpec)) fnFixTrimCard

/-- THE SECOND FORM's CARD OF 'laws.FnFixTrunc'. -/
def fnFixTruncUptoCard : Claim7 := { stood := { row := fnFixTruncUptoRow, standIns := [], harness := (true, "9a6afdfb92571cf7e8ece3a74d228950b103fe3ddaac53d5758f68b9c45bf2f6"), looks := false }, kinds := [], alts := [], laidByText := true, laidKinds := [.sentinel, .sentinel, .data], laidTests := true, laidLooks := .later }
def FnFixTruncUptoCardSaid : Prop := Claim7.holds Tryd.pinned (.plain (OpenSpec.upto fnFixTruncSpec)) fnFixTruncUptoCard

/-- THE SECOND FORM's CARD OF 'laws.FnFintRounds'. -/
def fnFintRoundsUptoCard : Claim7 := { stood := { row := fnFintRoundsUptoRow, standIns := [], harness := (true, "9a6afdfb92571cf7e8ece3a74d228950b103fe3ddaac53d5758f68b9c45bf2f6"), looks := false }, kinds := [], alts := [], laidByText := true, laidKinds := [.data], laidTests := true, laidLooks := .later }
def FnFintRoundsUptoCardSaid : Prop := Claim7.holds Tryd.pinned (.plain (OpenSpec.upto fnFintRoundsSpec)) fnFintRoundsUptoCard

/-- THE SECOND FORM's CARD OF 'laws.FnFixPad'. -/
def fnFixPadUptoCard : Claim7 := { stood := { row := fnFixPadUptoRow, standIns := [], harness := (true, "9a6afdfb92571cf7e8ece3a74d228950b103fe3ddaac53d5758f68b9c45bf2f6"), looks := false }, kinds := [], alts := [], laidByText := true, laidKinds := [.sentinel, .sentinel, .data], laidTests := true, laidLooks := .later }
def FnFixPadUptoCardSaid : Prop := Claim7.holds Tryd.pinned (.plain (OpenSpec.upto fnFixPadSpec)) fnFixPadUptoCard

/-- THE SECOND FORM's CARD OF 'laws.FnFixTrim'. -/
def fnFixTrimUptoCard : Claim7 := { stood := { row := fnFixTrimUptoRow, standIns := [], harness := (true, "9a6afdfb92571cf7e8ece3a74d228950b103fe3ddaac53d5758f68b9c45bf2f6"), looks := false }, kinds := [], alts := [], laidByText := true, laidKinds := [.sentinel, .sentinel, .data], laidTests := true, laidLooks := .later }
def FnFixTrimUptoCardSaid : Prop := Claim7.holds Tryd.pinned (.plain (OpenSpec.upto fnFixTrimSpec)) fnFixTrimUptoCard
end Rows
end Go.Proofs.YtnjbfebeigginaaDoor
