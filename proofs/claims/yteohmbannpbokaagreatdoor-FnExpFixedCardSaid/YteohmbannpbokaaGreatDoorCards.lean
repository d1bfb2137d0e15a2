/-
  DERIVED. GIVEN WITH THE SEED: THE CARDS: each row of YteohmbannpbokaaGreatDoorRows.lean that lists a variable, with what it lists TIED to the program's text (the seventh form; the later family's looks); each row that meets fmt, with fmt's text TOLD by the authors' own Lean function (tested against real Go, not proved from fmt's source: count such statements apart). THE CARD IS WHAT COUNTS. Prove the row's statement (the work); the ties are given (YteohmbannpbokaaGreatDoorTie.lean); close each card by the builder's one call (the guide's Derived/Test/ToyasCard.lean, 'card_holds'). Laid BY PROGRAM, IN A SANDBOX (cutbox-door.mjs). By AI agents, Wed Nov 11 2026. No macro, syntax, notation, axiom, sorry.
-/
import Derived.Test.YteohmbannpbokaaGreatDoorRows
import GoSem.ClaimSeven
namespace Go.Proofs.YteohmbannpbokaaGreatDoor
namespace Rows

/-- THE TIED CARD OF 'laws.FnExpFixed'. -/
def fnExpFixedCard : Claim7 := { stood := { row := fnExpFixedRow, standIns := [], harness := (true, "b575b48e1e1ea33d8ba2d81804ec3be14fc2f15f4f5025d029a0ffd307a0ee20"), looks := false }, kinds := [], alts := [], laidByText := true, laidKinds := [.data, .data, .data, .data], laidTests := true, laidLooks := .later }
def FnExpFixedCardSaid : Prop := Claim7.holds Tryz.pinned (.plain (OpenSpec.ofChange fnExpFixedSpec)) fnExpFixedCard

/-- THE TIED CARD OF 'laws.FnPowerOfTen'. -/
def fnPowerOfTenCard : Claim7 := { stood := { row := fnPowerOfTenRow, standIns := [], harness := (true, "b575b48e1e1ea33d8ba2d81804ec3be14fc2f15f4f5025d029a0ffd307a0ee20"), looks := false }, kinds := [], alts := [], laidByText := true, laidKinds := [.data, .data, .data, .data, .data, .data], laidTests := true, laidLooks := .later }
def FnPowerOfTenCardSaid : Prop := Claim7.holds Tryz.pinned (.plain (OpenSpec.ofChange fnPowerOfTenSpec)) fnPowerOfTenCard

/-- THE SECOND FORM's CARD OF 'laws.FnExpFixed'. -/
def fnExpFixedUptoCard : Claim7 := { stood := { row := fnExpFixedUptoRow, standIns := [], harness := (true, "b575b48e1e1ea33d8ba2d81804ec3be14fc2f15f4f5025d029a0ffd307a0ee20"), looks := false }, kinds := [], alts := [], laidByText := true, laidKinds := [.data, .data, .data, .data], laidTests := true, laidLooks := .later }
def FnExpFixedUptoCardSaid : Prop := Claim7.holds Tryz.pinned (.plain (OpenSpec.upto fnExpFixedSpec)) fnExpFixedUptoCard

/-- THE SECOND FORM's CARD OF 'laws.FnPowerOfTen'. -/
def fnPowerOfTenUptoCard : Claim7 := { stood := { row := fnPowerOfTenUptoRow, standIns := [], harness := (true, "b575b48e1e1ea33d8ba2d81804ec3be14fc2f15f4f5025d029a0ffd307a0ee20"), looks := false }, kinds := [], alts := [], laidByText := true, laidKinds := [.data, .data, .data, .data, .data, .data], laidTests := true, laidLooks := .later }
def FnPowerOfTenUptoCardSaid : Prop := Claim7.holds Tryz.pinned (.plain (OpenSpec.upto fnPowerOfTenSpec)) fnPowerOfTenUptoCard
end Rows
end Go.Proofs.YteohmbannpbokaaGreatDoor
