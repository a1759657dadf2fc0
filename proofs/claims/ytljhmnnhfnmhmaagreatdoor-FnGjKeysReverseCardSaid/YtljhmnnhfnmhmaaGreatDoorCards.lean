/-
  DERIVED. GIVEN WITH THE SEED: THE CARDS: each row of YtljhmnnhfnmhmaaGreatDoorRows.lean that lists a variable, with what it lists TIED to the program's text (the seventh form; the later family's looks); each row that meets fmt, with fmt's text TOLD by the authors' own Lean function (tested against real Go, not proved from fmt's source: count such statements apart). THE CARD IS WHAT COUNTS. Prove the row's statement (the work); the ties are given (YtljhmnnhfnmhmaaGreatDoorTie.lean); close each card by the builder's one call (the guide's Derived/Test/ToyasCard.lean, 'card_holds'). Laid BY PROGRAM, IN A SANDBOX (cutbox-door.mjs). By AI agents, Wed Nov 11 2026. No macro, syntax, notation, axiom, sorry.
-/
import Derived.Test.YtljhmnnhfnmhmaaGreatDoorRows
import GoSem.ClaimSeven
namespace Go.Proofs.YtljhmnnhfnmhmaaGreatDoor
namespace Rows

/-- THE TIED CARD OF 'laws.FnGjKeysReverse'. -/
def fnGjKeysReverseCard : Claim7 := { stood := { row := fnGjKeysReverseRow, standIns := [], harness := (true, "e6af6d9c6457a93ca1a000aa1ff8855295be72c451ad41c3e1dd569018534f3c"), looks := true }, kinds := [], alts := [], laidByText := true, laidKinds := [.data, .data, .widerDeep, .widerDeep, .data, .data, .data, .data, .data, .sentinel, .sentinel, .data, .pinned, .pinned], laidTests := true, laidLooks := .later }
def FnGjKeysReverseCardSaid : Prop := Claim7.holds Tryz.pinned (.plain (OpenSpec.ofChange fnGjKeysReverseSpec)) fnGjKeysReverseCard

/-- THE TIED CARD OF 'laws.FnGjValuesFlatten'. -/
def fnGjValuesFlattenCard : Claim7 := { stood := { row := fnGjValuesFlattenRow, standIns := [], harness := (true, "e6af6d9c6457a93ca1a000aa1ff8855295be72c451ad41c3e1dd569018534f3c"), looks := true }, kinds := [], alts := [], laidByText := true, laidKinds := [.data, .data, .widerDeep, .widerDeep, .data, .data, .data, .data, .data, .data, .sentinel, .sentinel, .data, .pinned, .pinned, .pinned], laidTests := true, laidLooks := .later }
def FnGjValuesFlattenCardSaid : Prop := Claim7.holds Tryz.pinned (.plain (OpenSpec.ofChange fnGjValuesFlattenSpec)) fnGjValuesFlattenCard

/-- THE SECOND FORM's CARD OF 'laws.FnGjKeysReverse'. -/
def fnGjKeysReverseUptoCard : Claim7 := { stood := { row := fnGjKeysReverseUptoRow, standIns := [], harness := (true, "e6af6d9c6457a93ca1a000aa1ff8855295be72c451ad41c3e1dd569018534f3c"), looks := true }, kinds := [], alts := [], laidByText := true, laidKinds := [.data, .data, .widerDeep, .widerDeep, .data, .data, .data, .data, .data, .sentinel, .sentinel, .data, .pinned, .pinned], laidTests := true, laidLooks := .later }
def FnGjKeysReverseUptoCardSaid : Prop := Claim7.holds Tryz.pinned (.plain (OpenSpec.upto fnGjKeysReverseSpec)) fnGjKeysReverseUptoCard

/-- THE SECOND FORM's CARD OF 'laws.FnGjValuesFlatten'. -/
def fnGjValuesFlattenUptoCard : Claim7 := { stood := { row := fnGjValuesFlattenUptoRow, standIns := [], harness := (true, "e6af6d9c6457a93ca1a000aa1ff8855295be72c451ad41c3e1dd569018534f3c"), looks := true }, kinds := [], alts := [], laidByText := true, laidKinds := [.data, .data, .widerDeep, .widerDeep, .data, .data, .data, .data, .data, .data, .sentinel, .sentinel, .data, .pinned, .pinned, .pinned], laidTests := true, laidLooks := .later }
def FnGjValuesFlattenUptoCardSaid : Prop := Claim7.holds Tryz.pinned (.plain (OpenSpec.upto fnGjValuesFlattenSpec)) fnGjValuesFlattenUptoCard
end Rows
end Go.Proofs.YtljhmnnhfnmhmaaGreatDoor
