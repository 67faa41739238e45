/-
  DERIVED. GIVEN WITH THE SEED: THE CARDS: each row of YtafdhmpikkfepaaGreatDoorRows.lean that lists a variable, with what it lists TIED to the program's text (the seventh form; the later family's looks); each row that meets fmt, with fmt's text TOLD by the authors' own Lean function (tested against real Go, not proved from fmt's source: count such statements apart). THE CARD IS WHAT COUNTS. Prove the row's statement (the work); the ties are given (YtafdhmpikkfepaaGreatDoorTie.lean); close each card by the builder's one call (the guide's Derived/Test/ToyasCard.lean, 'card_holds'). Laid BY PROGRAM, IN A SANDBOX (cutbox-door.mjs). By AI agents, Wed Nov 11 2026. No macro, syntax, notation, axiom, sorry.
-/
import Derived.Test.YtafdhmpikkfepaaGreatDoorRows
import GoSem.ClaimSeven
namespace Go.Proofs.YtafdhmpikkfepaaGreatDoor
namespace Rows

/-- THE TIED CARD OF 'laws.FnAddressBack'. -/
def fnAddressBackCard : Claim7 := { stood := { row := fnAddressBackRow, standIns := [], harness := (true, "5d1755e510fb59c6326efc3b87a4dd7efe03dfc9998905f4451b1c99d4eb0e72"), looks := true }, kinds := [], alts := [], laidByText := true, laidKinds := [.data, .data, .widerDeep, .widerDeep, .data, .data, .data, .data, .data, .data, .sentinel, .sentinel, .sentinel, .sentinel, .pinned, .pinned, .pinned], laidTests := true, laidLooks := .later }
def FnAddressBackCardSaid : Prop := Claim7.holds Tryz.pinned (.plain (OpenSpec.ofChange fnAddressBackSpec)) fnAddressBackCard

/-- THE TIED CARD OF 'laws.FnFindBuilt'. -/
def fnFindBuiltCard : Claim7 := { stood := { row := fnFindBuiltRow, standIns := [], harness := (true, "5d1755e510fb59c6326efc3b87a4dd7efe03dfc9998905f4451b1c99d4eb0e72"), looks := true }, kinds := [], alts := [], laidByText := true, laidKinds := [.data, .data, .widerDeep, .widerDeep, .data, .data, .data, .data, .data, .data, .sentinel, .sentinel, .pinned, .pinned, .pinned, .pinned], laidTests := true, laidLooks := .later }
def FnFindBuiltCardSaid : Prop := Claim7.holds Tryz.pinned (.plain (OpenSpec.ofChange fnFindBuiltSpec)) fnFindBuiltCard

/-- THE TIED CARD OF 'laws.FnBytes'. -/
def fnBytesCard : Claim7 := { stood := { row := fnBytesRow, standIns := [], harness := (true, "5d1755e510fb59c6326efc3b87a4dd7efe03dfc9998905f4451b1c99d4eb0e72"), looks := true }, kinds := [], alts := [], laidByText := true, laidKinds := [.data, .data, .widerDeep, .widerDeep, .data, .data, .data, .data, .data, .data, .sentinel, .sentinel, .pinned, .pinned, .pinned, .pinned], laidTests := true, laidLooks := .later }
def FnBytesCardSaid : Prop := Claim7.holds Tryz.pinned (.plain (OpenSpec.ofChange fnBytesSpec)) fnBytesCard

/-- THE SECOND FORM's CARD OF 'laws.FnAddressBack'. -/
def fnAddressBackUptoCard : Claim7 := { stood := { row := fnAddressBackUptoRow, standIns := [], harness := (true, "5d1755e510fb59c6326efc3b87a4dd7efe03dfc9998905f4451b1c99d4eb0e72"), looks := true }, kinds := [], alts := [], laidByText := true, laidKinds := [.data, .data, .widerDeep, .widerDeep, .data, .data, .data, .data, .data, .data, .sentinel, .sentinel, .sentinel, .sentinel, .pinned, .pinned, .pinned], laidTests := true, laidLooks := .later }
def FnAddressBackUptoCardSaid : Prop := Claim7.holds Tryz.pinned (.plain (OpenSpec.upto fnAddressBackSpec)) fnAddressBackUptoCard

/-- THE SECOND FORM's CARD OF 'laws.FnFindBuilt'. -/
def fnFindBuiltUptoCard : Claim7 := { stood := { row := fnFindBuiltUptoRow, standIns := [], harness := (true, "5d1755e510fb59c6326efc3b87a4dd7efe03dfc9998905f4451b1c99d4eb0e72"), looks := true }, kinds := [], alts := [], laidByText := true, laidKinds := [.data, .data, .widerDeep, .widerDeep, .data, .data, .data, .data, .data, .data, .sentinel, .sentinel, .pinned, .pinned, .pinned, .pinned], laidTests := true, laidLooks := .later }
def FnFindBuiltUptoCardSaid : Prop := Claim7.holds Tryz.pinned (.plain (OpenSpec.upto fnFindBuiltSpec)) fnFindBuiltUptoCard

/-- THE SECOND FORM's CARD OF 'laws.FnBytes'. -/
def fnBytesUptoCard : Claim7 := { stood := { row := fnBytesUptoRow, standIns := [], harness := (true, "5d1755e510fb59c6326efc3b87a4dd7efe03dfc9998905f4451b1c99d4eb0e72"), looks := true }, kinds := [], alts := [], laidByText := true, laidKinds := [.data, .data, .widerDeep, .widerDeep, .data, .data, .data, .data, .data, .data, .sentinel, .sentinel, .pinned, .pinned, .pinned, .pinned], laidTests := true, laidLooks := .later }
def FnBytesUptoCardSaid : Prop := Claim7.holds Tryz.pinned (.plain (OpenSpec.upto fnBytesSpec)) fnBytesUptoCard
end Rows
end Go.Proofs.YtafdhmpikkfepaaGreatDoor
