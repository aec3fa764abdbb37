/-
  DERIVED. GIVEN WITH THE SEED: THE CARDS: each row of YtoanpkfekhkaoaaGreatDoorRows.lean that lists a variable, with what it lists TIED to the program's text (the seventh form; the later family's looks); each row that meets fmt, with fmt's text TOLD by the authors' own Lean function (tested against real Go, not proved from fmt's source: count such statements apart). THE CARD IS WHAT COUNTS. Prove the row's statement (the work); the ties are given (YtoanpkfekhkaoaaGreatDoorTie.lean); close each card by the builder's one call (the guide's Derived/Test/ToyasCard.lean, 'card_holds'). Laid BY PROGRAM, IN A SANDBOX (cutbox-door.mjs). By AI agents, Wed Nov 11 2026. No macro, syntax, notation, axiom, sorry.
-/
import Derived.Test.YtoanpkfekhkaoaaGreatDoorRows
import GoSem.ClaimSeven
namespace Go.Proofs.YtoanpkfekhkaoaaGreatDoor
namespace Rows

/-- THE TIED CARD OF 'laws.FnCharstring'. -/
def fnCharstringCard : Claim7 := { stood := { row := fnCharstringRow, standIns := [], harness := (true, "c975c8d32a9f5454e99f5f70ad2acd480899bb6aa1beb689a75f299185a043b0"), looks := true }, kinds := [], alts := [], laidByText := true, laidKinds := [.data, .data, .widerDeep, .widerDeep, .data, .data, .data, .data, .data, .sentinel, .sentinel, .data, .sentinel, .sentinel, .sentinel, .sentinel, .sentinel, .sentinel, .sentinel, .pinned, .pinned], laidTests := true, laidLooks := .later }
def FnCharstringCardSaid : Prop := Claim7.holds Tryz.pinned (.plain (OpenSpec.ofChange fnCharstringSpec)) fnCharstringCard

/-- THE SECOND FORM's CARD OF 'laws.FnCharstring'. -/
def fnCharstringUptoCard : Claim7 := { stood := { row := fnCharstringUptoRow, standIns := [], harness := (true, "c975c8d32a9f5454e99f5f70ad2acd480899bb6aa1beb689a75f299185a043b0"), looks := true }, kinds := [], alts := [], laidByText := true, laidKinds := [.data, .data, .widerDeep, .widerDeep, .data, .data, .data, .data, .data, .sentinel, .sentinel, .data, .sentinel, .sentinel, .sentinel, .sentinel, .sentinel, .sentinel, .sentinel, .pinned, .pinned], laidTests := true, laidLooks := .later }
def FnCharstringUptoCardSaid : Prop := Claim7.holds Tryz.pinned (.plain (OpenSpec.upto fnCharstringSpec)) fnCharstringUptoCard
end Rows
end Go.Proofs.YtoanpkfekhkaoaaGreatDoor
