/-
  DERIVED. GIVEN WITH THE SEED: THE CARDS: each row of YtbnmahbghcjbaaaGreatDoorRows.lean that lists a variable, with what it lists TIED to the program's text (the seventh form; the later family's looks); each row that meets fmt, with fmt's text TOLD by the authors' own Lean function (tested against real Go, not proved from fmt's source: count such statements apart). THE CARD IS WHAT COUNTS. Prove the row's statement (the work); the ties are given (YtbnmahbghcjbaaaGreatDoorTie.lean); close each card by the builder's one call (the guide's Derived/Test/ToyasCard.lean, 'card_holds'). Laid BY PROGRAM, IN A SANDBOX (cutbox-door.mjs). By AI agents, Wed Nov 11 2026. No macro, syntax, notation, axiom, sorry.
-/
import Derived.Test.YtbnmahbghcjbaaaGreatDoorRows
import GoSem.ClaimSeven
namespace Go.Proofs.YtbnmahbghcjbaaaGreatDoor
namespace Rows

/-- THE TIED CARD OF 'laws.FnSpans'. -/
def fnSpansCard : Claim7 := { stood := { row := fnSpansRow, standIns := [], harness := (true, "b0e346ebd9b0733d4b4d5436e48acb0ca61403c5c0d73c0cf378b798676b1ab0"), looks := true }, kinds := [], alts := [], laidByText := true, laidKinds := [.data, .listed, .data, .pinned], laidTests := true, laidLooks := .later }
def FnSpansCardSaid : Prop := Claim7.holds Tryz.pinned (.plain (OpenSpec.ofChange fnSpansSpec)) fnSpansCard

/-- THE SECOND FORM's CARD OF 'laws.FnSpans'. -/
def fnSpansUptoCard : Claim7 := { stood := { row := fnSpansUptoRow, standIns := [], harness := (true, "b0e346ebd9b0733d4b4d5436e48acb0ca61403c5c0d73c0cf378b798676b1ab0"), looks := true }, kinds := [], alts := [], laidByText := true, laidKinds := [.data, .listed, .data, .pinned], laidTests := true, laidLooks := .later }
def FnSpansUptoCardSaid : Prop := Claim7.holds Tryz.pinned (.plain (OpenSpec.upto fnSpansSpec)) fnSpansUptoCard
end Rows
end Go.Proofs.YtbnmahbghcjbaaaGreatDoor
