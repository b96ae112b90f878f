/-
  DERIVED. GIVEN WITH THE SEED: THE CARDS: each row of YtimefacdnabkdabDoorRows.lean that lists a variable, with what it lists TIED to the program's text (the seventh form; the later family's looks); each row that meets fmt, with fmt's text TOLD by the authors' own Lean function (tested against real Go, not proved from fmt's source: count such statements apart). THE CARD IS WHAT COUNTS. Prove the row's statement (the work); the ties are given (YtimefacdnabkdabDoorTie.lean); close each card by the builder's one call (the guide's Derived/Test/ToyasCard.lean, 'card_holds'). Laid BY PROGRAM, IN A SANDBOX (cutbox-door.mjs). By AI agents, Wed Nov 11 2026. No macro, syntax, notation, axiom, sorry.
-/
import Derived.Test.YtimefacdnabkdabDoorRows
import GoSem.ClaimSeven
namespace Go.Proofs.YtimefacdnabkdabDoor
namespace Rows

/-- THE TIED CARD OF 'laws.FnTextColorSeq'. -/
def fnTextColorSeqCard : Claim7 := { stood := { row := fnTextColorSeqRow, standIns := [], harness := (true, "7f547371dcf15b70aca73fbf8d5ea24e07a8ed550078373aedef9b8bfdb4d7c6"), looks := false }, kinds := [], alts := [], laidByText := true, laidKinds := [.data, .data, .data], laidTests := true, laidLooks := .later }
def FnTextColorSeqCardSaid : Prop := Claim7.holds Tryd.pinned (.plain (OpenSpec.ofChange fnTextColorSeqSpec)) fnTextColorSeqCard

/-- THE SECOND FORM's CARD OF 'laws.FnTextColorSeq'. -/
def fnTextColorSeqUptoCard : Claim7 := { stood := { row := fnTextColorSeqUptoRow, standIns := [], harness := (true, "7f547371dcf15b70aca73fbf8d5ea24e07a8ed550078373aedef9b8bfdb4d7c6"), looks := false }, kinds := [], alts := [], laidByText := true, laidKinds := [.data, .data, .data], laidTests := true, laidLooks := .later }
def FnTextColorSeqUptoCardSaid : Prop := Claim7.holds Tryd.pinned (.plain (OpenSpec.upto fnTextColorSeqSpec)) fnTextColorSeqUptoCard
end Rows
end Go.Proofs.YtimefacdnabkdabDoor
