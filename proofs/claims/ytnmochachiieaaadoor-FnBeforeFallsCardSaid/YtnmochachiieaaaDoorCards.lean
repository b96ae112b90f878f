/-
  DERIVED. GIVEN WITH THE SEED: THE CARDS: each row of YtnmochachiieaaaDoorRows.lean that lists a variable, with what it lists TIED to the program's text (the seventh form; the later family's looks); each row that meets fmt, with fmt's text TOLD by the authors' own Lean function (tested against real Go, not proved from fmt's source: count such statements apart). THE CARD IS WHAT COUNTS. Prove the row's statement (the work); the ties are given (YtnmochachiieaaaDoorTie.lean); close each card by the builder's one call (the guide's Derived/Test/ToyasCard.lean, 'card_holds'). Laid BY PROGRAM, IN A SANDBOX (cutbox-door.mjs). By AI agents, Wed Nov 11 2026. No macro, syntax, notation, axiom, sorry.
-/
import Derived.Test.YtnmochachiieaaaDoorRows
import GoSem.ClaimSeven
namespace Go.Proofs.YtnmochachiieaaaDoor
namespace Rows

/-- THE TIED CARD OF 'laws.FnBeforeFalls'. -/
def fnBeforeFallsCard : Claim7 := { stood := { row := fnBeforeFallsRow, standIns := [], harness := (true, "06ddbe326cda3182c165e1ba25acef98e7fb2f359cec298873c14a2387c1f730"), looks := false }, kinds := [], alts := [], laidByText := true, laidKinds := [.data, .pinned, .pinned], laidTests := true, laidLooks := .later }
def FnBeforeFallsCardSaid : Prop := Claim7.holds Tryd.pinned (.plain (OpenSpec.ofChange fnBeforeFallsSpec)) fnBeforeFallsCard

/-- THE SECOND FORM's CARD OF 'laws.FnBeforeFalls'. -/
def fnBeforeFallsUptoCard : Claim7 := { stood := { row := fnBeforeFallsUptoRow, standIns := [], harness := (true, "06ddbe326cda3182c165e1ba25acef98e7fb2f359cec298873c14a2387c1f730"), looks := false }, kinds := [], alts := [], laidByText := true, laidKinds := [.data, .pinned, .pinned], laidTests := true, laidLooks := .later }
def FnBeforeFallsUptoCardSaid : Prop := Claim7.holds Tryd.pinned (.plain (OpenSpec.upto fnBeforeFallsSpec)) fnBeforeFallsUptoCard
end Rows
end Go.Proofs.YtnmochachiieaaaDoor
