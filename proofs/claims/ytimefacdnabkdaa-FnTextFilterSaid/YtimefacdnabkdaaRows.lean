/-
  No cell of these rows narrows 'for every input' (looked for: loops, veiled, ifaces, maps, wideKeys, modest, calm, conditions, laid).
  DERIVED. THE GIVEN ROWS OF THIS SEAT. 6 by the template 'for every input the law returns true; each argument reads behind the call as it read before'; 0 by the template 'total and deterministic' (their statements: YtimefacdnabkdaaTotals.lean).
  GIVEN WITH THE SEED: the statements are not yours to turn. If you find one false, say at which input.
  Laid BY PROGRAM, IN A SANDBOX (cutbox-rows.mjs): the forced cells as the released guide's own fill.sh prints them over the translation 0b635c60d8ddfb74… (all of the seat's roots in one cut). By AI agents, Wed Nov 11 2026. No macro, syntax, notation, axiom, sorry.
-/
import Derived.Test.YtimefacdnabkdaaChecked
import GoSem.Claim
import GoSem.ClaimJoined
import GoSem.ClaimMapViews
import Derived.JoinedTies
import Derived.KernelRfl
namespace Go.Proofs.Ytimefacdnabkdaa
/- THE CELL 'sum', in the pinned program and in every row, IS THE sha256 OF THE DUMP (.gsa) THAT YtimefacdnabkdaaProg.lean LOADS. Nothing in Lean hashes anything: it is a label: what it is worth is what the hold of that sum in a sandbox is worth. -/
noncomputable def Try.pinned : Pinned := { name := "ytimefacdnabkdaa", sum := "0b635c60d8ddfb7465dded58282176e47019ce970071489631e7085c9e900cde", checked := Try.checked }
namespace Rows
def none {H : Type} : Left H := { results := [], args := [] }

/-- 'laws.FnColumnIDBack': WHATEVER THE INPUT: true; the input reads as it did. -/
def fnColumnIDBackSpec : ChangeSpec := { name := "fnColumnIDBack", fn := fun _ => fun
  | [d] => { results := [.lit (.bool true)], args := [d] }
  | _ => none }
def fnColumnIDBackRow : OpenClaim := { program := "ytimefacdnabkdaa", sum := "0b635c60d8ddfb7465dded58282176e47019ce970071489631e7085c9e900cde", func := "pub-pinstripe/laws.FnColumnIDBack", spec := "fnColumnIDBack", recurses := true, apart := false }
def FnColumnIDBackSaid : Prop := fnColumnIDBackRow.holds Try.pinned (OpenSpec.ofChange fnColumnIDBackSpec)

/-- ITS FALSE NEIGHBOUR: 'it returns false'. Refute it at one input. -/
def fnColumnIDBackWrong : ChangeSpec := { name := "fnColumnIDBack", fn := fun _ => fun
  | [d] => { results := [.lit (.bool false)], args := [d] }
  | _ => none }
def FnColumnIDBackWrongFalsely : Prop := fnColumnIDBackRow.holds Try.pinned (OpenSpec.ofChange fnColumnIDBackWrong)

/-- 'laws.FnTextVAlignHTML': WHATEVER THE INPUT: true; the input reads as it did. -/
def fnTextVAlignHTMLSpec : ChangeSpec := { name := "fnTextVAlignHTML", fn := fun _ => fun
  | [d] => { results := [.lit (.bool true)], args := [d] }
  | _ => none }
def fnTextVAlignHTMLRow : OpenClaim := { program := "ytimefacdnabkdaa", sum := "0b635c60d8ddfb7465dded58282176e47019ce970071489631e7085c9e900cde", func := "pub-pinstripe/laws.FnTextVAlignHTML", spec := "fnTextVAlignHTML", apart := false }
def FnTextVAlignHTMLSaid : Prop := fnTextVAlignHTMLRow.holds Try.pinned (OpenSpec.ofChange fnTextVAlignHTMLSpec)

/-- ITS FALSE NEIGHBOUR: 'it returns false'. Refute it at one input. -/
def fnTextVAlignHTMLWrong : ChangeSpec := { name := "fnTextVAlignHTML", fn := fun _ => fun
  | [d] => { results := [.lit (.bool false)], args := [d] }
  | _ => none }
def FnTextVAlignHTMLWrongFalsely : Prop := fnTextVAlignHTMLRow.holds Try.pinned (OpenSpec.ofChange fnTextVAlignHTMLWrong)

/-- 'laws.FnTextFilter': WHATEVER THE INPUT: true; the input reads as it did. -/
def fnTextFilterSpec : ChangeSpec := { name := "fnTextFilter", fn := fun _ => fun
  | [d1, d2] => { results := [.lit (.bool true)], args := [d1, d2] }
  | _ => none }
def fnTextFilterRow : OpenClaim := { program := "ytimefacdnabkdaa", sum := "0b635c60d8ddfb7465dded58282176e47019ce970071489631e7085c9e900cde", func := "pub-pinstripe/laws.FnTextFilter", spec := "fnTextFilter", unfollowed := true, recurses := true, apart := false }
def FnTextFilterSaid : Prop := fnTextFilterRow.holds Try.pinned (OpenSpec.ofChange fnTextFilterSpec)

/-- ITS FALSE NEIGHBOUR: 'it returns false'. Refute it at one input. -/
def fnTextFilterWrong : ChangeSpec := { name := "fnTextFilter", fn := fun _ => fun
  | [d1, d2] => { results := [.lit (.bool false)], args := [d1, d2] }
  | _ => none }
def FnTextFilterWrongFalsely : Prop := fnTextFilterRow.holds Try.pinned (OpenSpec.ofChange fnTextFilterWrong)

/-- 'laws.FnLines': WHATEVER THE INPUT: true; the input reads as it did. -/
def fnLinesSpec : ChangeSpec := { name := "fnLines", fn := fun _ => fun
  | [d] => { results := [.lit (.bool true)], args := [d] }
  | _ => none }
def fnLinesRow : OpenClaim := { program := "ytimefacdnabkdaa", sum := "0b635c60d8ddfb7465dded58282176e47019ce970071489631e7085c9e900cde", func := "pub-pinstripe/laws.FnLines", spec := "fnLines", apart := false }
def FnLinesSaid : Prop := fnLinesRow.holds Try.pinned (OpenSpec.ofChange fnLinesSpec)

/-- ITS FALSE NEIGHBOUR: 'it returns false'. Refute it at one input. -/
def fnLinesWrong : ChangeSpec := { name := "fnLines", fn := fun _ => fun
  | [d] => { results := [.lit (.bool false)], args := [d] }
  | _ => none }
def FnLinesWrongFalsely : Prop := fnLinesRow.holds Try.pinned (OpenSpec.ofChange fnLinesWrong)

/-- 'laws.FnSmall': WHATEVER THE INPUT: true; the input reads as it did. -/
def fnSmallSpec : ChangeSpec := { name := "fnSmall", fn := fun _ => fun
  | [d1, d2, d3, d4, d5] => { results := [.lit (.bool true)], args := [d1, d2, d3, d4, d5] }
  | _ => none }
def fnSmallRow : OpenClaim := { program := "ytimefacdnabkdaa", sum := "0b635c60d8ddfb7465dded58282176e47019ce970071489631e7085c9e900cde", func := "pub-pinstripe/laws.FnSmall", spec := "fnSmall", apart := false }
def FnSmallSaid : Prop := fnSmallRow.holds Try.pinned (OpenSpec.ofChange fnSmallSpec)

/-- ITS FALSE NEIGHBOUR: 'it returns false'. Refute it at one input. -/
def fnSmallWrong : ChangeSpec := { name := "fnSmall", fn := fun _ => fun
  | [d1, d2, d3, d4, d5] => { results := [.lit (.bool false)], args := [d1, d2, d3, d4, d5] }
  | _ => none }
def FnSmallWrongFalsely : Prop := fnSmallRow.holds Try.pinned (OpenSpec.ofChange fnSmallWrong)

/-- 'laws.FnTextCursors': WHATEVER THE INPUT: true; the input reads as it did. -/
def fnTextCursorsSpec : ChangeSpec := { name := "fnTextCursors", fn := fun _ => fun
  | [d1, d2] => { results := [.lit (.bool true)], args := [d1, d2] }
  | _ => none }
def fnTextCursorsRow : OpenClaim := { program := "ytimefacdnabkdaa", sum := "0b635c60d8ddfb7465dded58282176e47019ce970071489631e7085c9e900cde", func := "pub-pinstripe/laws.FnTextCursors", spec := "fnTextCursors", recurses := true, apart := false }
def FnTextCursorsSaid : Prop := fnTextCursorsRow.holds Try.pinned (OpenSpec.ofChange fnTextCursorsSpec)

/-- ITS FALSE NEIGHBOUR: 'it returns false'. Refute it at one input. -/
def fnTextCursorsWrong : ChangeSpec := { name := "fnTextCursors", fn := fun _ => fun
  | [d1, d2] => { results := [.lit (.bool false)], args := [d1, d2] }
  | _ => none }
def FnTextCursorsWrongFalsely : Prop := fnTextCursorsRow.holds Try.pinned (OpenSpec.ofChange fnTextCursorsWrong)

/- THE SECOND FORM. 'bulk': how many values and letters a reading holds, each counted each time it is reached (what is shared counts as often as it is met; a slice's spare places count too). A statement '..UptoSaid' is the law's where the arguments, and the package variables that the reading takes, are together of bulk at most 1048576: NARROWER than '..Said'. Prove '..Said' where nothing that the law and all that it calls make is longer than what came in: it says more and counts as full. Else prove '..UptoSaid'. A law counts once. -/
mutual
def uptoBulk {H : Type} : DataW H → Nat
  | .lit (.string bytes) => bytes.length + 1
  | .lit _ => 1
  | .nil => 1
  | .ptr d => uptoBulk d + 1
  | .slice elems spare => uptoBulkAll elems + uptoBulkAll spare + 1
  | .agg parts => uptoBulkAll parts + 1
  | .iface _ d => uptoBulk d + 1
  | .map entries => uptoBulkEntries entries + 1
  | .held _ => 1
def uptoBulkAll {H : Type} : List (DataW H) → Nat
  | [] => 0
  | d :: r => uptoBulk d + uptoBulkAll r
def uptoBulkEntries {H : Type} : List (Lit × DataW H) → Nat
  | [] => 0
  | x :: r => uptoBulkEntry x + uptoBulkEntries r
def uptoBulkEntry {H : Type} : Lit × DataW H → Nat
  | (.string bytes, d) => bytes.length + uptoBulk d + 1
  | (_, d) => uptoBulk d + 1
 end
def uptoSmall : (H : Type) → List (DataW H) → Bool := fun _ ds => decide (uptoBulkAll ds ≤ 1048576)
def OpenSpec.upto (s : _root_.Go.ChangeSpec) : _root_.Go.OpenSpec := { _root_.Go.OpenSpec.ofChange s with cond := some uptoSmall }

/-- 'laws.FnColumnIDBack', WHERE WHAT IT READS IS OF BULK AT MOST 1048576: true; the input reads as it did. -/
def fnColumnIDBackUptoRow : OpenClaim := { program := "ytimefacdnabkdaa", sum := "0b635c60d8ddfb7465dded58282176e47019ce970071489631e7085c9e900cde", func := "pub-pinstripe/laws.FnColumnIDBack", spec := "fnColumnIDBack", recurses := true, apart := false, narrowed := true }
def FnColumnIDBackUptoSaid : Prop := fnColumnIDBackUptoRow.holds Try.pinned (OpenSpec.upto fnColumnIDBackSpec)

/-- 'laws.FnTextVAlignHTML', WHERE WHAT IT READS IS OF BULK AT MOST 1048576: true; the input reads as it did. -/
def fnTextVAlignHTMLUptoRow : OpenClaim := { program := "ytimefacdnabkdaa", sum := "0b635c60d8ddfb7465dded58282176e47019ce970071489631e7085c9e900cde", func := "pub-pinstripe/laws.FnTextVAlignHTML", spec := "fnTextVAlignHTML", apart := false, narrowed := true }
def FnTextVAlignHTMLUptoSaid : Prop := fnTextVAlignHTMLUptoRow.holds Try.pinned (OpenSpec.upto fnTextVAlignHTMLSpec)

/-- 'laws.FnTextFilter', WHERE WHAT IT READS IS OF BULK AT MOST 1048576: true; the input reads as it did. -/
def fnTextFilterUptoRow : OpenClaim := { program := "ytimefacdnabkdaa", sum := "0b635c60d8ddfb7465dded58282176e47019ce970071489631e7085c9e900cde", func := "pub-pinstripe/laws.FnTextFilter", spec := "fnTextFilter", unfollowed := true, recurses := true, apart := false, narrowed := true }
def FnTextFilterUptoSaid : Prop := fnTextFilterUptoRow.holds Try.pinned (OpenSpec.upto fnTextFilterSpec)

/-- 'laws.FnLines', WHERE WHAT IT READS IS OF BULK AT MOST 1048576: true; the input reads as it did. -/
def fnLinesUptoRow : OpenClaim := { program := "ytimefacdnabkdaa", sum := "0b635c60d8ddfb7465dded58282176e47019ce970071489631e7085c9e900cde", func := "pub-pinstripe/laws.FnLines", spec := "fnLines", apart := false, narrowed := true }
def FnLinesUptoSaid : Prop := fnLinesUptoRow.holds Try.pinned (OpenSpec.upto fnLinesSpec)

/-- 'laws.FnSmall', WHERE WHAT IT READS IS OF BULK AT MOST 1048576: true; the input reads as it did. -/
def fnSmallUptoRow : OpenClaim := { program := "ytimefacdnabkdaa", sum := "0b635c60d8ddfb7465dded58282176e47019ce970071489631e7085c9e900cde", func := "pub-pinstripe/laws.FnSmall", spec := "fnSmall", apart := false, narrowed := true }
def FnSmallUptoSaid : Prop := fnSmallUptoRow.holds Try.pinned (OpenSpec.upto fnSmallSpec)

/-- 'laws.FnTextCursors', WHERE WHAT IT READS IS OF BULK AT MOST 1048576: true; the input reads as it did. -/
def fnTextCursorsUptoRow : OpenClaim := { program := "ytimefacdnabkdaa", sum := "0b635c60d8ddfb7465dded58282176e47019ce970071489631e7085c9e900cde", func := "pub-pinstripe/laws.FnTextCursors", spec := "fnTextCursors", recurses := true, apart := false, narrowed := true }
def FnTextCursorsUptoSaid : Prop := fnTextCursorsUptoRow.holds Try.pinned (OpenSpec.upto fnTextCursorsSpec)

end Rows
end Go.Proofs.Ytimefacdnabkdaa
