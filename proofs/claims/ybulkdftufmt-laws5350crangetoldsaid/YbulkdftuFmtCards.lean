/-
  DERIVED. GIVEN WITH THE SEED: THE CARDS: each row of YbulkdftuFmtRows.lean that lists a variable, with what it lists TIED to the program's text (the seventh form; the later family's looks); each row that meets fmt, with fmt's text TOLD by the authors' own Lean function (tested against real Go, not proved from fmt's source: count such statements apart). THE CARD IS WHAT COUNTS. Prove the row's statement (the work); the ties are given (YbulkdftuFmtTie.lean); close each card by the builder's one call (the guide's Derived/Test/ToyasCard.lean, 'card_holds'). Laid BY PROGRAM, IN A SANDBOX (cutbox-door.mjs). By AI agents, Wed Nov 11 2026. No macro, syntax, notation, axiom, sorry.
-/
import Derived.Test.YbulkdftuFmtRows
import GoSem.ClaimSeven
namespace Go.Proofs.YbulkdftuFmt
namespace Rows

/-- THE TOLD AND TIED CARD OF 'input.LawS5350CRange'. -/
def lawS5350CRangeCard : Claim7 := { stood := { row := lawS5350CRangeRow, standIns := [], harness := (true, "536fb6cb8db1ec3db812df2102b847e737b56bac7dfcb49350071b777ee16433"), looks := true }, told := true, laidByText := true, laidKinds := [.data, .data, .data], laidTests := true, laidLooks := .later, goes := false }
def LawS5350CRangeToldSaid : Prop := Claim7.holds Ybaf.pinned (.plain (OpenSpec.ofChange lawS5350CRangeSpec)) lawS5350CRangeCard
/-- ITS FALSE NEIGHBOUR. Refute it at one input. -/
def LawS5350CRangeToldWrongFalsely : Prop := Claim7.holds Ybaf.pinned (.plain (OpenSpec.ofChange lawS5350CRangeWrong)) lawS5350CRangeCard

/-- THE TOLD AND TIED CARD OF 'input.LawS5350CParse'. -/
def lawS5350CParseCard : Claim7 := { stood := { row := lawS5350CParseRow, standIns := [], harness := (true, "536fb6cb8db1ec3db812df2102b847e737b56bac7dfcb49350071b777ee16433"), looks := true }, told := true, laidByText := true, laidKinds := [.data, .data, .data, .data, .sentinel, .sentinel, .pinned, .pinned, .pinned, .pinned, .pinned, .pinned], laidTests := true, laidLooks := .later, goes := false }
def LawS5350CParseToldSaid : Prop := Claim7.holds Ybaf.pinned (.plain (OpenSpec.ofChange lawS5350CParseSpec)) lawS5350CParseCard
/-- ITS FALSE NEIGHBOUR. Refute it at one input. -/
def LawS5350CParseToldWrongFalsely : Prop := Claim7.holds Ybaf.pinned (.plain (OpenSpec.ofChange lawS5350CParseWrong)) lawS5350CParseCard
end Rows
end Go.Proofs.YbulkdftuFmt
