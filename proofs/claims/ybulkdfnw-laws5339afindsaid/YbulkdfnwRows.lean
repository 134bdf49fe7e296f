/-
  No cell of these rows narrows 'for every input' (looked for: loops, veiled, ifaces, maps, wideKeys, modest, calm, conditions, laid).
  DERIVED. THE GIVEN ROWS OF THIS SEAT. 3 by the template 'for every input the law returns true; each argument reads behind the call as it read before'; 0 by the template 'total and deterministic' (their statements: YbulkdfnwTotals.lean).
  GIVEN WITH THE SEED: the statements are not yours to turn. If you find one false, say at which input.
  Laid BY PROGRAM, IN A SANDBOX (cutbox-rows.mjs): the forced cells as the released guide's own fill.sh prints them over the translation 63437bcf3f216130… (all of the seat's roots in one cut). By AI agents, Wed Nov 11 2026. No macro, syntax, notation, axiom, sorry.
-/
import Derived.Test.YbulkdfnwChecked
import GoSem.Claim
import GoSem.ClaimJoined
import GoSem.ClaimMapViews
import Derived.JoinedTies
import Derived.KernelRfl
namespace Go.Proofs.Ybulkdfnw
/- THE CELL 'sum', in the pinned program and in every row, IS THE sha256 OF THE DUMP (.gsa) THAT YbulkdfnwProg.lean LOADS. Nothing in Lean hashes anything: it is a label: what it is worth is what the hold of that sum in a sandbox is worth. -/
noncomputable def Yba.pinned : Pinned := { name := "ybulkdfnw", sum := "63437bcf3f216130955b10ccb3d7616788b0241f286a170de0a55ee31594808e", checked := Yba.checked }
namespace Rows
def none {H : Type} : Left H := { results := [], args := [] }

/-- 'expr.LawS5339AFind': WHATEVER THE INPUT: true; the input reads as it did. -/
def lawS5339AFindSpec : ChangeSpec := { name := "lawS5339AFind", fn := fun _ => fun
  | [d1, d2, d3, d4, d5] => { results := [.lit (.bool true)], args := [d1, d2, d3, d4, d5] }
  | _ => none }
def lawS5339AFindRow : OpenClaim := { program := "ybulkdfnw", sum := "63437bcf3f216130955b10ccb3d7616788b0241f286a170de0a55ee31594808e", func := "example.com/planform/planform/expr.LawS5339AFind", spec := "lawS5339AFind", unfollowed := true, recurses := true, apart := false }
def LawS5339AFindSaid : Prop := lawS5339AFindRow.holds Yba.pinned (OpenSpec.ofChange lawS5339AFindSpec)

/-- ITS FALSE NEIGHBOUR: 'it returns false'. Refute it at one input. -/
def lawS5339AFindWrong : ChangeSpec := { name := "lawS5339AFind", fn := fun _ => fun
  | [d1, d2, d3, d4, d5] => { results := [.lit (.bool false)], args := [d1, d2, d3, d4, d5] }
  | _ => none }
def LawS5339AFindWrongFalsely : Prop := lawS5339AFindRow.holds Yba.pinned (OpenSpec.ofChange lawS5339AFindWrong)

/-- 'httpcodec.LawS5339BModel': WHATEVER THE INPUT: true; the input reads as it did. -/
def lawS5339BModelSpec : ChangeSpec := { name := "lawS5339BModel", fn := fun _ => fun
  | [d] => { results := [.lit (.bool true)], args := [d] }
  | _ => none }
def lawS5339BModelRow : OpenClaim := { program := "ybulkdfnw", sum := "63437bcf3f216130955b10ccb3d7616788b0241f286a170de0a55ee31594808e", func := "example.com/planform/planform/runtime/httpcodec.LawS5339BModel", spec := "lawS5339BModel", apart := false }
def LawS5339BModelSaid : Prop := lawS5339BModelRow.holds Yba.pinned (OpenSpec.ofChange lawS5339BModelSpec)

/-- ITS FALSE NEIGHBOUR: 'it returns false'. Refute it at one input. -/
def lawS5339BModelWrong : ChangeSpec := { name := "lawS5339BModel", fn := fun _ => fun
  | [d] => { results := [.lit (.bool false)], args := [d] }
  | _ => none }
def LawS5339BModelWrongFalsely : Prop := lawS5339BModelRow.holds Yba.pinned (OpenSpec.ofChange lawS5339BModelWrong)

/-- 'httpcodec.LawS5339BBuilt': WHATEVER THE INPUT: true; the input reads as it did. -/
def lawS5339BBuiltSpec : ChangeSpec := { name := "lawS5339BBuilt", fn := fun _ => fun
  | [d1, d2, d3] => { results := [.lit (.bool true)], args := [d1, d2, d3] }
  | _ => none }
def lawS5339BBuiltRow : OpenClaim := { program := "ybulkdfnw", sum := "63437bcf3f216130955b10ccb3d7616788b0241f286a170de0a55ee31594808e", func := "example.com/planform/planform/runtime/httpcodec.LawS5339BBuilt", spec := "lawS5339BBuilt", apart := false }
def LawS5339BBuiltSaid : Prop := lawS5339BBuiltRow.holds Yba.pinned (OpenSpec.ofChange lawS5339BBuiltSpec)

/-- ITS FALSE NEIGHBOUR: 'it returns false'. Refute it at one input. -/
def lawS5339BBuiltWrong : ChangeSpec := { name := "lawS5339BBuilt", fn := fun _ => fun
  | [d1, d2, d3] => { results := [.lit (.bool false)], args := [d1, d2, d3] }
  | _ => none }
def LawS5339BBuiltWrongFalsely : Prop := lawS5339BBuiltRow.holds Yba.pinned (OpenSpec.ofChange lawS5339BBuiltWrong)

end Rows
end Go.Proofs.Ybulkdfnw
