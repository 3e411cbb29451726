/-
  No cell of these rows narrows 'for every input' (looked for: loops, veiled, ifaces, maps, wideKeys, modest, calm, conditions, laid).
  DERIVED. THE GIVEN ROWS OF THIS SEAT. 2 by the template 'for every input the law returns true; each argument reads behind the call as it read before'; 0 by the template 'total and deterministic' (their statements: YbulkbhtkTotals.lean).
  GIVEN WITH THE SEED: the statements are not yours to turn. If you find one false, say at which input.
  Laid BY PROGRAM, IN A SANDBOX (cutbox-rows.mjs): the forced cells as the released guide's own fill.sh prints them over the translation 1570381fbc44128e… (all of the seat's roots in one cut). By AI agents, Wed Nov 11 2026. No macro, syntax, notation, axiom, sorry.
-/
import Derived.Test.YbulkbhtkChecked
import GoSem.Claim
import GoSem.ClaimJoined
import GoSem.ClaimMapViews
import Derived.JoinedTies
import Derived.KernelRfl
namespace Go.Proofs.Ybulkbhtk
/- THE CELL 'sum', in the pinned program and in every row, IS THE sha256 OF THE DUMP (.gsa) THAT YbulkbhtkProg.lean LOADS. Nothing in Lean hashes anything: it is a label: what it is worth is what the hold of that sum in a sandbox is worth. -/
noncomputable def Yba.pinned : Pinned := { name := "ybulkbhtk", sum := "1570381fbc44128ecd8f9affe1083200c083c2326702d4681b72368de110175c", checked := Yba.checked }
namespace Rows
def none {H : Type} : Left H := { results := [], args := [] }

/-- 'index.LawS2935AModel': WHATEVER THE INPUT: true; the input reads as it did. -/
def lawS2935AModelSpec : ChangeSpec := { name := "lawS2935AModel", fn := fun _ => fun
  | [d1, d2, d3] => { results := [.lit (.bool true)], args := [d1, d2, d3] }
  | _ => none }
def lawS2935AModelRow : OpenClaim := { program := "ybulkbhtk", sum := "1570381fbc44128ecd8f9affe1083200c083c2326702d4681b72368de110175c", func := "example.com/benchwright/benchwright/internal/index.LawS2935AModel", spec := "lawS2935AModel", inPlace := ["math.Float64bits"], apart := false }
def LawS2935AModelSaid : Prop := lawS2935AModelRow.holds Yba.pinned (OpenSpec.ofChange lawS2935AModelSpec)

/-- ITS FALSE NEIGHBOUR: 'it returns false'. Refute it at one input. -/
def lawS2935AModelWrong : ChangeSpec := { name := "lawS2935AModel", fn := fun _ => fun
  | [d1, d2, d3] => { results := [.lit (.bool false)], args := [d1, d2, d3] }
  | _ => none }
def LawS2935AModelWrongFalsely : Prop := lawS2935AModelRow.holds Yba.pinned (OpenSpec.ofChange lawS2935AModelWrong)

/-- 'index.LawS2935BTake': WHATEVER THE INPUT: true; the input reads as it did. -/
def lawS2935BTakeSpec : ChangeSpec := { name := "lawS2935BTake", fn := fun _ => fun
  | [d1, d2, d3, d4, d5] => { results := [.lit (.bool true)], args := [d1, d2, d3, d4, d5] }
  | _ => none }
def lawS2935BTakeRow : OpenClaim := { program := "ybulkbhtk", sum := "1570381fbc44128ecd8f9affe1083200c083c2326702d4681b72368de110175c", func := "example.com/benchwright/benchwright/internal/index.LawS2935BTake", spec := "lawS2935BTake", apart := false }
def LawS2935BTakeSaid : Prop := lawS2935BTakeRow.holds Yba.pinned (OpenSpec.ofChange lawS2935BTakeSpec)

/-- ITS FALSE NEIGHBOUR: 'it returns false'. Refute it at one input. -/
def lawS2935BTakeWrong : ChangeSpec := { name := "lawS2935BTake", fn := fun _ => fun
  | [d1, d2, d3, d4, d5] => { results := [.lit (.bool false)], args := [d1, d2, d3, d4, d5] }
  | _ => none }
def LawS2935BTakeWrongFalsely : Prop := lawS2935BTakeRow.holds Yba.pinned (OpenSpec.ofChange lawS2935BTakeWrong)

end Rows
end Go.Proofs.Ybulkbhtk
