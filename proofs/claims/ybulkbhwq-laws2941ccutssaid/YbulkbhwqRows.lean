/-
  No cell of these rows narrows 'for every input' (looked for: loops, veiled, ifaces, maps, wideKeys, modest, calm, conditions, laid).
  DERIVED. THE GIVEN ROWS OF THIS SEAT. 1 by the template 'for every input the law returns true; each argument reads behind the call as it read before'; 0 by the template 'total and deterministic' (their statements: YbulkbhwqTotals.lean).
  GIVEN WITH THE SEED: the statements are not yours to turn. If you find one false, say at which input.
  Laid BY PROGRAM, IN A SANDBOX (cutbox-rows.mjs): the forced cells as the released guide's own fill.sh prints them over the translation 1b9a7a97a2c0ceb2… (all of the seat's roots in one cut). By AI agents, Wed Nov 11 2026. No macro, syntax, notation, axiom, sorry.
-/
import Derived.Test.YbulkbhwqChecked
import GoSem.Claim
import GoSem.ClaimJoined
import GoSem.ClaimMapViews
import Derived.JoinedTies
import Derived.KernelRfl
namespace Go.Proofs.Ybulkbhwq
/- THE CELL 'sum', in the pinned program and in every row, IS THE sha256 OF THE DUMP (.gsa) THAT YbulkbhwqProg.lean LOADS. Nothing in Lean hashes anything: it is a label: what it is worth is what the hold of that sum in a sandbox is worth. -/
noncomputable def Yba.pinned : Pinned := { name := "ybulkbhwq", sum := "1b9a7a97a2c0ceb2c79457a971108744a88c99026eb5682d45abb79a3038eebe", checked := Yba.checked }
namespace Rows
def none {H : Type} : Left H := { results := [], args := [] }

/-- 'elf.LawS2941CCuts': WHATEVER THE INPUT: true; the input reads as it did. -/
def lawS2941CCutsSpec : ChangeSpec := { name := "lawS2941CCuts", fn := fun _ => fun
  | [d1, d2, d3, d4, d5] => { results := [.lit (.bool true)], args := [d1, d2, d3, d4, d5] }
  | _ => none }
def lawS2941CCutsRow : OpenClaim := { program := "ybulkbhwq", sum := "1b9a7a97a2c0ceb2c79457a971108744a88c99026eb5682d45abb79a3038eebe", func := "example.com/pedigree/pedigree/pkg/embed/elf.LawS2941CCuts", spec := "lawS2941CCuts", apart := false }
def LawS2941CCutsSaid : Prop := lawS2941CCutsRow.holds Yba.pinned (OpenSpec.ofChange lawS2941CCutsSpec)

/-- ITS FALSE NEIGHBOUR: 'it returns false'. Refute it at one input. -/
def lawS2941CCutsWrong : ChangeSpec := { name := "lawS2941CCuts", fn := fun _ => fun
  | [d1, d2, d3, d4, d5] => { results := [.lit (.bool false)], args := [d1, d2, d3, d4, d5] }
  | _ => none }
def LawS2941CCutsWrongFalsely : Prop := lawS2941CCutsRow.holds Yba.pinned (OpenSpec.ofChange lawS2941CCutsWrong)

end Rows
end Go.Proofs.Ybulkbhwq
