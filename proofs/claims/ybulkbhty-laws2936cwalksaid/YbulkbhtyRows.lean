/-
  No cell of these rows narrows 'for every input' (looked for: loops, veiled, ifaces, maps, wideKeys, modest, calm, conditions, laid).
  DERIVED. THE GIVEN ROWS OF THIS SEAT. 4 by the template 'for every input the law returns true; each argument reads behind the call as it read before'; 0 by the template 'total and deterministic' (their statements: YbulkbhtyTotals.lean).
  GIVEN WITH THE SEED: the statements are not yours to turn. If you find one false, say at which input.
  Laid BY PROGRAM, IN A SANDBOX (cutbox-rows.mjs): the forced cells as the released guide's own fill.sh prints them over the translation 7a2f68b3634e56f2… (all of the seat's roots in one cut). By AI agents, Wed Nov 11 2026. No macro, syntax, notation, axiom, sorry.
-/
import Derived.Test.YbulkbhtyChecked
import GoSem.Claim
import GoSem.ClaimJoined
import GoSem.ClaimMapViews
import Derived.JoinedTies
import Derived.KernelRfl
namespace Go.Proofs.Ybulkbhty
/- THE CELL 'sum', in the pinned program and in every row, IS THE sha256 OF THE DUMP (.gsa) THAT YbulkbhtyProg.lean LOADS. Nothing in Lean hashes anything: it is a label: what it is worth is what the hold of that sum in a sandbox is worth. -/
noncomputable def Yba.pinned : Pinned := { name := "ybulkbhty", sum := "7a2f68b3634e56f25aa6f39c445520ec5f700bf03cd573da5ee6f9b2a3d84713", checked := Yba.checked }
namespace Rows
def none {H : Type} : Left H := { results := [], args := [] }

/-- 'schedule.LawS2936ARaw': WHATEVER THE INPUT: true; the input reads as it did. -/
def lawS2936ARawSpec : ChangeSpec := { name := "lawS2936ARaw", fn := fun _ => fun
  | [d1, d2, d3] => { results := [.lit (.bool true)], args := [d1, d2, d3] }
  | _ => none }
def lawS2936ARawRow : OpenClaim := { program := "ybulkbhty", sum := "7a2f68b3634e56f25aa6f39c445520ec5f700bf03cd573da5ee6f9b2a3d84713", func := "example.com/interlock/interlock/internal/schedule.LawS2936ARaw", spec := "lawS2936ARaw", apart := false }
def LawS2936ARawSaid : Prop := lawS2936ARawRow.holds Yba.pinned (OpenSpec.ofChange lawS2936ARawSpec)

/-- ITS FALSE NEIGHBOUR: 'it returns false'. Refute it at one input. -/
def lawS2936ARawWrong : ChangeSpec := { name := "lawS2936ARaw", fn := fun _ => fun
  | [d1, d2, d3] => { results := [.lit (.bool false)], args := [d1, d2, d3] }
  | _ => none }
def LawS2936ARawWrongFalsely : Prop := lawS2936ARawRow.holds Yba.pinned (OpenSpec.ofChange lawS2936ARawWrong)

/-- 'schedule.LawS2936ABuilt': WHATEVER THE INPUT: true; the input reads as it did. -/
def lawS2936ABuiltSpec : ChangeSpec := { name := "lawS2936ABuilt", fn := fun _ => fun
  | [d1, d2, d3] => { results := [.lit (.bool true)], args := [d1, d2, d3] }
  | _ => none }
def lawS2936ABuiltRow : OpenClaim := { program := "ybulkbhty", sum := "7a2f68b3634e56f25aa6f39c445520ec5f700bf03cd573da5ee6f9b2a3d84713", func := "example.com/interlock/interlock/internal/schedule.LawS2936ABuilt", spec := "lawS2936ABuilt", apart := false }
def LawS2936ABuiltSaid : Prop := lawS2936ABuiltRow.holds Yba.pinned (OpenSpec.ofChange lawS2936ABuiltSpec)

/-- ITS FALSE NEIGHBOUR: 'it returns false'. Refute it at one input. -/
def lawS2936ABuiltWrong : ChangeSpec := { name := "lawS2936ABuilt", fn := fun _ => fun
  | [d1, d2, d3] => { results := [.lit (.bool false)], args := [d1, d2, d3] }
  | _ => none }
def LawS2936ABuiltWrongFalsely : Prop := lawS2936ABuiltRow.holds Yba.pinned (OpenSpec.ofChange lawS2936ABuiltWrong)

/-- 'interlock.LawS2936CCeil': WHATEVER THE INPUT: true; the input reads as it did. -/
def lawS2936CCeilSpec : ChangeSpec := { name := "lawS2936CCeil", fn := fun _ => fun
  | [d1, d2] => { results := [.lit (.bool true)], args := [d1, d2] }
  | _ => none }
def lawS2936CCeilRow : OpenClaim := { program := "ybulkbhty", sum := "7a2f68b3634e56f25aa6f39c445520ec5f700bf03cd573da5ee6f9b2a3d84713", func := "example.com/interlock/interlock.LawS2936CCeil", spec := "lawS2936CCeil", inPlace := ["slices.overlaps[string]", "slices.overlaps[*example.com/interlock/interlock/internal/btree.node]", "internal/bytealg.abigen_runtime_cmpstring"], unfollowed := true, recurses := true, apart := false }
def LawS2936CCeilSaid : Prop := lawS2936CCeilRow.holds Yba.pinned (OpenSpec.ofChange lawS2936CCeilSpec)

/-- ITS FALSE NEIGHBOUR: 'it returns false'. Refute it at one input. -/
def lawS2936CCeilWrong : ChangeSpec := { name := "lawS2936CCeil", fn := fun _ => fun
  | [d1, d2] => { results := [.lit (.bool false)], args := [d1, d2] }
  | _ => none }
def LawS2936CCeilWrongFalsely : Prop := lawS2936CCeilRow.holds Yba.pinned (OpenSpec.ofChange lawS2936CCeilWrong)

/-- 'interlock.LawS2936CWalk': WHATEVER THE INPUT: true; the input reads as it did. -/
def lawS2936CWalkSpec : ChangeSpec := { name := "lawS2936CWalk", fn := fun _ => fun
  | [d] => { results := [.lit (.bool true)], args := [d] }
  | _ => none }
def lawS2936CWalkRow : OpenClaim := { program := "ybulkbhty", sum := "7a2f68b3634e56f25aa6f39c445520ec5f700bf03cd573da5ee6f9b2a3d84713", func := "example.com/interlock/interlock.LawS2936CWalk", spec := "lawS2936CWalk", inPlace := ["slices.overlaps[string]", "slices.overlaps[*example.com/interlock/interlock/internal/btree.node]", "internal/bytealg.abigen_runtime_cmpstring"], unfollowed := true, recurses := true, apart := false }
def LawS2936CWalkSaid : Prop := lawS2936CWalkRow.holds Yba.pinned (OpenSpec.ofChange lawS2936CWalkSpec)

/-- ITS FALSE NEIGHBOUR: 'it returns false'. Refute it at one input. -/
def lawS2936CWalkWrong : ChangeSpec := { name := "lawS2936CWalk", fn := fun _ => fun
  | [d] => { results := [.lit (.bool false)], args := [d] }
  | _ => none }
def LawS2936CWalkWrongFalsely : Prop := lawS2936CWalkRow.holds Yba.pinned (OpenSpec.ofChange lawS2936CWalkWrong)

end Rows
end Go.Proofs.Ybulkbhty
