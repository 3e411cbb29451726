/-
  NARROWER THAN 'FOR EVERY INPUT', by the rows' own cells (each row's printed sentence says how): LawS2936BExact: laid · LawS2936BRound: laid.
  DERIVED. THE GIVEN ROWS OF THIS SEAT. 2 by the template 'for every input the law returns true; each argument reads behind the call as it read before'; 0 by the template 'total and deterministic' (their statements: YbulkbhtyFmtTotals.lean).
  GIVEN WITH THE SEED: the statements are not yours to turn. If you find one false, say at which input.
  Laid BY PROGRAM, IN A SANDBOX (cutbox-rows.mjs): the forced cells as the released guide's own fill.sh prints them over the translation 4d5dad61d6abde8b… (all of the seat's roots in one cut). By AI agents, Wed Nov 11 2026. No macro, syntax, notation, axiom, sorry.
-/
import Derived.Test.YbulkbhtyFmtChecked
import GoSem.Claim
import GoSem.ClaimJoined
import GoSem.ClaimMapViews
import Derived.JoinedTies
import Derived.KernelRfl
namespace Go.Proofs.YbulkbhtyFmt
/- THE CELL 'sum', in the pinned program and in every row, IS THE sha256 OF THE DUMP (.gsa) THAT YbulkbhtyFmtProg.lean LOADS. Nothing in Lean hashes anything: it is a label: what it is worth is what the hold of that sum in a sandbox is worth. -/
noncomputable def Ybaf.pinned : Pinned := { name := "ybulkbhtyfmt", sum := "4d5dad61d6abde8bd91f11be9dae563a93eeb9da1cefb17a8bbbba3f2a1dd57b", checked := Ybaf.checked }
namespace Rows
def none {H : Type} : Left H := { results := [], args := [] }

/- WHAT THE LISTED PACKAGE-LEVEL VARIABLES READ AS WHEN THE CALL BEGINS. Each datum BY PROGRAM (the guide's laid-datum.mjs) off the statement by which the dump's own 'gosem.cut.vars' lays the variable. In a bare row this is a premise. The card (YbulkbhtyFmtCards.lean) ties it to the program's text. -/
def laid_example_com_interlock_interlock_lock_policyNames {H : Type} : DataW H := .agg [.lit (.string [100, 101, 116, 101, 99, 116]), .lit (.string [119, 97, 105, 116, 45, 100, 105, 101]), .lit (.string [119, 111, 117, 110, 100, 45, 119, 97, 105, 116])]

/-- 'lock.LawS2936BExact': WHATEVER THE INPUT: true; the input reads as it did. -/
def lawS2936BExactSpec : ChangeSpec := { name := "lawS2936BExact", vars := ["example.com/interlock/interlock/lock.policyNames"], fn := fun _ => fun
  | [d1, d2, d3, g1] => { results := [.lit (.bool true)], args := [d1, d2, d3], vars := [g1] }
  | _ => none }
def lawS2936BExactRow : OpenClaim := { program := "ybulkbhtyfmt", sum := "4d5dad61d6abde8bd91f11be9dae563a93eeb9da1cefb17a8bbbba3f2a1dd57b", func := "example.com/interlock/interlock/lock.LawS2936BExact", spec := "lawS2936BExact", stops := ["fmt.errorf"], inPlace := ["internal/abi.NoEscape", "internal/bytealg.MakeNoZero", "fmt.errorf"], named := ["example.com/interlock/interlock/lock.policyNames"], apart := false, laid := [("example.com/interlock/interlock/lock.policyNames", laid_example_com_interlock_interlock_lock_policyNames)] }
/-- NO THEOREM (fmt's text is open here; it may be false): for the released tool's asking of the row's closed facts alone. THE STATEMENT IS 'LawS2936BExactToldSaid' (YbulkbhtyFmtCards.lean). -/
def LawS2936BExactFormAsk : Prop := lawS2936BExactRow.holds Ybaf.pinned (OpenSpec.ofChange lawS2936BExactSpec)

/-- ITS FALSE NEIGHBOUR: 'it returns false'. Refute it at one input. -/
def lawS2936BExactWrong : ChangeSpec := { name := "lawS2936BExact", vars := ["example.com/interlock/interlock/lock.policyNames"], fn := fun _ => fun
  | [d1, d2, d3, g1] => { results := [.lit (.bool false)], args := [d1, d2, d3], vars := [g1] }
  | _ => none }
def LawS2936BExactWrongFormAsk : Prop := lawS2936BExactRow.holds Ybaf.pinned (OpenSpec.ofChange lawS2936BExactWrong)

/-- 'lock.LawS2936BRound': WHATEVER THE INPUT: true; the input reads as it did. -/
def lawS2936BRoundSpec : ChangeSpec := { name := "lawS2936BRound", vars := ["example.com/interlock/interlock/lock.policyNames"], fn := fun _ => fun
  | [d1, d2, g1] => { results := [.lit (.bool true)], args := [d1, d2], vars := [g1] }
  | _ => none }
def lawS2936BRoundRow : OpenClaim := { program := "ybulkbhtyfmt", sum := "4d5dad61d6abde8bd91f11be9dae563a93eeb9da1cefb17a8bbbba3f2a1dd57b", func := "example.com/interlock/interlock/lock.LawS2936BRound", spec := "lawS2936BRound", stops := ["fmt.errorf"], inPlace := ["fmt.errorf", "internal/abi.NoEscape", "internal/bytealg.MakeNoZero"], named := ["example.com/interlock/interlock/lock.policyNames"], apart := false, laid := [("example.com/interlock/interlock/lock.policyNames", laid_example_com_interlock_interlock_lock_policyNames)] }
/-- NO THEOREM (fmt's text is open here; it may be false): for the released tool's asking of the row's closed facts alone. THE STATEMENT IS 'LawS2936BRoundToldSaid' (YbulkbhtyFmtCards.lean). -/
def LawS2936BRoundFormAsk : Prop := lawS2936BRoundRow.holds Ybaf.pinned (OpenSpec.ofChange lawS2936BRoundSpec)

/-- ITS FALSE NEIGHBOUR: 'it returns false'. Refute it at one input. -/
def lawS2936BRoundWrong : ChangeSpec := { name := "lawS2936BRound", vars := ["example.com/interlock/interlock/lock.policyNames"], fn := fun _ => fun
  | [d1, d2, g1] => { results := [.lit (.bool false)], args := [d1, d2], vars := [g1] }
  | _ => none }
def LawS2936BRoundWrongFormAsk : Prop := lawS2936BRoundRow.holds Ybaf.pinned (OpenSpec.ofChange lawS2936BRoundWrong)

end Rows
end Go.Proofs.YbulkbhtyFmt
