/-
  DERIVED. GIVEN WITH THE SEED: THE CARDS: each row of YbulkbhtyFmtRows.lean that lists a variable, with what it lists TIED to the program's text (the seventh form; the later family's looks); each row that meets fmt, with fmt's text TOLD by the authors' own Lean function (tested against real Go, not proved from fmt's source: count such statements apart). THE CARD IS WHAT COUNTS. Prove the row's statement (the work); the ties are given (YbulkbhtyFmtTie.lean); close each card by the builder's one call (the guide's Derived/Test/ToyasCard.lean, 'card_holds'). Laid BY PROGRAM, IN A SANDBOX (cutbox-door.mjs). By AI agents, Wed Nov 11 2026. No macro, syntax, notation, axiom, sorry.
-/
import Derived.Test.YbulkbhtyFmtRows
import GoSem.ClaimSeven
namespace Go.Proofs.YbulkbhtyFmt
namespace Rows

/-- THE TOLD AND TIED CARD OF 'lock.LawS2936BExact'. -/
def lawS2936BExactCard : Claim7 := { stood := { row := lawS2936BExactRow, standIns := [], harness := (true, "406e8afb70a0a95ba1c0dde3424173078dafcc5663e2901ecc5cf6cfb21f4f16"), looks := false }, told := true, laidByText := true, laidKinds := [.widerDeep], laidTests := true, laidLooks := .later, goes := false }
def LawS2936BExactToldSaid : Prop := Claim7.holds Ybaf.pinned (.plain (OpenSpec.ofChange lawS2936BExactSpec)) lawS2936BExactCard
/-- ITS FALSE NEIGHBOUR. Refute it at one input. -/
def LawS2936BExactToldWrongFalsely : Prop := Claim7.holds Ybaf.pinned (.plain (OpenSpec.ofChange lawS2936BExactWrong)) lawS2936BExactCard

/-- THE TOLD AND TIED CARD OF 'lock.LawS2936BRound'. -/
def lawS2936BRoundCard : Claim7 := { stood := { row := lawS2936BRoundRow, standIns := [], harness := (true, "406e8afb70a0a95ba1c0dde3424173078dafcc5663e2901ecc5cf6cfb21f4f16"), looks := false }, told := true, laidByText := true, laidKinds := [.widerDeep], laidTests := true, laidLooks := .later, goes := false }
def LawS2936BRoundToldSaid : Prop := Claim7.holds Ybaf.pinned (.plain (OpenSpec.ofChange lawS2936BRoundSpec)) lawS2936BRoundCard
/-- ITS FALSE NEIGHBOUR. Refute it at one input. -/
def LawS2936BRoundToldWrongFalsely : Prop := Claim7.holds Ybaf.pinned (.plain (OpenSpec.ofChange lawS2936BRoundWrong)) lawS2936BRoundCard
end Rows
end Go.Proofs.YbulkbhtyFmt
