/-
  DERIVED. GIVEN WITH THE SEED: THE CARDS: each row of YbulkbfcmFmtRows.lean that lists a variable, with what it lists TIED to the program's text (the seventh form; the later family's looks); each row that meets fmt, with fmt's text TOLD by the authors' own Lean function (tested against real Go, not proved from fmt's source: count such statements apart). THE CARD IS WHAT COUNTS. Prove the row's statement (the work); the ties are given (YbulkbfcmFmtTie.lean); close each card by the builder's one call (the guide's Derived/Test/ToyasCard.lean, 'card_holds'). Laid BY PROGRAM, IN A SANDBOX (cutbox-door.mjs). By AI agents, Wed Nov 11 2026. No macro, syntax, notation, axiom, sorry.
-/
import Derived.Test.YbulkbfcmFmtRows
import GoSem.ClaimSeven
namespace Go.Proofs.YbulkbfcmFmt
namespace Rows

/-- THE TOLD AND TIED CARD OF 'register.LawS2807CExact'. -/
def lawS2807CExactCard : Claim7 := { stood := { row := lawS2807CExactRow, standIns := [], harness := (true, "9af115fe42c4faa563c1f524dd8ff4875397319e92ebcc054f4ba988095f11a3"), looks := true }, told := true, laidByText := true, laidKinds := [.sentinel, .sentinel, .called], laidTests := true, laidLooks := .later, goes := false }
def LawS2807CExactToldSaid : Prop := Claim7.holds Ybaf.pinned (.plain (OpenSpec.ofChange lawS2807CExactSpec)) lawS2807CExactCard
/-- ITS FALSE NEIGHBOUR. Refute it at one input. -/
def LawS2807CExactToldWrongFalsely : Prop := Claim7.holds Ybaf.pinned (.plain (OpenSpec.ofChange lawS2807CExactWrong)) lawS2807CExactCard

/-- THE TOLD AND TIED CARD OF 'register.LawS2807CMixed'. -/
def lawS2807CMixedCard : Claim7 := { stood := { row := lawS2807CMixedRow, standIns := [], harness := (true, "9af115fe42c4faa563c1f524dd8ff4875397319e92ebcc054f4ba988095f11a3"), looks := true }, told := true, laidByText := true, laidKinds := [.sentinel, .sentinel, .called], laidTests := true, laidLooks := .later, goes := false }
def LawS2807CMixedToldSaid : Prop := Claim7.holds Ybaf.pinned (.plain (OpenSpec.ofChange lawS2807CMixedSpec)) lawS2807CMixedCard
/-- ITS FALSE NEIGHBOUR. Refute it at one input. -/
def LawS2807CMixedToldWrongFalsely : Prop := Claim7.holds Ybaf.pinned (.plain (OpenSpec.ofChange lawS2807CMixedWrong)) lawS2807CMixedCard
end Rows
end Go.Proofs.YbulkbfcmFmt
