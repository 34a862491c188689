/-
  No cell of these rows narrows 'for every input' (looked for: loops, veiled, ifaces, maps, wideKeys, modest, calm, conditions, laid).
  DERIVED. THE GIVEN ROWS OF THIS SEAT. 4 by the template 'for every input the law returns true; each argument reads behind the call as it read before'; 0 by the template 'total and deterministic' (their statements: YbulkbfdoTotals.lean).
  GIVEN WITH THE SEED: the statements are not yours to turn. If you find one false, say at which input.
  Laid BY PROGRAM, IN A SANDBOX (cutbox-rows.mjs): the forced cells as the released guide's own fill.sh prints them over the translation d9816102dfdace60… (all of the seat's roots in one cut). By AI agents, Wed Nov 11 2026. No macro, syntax, notation, axiom, sorry.
-/
import Derived.Test.YbulkbfdoChecked
import GoSem.Claim
import GoSem.ClaimJoined
import GoSem.ClaimMapViews
import Derived.JoinedTies
import Derived.KernelRfl
namespace Go.Proofs.Ybulkbfdo
/- THE CELL 'sum', in the pinned program and in every row, IS THE sha256 OF THE DUMP (.gsa) THAT YbulkbfdoProg.lean LOADS. Nothing in Lean hashes anything: it is a label: what it is worth is what the hold of that sum in a sandbox is worth. -/
noncomputable def Yba.pinned : Pinned := { name := "ybulkbfdo", sum := "d9816102dfdace60c0bf75a1f150e8051ee76fb4aa293fef607971a45700d7a4", checked := Yba.checked }
namespace Rows
def none {H : Type} : Left H := { results := [], args := [] }

/-- 'topology.LawS2809BWalkAgainstModel': WHATEVER THE INPUT: true; the input reads as it did. -/
def lawS2809BWalkAgainstModelSpec : ChangeSpec := { name := "lawS2809BWalkAgainstModel", fn := fun _ => fun
  | [d1, d2, d3, d4, d5, d6] => { results := [.lit (.bool true)], args := [d1, d2, d3, d4, d5, d6] }
  | _ => none }
def lawS2809BWalkAgainstModelRow : OpenClaim := { program := "ybulkbfdo", sum := "d9816102dfdace60c0bf75a1f150e8051ee76fb4aa293fef607971a45700d7a4", func := "example.com/rumorhop/rumorhop/pkg/topology.LawS2809BWalkAgainstModel", spec := "lawS2809BWalkAgainstModel", apart := false }
def LawS2809BWalkAgainstModelSaid : Prop := lawS2809BWalkAgainstModelRow.holds Yba.pinned (OpenSpec.ofChange lawS2809BWalkAgainstModelSpec)

/-- ITS FALSE NEIGHBOUR: 'it returns false'. Refute it at one input. -/
def lawS2809BWalkAgainstModelWrong : ChangeSpec := { name := "lawS2809BWalkAgainstModel", fn := fun _ => fun
  | [d1, d2, d3, d4, d5, d6] => { results := [.lit (.bool false)], args := [d1, d2, d3, d4, d5, d6] }
  | _ => none }
def LawS2809BWalkAgainstModelWrongFalsely : Prop := lawS2809BWalkAgainstModelRow.holds Yba.pinned (OpenSpec.ofChange lawS2809BWalkAgainstModelWrong)

/-- 'topology.LawS2809BComplete': WHATEVER THE INPUT: true; the input reads as it did. -/
def lawS2809BCompleteSpec : ChangeSpec := { name := "lawS2809BComplete", fn := fun _ => fun
  | [d1, d2, d3] => { results := [.lit (.bool true)], args := [d1, d2, d3] }
  | _ => none }
def lawS2809BCompleteRow : OpenClaim := { program := "ybulkbfdo", sum := "d9816102dfdace60c0bf75a1f150e8051ee76fb4aa293fef607971a45700d7a4", func := "example.com/rumorhop/rumorhop/pkg/topology.LawS2809BComplete", spec := "lawS2809BComplete", apart := false }
def LawS2809BCompleteSaid : Prop := lawS2809BCompleteRow.holds Yba.pinned (OpenSpec.ofChange lawS2809BCompleteSpec)

/-- ITS FALSE NEIGHBOUR: 'it returns false'. Refute it at one input. -/
def lawS2809BCompleteWrong : ChangeSpec := { name := "lawS2809BComplete", fn := fun _ => fun
  | [d1, d2, d3] => { results := [.lit (.bool false)], args := [d1, d2, d3] }
  | _ => none }
def LawS2809BCompleteWrongFalsely : Prop := lawS2809BCompleteRow.holds Yba.pinned (OpenSpec.ofChange lawS2809BCompleteWrong)

/-- 'report.LawS2809CExact': WHATEVER THE INPUT: true; the input reads as it did. -/
def lawS2809CExactSpec : ChangeSpec := { name := "lawS2809CExact", fn := fun _ => fun
  | [d1, d2, d3] => { results := [.lit (.bool true)], args := [d1, d2, d3] }
  | _ => none }
def lawS2809CExactRow : OpenClaim := { program := "ybulkbfdo", sum := "d9816102dfdace60c0bf75a1f150e8051ee76fb4aa293fef607971a45700d7a4", func := "example.com/rumorhop/rumorhop/pkg/report.LawS2809CExact", spec := "lawS2809CExact", apart := false }
def LawS2809CExactSaid : Prop := lawS2809CExactRow.holds Yba.pinned (OpenSpec.ofChange lawS2809CExactSpec)

/-- ITS FALSE NEIGHBOUR: 'it returns false'. Refute it at one input. -/
def lawS2809CExactWrong : ChangeSpec := { name := "lawS2809CExact", fn := fun _ => fun
  | [d1, d2, d3] => { results := [.lit (.bool false)], args := [d1, d2, d3] }
  | _ => none }
def LawS2809CExactWrongFalsely : Prop := lawS2809CExactRow.holds Yba.pinned (OpenSpec.ofChange lawS2809CExactWrong)

/-- 'report.LawS2809CSplit': WHATEVER THE INPUT: true; the input reads as it did. -/
def lawS2809CSplitSpec : ChangeSpec := { name := "lawS2809CSplit", fn := fun _ => fun
  | [d1, d2, d3, d4] => { results := [.lit (.bool true)], args := [d1, d2, d3, d4] }
  | _ => none }
def lawS2809CSplitRow : OpenClaim := { program := "ybulkbfdo", sum := "d9816102dfdace60c0bf75a1f150e8051ee76fb4aa293fef607971a45700d7a4", func := "example.com/rumorhop/rumorhop/pkg/report.LawS2809CSplit", spec := "lawS2809CSplit", apart := false }
def LawS2809CSplitSaid : Prop := lawS2809CSplitRow.holds Yba.pinned (OpenSpec.ofChange lawS2809CSplitSpec)

/-- ITS FALSE NEIGHBOUR: 'it returns false'. Refute it at one input. -/
def lawS2809CSplitWrong : ChangeSpec := { name := "lawS2809CSplit", fn := fun _ => fun
  | [d1, d2, d3, d4] => { results := [.lit (.bool false)], args := [d1, d2, d3, d4] }
  | _ => none }
def LawS2809CSplitWrongFalsely : Prop := lawS2809CSplitRow.holds Yba.pinned (OpenSpec.ofChange lawS2809CSplitWrong)

end Rows
end Go.Proofs.Ybulkbfdo
