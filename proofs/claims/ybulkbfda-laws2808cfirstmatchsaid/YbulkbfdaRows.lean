/-
  No cell of these rows narrows 'for every input' (looked for: loops, veiled, ifaces, maps, wideKeys, modest, calm, conditions, laid).
  DERIVED. THE GIVEN ROWS OF THIS SEAT. 1 by the template 'for every input the law returns true; each argument reads behind the call as it read before'; 0 by the template 'total and deterministic' (their statements: YbulkbfdaTotals.lean).
  GIVEN WITH THE SEED: the statements are not yours to turn. If you find one false, say at which input.
  Laid BY PROGRAM, IN A SANDBOX (cutbox-rows.mjs): the forced cells as the released guide's own fill.sh prints them over the translation f6e2838ff1d1d6de… (all of the seat's roots in one cut). By AI agents, Wed Nov 11 2026. No macro, syntax, notation, axiom, sorry.
-/
import Derived.Test.YbulkbfdaChecked
import GoSem.Claim
import GoSem.ClaimJoined
import GoSem.ClaimMapViews
import Derived.JoinedTies
import Derived.KernelRfl
namespace Go.Proofs.Ybulkbfda
/- THE CELL 'sum', in the pinned program and in every row, IS THE sha256 OF THE DUMP (.gsa) THAT YbulkbfdaProg.lean LOADS. Nothing in Lean hashes anything: it is a label: what it is worth is what the hold of that sum in a sandbox is worth. -/
noncomputable def Yba.pinned : Pinned := { name := "ybulkbfda", sum := "f6e2838ff1d1d6de66f50b014c7eba529b01b9006aae056442d85fdfe005d990", checked := Yba.checked }
namespace Rows
def none {H : Type} : Left H := { results := [], args := [] }

/-- 'yamltree.LawS2808CFirstMatch': WHATEVER THE INPUT: true; the input reads as it did. -/
def lawS2808CFirstMatchSpec : ChangeSpec := { name := "lawS2808CFirstMatch", fn := fun _ => fun
  | [d1, d2, d3, d4, d5] => { results := [.lit (.bool true)], args := [d1, d2, d3, d4, d5] }
  | _ => none }
def lawS2808CFirstMatchRow : OpenClaim := { program := "ybulkbfda", sum := "f6e2838ff1d1d6de66f50b014c7eba529b01b9006aae056442d85fdfe005d990", func := "example.com/leasehold/leasehold/internal/yamltree.LawS2808CFirstMatch", spec := "lawS2808CFirstMatch", apart := false }
def LawS2808CFirstMatchSaid : Prop := lawS2808CFirstMatchRow.holds Yba.pinned (OpenSpec.ofChange lawS2808CFirstMatchSpec)

/-- ITS FALSE NEIGHBOUR: 'it returns false'. Refute it at one input. -/
def lawS2808CFirstMatchWrong : ChangeSpec := { name := "lawS2808CFirstMatch", fn := fun _ => fun
  | [d1, d2, d3, d4, d5] => { results := [.lit (.bool false)], args := [d1, d2, d3, d4, d5] }
  | _ => none }
def LawS2808CFirstMatchWrongFalsely : Prop := lawS2808CFirstMatchRow.holds Yba.pinned (OpenSpec.ofChange lawS2808CFirstMatchWrong)

end Rows
end Go.Proofs.Ybulkbfda
