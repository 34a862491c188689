/-
  NARROWER THAN 'FOR EVERY INPUT', by the rows' own cells (each row's printed sentence says how): LawS2807CExact: ifaces, laid · LawS2807CMixed: ifaces, laid.
  DERIVED. THE GIVEN ROWS OF THIS SEAT. 2 by the template 'for every input the law returns true; each argument reads behind the call as it read before'; 0 by the template 'total and deterministic' (their statements: YbulkbfcmFmtTotals.lean).
  GIVEN WITH THE SEED: the statements are not yours to turn. If you find one false, say at which input.
  Laid BY PROGRAM, IN A SANDBOX (cutbox-rows.mjs): the forced cells as the released guide's own fill.sh prints them over the translation fcdad9e308e5973a… (all of the seat's roots in one cut). By AI agents, Wed Nov 11 2026. No macro, syntax, notation, axiom, sorry.
-/
import Derived.Test.YbulkbfcmFmtChecked
import GoSem.Claim
import GoSem.ClaimJoined
import GoSem.ClaimMapViews
import Derived.JoinedTies
import Derived.KernelRfl
namespace Go.Proofs.YbulkbfcmFmt
/- THE CELL 'sum', in the pinned program and in every row, IS THE sha256 OF THE DUMP (.gsa) THAT YbulkbfcmFmtProg.lean LOADS. Nothing in Lean hashes anything: it is a label: what it is worth is what the hold of that sum in a sandbox is worth. -/
noncomputable def Ybaf.pinned : Pinned := { name := "ybulkbfcmfmt", sum := "fcdad9e308e5973a0e7365354e165c42492d5c1cec43da2f42a37f6a63207698", checked := Ybaf.checked }
namespace Rows
def none {H : Type} : Left H := { results := [], args := [] }

/- WHAT THE LISTED PACKAGE-LEVEL VARIABLES READ AS WHEN THE CALL BEGINS. Each datum BY PROGRAM (the guide's laid-datum.mjs) off the statement by which the dump's own 'gosem.cut.vars' lays the variable. In a bare row this is a premise. The card (YbulkbfcmFmtCards.lean) ties it to the program's text. -/
def laid_example_com_zhaomu_zhaomu_pkg_decimal_ErrRange {H : Type} : DataW H := .iface "*errors.errorString" (.ptr (.agg [.lit (.string [111, 117, 116, 32, 111, 102, 32, 114, 97, 110, 103, 101])]))
def laid_example_com_zhaomu_zhaomu_pkg_decimal_ErrInexact {H : Type} : DataW H := .iface "*errors.errorString" (.ptr (.agg [.lit (.string [109, 111, 114, 101, 32, 100, 105, 103, 105, 116, 115, 32, 116, 104, 97, 110, 32, 116, 104, 101, 32, 115, 99, 97, 108, 101, 32, 104, 111, 108, 100, 115])]))
def laid_example_com_zhaomu_zhaomu_pkg_decimal_pow10 {H : Type} : DataW H := .agg [.lit (.int .u64 1), .lit (.int .u64 10), .lit (.int .u64 100), .lit (.int .u64 1000), .lit (.int .u64 10000), .lit (.int .u64 100000), .lit (.int .u64 1000000), .lit (.int .u64 10000000), .lit (.int .u64 100000000), .lit (.int .u64 1000000000), .lit (.int .u64 10000000000), .lit (.int .u64 100000000000), .lit (.int .u64 1000000000000), .lit (.int .u64 10000000000000), .lit (.int .u64 100000000000000), .lit (.int .u64 1000000000000000), .lit (.int .u64 10000000000000000), .lit (.int .u64 100000000000000000), .lit (.int .u64 1000000000000000000), .lit (.int .u64 10000000000000000000)]

/-- 'register.LawS2807CExact': WHATEVER THE INPUT: true; the input reads as it did. -/
def lawS2807CExactSpec : ChangeSpec := { name := "lawS2807CExact", vars := ["example.com/zhaomu/zhaomu/pkg/decimal.ErrRange", "example.com/zhaomu/zhaomu/pkg/decimal.ErrInexact", "example.com/zhaomu/zhaomu/pkg/decimal.pow10"], fn := fun _ => fun
  | [d1, d2, d3, d4, g1, g2, g3] => { results := [.lit (.bool true)], args := [d1, d2, d3, d4], vars := [g1, g2, g3] }
  | _ => none }
def lawS2807CExactRow : OpenClaim := { program := "ybulkbfcmfmt", sum := "fcdad9e308e5973a0e7365354e165c42492d5c1cec43da2f42a37f6a63207698", func := "example.com/zhaomu/zhaomu/pkg/register.LawS2807CExact", spec := "lawS2807CExact", stops := ["fmt.Sprintf"], inPlace := ["fmt.Sprintf", "internal/reflectlite.TypeOf"], unfollowed := true, recurses := true, named := ["example.com/zhaomu/zhaomu/pkg/decimal.ErrRange", "example.com/zhaomu/zhaomu/pkg/decimal.ErrInexact", "example.com/zhaomu/zhaomu/pkg/decimal.pow10"], ifaces := true, apart := false, laid := [("example.com/zhaomu/zhaomu/pkg/decimal.ErrRange", laid_example_com_zhaomu_zhaomu_pkg_decimal_ErrRange), ("example.com/zhaomu/zhaomu/pkg/decimal.ErrInexact", laid_example_com_zhaomu_zhaomu_pkg_decimal_ErrInexact), ("example.com/zhaomu/zhaomu/pkg/decimal.pow10", laid_example_com_zhaomu_zhaomu_pkg_decimal_pow10)] }
/-- NO THEOREM (fmt's text is open here; it may be false): for the released tool's asking of the row's closed facts alone. THE STATEMENT IS 'LawS2807CExactToldSaid' (YbulkbfcmFmtCards.lean). -/
def LawS2807CExactFormAsk : Prop := lawS2807CExactRow.holds Ybaf.pinned (OpenSpec.ofChange lawS2807CExactSpec)

/-- ITS FALSE NEIGHBOUR: 'it returns false'. Refute it at one input. -/
def lawS2807CExactWrong : ChangeSpec := { name := "lawS2807CExact", vars := ["example.com/zhaomu/zhaomu/pkg/decimal.ErrRange", "example.com/zhaomu/zhaomu/pkg/decimal.ErrInexact", "example.com/zhaomu/zhaomu/pkg/decimal.pow10"], fn := fun _ => fun
  | [d1, d2, d3, d4, g1, g2, g3] => { results := [.lit (.bool false)], args := [d1, d2, d3, d4], vars := [g1, g2, g3] }
  | _ => none }
def LawS2807CExactWrongFormAsk : Prop := lawS2807CExactRow.holds Ybaf.pinned (OpenSpec.ofChange lawS2807CExactWrong)

/-- 'register.LawS2807CMixed': WHATEVER THE INPUT: true; the input reads as it did. -/
def lawS2807CMixedSpec : ChangeSpec := { name := "lawS2807CMixed", vars := ["example.com/zhaomu/zhaomu/pkg/decimal.ErrRange", "example.com/zhaomu/zhaomu/pkg/decimal.ErrInexact", "example.com/zhaomu/zhaomu/pkg/decimal.pow10"], fn := fun _ => fun
  | [d1, d2, d3, d4, g1, g2, g3] => { results := [.lit (.bool true)], args := [d1, d2, d3, d4], vars := [g1, g2, g3] }
  | _ => none }
def lawS2807CMixedRow : OpenClaim := { program := "ybulkbfcmfmt", sum := "fcdad9e308e5973a0e7365354e165c42492d5c1cec43da2f42a37f6a63207698", func := "example.com/zhaomu/zhaomu/pkg/register.LawS2807CMixed", spec := "lawS2807CMixed", stops := ["fmt.Sprintf"], inPlace := ["fmt.Sprintf"], named := ["example.com/zhaomu/zhaomu/pkg/decimal.ErrRange", "example.com/zhaomu/zhaomu/pkg/decimal.ErrInexact", "example.com/zhaomu/zhaomu/pkg/decimal.pow10"], ifaces := true, apart := false, laid := [("example.com/zhaomu/zhaomu/pkg/decimal.ErrRange", laid_example_com_zhaomu_zhaomu_pkg_decimal_ErrRange), ("example.com/zhaomu/zhaomu/pkg/decimal.ErrInexact", laid_example_com_zhaomu_zhaomu_pkg_decimal_ErrInexact), ("example.com/zhaomu/zhaomu/pkg/decimal.pow10", laid_example_com_zhaomu_zhaomu_pkg_decimal_pow10)] }
/-- NO THEOREM (fmt's text is open here; it may be false): for the released tool's asking of the row's closed facts alone. THE STATEMENT IS 'LawS2807CMixedToldSaid' (YbulkbfcmFmtCards.lean). -/
def LawS2807CMixedFormAsk : Prop := lawS2807CMixedRow.holds Ybaf.pinned (OpenSpec.ofChange lawS2807CMixedSpec)

/-- ITS FALSE NEIGHBOUR: 'it returns false'. Refute it at one input. -/
def lawS2807CMixedWrong : ChangeSpec := { name := "lawS2807CMixed", vars := ["example.com/zhaomu/zhaomu/pkg/decimal.ErrRange", "example.com/zhaomu/zhaomu/pkg/decimal.ErrInexact", "example.com/zhaomu/zhaomu/pkg/decimal.pow10"], fn := fun _ => fun
  | [d1, d2, d3, d4, g1, g2, g3] => { results := [.lit (.bool false)], args := [d1, d2, d3, d4], vars := [g1, g2, g3] }
  | _ => none }
def LawS2807CMixedWrongFormAsk : Prop := lawS2807CMixedRow.holds Ybaf.pinned (OpenSpec.ofChange lawS2807CMixedWrong)

end Rows
end Go.Proofs.YbulkbfcmFmt
