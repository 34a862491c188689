/-
  DERIVED. GIVEN WITH THE SEED: THE PROGRAM's TIES (one call each: nine closed facts by the kernel) AND EACH ROW's TIE, after the 31st guide's Derived/Test/Toyas{Tie, Card}.lean. No idea stands in it: it is a product of the set-up. Laid BY PROGRAM, IN A SANDBOX (cutbox-door.mjs). By AI agents, Wed Nov 11 2026. No macro, syntax, notation, axiom, sorry.
-/
import Derived.Test.YbulkbfcmFmtRows
import Derived.LaidByTextLater
import Derived.SevenTiedAt
import Derived.LaidSub
import Derived.LaidOnce
namespace Go.Proofs.YbulkbfcmFmt
open Go
set_option maxRecDepth 100000
theorem seatTie1 : Ybaf.prog.laidByTextLater [("example.com/zhaomu/zhaomu/pkg/decimal.ErrRange", Rows.laid_example_com_zhaomu_zhaomu_pkg_decimal_ErrRange), ("example.com/zhaomu/zhaomu/pkg/decimal.ErrInexact", Rows.laid_example_com_zhaomu_zhaomu_pkg_decimal_ErrInexact), ("example.com/zhaomu/zhaomu/pkg/decimal.pow10", Rows.laid_example_com_zhaomu_zhaomu_pkg_decimal_pow10)] [.sentinel, .sentinel, .called] true :=
  Program.laidByTextLater_by_one 596 8 21 (by kernel_rfl) (by kernel_rfl) (by kernel_rfl) (by kernel_rfl) (by kernel_rfl) (by kernel_rfl) (fun _ _ => by kernel_rfl)
theorem noOwnUnsafe : Ybaf.pinned.checked.prog.headLifts.contains "ownunsafe" = false := by kernel_rfl
theorem tie : Ybaf.prog.laidByTextLater [("example.com/zhaomu/zhaomu/pkg/decimal.ErrRange", Rows.laid_example_com_zhaomu_zhaomu_pkg_decimal_ErrRange), ("example.com/zhaomu/zhaomu/pkg/decimal.ErrInexact", Rows.laid_example_com_zhaomu_zhaomu_pkg_decimal_ErrInexact), ("example.com/zhaomu/zhaomu/pkg/decimal.pow10", Rows.laid_example_com_zhaomu_zhaomu_pkg_decimal_pow10)] [.sentinel, .sentinel, .called] true :=
  Program.laidByTextLater.sub seatTie1 ["example.com/zhaomu/zhaomu/pkg/decimal.ErrRange", "example.com/zhaomu/zhaomu/pkg/decimal.ErrInexact", "example.com/zhaomu/zhaomu/pkg/decimal.pow10"] (by kernel_rfl) (by kernel_rfl)
theorem lawS2807CExact_row_tie : Rows.lawS2807CExactRow.laidByTextAt .later Ybaf.pinned [.sentinel, .sentinel, .called] true :=
  OpenClaim.laidByTextAt_later rfl rfl tie noOwnUnsafe
theorem lawS2807CMixed_row_tie : Rows.lawS2807CMixedRow.laidByTextAt .later Ybaf.pinned [.sentinel, .sentinel, .called] true :=
  OpenClaim.laidByTextAt_later rfl rfl tie noOwnUnsafe
end Go.Proofs.YbulkbfcmFmt
