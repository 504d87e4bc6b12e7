/-
  DERIVED. GIVEN WITH THE SEED: THE PROGRAM's TIES (one call each: nine closed facts by the kernel) AND EACH ROW's TIE, after the 31st guide's Derived/Test/Toyas{Tie, Card}.lean. No idea stands in it: it is a product of the set-up. Laid BY PROGRAM, IN A SANDBOX (cutbox-door.mjs). By AI agents, Wed Nov 11 2026. No macro, syntax, notation, axiom, sorry.
-/
import Derived.Test.YthmopakaikhjlaaGreatDoorRows
import Derived.LaidByTextLater
import Derived.SevenTiedAt
import Derived.LaidSub
import Derived.LaidOnce
namespace Go.Proofs.YthmopakaikhjlaaGreatDoor
open Go
set_option maxRecDepth 100000
theorem seatTie1 : Tryz.prog.laidByTextLater [("io.EOF", Rows.laid_io_EOF), ("mssqltds/pub/bigall.errNoDigits", Rows.laid_mssqltds_pub_bigall_errNoDigits), ("mssqltds/pub/bigall.errInvalSep", Rows.laid_mssqltds_pub_bigall_errInvalSep), ("mssqltds/pub/bigall.karatsubaThreshold", Rows.laid_mssqltds_pub_bigall_karatsubaThreshold), ("mssqltds/pub/bigall.basicSqrThreshold", Rows.laid_mssqltds_pub_bigall_basicSqrThreshold), ("mssqltds/pub/bigall.karatsubaSqrThreshold", Rows.laid_mssqltds_pub_bigall_karatsubaSqrThreshold)] [.sentinel, .sentinel, .sentinel, .data, .data, .data] true :=
  Program.laidByTextLater_by_one 78 8 2 (by kernel_rfl) (by kernel_rfl) (by kernel_rfl) (by kernel_rfl) (by kernel_rfl) (by kernel_rfl) (fun _ _ => by kernel_rfl)
theorem noOwnUnsafe : Tryz.pinned.checked.prog.headLifts.contains "ownunsafe" = false := by kernel_rfl
theorem tie : Tryz.prog.laidByTextLater [("io.EOF", Rows.laid_io_EOF), ("mssqltds/pub/bigall.errNoDigits", Rows.laid_mssqltds_pub_bigall_errNoDigits), ("mssqltds/pub/bigall.errInvalSep", Rows.laid_mssqltds_pub_bigall_errInvalSep), ("mssqltds/pub/bigall.karatsubaThreshold", Rows.laid_mssqltds_pub_bigall_karatsubaThreshold), ("mssqltds/pub/bigall.basicSqrThreshold", Rows.laid_mssqltds_pub_bigall_basicSqrThreshold), ("mssqltds/pub/bigall.karatsubaSqrThreshold", Rows.laid_mssqltds_pub_bigall_karatsubaSqrThreshold)] [.sentinel, .sentinel, .sentinel, .data, .data, .data] true :=
  Program.laidByTextLater.sub seatTie1 ["io.EOF", "mssqltds/pub/bigall.errNoDigits", "mssqltds/pub/bigall.errInvalSep", "mssqltds/pub/bigall.karatsubaThreshold", "mssqltds/pub/bigall.basicSqrThreshold", "mssqltds/pub/bigall.karatsubaSqrThreshold"] (by kernel_rfl) (by kernel_rfl)
theorem fnDecimal_row_tie : Rows.fnDecimalRow.laidByTextAt .later Tryz.pinned [.sentinel, .sentinel, .sentinel, .data, .data, .data] true :=
  OpenClaim.laidByTextAt_later rfl rfl tie noOwnUnsafe
theorem fnDecimalUpto_row_tie : Rows.fnDecimalUptoRow.laidByTextAt .later Tryz.pinned [.sentinel, .sentinel, .sentinel, .data, .data, .data] true :=
  OpenClaim.laidByTextAt_later rfl rfl tie noOwnUnsafe
end Go.Proofs.YthmopakaikhjlaaGreatDoor
