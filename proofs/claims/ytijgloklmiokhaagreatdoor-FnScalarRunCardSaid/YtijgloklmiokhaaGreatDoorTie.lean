/-
  DERIVED. GIVEN WITH THE SEED: THE PROGRAM's TIES (one call each: nine closed facts by the kernel) AND EACH ROW's TIE, after the 31st guide's Derived/Test/Toyas{Tie, Card}.lean. No idea stands in it: it is a product of the set-up. Laid BY PROGRAM, IN A SANDBOX (cutbox-door.mjs). By AI agents, Wed Nov 11 2026. No macro, syntax, notation, axiom, sorry.
-/
import Derived.Test.YtijgloklmiokhaaGreatDoorRows
import Derived.LaidByTextLater
import Derived.SevenTiedAt
import Derived.LaidSub
import Derived.LaidOnce
namespace Go.Proofs.YtijgloklmiokhaaGreatDoor
open Go
set_option maxRecDepth 100000
theorem seatTie1 : Tryz.prog.laidByTextLater [("io.EOF", Rows.laid_io_EOF), ("pub-sigillum/pub/bigall.errNoDigits", Rows.laid_pub_sigillum_pub_bigall_errNoDigits), ("pub-sigillum/pub/bigall.errInvalSep", Rows.laid_pub_sigillum_pub_bigall_errInvalSep), ("pub-sigillum/pub/bigall.divRecursiveThreshold", Rows.laid_pub_sigillum_pub_bigall_divRecursiveThreshold), ("pub-sigillum/pub/bigall.karatsubaThreshold", Rows.laid_pub_sigillum_pub_bigall_karatsubaThreshold), ("pub-sigillum/pub/bigall.basicSqrThreshold", Rows.laid_pub_sigillum_pub_bigall_basicSqrThreshold), ("pub-sigillum/pub/bigall.karatsubaSqrThreshold", Rows.laid_pub_sigillum_pub_bigall_karatsubaSqrThreshold)] [.sentinel, .sentinel, .sentinel, .data, .data, .data, .data] true :=
  Program.laidByTextLater_by_one 82 8 2 (by kernel_rfl) (by kernel_rfl) (by kernel_rfl) (by kernel_rfl) (by kernel_rfl) (by kernel_rfl) (fun _ _ => by kernel_rfl)
theorem noOwnUnsafe : Tryz.pinned.checked.prog.headLifts.contains "ownunsafe" = false := by kernel_rfl
theorem tie : Tryz.prog.laidByTextLater [("io.EOF", Rows.laid_io_EOF), ("pub-sigillum/pub/bigall.errNoDigits", Rows.laid_pub_sigillum_pub_bigall_errNoDigits), ("pub-sigillum/pub/bigall.errInvalSep", Rows.laid_pub_sigillum_pub_bigall_errInvalSep), ("pub-sigillum/pub/bigall.divRecursiveThreshold", Rows.laid_pub_sigillum_pub_bigall_divRecursiveThreshold), ("pub-sigillum/pub/bigall.karatsubaThreshold", Rows.laid_pub_sigillum_pub_bigall_karatsubaThreshold), ("pub-sigillum/pub/bigall.basicSqrThreshold", Rows.laid_pub_sigillum_pub_bigall_basicSqrThreshold), ("pub-sigillum/pub/bigall.karatsubaSqrThreshold", Rows.laid_pub_sigillum_pub_bigall_karatsubaSqrThreshold)] [.sentinel, .sentinel, .sentinel, .data, .data, .data, .data] true :=
  Program.laidByTextLater.sub seatTie1 ["io.EOF", "pub-sigillum/pub/bigall.errNoDigits", "pub-sigillum/pub/bigall.errInvalSep", "pub-sigillum/pub/bigall.divRecursiveThreshold", "pub-sigillum/pub/bigall.karatsubaThreshold", "pub-sigillum/pub/bigall.basicSqrThreshold", "pub-sigillum/pub/bigall.karatsubaSqrThreshold"] (by kernel_rfl) (by kernel_rfl)
theorem fnScalarRun_row_tie : Rows.fnScalarRunRow.laidByTextAt .later Tryz.pinned [.sentinel, .sentinel, .sentinel, .data, .data, .data, .data] true :=
  OpenClaim.laidByTextAt_later rfl rfl tie noOwnUnsafe
theorem fnScalarInverse_row_tie : Rows.fnScalarInverseRow.laidByTextAt .later Tryz.pinned [.sentinel, .sentinel, .sentinel, .data, .data, .data, .data] true :=
  OpenClaim.laidByTextAt_later rfl rfl tie noOwnUnsafe
theorem fnScalarRunUpto_row_tie : Rows.fnScalarRunUptoRow.laidByTextAt .later Tryz.pinned [.sentinel, .sentinel, .sentinel, .data, .data, .data, .data] true :=
  OpenClaim.laidByTextAt_later rfl rfl tie noOwnUnsafe
theorem fnScalarInverseUpto_row_tie : Rows.fnScalarInverseUptoRow.laidByTextAt .later Tryz.pinned [.sentinel, .sentinel, .sentinel, .data, .data, .data, .data] true :=
  OpenClaim.laidByTextAt_later rfl rfl tie noOwnUnsafe
end Go.Proofs.YtijgloklmiokhaaGreatDoor
