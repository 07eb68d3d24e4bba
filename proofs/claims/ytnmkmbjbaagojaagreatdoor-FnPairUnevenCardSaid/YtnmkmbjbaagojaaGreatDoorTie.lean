/-
  DERIVED. GIVEN WITH THE SEED: THE PROGRAM's TIES (one call each: nine closed facts by the kernel) AND EACH ROW's TIE, after the 31st guide's Derived/Test/Toyas{Tie, Card}.lean. No idea stands in it: it is a product of the set-up. Laid BY PROGRAM, IN A SANDBOX (cutbox-door.mjs). By AI agents, Wed Nov 11 2026. No macro, syntax, notation, axiom, sorry.
-/
import Derived.Test.YtnmkmbjbaagojaaGreatDoorRows
import Derived.LaidByTextLater
import Derived.SevenTiedAt
import Derived.LaidSub
import Derived.LaidOnce
namespace Go.Proofs.YtnmkmbjbaagojaaGreatDoor
open Go
set_option maxRecDepth 100000
theorem seatTie1 : Tryz.prog.laidByTextLater [("loop.example/pub-g03346/pub/gnarkcrypto/ecc/bn254/fp.errInvalidEncoding", Rows.laid_loop_example_pub_g03346_pub_gnarkcrypto_ecc_bn254_fp_errInvalidEncoding), ("io.EOF", Rows.laid_io_EOF), ("loop.example/pub-g03346/pub/bigall.errNoDigits", Rows.laid_loop_example_pub_g03346_pub_bigall_errNoDigits), ("loop.example/pub-g03346/pub/bigall.errInvalSep", Rows.laid_loop_example_pub_g03346_pub_bigall_errInvalSep)] [.sentinel, .sentinel, .sentinel, .sentinel] true :=
  Program.laidByTextLater_by_one 85 8 2 (by kernel_rfl) (by kernel_rfl) (by kernel_rfl) (by kernel_rfl) (by kernel_rfl) (by kernel_rfl) (fun _ _ => by kernel_rfl)
theorem noOwnUnsafe : Tryz.pinned.checked.prog.headLifts.contains "ownunsafe" = false := by kernel_rfl
theorem tie : Tryz.prog.laidByTextLater [("loop.example/pub-g03346/pub/gnarkcrypto/ecc/bn254/fp.errInvalidEncoding", Rows.laid_loop_example_pub_g03346_pub_gnarkcrypto_ecc_bn254_fp_errInvalidEncoding), ("io.EOF", Rows.laid_io_EOF), ("loop.example/pub-g03346/pub/bigall.errNoDigits", Rows.laid_loop_example_pub_g03346_pub_bigall_errNoDigits), ("loop.example/pub-g03346/pub/bigall.errInvalSep", Rows.laid_loop_example_pub_g03346_pub_bigall_errInvalSep)] [.sentinel, .sentinel, .sentinel, .sentinel] true :=
  Program.laidByTextLater.sub seatTie1 ["loop.example/pub-g03346/pub/gnarkcrypto/ecc/bn254/fp.errInvalidEncoding", "io.EOF", "loop.example/pub-g03346/pub/bigall.errNoDigits", "loop.example/pub-g03346/pub/bigall.errInvalSep"] (by kernel_rfl) (by kernel_rfl)
theorem fnPairUneven_row_tie : Rows.fnPairUnevenRow.laidByTextAt .later Tryz.pinned [.sentinel, .sentinel, .sentinel, .sentinel] true :=
  OpenClaim.laidByTextAt_later rfl rfl tie noOwnUnsafe
theorem fnPairUnevenUpto_row_tie : Rows.fnPairUnevenUptoRow.laidByTextAt .later Tryz.pinned [.sentinel, .sentinel, .sentinel, .sentinel] true :=
  OpenClaim.laidByTextAt_later rfl rfl tie noOwnUnsafe
end Go.Proofs.YtnmkmbjbaagojaaGreatDoor
