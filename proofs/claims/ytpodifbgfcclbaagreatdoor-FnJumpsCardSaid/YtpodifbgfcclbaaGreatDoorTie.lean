/-
  DERIVED. GIVEN WITH THE SEED: THE PROGRAM's TIES (one call each: nine closed facts by the kernel) AND EACH ROW's TIE, after the 31st guide's Derived/Test/Toyas{Tie, Card}.lean. No idea stands in it: it is a product of the set-up. Laid BY PROGRAM, IN A SANDBOX (cutbox-door.mjs). By AI agents, Wed Nov 11 2026. No macro, syntax, notation, axiom, sorry.
-/
import Derived.Test.YtpodifbgfcclbaaGreatDoorRows
import Derived.LaidByTextLater
import Derived.SevenTiedAt
import Derived.LaidSub
import Derived.LaidOnce
namespace Go.Proofs.YtpodifbgfcclbaaGreatDoor
open Go
set_option maxRecDepth 100000
theorem seatTie1 : Tryz.prog.laidByTextLater [("math/bits.deBruijn32tab", Rows.laid_math_bits_deBruijn32tab), ("math/bits.deBruijn64tab", Rows.laid_math_bits_deBruijn64tab), ("internal/strconv.uint64pow10", Rows.laid_internal_strconv_uint64pow10)] [.data, .data, .data] true :=
  Program.laidByTextLater_by_one 24 8 65 (by kernel_rfl) (by kernel_rfl) (by kernel_rfl) (by kernel_rfl) (by kernel_rfl) (by kernel_rfl) (fun _ _ => by kernel_rfl)
theorem noOwnUnsafe : Tryz.pinned.checked.prog.headLifts.contains "ownunsafe" = false := by kernel_rfl
theorem tie : Tryz.prog.laidByTextLater [("math/bits.deBruijn32tab", Rows.laid_math_bits_deBruijn32tab), ("math/bits.deBruijn64tab", Rows.laid_math_bits_deBruijn64tab), ("internal/strconv.uint64pow10", Rows.laid_internal_strconv_uint64pow10)] [.data, .data, .data] true :=
  Program.laidByTextLater.sub seatTie1 ["math/bits.deBruijn32tab", "math/bits.deBruijn64tab", "internal/strconv.uint64pow10"] (by kernel_rfl) (by kernel_rfl)
theorem fnBackward_row_tie : Rows.fnBackwardRow.laidByTextAt .later Tryz.pinned [.data, .data, .data] true :=
  OpenClaim.laidByTextAt_later rfl rfl tie noOwnUnsafe
theorem fnBlock_row_tie : Rows.fnBlockRow.laidByTextAt .later Tryz.pinned [.data, .data, .data] true :=
  OpenClaim.laidByTextAt_later rfl rfl tie noOwnUnsafe
theorem fnCases_row_tie : Rows.fnCasesRow.laidByTextAt .later Tryz.pinned [.data, .data, .data] true :=
  OpenClaim.laidByTextAt_later rfl rfl tie noOwnUnsafe
theorem fnDefault_row_tie : Rows.fnDefaultRow.laidByTextAt .later Tryz.pinned [.data, .data, .data] true :=
  OpenClaim.laidByTextAt_later rfl rfl tie noOwnUnsafe
theorem fnEnds_row_tie : Rows.fnEndsRow.laidByTextAt .later Tryz.pinned [.data, .data, .data] true :=
  OpenClaim.laidByTextAt_later rfl rfl tie noOwnUnsafe
theorem fnForward_row_tie : Rows.fnForwardRow.laidByTextAt .later Tryz.pinned [.data, .data, .data] true :=
  OpenClaim.laidByTextAt_later rfl rfl tie noOwnUnsafe
theorem fnIf_row_tie : Rows.fnIfRow.laidByTextAt .later Tryz.pinned [.data, .data, .data] true :=
  OpenClaim.laidByTextAt_later rfl rfl tie noOwnUnsafe
theorem fnInBlock_row_tie : Rows.fnInBlockRow.laidByTextAt .later Tryz.pinned [.data, .data, .data] true :=
  OpenClaim.laidByTextAt_later rfl rfl tie noOwnUnsafe
theorem fnIntoBlock_row_tie : Rows.fnIntoBlockRow.laidByTextAt .later Tryz.pinned [.data, .data, .data] true :=
  OpenClaim.laidByTextAt_later rfl rfl tie noOwnUnsafe
theorem fnJumps_row_tie : Rows.fnJumpsRow.laidByTextAt .later Tryz.pinned [.data, .data, .data] true :=
  OpenClaim.laidByTextAt_later rfl rfl tie noOwnUnsafe
theorem fnLast_row_tie : Rows.fnLastRow.laidByTextAt .later Tryz.pinned [.data, .data, .data] true :=
  OpenClaim.laidByTextAt_later rfl rfl tie noOwnUnsafe
theorem fnLeft_row_tie : Rows.fnLeftRow.laidByTextAt .later Tryz.pinned [.data, .data, .data] true :=
  OpenClaim.laidByTextAt_later rfl rfl tie noOwnUnsafe
theorem fnLiteral_row_tie : Rows.fnLiteralRow.laidByTextAt .later Tryz.pinned [.data, .data, .data] true :=
  OpenClaim.laidByTextAt_later rfl rfl tie noOwnUnsafe
theorem fnLoop_row_tie : Rows.fnLoopRow.laidByTextAt .later Tryz.pinned [.data, .data, .data] true :=
  OpenClaim.laidByTextAt_later rfl rfl tie noOwnUnsafe
theorem fnRenamed_row_tie : Rows.fnRenamedRow.laidByTextAt .later Tryz.pinned [.data, .data, .data] true :=
  OpenClaim.laidByTextAt_later rfl rfl tie noOwnUnsafe
theorem fnTurned_row_tie : Rows.fnTurnedRow.laidByTextAt .later Tryz.pinned [.data, .data, .data] true :=
  OpenClaim.laidByTextAt_later rfl rfl tie noOwnUnsafe
theorem fnTwice_row_tie : Rows.fnTwiceRow.laidByTextAt .later Tryz.pinned [.data, .data, .data] true :=
  OpenClaim.laidByTextAt_later rfl rfl tie noOwnUnsafe
theorem fnUnused_row_tie : Rows.fnUnusedRow.laidByTextAt .later Tryz.pinned [.data, .data, .data] true :=
  OpenClaim.laidByTextAt_later rfl rfl tie noOwnUnsafe
theorem fnBackwardUpto_row_tie : Rows.fnBackwardUptoRow.laidByTextAt .later Tryz.pinned [.data, .data, .data] true :=
  OpenClaim.laidByTextAt_later rfl rfl tie noOwnUnsafe
theorem fnBlockUpto_row_tie : Rows.fnBlockUptoRow.laidByTextAt .later Tryz.pinned [.data, .data, .data] true :=
  OpenClaim.laidByTextAt_later rfl rfl tie noOwnUnsafe
theorem fnCasesUpto_row_tie : Rows.fnCasesUptoRow.laidByTextAt .later Tryz.pinned [.data, .data, .data] true :=
  OpenClaim.laidByTextAt_later rfl rfl tie noOwnUnsafe
theorem fnDefaultUpto_row_tie : Rows.fnDefaultUptoRow.laidByTextAt .later Tryz.pinned [.data, .data, .data] true :=
  OpenClaim.laidByTextAt_later rfl rfl tie noOwnUnsafe
theorem fnEndsUpto_row_tie : Rows.fnEndsUptoRow.laidByTextAt .later Tryz.pinned [.data, .data, .data] true :=
  OpenClaim.laidByTextAt_later rfl rfl tie noOwnUnsafe
theorem fnForwardUpto_row_tie : Rows.fnForwardUptoRow.laidByTextAt .later Tryz.pinned [.data, .data, .data] true :=
  OpenClaim.laidByTextAt_later rfl rfl tie noOwnUnsafe
theorem fnIfUpto_row_tie : Rows.fnIfUptoRow.laidByTextAt .later Tryz.pinned [.data, .data, .data] true :=
  OpenClaim.laidByTextAt_later rfl rfl tie noOwnUnsafe
theorem fnInBlockUpto_row_tie : Rows.fnInBlockUptoRow.laidByTextAt .later Tryz.pinned [.data, .data, .data] true :=
  OpenClaim.laidByTextAt_later rfl rfl tie noOwnUnsafe
theorem fnIntoBlockUpto_row_tie : Rows.fnIntoBlockUptoRow.laidByTextAt .later Tryz.pinned [.data, .data, .data] true :=
  OpenClaim.laidByTextAt_later rfl rfl tie noOwnUnsafe
theorem fnJumpsUpto_row_tie : Rows.fnJumpsUptoRow.laidByTextAt .later Tryz.pinned [.data, .data, .data] true :=
  OpenClaim.laidByTextAt_later rfl rfl tie noOwnUnsafe
theorem fnLastUpto_row_tie : Rows.fnLastUptoRow.laidByTextAt .later Tryz.pinned [.data, .data, .data] true :=
  OpenClaim.laidByTextAt_later rfl rfl tie noOwnUnsafe
theorem fnLeftUpto_row_tie : Rows.fnLeftUptoRow.laidByTextAt .later Tryz.pinned [.data, .data, .data] true :=
  OpenClaim.laidByTextAt_later rfl rfl tie noOwnUnsafe
theorem fnLiteralUpto_row_tie : Rows.fnLiteralUptoRow.laidByTextAt .later Tryz.pinned [.data, .data, .data] true :=
  OpenClaim.laidByTextAt_later rfl rfl tie noOwnUnsafe
theorem fnLoopUpto_row_tie : Rows.fnLoopUptoRow.laidByTextAt .later Tryz.pinned [.data, .data, .data] true :=
  OpenClaim.laidByTextAt_later rfl rfl tie noOwnUnsafe
theorem fnRenamedUpto_row_tie : Rows.fnRenamedUptoRow.laidByTextAt .later Tryz.pinned [.data, .data, .data] true :=
  OpenClaim.laidByTextAt_later rfl rfl tie noOwnUnsafe
theorem fnTurnedUpto_row_tie : Rows.fnTurnedUptoRow.laidByTextAt .later Tryz.pinned [.data, .data, .data] true :=
  OpenClaim.laidByTextAt_later rfl rfl tie noOwnUnsafe
theorem fnTwiceUpto_row_tie : Rows.fnTwiceUptoRow.laidByTextAt .later Tryz.pinned [.data, .data, .data] true :=
  OpenClaim.laidByTextAt_later rfl rfl tie noOwnUnsafe
theorem fnUnusedUpto_row_tie : Rows.fnUnusedUptoRow.laidByTextAt .later Tryz.pinned [.data, .data, .data] true :=
  OpenClaim.laidByTextAt_later rfl rfl tie noOwnUnsafe
end Go.Proofs.YtpodifbgfcclbaaGreatDoor
