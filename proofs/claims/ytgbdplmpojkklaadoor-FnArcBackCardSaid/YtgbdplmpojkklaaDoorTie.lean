/-
  DERIVED. GIVEN WITH THE SEED: THE PROGRAM's TIES (one call each: nine closed facts by the kernel) AND EACH ROW's TIE, after the 31st guide's Derived/Test/Toyas{Tie, Card}.lean. No idea stands in it: it is a product of the set-up. Laid BY PROGRAM, IN A SANDBOX (cutbox-door.mjs). By AI agents, Wed Nov 11 2026. No macro, syntax, notation, axiom, sorry.
-/
import Derived.Test.YtgbdplmpojkklaaDoorRows
import Derived.LaidByTextLater
import Derived.SevenTiedAt
import Derived.LaidSub
import Derived.LaidOnce
namespace Go.Proofs.YtgbdplmpojkklaaDoor
open Go
set_option maxRecDepth 100000
theorem seatTie1 : Tryd.prog.laidByTextLater [("math._sin", Rows.laid_math_sin), ("math._cos", Rows.laid_math_cos), ("math._tanP", Rows.laid_math_tanP), ("math._tanQ", Rows.laid_math_tanQ), ("math.mPi4", Rows.laid_math_mPi4)] [.data, .data, .data, .data, .data] true :=
  Program.laidByTextLater_by_one 34 8 21 (by kernel_rfl) (by kernel_rfl) (by kernel_rfl) (by kernel_rfl) (by kernel_rfl) (by kernel_rfl) (fun _ _ => by kernel_rfl)
theorem noOwnUnsafe : Tryd.pinned.checked.prog.headLifts.contains "ownunsafe" = false := by kernel_rfl
theorem tie : Tryd.prog.laidByTextLater [("math._sin", Rows.laid_math_sin), ("math._cos", Rows.laid_math_cos), ("math._tanP", Rows.laid_math_tanP), ("math._tanQ", Rows.laid_math_tanQ), ("math.mPi4", Rows.laid_math_mPi4)] [.data, .data, .data, .data, .data] true :=
  Program.laidByTextLater.sub seatTie1 ["math._sin", "math._cos", "math._tanP", "math._tanQ", "math.mPi4"] (by kernel_rfl) (by kernel_rfl)
theorem fnArcBack_row_tie : Rows.fnArcBackRow.laidByTextAt .later Tryd.pinned [.data, .data, .data, .data, .data] true :=
  OpenClaim.laidByTextAt_later rfl rfl tie noOwnUnsafe
theorem fnNearZero_row_tie : Rows.fnNearZeroRow.laidByTextAt .later Tryd.pinned [.data, .data, .data, .data, .data] true :=
  OpenClaim.laidByTextAt_later rfl rfl tie noOwnUnsafe
theorem fnTanIsQuotient_row_tie : Rows.fnTanIsQuotientRow.laidByTextAt .later Tryd.pinned [.data, .data, .data, .data, .data] true :=
  OpenClaim.laidByTextAt_later rfl rfl tie noOwnUnsafe
theorem fnTurnedRound_row_tie : Rows.fnTurnedRoundRow.laidByTextAt .later Tryd.pinned [.data, .data, .data, .data, .data] true :=
  OpenClaim.laidByTextAt_later rfl rfl tie noOwnUnsafe
theorem tie2 : Tryd.prog.laidByTextLater [("math._sin", Rows.laid_math_sin), ("math._cos", Rows.laid_math_cos), ("math.mPi4", Rows.laid_math_mPi4)] [.data, .data, .data] true :=
  Program.laidByTextLater.sub seatTie1 ["math._sin", "math._cos", "math.mPi4"] (by kernel_rfl) (by kernel_rfl)
theorem fnSincosCases_row_tie : Rows.fnSincosCasesRow.laidByTextAt .later Tryd.pinned [.data, .data, .data] true :=
  OpenClaim.laidByTextAt_later rfl rfl tie2 noOwnUnsafe
theorem fnCosCases_row_tie : Rows.fnCosCasesRow.laidByTextAt .later Tryd.pinned [.data, .data, .data] true :=
  OpenClaim.laidByTextAt_later rfl rfl tie2 noOwnUnsafe
theorem fnSinCases_row_tie : Rows.fnSinCasesRow.laidByTextAt .later Tryd.pinned [.data, .data, .data] true :=
  OpenClaim.laidByTextAt_later rfl rfl tie2 noOwnUnsafe
theorem fnRound_row_tie : Rows.fnRoundRow.laidByTextAt .later Tryd.pinned [.data, .data, .data] true :=
  OpenClaim.laidByTextAt_later rfl rfl tie2 noOwnUnsafe
theorem fnSincosBoth_row_tie : Rows.fnSincosBothRow.laidByTextAt .later Tryd.pinned [.data, .data, .data] true :=
  OpenClaim.laidByTextAt_later rfl rfl tie2 noOwnUnsafe
theorem tie3 : Tryd.prog.laidByTextLater [("math._tanP", Rows.laid_math_tanP), ("math._tanQ", Rows.laid_math_tanQ), ("math.mPi4", Rows.laid_math_mPi4)] [.data, .data, .data] true :=
  Program.laidByTextLater.sub seatTie1 ["math._tanP", "math._tanQ", "math.mPi4"] (by kernel_rfl) (by kernel_rfl)
theorem fnTanCases_row_tie : Rows.fnTanCasesRow.laidByTextAt .later Tryd.pinned [.data, .data, .data] true :=
  OpenClaim.laidByTextAt_later rfl rfl tie3 noOwnUnsafe
theorem fnArcBackUpto_row_tie : Rows.fnArcBackUptoRow.laidByTextAt .later Tryd.pinned [.data, .data, .data, .data, .data] true :=
  OpenClaim.laidByTextAt_later rfl rfl tie noOwnUnsafe
theorem fnNearZeroUpto_row_tie : Rows.fnNearZeroUptoRow.laidByTextAt .later Tryd.pinned [.data, .data, .data, .data, .data] true :=
  OpenClaim.laidByTextAt_later rfl rfl tie noOwnUnsafe
theorem fnSincosCasesUpto_row_tie : Rows.fnSincosCasesUptoRow.laidByTextAt .later Tryd.pinned [.data, .data, .data] true :=
  OpenClaim.laidByTextAt_later rfl rfl tie2 noOwnUnsafe
theorem fnTanCasesUpto_row_tie : Rows.fnTanCasesUptoRow.laidByTextAt .later Tryd.pinned [.data, .data, .data] true :=
  OpenClaim.laidByTextAt_later rfl rfl tie3 noOwnUnsafe
theorem fnCosCasesUpto_row_tie : Rows.fnCosCasesUptoRow.laidByTextAt .later Tryd.pinned [.data, .data, .data] true :=
  OpenClaim.laidByTextAt_later rfl rfl tie2 noOwnUnsafe
theorem fnSinCasesUpto_row_tie : Rows.fnSinCasesUptoRow.laidByTextAt .later Tryd.pinned [.data, .data, .data] true :=
  OpenClaim.laidByTextAt_later rfl rfl tie2 noOwnUnsafe
theorem fnRoundUpto_row_tie : Rows.fnRoundUptoRow.laidByTextAt .later Tryd.pinned [.data, .data, .data] true :=
  OpenClaim.laidByTextAt_later rfl rfl tie2 noOwnUnsafe
theorem fnSincosBothUpto_row_tie : Rows.fnSincosBothUptoRow.laidByTextAt .later Tryd.pinned [.data, .data, .data] true :=
  OpenClaim.laidByTextAt_later rfl rfl tie2 noOwnUnsafe
theorem fnTanIsQuotientUpto_row_tie : Rows.fnTanIsQuotientUptoRow.laidByTextAt .later Tryd.pinned [.data, .data, .data, .data, .data] true :=
  OpenClaim.laidByTextAt_later rfl rfl tie noOwnUnsafe
theorem fnTurnedRoundUpto_row_tie : Rows.fnTurnedRoundUptoRow.laidByTextAt .later Tryd.pinned [.data, .data, .data, .data, .data] true :=
  OpenClaim.laidByTextAt_later rfl rfl tie noOwnUnsafe
end Go.Proofs.YtgbdplmpojkklaaDoor
