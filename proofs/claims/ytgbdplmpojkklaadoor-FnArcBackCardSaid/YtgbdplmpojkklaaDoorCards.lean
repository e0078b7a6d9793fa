/-
  DERIVED. GIVEN WITH THE SEED: THE CARDS: each row of YtgbdplmpojkklaaDoorRows.lean that lists a variable, with what it lists TIED to the program's text (the seventh form; the later family's looks); each row that meets fmt, with fmt's text TOLD by the authors' own Lean function (tested against real Go, not proved from fmt's source: count such statements apart). THE CARD IS WHAT COUNTS. Prove the row's statement (the work); the ties are given (YtgbdplmpojkklaaDoorTie.lean); close each card by the builder's one call (the guide's Derived/Test/ToyasCard.lean, 'card_holds'). Laid BY PROGRAM, IN A SANDBOX (cutbox-door.mjs). By AI agents, Wed Nov 11 2026. No macro, syntax, notation, axiom, sorry.
-/
import Derived.Test.YtgbdplmpojkklaaDoorRows
import GoSem.ClaimSeven
namespace Go.Proofs.YtgbdplmpojkklaaDoor
namespace Rows

/-- THE TIED CARD OF 'laws.FnArcBack'. -/
def fnArcBackCard : Claim7 := { stood := { row := fnArcBackRow, standIns := [], harness := (true, "e9db82c22d01de7e66c66a64c0e1d02dd762c776abded20af7b85863d09021fb"), looks := false }, kinds := [], alts := [], laidByText := true, laidKinds := [.data, .data, .data, .data, .data], laidTests := true, laidLooks := .later }
def FnArcBackCardSaid : Prop := Claim7.holds Tryd.pinned (.plain (OpenSpec.ofChange fnArcBackSpec)) fnArcBackCard

/-- THE TIED CARD OF 'laws.FnNearZero'. -/
def fnNearZeroCard : Claim7 := { stood := { row := fnNearZeroRow, standIns := [], harness := (true, "e9db82c22d01de7e66c66a64c0e1d02dd762c776abded20af7b85863d09021fb"), looks := false }, kinds := [], alts := [], laidByText := true, laidKinds := [.data, .data, .data, .data, .data], laidTests := true, laidLooks := .later }
def FnNearZeroCardSaid : Prop := Claim7.holds Tryd.pinned (.plain (OpenSpec.ofChange fnNearZeroSpec)) fnNearZeroCard

/-- THE TIED CARD OF 'laws.FnSincosCases'. -/
def fnSincosCasesCard : Claim7 := { stood := { row := fnSincosCasesRow, standIns := [], harness := (true, "e9db82c22d01de7e66c66a64c0e1d02dd762c776abded20af7b85863d09021fb"), looks := false }, kinds := [], alts := [], laidByText := true, laidKinds := [.data, .data, .data], laidTests := true, laidLooks := .later }
def FnSincosCasesCardSaid : Prop := Claim7.holds Tryd.pinned (.plain (OpenSpec.ofChange fnSincosCasesSpec)) fnSincosCasesCard

/-- THE TIED CARD OF 'laws.FnTanCases'. -/
def fnTanCasesCard : Claim7 := { stood := { row := fnTanCasesRow, standIns := [], harness := (true, "e9db82c22d01de7e66c66a64c0e1d02dd762c776abded20af7b85863d09021fb"), looks := false }, kinds := [], alts := [], laidByText := true, laidKinds := [.data, .data, .data], laidTests := true, laidLooks := .later }
def FnTanCasesCardSaid : Prop := Claim7.holds Tryd.pinned (.plain (OpenSpec.ofChange fnTanCasesSpec)) fnTanCasesCard

/-- THE TIED CARD OF 'laws.FnCosCases'. -/
def fnCosCasesCard : Claim7 := { stood := { row := fnCosCasesRow, standIns := [], harness := (true, "e9db82c22d01de7e66c66a64c0e1d02dd762c776abded20af7b85863d09021fb"), looks := false }, kinds := [], alts := [], laidByText := true, laidKinds := [.data, .data, .data], laidTests := true, laidLooks := .later }
def FnCosCasesCardSaid : Prop := Claim7.holds Tryd.pinned (.plain (OpenSpec.ofChange fnCosCasesSpec)) fnCosCasesCard

/-- THE TIED CARD OF 'laws.FnSinCases'. -/
def fnSinCasesCard : Claim7 := { stood := { row := fnSinCasesRow, standIns := [], harness := (true, "e9db82c22d01de7e66c66a64c0e1d02dd762c776abded20af7b85863d09021fb"), looks := false }, kinds := [], alts := [], laidByText := true, laidKinds := [.data, .data, .data], laidTests := true, laidLooks := .later }
def FnSinCasesCardSaid : Prop := Claim7.holds Tryd.pinned (.plain (OpenSpec.ofChange fnSinCasesSpec)) fnSinCasesCard

/-- THE TIED CARD OF 'laws.FnRound'. -/
def fnRoundCard : Claim7 := { stood := { row := fnRoundRow, standIns := [], harness := (true, "e9db82c22d01de7e66c66a64c0e1d02dd762c776abded20af7b85863d09021fb"), looks := false }, kinds := [], alts := [], laidByText := true, laidKinds := [.data, .data, .data], laidTests := true, laidLooks := .later }
def FnRoundCardSaid : Prop := Claim7.holds Tryd.pinned (.plain (OpenSpec.ofChange fnRoundSpec)) fnRoundCard

/-- THE TIED CARD OF 'laws.FnSincosBoth'. -/
def fnSincosBothCard : Claim7 := { stood := { row := fnSincosBothRow, standIns := [], harness := (true, "e9db82c22d01de7e66c66a64c0e1d02dd762c776abded20af7b85863d09021fb"), looks := false }, kinds := [], alts := [], laidByText := true, laidKinds := [.data, .data, .data], laidTests := true, laidLooks := .later }
def FnSincosBothCardSaid : Prop := Claim7.holds Tryd.pinned (.plain (OpenSpec.ofChange fnSincosBothSpec)) fnSincosBothCard

/-- THE TIED CARD OF 'laws.FnTanIsQuotient'. -/
def fnTanIsQuotientCard : Claim7 := { stood := { row := fnTanIsQuotientRow, standIns := [], harness := (true, "e9db82c22d01de7e66c66a64c0e1d02dd762c776abded20af7b85863d09021fb"), looks := false }, kinds := [], alts := [], laidByText := true, laidKinds := [.data, .data, .data, .data, .data], laidTests := true, laidLooks := .later }
def FnTanIsQuotientCardSaid : Prop := Claim7.holds Tryd.pinned (.plain (OpenSpec.ofChange fnTanIsQuotientSpec)) fnTanIsQuotientCard

/-- THE TIED CARD OF 'laws.FnTurnedRound'. -/
def fnTurnedRoundCard : Claim7 := { stood := { row := fnTurnedRoundRow, standIns := [], harness := (true, "e9db82c22d01de7e66c66a64c0e1d02dd762c776abded20af7b85863d09021fb"), looks := false }, kinds := [], alts := [], laidByText := true, laidKinds := [.data, .data, .data, .data, .data], laidTests := true, laidLooks := .later }
def FnTurnedRoundCardSaid : Prop := Claim7.holds Tryd.pinned (.plain (OpenSpec.ofChange fnTurnedRoundSpec)) fnTurnedRoundCard

/-- THE SECOND FORM's CARD OF 'laws.FnArcBack'. -/
def fnArcBackUptoCard : Claim7 := { stood := { row := fnArcBackUptoRow, standIns := [], harness := (true, "e9db82c22d01de7e66c66a64c0e1d02dd762c776abded20af7b85863d09021fb"), looks := false }, kinds := [], alts := [], laidByText := true, laidKinds := [.data, .data, .data, .data, .data], laidTests := true, laidLooks := .later }
def FnArcBackUptoCardSaid : Prop := Claim7.holds Tryd.pinned (.plain (OpenSpec.upto fnArcBackSpec)) fnArcBackUptoCard

/-- THE SECOND FORM's CARD OF 'laws.FnNearZero'. -/
def fnNearZeroUptoCard : Claim7 := { stood := { row := fnNearZeroUptoRow, standIns := [], harness := (true, "e9db82c22d01de7e66c66a64c0e1d02dd762c776abded20af7b85863d09021fb"), looks := false }, kinds := [], alts := [], laidByText := true, laidKinds := [.data, .data, .data, .data, .data], laidTests := true, laidLooks := .later }
def FnNearZeroUptoCardSaid : Prop := Claim7.holds Tryd.pinned (.plain (OpenSpec.upto fnNearZeroSpec)) fnNearZeroUptoCard

/-- THE SECOND FORM's CARD OF 'laws.FnSincosCases'. -/
def fnSincosCasesUptoCard : Claim7 := { stood := { row := fnSincosCasesUptoRow, standIns := [], harness := (true, "e9db82c22d01de7e66c66a64c0e1d02dd762c776abded20af7b85863d09021fb"), looks := false }, kinds := [], alts := [], laidByText := true, laidKinds := [.data, .data, .data], laidTests := true, laidLooks := .later }
def FnSincosCasesUptoCardSaid : Prop := Claim7.holds Tryd.pinned (.plain (OpenSpec.upto fnSincosCasesSpec)) fnSincosCasesUptoCard

/-- THE SECOND FORM's CARD OF 'laws.FnTanCases'. -/
def fnTanCasesUptoCard : Claim7 := { stood := { row := fnTanCasesUptoRow, standIns := [], harness := (true, "e9db82c22d01de7e66c66a64c0e1d02dd762c776abded20af7b85863d09021fb"), looks := false }, kinds := [], alts := [], laidByText := true, laidKinds := [.data, .data, .data], laidTests := true, laidLooks := .later }
def FnTanCasesUptoCardSaid : Prop := Claim7.holds Tryd.pinned (.plain (OpenSpec.upto fnTanCasesSpec)) fnTanCasesUptoCard

/-- THE SECOND FORM's CARD OF 'laws.FnCosCases'. -/
def fnCosCasesUptoCard : Claim7 := { stood := { row := fnCosCasesUptoRow, standIns := [], harness := (true, "e9db82c22d01de7e66c66a64c0e1d02dd762c776abded20af7b85863d09021fb"), looks := false }, kinds := [], alts := [], laidByText := true, laidKinds := [.data, .data, .data], laidTests := true, laidLooks := .later }
def FnCosCasesUptoCardSaid : Prop := Claim7.holds Tryd.pinned (.plain (OpenSpec.upto fnCosCasesSpec)) fnCosCasesUptoCard

/-- THE SECOND FORM's CARD OF 'laws.FnSinCases'. -/
def fnSinCasesUptoCard : Claim7 := { stood := { row := fnSinCasesUptoRow, standIns := [], harness := (true, "e9db82c22d01de7e66c66a64c0e1d02dd762c776abded20af7b85863d09021fb"), looks := false }, kinds := [], alts := [], laidByText := true, laidKinds := [.data, .data, .data], laidTests := true, laidLooks := .later }
def FnSinCasesUptoCardSaid : Prop := Claim7.holds Tryd.pinned (.plain (OpenSpec.upto fnSinCasesSpec)) fnSinCasesUptoCard

/-- THE SECOND FORM's CARD OF 'laws.FnRound'. -/
def fnRoundUptoCard : Claim7 := { stood := { row := fnRoundUptoRow, standIns := [], harness := (true, "e9db82c22d01de7e66c66a64c0e1d02dd762c776abded20af7b85863d09021fb"), looks := false }, kinds := [], alts := [], laidByText := true, laidKinds := [.data, .data, .data], laidTests := true, laidLooks := .later }
def FnRoundUptoCardSaid : Prop := Claim7.holds Tryd.pinned (.plain (OpenSpec.upto fnRoundSpec)) fnRoundUptoCard

/-- THE SECOND FORM's CARD OF 'laws.FnSincosBoth'. -/
def fnSincosBothUptoCard : Claim7 := { stood := { row := fnSincosBothUptoRow, standIns := [], harness := (true, "e9db82c22d01de7e66c66a64c0e1d02dd762c776abded20af7b85863d09021fb"), looks := false }, kinds := [], alts := [], laidByText := true, laidKinds := [.data, .data, .data], laidTests := true, laidLooks := .later }
def FnSincosBothUptoCardSaid : Prop := Claim7.holds Tryd.pinned (.plain (OpenSpec.upto fnSincosBothSpec)) fnSincosBothUptoCard

/-- THE SECOND FORM's CARD OF 'laws.FnTanIsQuotient'. -/
def fnTanIsQuotientUptoCard : Claim7 := { stood := { row := fnTanIsQuotientUptoRow, standIns := [], harness := (true, "e9db82c22d01de7e66c66a64c0e1d02dd762c776abded20af7b85863d09021fb"), looks := false }, kinds := [], alts := [], laidByText := true, laidKinds := [.data, .data, .data, .data, .data], laidTests := true, laidLooks := .later }
def FnTanIsQuotientUptoCardSaid : Prop := Claim7.holds Tryd.pinned (.plain (OpenSpec.upto fnTanIsQuotientSpec)) fnTanIsQuotientUptoCard

/-- THE SECOND FORM's CARD OF 'laws.FnTurnedRound'. -/
def fnTurnedRoundUptoCard : Claim7 := { stood := { row := fnTurnedRoundUptoRow, standIns := [], harness := (true, "e9db82c22d01de7e66c66a64c0e1d02dd762c776abded20af7b85863d09021fb"), looks := false }, kinds := [], alts := [], laidByText := true, laidKinds := [.data, .data, .data, .data, .data], laidTests := true, laidLooks := .later }
def FnTurnedRoundUptoCardSaid : Prop := Claim7.holds Tryd.pinned (.plain (OpenSpec.upto fnTurnedRoundSpec)) fnTurnedRoundUptoCard
end Rows
end Go.Proofs.YtgbdplmpojkklaaDoor
