/-
  DERIVED. GIVEN WITH THE SEED: THE CARDS: each row of YtpodifbgfcclbaaGreatDoorRows.lean that lists a variable, with what it lists TIED to the program's text (the seventh form; the later family's looks); each row that meets fmt, with fmt's text TOLD by the authors' own Lean function (tested against real Go, not proved from fmt's source: count such statements apart). THE CARD IS WHAT COUNTS. Prove the row's statement (the work); the ties are given (YtpodifbgfcclbaaGreatDoorTie.lean); close each card by the builder's one call (the guide's Derived/Test/ToyasCard.lean, 'card_holds'). Laid BY PROGRAM, IN A SANDBOX (cutbox-door.mjs). By AI agents, Wed Nov 11 2026. No macro, syntax, notation, axiom, sorry.
-/
import Derived.Test.YtpodifbgfcclbaaGreatDoorRows
import GoSem.ClaimSeven
namespace Go.Proofs.YtpodifbgfcclbaaGreatDoor
namespace Rows

/-- THE TIED CARD OF 'laws.FnBackward'. -/
def fnBackwardCard : Claim7 := { stood := { row := fnBackwardRow, standIns := [], harness := (true, "039579d8c5fdf434f7e7309463be23722a90a3c61283398064087566c266aad0"), looks := true }, kinds := [], alts := [], laidByText := true, laidKinds := [.data, .data, .data], laidTests := true, laidLooks := .later }
def FnBackwardCardSaid : Prop := Claim7.holds Tryz.pinned (.plain (OpenSpec.ofChange fnBackwardSpec)) fnBackwardCard

/-- THE TIED CARD OF 'laws.FnBlock'. -/
def fnBlockCard : Claim7 := { stood := { row := fnBlockRow, standIns := [], harness := (true, "039579d8c5fdf434f7e7309463be23722a90a3c61283398064087566c266aad0"), looks := true }, kinds := [], alts := [], laidByText := true, laidKinds := [.data, .data, .data], laidTests := true, laidLooks := .later }
def FnBlockCardSaid : Prop := Claim7.holds Tryz.pinned (.plain (OpenSpec.ofChange fnBlockSpec)) fnBlockCard

/-- THE TIED CARD OF 'laws.FnCases'. -/
def fnCasesCard : Claim7 := { stood := { row := fnCasesRow, standIns := [], harness := (true, "039579d8c5fdf434f7e7309463be23722a90a3c61283398064087566c266aad0"), looks := true }, kinds := [], alts := [], laidByText := true, laidKinds := [.data, .data, .data], laidTests := true, laidLooks := .later }
def FnCasesCardSaid : Prop := Claim7.holds Tryz.pinned (.plain (OpenSpec.ofChange fnCasesSpec)) fnCasesCard

/-- THE TIED CARD OF 'laws.FnDefault'. -/
def fnDefaultCard : Claim7 := { stood := { row := fnDefaultRow, standIns := [], harness := (true, "039579d8c5fdf434f7e7309463be23722a90a3c61283398064087566c266aad0"), looks := true }, kinds := [], alts := [], laidByText := true, laidKinds := [.data, .data, .data], laidTests := true, laidLooks := .later }
def FnDefaultCardSaid : Prop := Claim7.holds Tryz.pinned (.plain (OpenSpec.ofChange fnDefaultSpec)) fnDefaultCard

/-- THE TIED CARD OF 'laws.FnEnds'. -/
def fnEndsCard : Claim7 := { stood := { row := fnEndsRow, standIns := [], harness := (true, "039579d8c5fdf434f7e7309463be23722a90a3c61283398064087566c266aad0"), looks := true }, kinds := [], alts := [], laidByText := true, laidKinds := [.data, .data, .data], laidTests := true, laidLooks := .later }
def FnEndsCardSaid : Prop := Claim7.holds Tryz.pinned (.plain (OpenSpec.ofChange fnEndsSpec)) fnEndsCard

/-- THE TIED CARD OF 'laws.FnForward'. -/
def fnForwardCard : Claim7 := { stood := { row := fnForwardRow, standIns := [], harness := (true, "039579d8c5fdf434f7e7309463be23722a90a3c61283398064087566c266aad0"), looks := true }, kinds := [], alts := [], laidByText := true, laidKinds := [.data, .data, .data], laidTests := true, laidLooks := .later }
def FnForwardCardSaid : Prop := Claim7.holds Tryz.pinned (.plain (OpenSpec.ofChange fnForwardSpec)) fnForwardCard

/-- THE TIED CARD OF 'laws.FnIf'. -/
def fnIfCard : Claim7 := { stood := { row := fnIfRow, standIns := [], harness := (true, "039579d8c5fdf434f7e7309463be23722a90a3c61283398064087566c266aad0"), looks := true }, kinds := [], alts := [], laidByText := true, laidKinds := [.data, .data, .data], laidTests := true, laidLooks := .later }
def FnIfCardSaid : Prop := Claim7.holds Tryz.pinned (.plain (OpenSpec.ofChange fnIfSpec)) fnIfCard

/-- THE TIED CARD OF 'laws.FnInBlock'. -/
def fnInBlockCard : Claim7 := { stood := { row := fnInBlockRow, standIns := [], harness := (true, "039579d8c5fdf434f7e7309463be23722a90a3c61283398064087566c266aad0"), looks := true }, kinds := [], alts := [], laidByText := true, laidKinds := [.data, .data, .data], laidTests := true, laidLooks := .later }
def FnInBlockCardSaid : Prop := Claim7.holds Tryz.pinned (.plain (OpenSpec.ofChange fnInBlockSpec)) fnInBlockCard

/-- THE TIED CARD OF 'laws.FnIntoBlock'. -/
def fnIntoBlockCard : Claim7 := { stood := { row := fnIntoBlockRow, standIns := [], harness := (true, "039579d8c5fdf434f7e7309463be23722a90a3c61283398064087566c266aad0"), looks := true }, kinds := [], alts := [], laidByText := true, laidKinds := [.data, .data, .data], laidTests := true, laidLooks := .later }
def FnIntoBlockCardSaid : Prop := Claim7.holds Tryz.pinned (.plain (OpenSpec.ofChange fnIntoBlockSpec)) fnIntoBlockCard

/-- THE TIED CARD OF 'laws.FnJumps'. -/
def fnJumpsCard : Claim7 := { stood := { row := fnJumpsRow, standIns := [], harness := (true, "039579d8c5fdf434f7e7309463be23722a90a3c61283398064087566c266aad0"), looks := true }, kinds := [], alts := [], laidByText := true, laidKinds := [.data, .data, .data], laidTests := true, laidLooks := .later }
def FnJumpsCardSaid : Prop := Claim7.holds Tryz.pinned (.plain (OpenSpec.ofChange fnJumpsSpec)) fnJumpsCard

/-- THE TIED CARD OF 'laws.FnLast'. -/
def fnLastCard : Claim7 := { stood := { row := fnLastRow, standIns := [], harness := (true, "039579d8c5fdf434f7e7309463be23722a90a3c61283398064087566c266aad0"), looks := true }, kinds := [], alts := [], laidByText := true, laidKinds := [.data, .data, .data], laidTests := true, laidLooks := .later }
def FnLastCardSaid : Prop := Claim7.holds Tryz.pinned (.plain (OpenSpec.ofChange fnLastSpec)) fnLastCard

/-- THE TIED CARD OF 'laws.FnLeft'. -/
def fnLeftCard : Claim7 := { stood := { row := fnLeftRow, standIns := [], harness := (true, "039579d8c5fdf434f7e7309463be23722a90a3c61283398064087566c266aad0"), looks := true }, kinds := [], alts := [], laidByText := true, laidKinds := [.data, .data, .data], laidTests := true, laidLooks := .later }
def FnLeftCardSaid : Prop := Claim7.holds Tryz.pinned (.plain (OpenSpec.ofChange fnLeftSpec)) fnLeftCard

/-- THE TIED CARD OF 'laws.FnLiteral'. -/
def fnLiteralCard : Claim7 := { stood := { row := fnLiteralRow, standIns := [], harness := (true, "039579d8c5fdf434f7e7309463be23722a90a3c61283398064087566c266aad0"), looks := true }, kinds := [], alts := [], laidByText := true, laidKinds := [.data, .data, .data], laidTests := true, laidLooks := .later }
def FnLiteralCardSaid : Prop := Claim7.holds Tryz.pinned (.plain (OpenSpec.ofChange fnLiteralSpec)) fnLiteralCard

/-- THE TIED CARD OF 'laws.FnLoop'. -/
def fnLoopCard : Claim7 := { stood := { row := fnLoopRow, standIns := [], harness := (true, "039579d8c5fdf434f7e7309463be23722a90a3c61283398064087566c266aad0"), looks := true }, kinds := [], alts := [], laidByText := true, laidKinds := [.data, .data, .data], laidTests := true, laidLooks := .later }
def FnLoopCardSaid : Prop := Claim7.holds Tryz.pinned (.plain (OpenSpec.ofChange fnLoopSpec)) fnLoopCard

/-- THE TIED CARD OF 'laws.FnRenamed'. -/
def fnRenamedCard : Claim7 := { stood := { row := fnRenamedRow, standIns := [], harness := (true, "039579d8c5fdf434f7e7309463be23722a90a3c61283398064087566c266aad0"), looks := true }, kinds := [], alts := [], laidByText := true, laidKinds := [.data, .data, .data], laidTests := true, laidLooks := .later }
def FnRenamedCardSaid : Prop := Claim7.holds Tryz.pinned (.plain (OpenSpec.ofChange fnRenamedSpec)) fnRenamedCard

/-- THE TIED CARD OF 'laws.FnTurned'. -/
def fnTurnedCard : Claim7 := { stood := { row := fnTurnedRow, standIns := [], harness := (true, "039579d8c5fdf434f7e7309463be23722a90a3c61283398064087566c266aad0"), looks := true }, kinds := [], alts := [], laidByText := true, laidKinds := [.data, .data, .data], laidTests := true, laidLooks := .later }
def FnTurnedCardSaid : Prop := Claim7.holds Tryz.pinned (.plain (OpenSpec.ofChange fnTurnedSpec)) fnTurnedCard

/-- THE TIED CARD OF 'laws.FnTwice'. -/
def fnTwiceCard : Claim7 := { stood := { row := fnTwiceRow, standIns := [], harness := (true, "039579d8c5fdf434f7e7309463be23722a90a3c61283398064087566c266aad0"), looks := true }, kinds := [], alts := [], laidByText := true, laidKinds := [.data, .data, .data], laidTests := true, laidLooks := .later }
def FnTwiceCardSaid : Prop := Claim7.holds Tryz.pinned (.plain (OpenSpec.ofChange fnTwiceSpec)) fnTwiceCard

/-- THE TIED CARD OF 'laws.FnUnused'. -/
def fnUnusedCard : Claim7 := { stood := { row := fnUnusedRow, standIns := [], harness := (true, "039579d8c5fdf434f7e7309463be23722a90a3c61283398064087566c266aad0"), looks := true }, kinds := [], alts := [], laidByText := true, laidKinds := [.data, .data, .data], laidTests := true, laidLooks := .later }
def FnUnusedCardSaid : Prop := Claim7.holds Tryz.pinned (.plain (OpenSpec.ofChange fnUnusedSpec)) fnUnusedCard

/-- THE SECOND FORM's CARD OF 'laws.FnBackward'. -/
def fnBackwardUptoCard : Claim7 := { stood := { row := fnBackwardUptoRow, standIns := [], harness := (true, "039579d8c5fdf434f7e7309463be23722a90a3c61283398064087566c266aad0"), looks := true }, kinds := [], alts := [], laidByText := true, laidKinds := [.data, .data, .data], laidTests := true, laidLooks := .later }
def FnBackwardUptoCardSaid : Prop := Claim7.holds Tryz.pinned (.plain (OpenSpec.upto fnBackwardSpec)) fnBackwardUptoCard

/-- THE SECOND FORM's CARD OF 'laws.FnBlock'. -/
def fnBlockUptoCard : Claim7 := { stood := { row := fnBlockUptoRow, standIns := [], harness := (true, "039579d8c5fdf434f7e7309463be23722a90a3c61283398064087566c266aad0"), looks := true }, kinds := [], alts := [], laidByText := true, laidKinds := [.data, .data, .data], laidTests := true, laidLooks := .later }
def FnBlockUptoCardSaid : Prop := Claim7.holds Tryz.pinned (.plain (OpenSpec.upto fnBlockSpec)) fnBlockUptoCard

/-- THE SECOND FORM's CARD OF 'laws.FnCases'. -/
def fnCasesUptoCard : Claim7 := { stood := { row := fnCasesUptoRow, standIns := [], harness := (true, "039579d8c5fdf434f7e7309463be23722a90a3c61283398064087566c266aad0"), looks := true }, kinds := [], alts := [], laidByText := true, laidKinds := [.data, .data, .data], laidTests := true, laidLooks := .later }
def FnCasesUptoCardSaid : Prop := Claim7.holds Tryz.pinned (.plain (OpenSpec.upto fnCasesSpec)) fnCasesUptoCard

/-- THE SECOND FORM's CARD OF 'laws.FnDefault'. -/
def fnDefaultUptoCard : Claim7 := { stood := { row := fnDefaultUptoRow, standIns := [], harness := (true, "039579d8c5fdf434f7e7309463be23722a90a3c61283398064087566c266aad0"), looks := true }, kinds := [], alts := [], laidByText := true, laidKinds := [.data, .data, .data], laidTests := true, laidLooks := .later }
def FnDefaultUptoCardSaid : Prop := Claim7.holds Tryz.pinned (.plain (OpenSpec.upto fnDefaultSpec)) fnDefaultUptoCard

/-- THE SECOND FORM's CARD OF 'laws.FnEnds'. -/
def fnEndsUptoCard : Claim7 := { stood := { row := fnEndsUptoRow, standIns := [], harness := (true, "039579d8c5fdf434f7e7309463be23722a90a3c61283398064087566c266aad0"), looks := true }, kinds := [], alts := [], laidByText := true, laidKinds := [.data, .data, .data], laidTests := true, laidLooks := .later }
def FnEndsUptoCardSaid : Prop := Claim7.holds Tryz.pinned (.plain (OpenSpec.upto fnEndsSpec)) fnEndsUptoCard

/-- THE SECOND FORM's CARD OF 'laws.FnForward'. -/
def fnForwardUptoCard : Claim7 := { stood := { row := fnForwardUptoRow, standIns := [], harness := (true, "039579d8c5fdf434f7e7309463be23722a90a3c61283398064087566c266aad0"), looks := true }, kinds := [], alts := [], laidByText := true, laidKinds := [.data, .data, .data], laidTests := true, laidLooks := .later }
def FnForwardUptoCardSaid : Prop := Claim7.holds Tryz.pinned (.plain (OpenSpec.upto fnForwardSpec)) fnForwardUptoCard

/-- THE SECOND FORM's CARD OF 'laws.FnIf'. -/
def fnIfUptoCard : Claim7 := { stood := { row := fnIfUptoRow, standIns := [], harness := (true, "039579d8c5fdf434f7e7309463be23722a90a3c61283398064087566c266aad0"), looks := true }, kinds := [], alts := [], laidByText := true, laidKinds := [.data, .data, .data], laidTests := true, laidLooks := .later }
def FnIfUptoCardSaid : Prop := Claim7.holds Tryz.pinned (.plain (OpenSpec.upto fnIfSpec)) fnIfUptoCard

/-- THE SECOND FORM's CARD OF 'laws.FnInBlock'. -/
def fnInBlockUptoCard : Claim7 := { stood := { row := fnInBlockUptoRow, standIns := [], harness := (true, "039579d8c5fdf434f7e7309463be23722a90a3c61283398064087566c266aad0"), looks := true }, kinds := [], alts := [], laidByText := true, laidKinds := [.data, .data, .data], laidTests := true, laidLooks := .later }
def FnInBlockUptoCardSaid : Prop := Claim7.holds Tryz.pinned (.plain (OpenSpec.upto fnInBlockSpec)) fnInBlockUptoCard

/-- THE SECOND FORM's CARD OF 'laws.FnIntoBlock'. -/
def fnIntoBlockUptoCard : Claim7 := { stood := { row := fnIntoBlockUptoRow, standIns := [], harness := (true, "039579d8c5fdf434f7e7309463be23722a90a3c61283398064087566c266aad0"), looks := true }, kinds := [], alts := [], laidByText := true, laidKinds := [.data, .data, .data], laidTests := true, laidLooks := .later }
def FnIntoBlockUptoCardSaid : Prop := Claim7.holds Tryz.pinned (.plain (OpenSpec.upto fnIntoBlockSpec)) fnIntoBlockUptoCard

/-- THE SECOND FORM's CARD OF 'laws.FnJumps'. -/
def fnJumpsUptoCard : Claim7 := { stood := { row := fnJumpsUptoRow, standIns := [], harness := (true, "039579d8c5fdf434f7e7309463be23722a90a3c61283398064087566c266aad0"), looks := true }, kinds := [], alts := [], laidByText := true, laidKinds := [.data, .data, .data], laidTests := true, laidLooks := .later }
def FnJumpsUptoCardSaid : Prop := Claim7.holds Tryz.pinned (.plain (OpenSpec.upto fnJumpsSpec)) fnJumpsUptoCard

/-- THE SECOND FORM's CARD OF 'laws.FnLast'. -/
def fnLastUptoCard : Claim7 := { stood := { row := fnLastUptoRow, standIns := [], harness := (true, "039579d8c5fdf434f7e7309463be23722a90a3c61283398064087566c266aad0"), looks := true }, kinds := [], alts := [], laidByText := true, laidKinds := [.data, .data, .data], laidTests := true, laidLooks := .later }
def FnLastUptoCardSaid : Prop := Claim7.holds Tryz.pinned (.plain (OpenSpec.upto fnLastSpec)) fnLastUptoCard

/-- THE SECOND FORM's CARD OF 'laws.FnLeft'. -/
def fnLeftUptoCard : Claim7 := { stood := { row := fnLeftUptoRow, standIns := [], harness := (true, "039579d8c5fdf434f7e7309463be23722a90a3c61283398064087566c266aad0"), looks := true }, kinds := [], alts := [], laidByText := true, laidKinds := [.data, .data, .data], laidTests := true, laidLooks := .later }
def FnLeftUptoCardSaid : Prop := Claim7.holds Tryz.pinned (.plain (OpenSpec.upto fnLeftSpec)) fnLeftUptoCard

/-- THE SECOND FORM's CARD OF 'laws.FnLiteral'. -/
def fnLiteralUptoCard : Claim7 := { stood := { row := fnLiteralUptoRow, standIns := [], harness := (true, "039579d8c5fdf434f7e7309463be23722a90a3c61283398064087566c266aad0"), looks := true }, kinds := [], alts := [], laidByText := true, laidKinds := [.data, .data, .data], laidTests := true, laidLooks := .later }
def FnLiteralUptoCardSaid : Prop := Claim7.holds Tryz.pinned (.plain (OpenSpec.upto fnLiteralSpec)) fnLiteralUptoCard

/-- THE SECOND FORM's CARD OF 'laws.FnLoop'. -/
def fnLoopUptoCard : Claim7 := { stood := { row := fnLoopUptoRow, standIns := [], harness := (true, "039579d8c5fdf434f7e7309463be23722a90a3c61283398064087566c266aad0"), looks := true }, kinds := [], alts := [], laidByText := true, laidKinds := [.data, .data, .data], laidTests := true, laidLooks := .later }
def FnLoopUptoCardSaid : Prop := Claim7.holds Tryz.pinned (.plain (OpenSpec.upto fnLoopSpec)) fnLoopUptoCard

/-- THE SECOND FORM's CARD OF 'laws.FnRenamed'. -/
def fnRenamedUptoCard : Claim7 := { stood := { row := fnRenamedUptoRow, standIns := [], harness := (true, "039579d8c5fdf434f7e7309463be23722a90a3c61283398064087566c266aad0"), looks := true }, kinds := [], alts := [], laidByText := true, laidKinds := [.data, .data, .data], laidTests := true, laidLooks := .later }
def FnRenamedUptoCardSaid : Prop := Claim7.holds Tryz.pinned (.plain (OpenSpec.upto fnRenamedSpec)) fnRenamedUptoCard

/-- THE SECOND FORM's CARD OF 'laws.FnTurned'. -/
def fnTurnedUptoCard : Claim7 := { stood := { row := fnTurnedUptoRow, standIns := [], harness := (true, "039579d8c5fdf434f7e7309463be23722a90a3c61283398064087566c266aad0"), looks := true }, kinds := [], alts := [], laidByText := true, laidKinds := [.data, .data, .data], laidTests := true, laidLooks := .later }
def FnTurnedUptoCardSaid : Prop := Claim7.holds Tryz.pinned (.plain (OpenSpec.upto fnTurnedSpec)) fnTurnedUptoCard

/-- THE SECOND FORM's CARD OF 'laws.FnTwice'. -/
def fnTwiceUptoCard : Claim7 := { stood := { row := fnTwiceUptoRow, standIns := [], harness := (true, "039579d8c5fdf434f7e7309463be23722a90a3c61283398064087566c266aad0"), looks := true }, kinds := [], alts := [], laidByText := true, laidKinds := [.data, .data, .data], laidTests := true, laidLooks := .later }
def FnTwiceUptoCardSaid : Prop := Claim7.holds Tryz.pinned (.plain (OpenSpec.upto fnTwiceSpec)) fnTwiceUptoCard

/-- THE SECOND FORM's CARD OF 'laws.FnUnused'. -/
def fnUnusedUptoCard : Claim7 := { stood := { row := fnUnusedUptoRow, standIns := [], harness := (true, "039579d8c5fdf434f7e7309463be23722a90a3c61283398064087566c266aad0"), looks := true }, kinds := [], alts := [], laidByText := true, laidKinds := [.data, .data, .data], laidTests := true, laidLooks := .later }
def FnUnusedUptoCardSaid : Prop := Claim7.holds Tryz.pinned (.plain (OpenSpec.upto fnUnusedSpec)) fnUnusedUptoCard
end Rows
end Go.Proofs.YtpodifbgfcclbaaGreatDoor
