/-
  DERIVED. GIVEN WITH THE SEED: THE CARDS: each row of YtjflijebcpcbmaaDoorRows.lean that lists a variable, with what it lists TIED to the program's text (the seventh form; the later family's looks); each row that meets fmt, with fmt's text TOLD by the authors' own Lean function (tested against real Go, not proved from fmt's source: count such statements apart). THE CARD IS WHAT COUNTS. Prove the row's statement (the work); the ties are given (YtjflijebcpcbmaaDoorTie.lean); close each card by the builder's one call (the guide's Derived/Test/ToyasCard.lean, 'card_holds'). Laid BY PROGRAM, IN A SANDBOX (cutbox-door.mjs). By AI agents, Wed Nov 11 2026. No macro, syntax, notation, axiom, sorry.
-/
import Derived.Test.YtjflijebcpcbmaaDoorRows
import GoSem.ClaimSeven
namespace Go.Proofs.YtjflijebcpcbmaaDoor
namespace Rows

/-- THE TIED CARD OF 'laws.FnCutAnew'. -/
def fnCutAnewCard : Claim7 := { stood := { row := fnCutAnewRow, standIns := [], harness := (true, "06e062b02f3084edddeee9ba933e53705ee992df435e9fc755919689f43b1836"), looks := false }, kinds := [], alts := [], laidByText := true, laidKinds := [.data, .data, .sentinel, .sentinel, .sentinel, .sentinel, .sentinel], laidTests := true, laidLooks := .later }
def FnCutAnewCardSaid : Prop := Claim7.holds Tryd.pinned (.plain (OpenSpec.ofChange fnCutAnewSpec)) fnCutAnewCard

/-- THE TIED CARD OF 'laws.FnFragmentsAny'. -/
def fnFragmentsAnyCard : Claim7 := { stood := { row := fnFragmentsAnyRow, standIns := [], harness := (true, "06e062b02f3084edddeee9ba933e53705ee992df435e9fc755919689f43b1836"), looks := false }, kinds := [], alts := [], laidByText := true, laidKinds := [.data, .data, .sentinel, .sentinel, .sentinel, .sentinel, .sentinel], laidTests := true, laidLooks := .later }
def FnFragmentsAnyCardSaid : Prop := Claim7.holds Tryd.pinned (.plain (OpenSpec.ofChange fnFragmentsAnySpec)) fnFragmentsAnyCard

/-- THE TIED CARD OF 'laws.FnManyMixed'. -/
def fnManyMixedCard : Claim7 := { stood := { row := fnManyMixedRow, standIns := [], harness := (true, "06e062b02f3084edddeee9ba933e53705ee992df435e9fc755919689f43b1836"), looks := false }, kinds := [], alts := [], laidByText := true, laidKinds := [.data, .data, .sentinel, .sentinel, .sentinel, .sentinel, .sentinel], laidTests := true, laidLooks := .later }
def FnManyMixedCardSaid : Prop := Claim7.holds Tryd.pinned (.plain (OpenSpec.ofChange fnManyMixedSpec)) fnManyMixedCard

/-- THE TIED CARD OF 'laws.FnPiecesEpoch'. -/
def fnPiecesEpochCard : Claim7 := { stood := { row := fnPiecesEpochRow, standIns := [], harness := (true, "06e062b02f3084edddeee9ba933e53705ee992df435e9fc755919689f43b1836"), looks := false }, kinds := [], alts := [], laidByText := true, laidKinds := [.data, .data, .sentinel, .sentinel, .sentinel, .sentinel, .sentinel], laidTests := true, laidLooks := .later }
def FnPiecesEpochCardSaid : Prop := Claim7.holds Tryd.pinned (.plain (OpenSpec.ofChange fnPiecesEpochSpec)) fnPiecesEpochCard

/-- THE TIED CARD OF 'laws.FnPopsBetween'. -/
def fnPopsBetweenCard : Claim7 := { stood := { row := fnPopsBetweenRow, standIns := [], harness := (true, "06e062b02f3084edddeee9ba933e53705ee992df435e9fc755919689f43b1836"), looks := false }, kinds := [], alts := [], laidByText := true, laidKinds := [.data, .data, .sentinel, .sentinel, .sentinel, .sentinel, .sentinel], laidTests := true, laidLooks := .later }
def FnPopsBetweenCardSaid : Prop := Claim7.holds Tryd.pinned (.plain (OpenSpec.ofChange fnPopsBetweenSpec)) fnPopsBetweenCard

/-- THE SECOND FORM's CARD OF 'laws.FnCutAnew'. -/
def fnCutAnewUptoCard : Claim7 := { stood := { row := fnCutAnewUptoRow, standIns := [], harness := (true, "06e062b02f3084edddeee9ba933e53705ee992df435e9fc755919689f43b1836"), looks := false }, kinds := [], alts := [], laidByText := true, laidKinds := [.data, .data, .sentinel, .sentinel, .sentinel, .sentinel, .sentinel], laidTests := true, laidLooks := .later }
def FnCutAnewUptoCardSaid : Prop := Claim7.holds Tryd.pinned (.plain (OpenSpec.upto fnCutAnewSpec)) fnCutAnewUptoCard

/-- THE SECOND FORM's CARD OF 'laws.FnFragmentsAny'. -/
def fnFragmentsAnyUptoCard : Claim7 := { stood := { row := fnFragmentsAnyUptoRow, standIns := [], harness := (true, "06e062b02f3084edddeee9ba933e53705ee992df435e9fc755919689f43b1836"), looks := false }, kinds := [], alts := [], laidByText := true, laidKinds := [.data, .data, .sentinel, .sentinel, .sentinel, .sentinel, .sentinel], laidTests := true, laidLooks := .later }
def FnFragmentsAnyUptoCardSaid : Prop := Claim7.holds Tryd.pinned (.plain (OpenSpec.upto fnFragmentsAnySpec)) fnFragmentsAnyUptoCard

/-- THE SECOND FORM's CARD OF 'laws.FnManyMixed'. -/
def fnManyMixedUptoCard : Claim7 := { stood := { row := fnManyMixedUptoRow, standIns := [], harness := (true, "06e062b02f3084edddeee9ba933e53705ee992df435e9fc755919689f43b1836"), looks := false }, kinds := [], alts := [], laidByText := true, laidKinds := [.data, .data, .sentinel, .sentinel, .sentinel, .sentinel, .sentinel], laidTests := true, laidLooks := .later }
def FnManyMixedUptoCardSaid : Prop := Claim7.holds Tryd.pinned (.plain (OpenSpec.upto fnManyMixedSpec)) fnManyMixedUptoCard

/-- THE SECOND FORM's CARD OF 'laws.FnPiecesEpoch'. -/
def fnPiecesEpochUptoCard : Claim7 := { stood := { row := fnPiecesEpochUptoRow, standIns := [], harness := (true, "06e062b02f3084edddeee9ba933e53705ee992df435e9fc755919689f43b1836"), looks := false }, kinds := [], alts := [], laidByText := true, laidKinds := [.data, .data, .sentinel, .sentinel, .sentinel, .sentinel, .sentinel], laidTests := true, laidLooks := .later }
def FnPiecesEpochUptoCardSaid : Prop := Claim7.holds Tryd.pinned (.plain (OpenSpec.upto fnPiecesEpochSpec)) fnPiecesEpochUptoCard

/-- THE SECOND FORM's CARD OF 'laws.FnPopsBetween'. -/
def fnPopsBetweenUptoCard : Claim7 := { stood := { row := fnPopsBetweenUptoRow, standIns := [], harness := (true, "06e062b02f3084edddeee9ba933e53705ee992df435e9fc755919689f43b1836"), looks := false }, kinds := [], alts := [], laidByText := true, laidKinds := [.data, .data, .sentinel, .sentinel, .sentinel, .sentinel, .sentinel], laidTests := true, laidLooks := .later }
def FnPopsBetweenUptoCardSaid : Prop := Claim7.holds Tryd.pinned (.plain (OpenSpec.upto fnPopsBetweenSpec)) fnPopsBetweenUptoCard
end Rows
end Go.Proofs.YtjflijebcpcbmaaDoor
