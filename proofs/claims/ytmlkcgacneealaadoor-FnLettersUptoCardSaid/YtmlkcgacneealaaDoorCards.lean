/-
  DERIVED. GIVEN WITH THE SEED: THE CARDS: each row of YtmlkcgacneealaaDoorRows.lean that lists a variable, with what it lists TIED to the program's text (the seventh form; the later family's looks); each row that meets fmt, with fmt's text TOLD by the authors' own Lean function (tested against real Go, not proved from fmt's source: count such statements apart). THE CARD IS WHAT COUNTS. Prove the row's statement (the work); the ties are given (YtmlkcgacneealaaDoorTie.lean); close each card by the builder's one call (the guide's Derived/Test/ToyasCard.lean, 'card_holds'). Laid BY PROGRAM, IN A SANDBOX (cutbox-door.mjs). By AI agents, Wed Nov 11 2026. No macro, syntax, notation, axiom, sorry.
-/
import Derived.Test.YtmlkcgacneealaaDoorRows
import GoSem.ClaimSeven
namespace Go.Proofs.YtmlkcgacneealaaDoor
namespace Rows

/-- THE TIED CARD OF 'laws.FnAddrFrom4'. -/
def fnAddrFrom4Card : Claim7 := { stood := { row := fnAddrFrom4Row, standIns := [], harness := (true, "570322591d50aed281b8eadefbfeb9a654fb497d93e3c22329b470258c53331a"), looks := false }, kinds := [], alts := [], laidByText := true, laidKinds := [.called, .zero], laidTests := true, laidLooks := .later }
def FnAddrFrom4CardSaid : Prop := Claim7.holds Tryd.pinned (.plain (OpenSpec.ofChange fnAddrFrom4Spec)) fnAddrFrom4Card

/-- THE TIED CARD OF 'laws.FnAddrFrom16'. -/
def fnAddrFrom16Card : Claim7 := { stood := { row := fnAddrFrom16Row, standIns := [], harness := (true, "570322591d50aed281b8eadefbfeb9a654fb497d93e3c22329b470258c53331a"), looks := false }, kinds := [], alts := [], laidByText := true, laidKinds := [.called, .called, .zero], laidTests := true, laidLooks := .later }
def FnAddrFrom16CardSaid : Prop := Claim7.holds Tryd.pinned (.plain (OpenSpec.ofChange fnAddrFrom16Spec)) fnAddrFrom16Card

/-- THE TIED CARD OF 'laws.FnAddrFromSlice'. -/
def fnAddrFromSliceCard : Claim7 := { stood := { row := fnAddrFromSliceRow, standIns := [], harness := (true, "570322591d50aed281b8eadefbfeb9a654fb497d93e3c22329b470258c53331a"), looks := false }, kinds := [], alts := [], laidByText := true, laidKinds := [.called, .called, .zero], laidTests := true, laidLooks := .later }
def FnAddrFromSliceCardSaid : Prop := Claim7.holds Tryd.pinned (.plain (OpenSpec.ofChange fnAddrFromSliceSpec)) fnAddrFromSliceCard

/-- THE TIED CARD OF 'laws.FnSpecials'. -/
def fnSpecialsCard : Claim7 := { stood := { row := fnSpecialsRow, standIns := [], harness := (true, "570322591d50aed281b8eadefbfeb9a654fb497d93e3c22329b470258c53331a"), looks := false }, kinds := [], alts := [], laidByText := true, laidKinds := [.called, .called, .zero], laidTests := true, laidLooks := .later }
def FnSpecialsCardSaid : Prop := Claim7.holds Tryd.pinned (.plain (OpenSpec.ofChange fnSpecialsSpec)) fnSpecialsCard

/-- THE TIED CARD OF 'laws.FnAsSliceOfZero'. -/
def fnAsSliceOfZeroCard : Claim7 := { stood := { row := fnAsSliceOfZeroRow, standIns := [], harness := (true, "570322591d50aed281b8eadefbfeb9a654fb497d93e3c22329b470258c53331a"), looks := false }, kinds := [], alts := [], laidByText := true, laidKinds := [.called, .called, .zero], laidTests := true, laidLooks := .later }
def FnAsSliceOfZeroCardSaid : Prop := Claim7.holds Tryd.pinned (.plain (OpenSpec.ofChange fnAsSliceOfZeroSpec)) fnAsSliceOfZeroCard

/-- THE TIED CARD OF 'laws.FnPrev'. -/
def fnPrevCard : Claim7 := { stood := { row := fnPrevRow, standIns := [], harness := (true, "570322591d50aed281b8eadefbfeb9a654fb497d93e3c22329b470258c53331a"), looks := false }, kinds := [], alts := [], laidByText := true, laidKinds := [.called, .called, .zero], laidTests := true, laidLooks := .later }
def FnPrevCardSaid : Prop := Claim7.holds Tryd.pinned (.plain (OpenSpec.ofChange fnPrevSpec)) fnPrevCard

/-- THE TIED CARD OF 'laws.FnNext'. -/
def fnNextCard : Claim7 := { stood := { row := fnNextRow, standIns := [], harness := (true, "570322591d50aed281b8eadefbfeb9a654fb497d93e3c22329b470258c53331a"), looks := false }, kinds := [], alts := [], laidByText := true, laidKinds := [.called, .called, .zero], laidTests := true, laidLooks := .later }
def FnNextCardSaid : Prop := Claim7.holds Tryd.pinned (.plain (OpenSpec.ofChange fnNextSpec)) fnNextCard

/-- THE TIED CARD OF 'laws.FnOrderIsOfBytes'. -/
def fnOrderIsOfBytesCard : Claim7 := { stood := { row := fnOrderIsOfBytesRow, standIns := [], harness := (true, "570322591d50aed281b8eadefbfeb9a654fb497d93e3c22329b470258c53331a"), looks := false }, kinds := [], alts := [], laidByText := true, laidKinds := [.called, .called, .zero], laidTests := true, laidLooks := .later }
def FnOrderIsOfBytesCardSaid : Prop := Claim7.holds Tryd.pinned (.plain (OpenSpec.ofChange fnOrderIsOfBytesSpec)) fnOrderIsOfBytesCard

/-- THE TIED CARD OF 'laws.FnMappedAndBack'. -/
def fnMappedAndBackCard : Claim7 := { stood := { row := fnMappedAndBackRow, standIns := [], harness := (true, "570322591d50aed281b8eadefbfeb9a654fb497d93e3c22329b470258c53331a"), looks := false }, kinds := [], alts := [], laidByText := true, laidKinds := [.called, .called, .zero], laidTests := true, laidLooks := .later }
def FnMappedAndBackCardSaid : Prop := Claim7.holds Tryd.pinned (.plain (OpenSpec.ofChange fnMappedAndBackSpec)) fnMappedAndBackCard

/-- THE TIED CARD OF 'laws.FnNextAndPrev'. -/
def fnNextAndPrevCard : Claim7 := { stood := { row := fnNextAndPrevRow, standIns := [], harness := (true, "570322591d50aed281b8eadefbfeb9a654fb497d93e3c22329b470258c53331a"), looks := false }, kinds := [], alts := [], laidByText := true, laidKinds := [.called, .called, .zero], laidTests := true, laidLooks := .later }
def FnNextAndPrevCardSaid : Prop := Claim7.holds Tryd.pinned (.plain (OpenSpec.ofChange fnNextAndPrevSpec)) fnNextAndPrevCard

/-- THE TIED CARD OF 'laws.FnSteps'. -/
def fnStepsCard : Claim7 := { stood := { row := fnStepsRow, standIns := [], harness := (true, "570322591d50aed281b8eadefbfeb9a654fb497d93e3c22329b470258c53331a"), looks := false }, kinds := [], alts := [], laidByText := true, laidKinds := [.called, .called, .zero], laidTests := true, laidLooks := .later }
def FnStepsCardSaid : Prop := Claim7.holds Tryd.pinned (.plain (OpenSpec.ofChange fnStepsSpec)) fnStepsCard

/-- THE TIED CARD OF 'laws.FnKinds'. -/
def fnKindsCard : Claim7 := { stood := { row := fnKindsRow, standIns := [], harness := (true, "570322591d50aed281b8eadefbfeb9a654fb497d93e3c22329b470258c53331a"), looks := false }, kinds := [], alts := [], laidByText := true, laidKinds := [.called, .called, .zero], laidTests := true, laidLooks := .later }
def FnKindsCardSaid : Prop := Claim7.holds Tryd.pinned (.plain (OpenSpec.ofChange fnKindsSpec)) fnKindsCard

/-- THE TIED CARD OF 'laws.FnNextIsLeast'. -/
def fnNextIsLeastCard : Claim7 := { stood := { row := fnNextIsLeastRow, standIns := [], harness := (true, "570322591d50aed281b8eadefbfeb9a654fb497d93e3c22329b470258c53331a"), looks := false }, kinds := [], alts := [], laidByText := true, laidKinds := [.called, .called, .zero], laidTests := true, laidLooks := .later }
def FnNextIsLeastCardSaid : Prop := Claim7.holds Tryd.pinned (.plain (OpenSpec.ofChange fnNextIsLeastSpec)) fnNextIsLeastCard

/-- THE TIED CARD OF 'laws.FnLengths'. -/
def fnLengthsCard : Claim7 := { stood := { row := fnLengthsRow, standIns := [], harness := (true, "570322591d50aed281b8eadefbfeb9a654fb497d93e3c22329b470258c53331a"), looks := false }, kinds := [], alts := [], laidByText := true, laidKinds := [.called, .called, .zero], laidTests := true, laidLooks := .later }
def FnLengthsCardSaid : Prop := Claim7.holds Tryd.pinned (.plain (OpenSpec.ofChange fnLengthsSpec)) fnLengthsCard

/-- THE TIED CARD OF 'laws.FnSmallLetters'. -/
def fnSmallLettersCard : Claim7 := { stood := { row := fnSmallLettersRow, standIns := [], harness := (true, "570322591d50aed281b8eadefbfeb9a654fb497d93e3c22329b470258c53331a"), looks := false }, kinds := [], alts := [], laidByText := true, laidKinds := [.called, .called, .zero], laidTests := true, laidLooks := .later }
def FnSmallLettersCardSaid : Prop := Claim7.holds Tryd.pinned (.plain (OpenSpec.ofChange fnSmallLettersSpec)) fnSmallLettersCard

/-- THE TIED CARD OF 'laws.FnKindsApart'. -/
def fnKindsApartCard : Claim7 := { stood := { row := fnKindsApartRow, standIns := [], harness := (true, "570322591d50aed281b8eadefbfeb9a654fb497d93e3c22329b470258c53331a"), looks := false }, kinds := [], alts := [], laidByText := true, laidKinds := [.called, .called, .zero], laidTests := true, laidLooks := .later }
def FnKindsApartCardSaid : Prop := Claim7.holds Tryd.pinned (.plain (OpenSpec.ofChange fnKindsApartSpec)) fnKindsApartCard

/-- THE TIED CARD OF 'laws.FnColonsForZeros'. -/
def fnColonsForZerosCard : Claim7 := { stood := { row := fnColonsForZerosRow, standIns := [], harness := (true, "570322591d50aed281b8eadefbfeb9a654fb497d93e3c22329b470258c53331a"), looks := false }, kinds := [], alts := [], laidByText := true, laidKinds := [.called, .called, .zero], laidTests := true, laidLooks := .later }
def FnColonsForZerosCardSaid : Prop := Claim7.holds Tryd.pinned (.plain (OpenSpec.ofChange fnColonsForZerosSpec)) fnColonsForZerosCard

/-- THE TIED CARD OF 'laws.FnColonsOnce'. -/
def fnColonsOnceCard : Claim7 := { stood := { row := fnColonsOnceRow, standIns := [], harness := (true, "570322591d50aed281b8eadefbfeb9a654fb497d93e3c22329b470258c53331a"), looks := false }, kinds := [], alts := [], laidByText := true, laidKinds := [.called, .called, .zero], laidTests := true, laidLooks := .later }
def FnColonsOnceCardSaid : Prop := Claim7.holds Tryd.pinned (.plain (OpenSpec.ofChange fnColonsOnceSpec)) fnColonsOnceCard

/-- THE TIED CARD OF 'laws.FnLetters'. -/
def fnLettersCard : Claim7 := { stood := { row := fnLettersRow, standIns := [], harness := (true, "570322591d50aed281b8eadefbfeb9a654fb497d93e3c22329b470258c53331a"), looks := false }, kinds := [], alts := [], laidByText := true, laidKinds := [.called, .called, .zero], laidTests := true, laidLooks := .later }
def FnLettersCardSaid : Prop := Claim7.holds Tryd.pinned (.plain (OpenSpec.ofChange fnLettersSpec)) fnLettersCard

/-- THE TIED CARD OF 'laws.FnKindsOfUnmapped'. -/
def fnKindsOfUnmappedCard : Claim7 := { stood := { row := fnKindsOfUnmappedRow, standIns := [], harness := (true, "570322591d50aed281b8eadefbfeb9a654fb497d93e3c22329b470258c53331a"), looks := false }, kinds := [], alts := [], laidByText := true, laidKinds := [.called, .called, .zero], laidTests := true, laidLooks := .later }
def FnKindsOfUnmappedCardSaid : Prop := Claim7.holds Tryd.pinned (.plain (OpenSpec.ofChange fnKindsOfUnmappedSpec)) fnKindsOfUnmappedCard

/-- THE TIED CARD OF 'laws.FnTextRoundTripBare'. -/
def fnTextRoundTripBareCard : Claim7 := { stood := { row := fnTextRoundTripBareRow, standIns := [], harness := (true, "570322591d50aed281b8eadefbfeb9a654fb497d93e3c22329b470258c53331a"), looks := false }, kinds := [], alts := [], laidByText := true, laidKinds := [.called, .called, .zero], laidTests := true, laidLooks := .later }
def FnTextRoundTripBareCardSaid : Prop := Claim7.holds Tryd.pinned (.plain (OpenSpec.ofChange fnTextRoundTripBareSpec)) fnTextRoundTripBareCard

/-- THE TIED CARD OF 'laws.FnDotted'. -/
def fnDottedCard : Claim7 := { stood := { row := fnDottedRow, standIns := [], harness := (true, "570322591d50aed281b8eadefbfeb9a654fb497d93e3c22329b470258c53331a"), looks := false }, kinds := [], alts := [], laidByText := true, laidKinds := [.called, .called, .zero], laidTests := true, laidLooks := .later }
def FnDottedCardSaid : Prop := Claim7.holds Tryd.pinned (.plain (OpenSpec.ofChange fnDottedSpec)) fnDottedCard

/-- THE SECOND FORM's CARD OF 'laws.FnAddrFrom4'. -/
def fnAddrFrom4UptoCard : Claim7 := { stood := { row := fnAddrFrom4UptoRow, standIns := [], harness := (true, "570322591d50aed281b8eadefbfeb9a654fb497d93e3c22329b470258c53331a"), looks := false }, kinds := [], alts := [], laidByText := true, laidKinds := [.called, .zero], laidTests := true, laidLooks := .later }
def FnAddrFrom4UptoCardSaid : Prop := Claim7.holds Tryd.pinned (.plain (OpenSpec.upto fnAddrFrom4Spec)) fnAddrFrom4UptoCard

/-- THE SECOND FORM's CARD OF 'laws.FnAddrFrom16'. -/
def fnAddrFrom16UptoCard : Claim7 := { stood := { row := fnAddrFrom16UptoRow, standIns := [], harness := (true, "570322591d50aed281b8eadefbfeb9a654fb497d93e3c22329b470258c53331a"), looks := false }, kinds := [], alts := [], laidByText := true, laidKinds := [.called, .called, .zero], laidTests := true, laidLooks := .later }
def FnAddrFrom16UptoCardSaid : Prop := Claim7.holds Tryd.pinned (.plain (OpenSpec.upto fnAddrFrom16Spec)) fnAddrFrom16UptoCard

/-- THE SECOND FORM's CARD OF 'laws.FnAddrFromSlice'. -/
def fnAddrFromSliceUptoCard : Claim7 := { stood := { row := fnAddrFromSliceUptoRow, standIns := [], harness := (true, "570322591d50aed281b8eadefbfeb9a654fb497d93e3c22329b470258c53331a"), looks := false }, kinds := [], alts := [], laidByText := true, laidKinds := [.called, .called, .zero], laidTests := true, laidLooks := .later }
def FnAddrFromSliceUptoCardSaid : Prop := Claim7.holds Tryd.pinned (.plain (OpenSpec.upto fnAddrFromSliceSpec)) fnAddrFromSliceUptoCard

/-- THE SECOND FORM's CARD OF 'laws.FnSpecials'. -/
def fnSpecialsUptoCard : Claim7 := { stood := { row := fnSpecialsUptoRow, standIns := [], harness := (true, "570322591d50aed281b8eadefbfeb9a654fb497d93e3c22329b470258c53331a"), looks := false }, kinds := [], alts := [], laidByText := true, laidKinds := [.called, .called, .zero], laidTests := true, laidLooks := .later }
def FnSpecialsUptoCardSaid : Prop := Claim7.holds Tryd.pinned (.plain (OpenSpec.upto fnSpecialsSpec)) fnSpecialsUptoCard

/-- THE SECOND FORM's CARD OF 'laws.FnAsSliceOfZero'. -/
def fnAsSliceOfZeroUptoCard : Claim7 := { stood := { row := fnAsSliceOfZeroUptoRow, standIns := [], harness := (true, "570322591d50aed281b8eadefbfeb9a654fb497d93e3c22329b470258c53331a"), looks := false }, kinds := [], alts := [], laidByText := true, laidKinds := [.called, .called, .zero], laidTests := true, laidLooks := .later }
def FnAsSliceOfZeroUptoCardSaid : Prop := Claim7.holds Tryd.pinned (.plain (OpenSpec.upto fnAsSliceOfZeroSpec)) fnAsSliceOfZeroUptoCard

/-- THE SECOND FORM's CARD OF 'laws.FnPrev'. -/
def fnPrevUptoCard : Claim7 := { stood := { row := fnPrevUptoRow, standIns := [], harness := (true, "570322591d50aed281b8eadefbfeb9a654fb497d93e3c22329b470258c53331a"), looks := false }, kinds := [], alts := [], laidByText := true, laidKinds := [.called, .called, .zero], laidTests := true, laidLooks := .later }
def FnPrevUptoCardSaid : Prop := Claim7.holds Tryd.pinned (.plain (OpenSpec.upto fnPrevSpec)) fnPrevUptoCard

/-- THE SECOND FORM's CARD OF 'laws.FnNext'. -/
def fnNextUptoCard : Claim7 := { stood := { row := fnNextUptoRow, standIns := [], harness := (true, "570322591d50aed281b8eadefbfeb9a654fb497d93e3c22329b470258c53331a"), looks := false }, kinds := [], alts := [], laidByText := true, laidKinds := [.called, .called, .zero], laidTests := true, laidLooks := .later }
def FnNextUptoCardSaid : Prop := Claim7.holds Tryd.pinned (.plain (OpenSpec.upto fnNextSpec)) fnNextUptoCard

/-- THE SECOND FORM's CARD OF 'laws.FnOrderIsOfBytes'. -/
def fnOrderIsOfBytesUptoCard : Claim7 := { stood := { row := fnOrderIsOfBytesUptoRow, standIns := [], harness := (true, "570322591d50aed281b8eadefbfeb9a654fb497d93e3c22329b470258c53331a"), looks := false }, kinds := [], alts := [], laidByText := true, laidKinds := [.called, .called, .zero], laidTests := true, laidLooks := .later }
def FnOrderIsOfBytesUptoCardSaid : Prop := Claim7.holds Tryd.pinned (.plain (OpenSpec.upto fnOrderIsOfBytesSpec)) fnOrderIsOfBytesUptoCard

/-- THE SECOND FORM's CARD OF 'laws.FnMappedAndBack'. -/
def fnMappedAndBackUptoCard : Claim7 := { stood := { row := fnMappedAndBackUptoRow, standIns := [], harness := (true, "570322591d50aed281b8eadefbfeb9a654fb497d93e3c22329b470258c53331a"), looks := false }, kinds := [], alts := [], laidByText := true, laidKinds := [.called, .called, .zero], laidTests := true, laidLooks := .later }
def FnMappedAndBackUptoCardSaid : Prop := Claim7.holds Tryd.pinned (.plain (OpenSpec.upto fnMappedAndBackSpec)) fnMappedAndBackUptoCard

/-- THE SECOND FORM's CARD OF 'laws.FnNextAndPrev'. -/
def fnNextAndPrevUptoCard : Claim7 := { stood := { row := fnNextAndPrevUptoRow, standIns := [], harness := (true, "570322591d50aed281b8eadefbfeb9a654fb497d93e3c22329b470258c53331a"), looks := false }, kinds := [], alts := [], laidByText := true, laidKinds := [.called, .called, .zero], laidTests := true, laidLooks := .later }
def FnNextAndPrevUptoCardSaid : Prop := Claim7.holds Tryd.pinned (.plain (OpenSpec.upto fnNextAndPrevSpec)) fnNextAndPrevUptoCard

/-- THE SECOND FORM's CARD OF 'laws.FnSteps'. -/
def fnStepsUptoCard : Claim7 := { stood := { row := fnStepsUptoRow, standIns := [], harness := (true, "570322591d50aed281b8eadefbfeb9a654fb497d93e3c22329b470258c53331a"), looks := false }, kinds := [], alts := [], laidByText := true, laidKinds := [.called, .called, .zero], laidTests := true, laidLooks := .later }
def FnStepsUptoCardSaid : Prop := Claim7.holds Tryd.pinned (.plain (OpenSpec.upto fnStepsSpec)) fnStepsUptoCard

/-- THE SECOND FORM's CARD OF 'laws.FnKinds'. -/
def fnKindsUptoCard : Claim7 := { stood := { row := fnKindsUptoRow, standIns := [], harness := (true, "570322591d50aed281b8eadefbfeb9a654fb497d93e3c22329b470258c53331a"), looks := false }, kinds := [], alts := [], laidByText := true, laidKinds := [.called, .called, .zero], laidTests := true, laidLooks := .later }
def FnKindsUptoCardSaid : Prop := Claim7.holds Tryd.pinned (.plain (OpenSpec.upto fnKindsSpec)) fnKindsUptoCard

/-- THE SECOND FORM's CARD OF 'laws.FnNextIsLeast'. -/
def fnNextIsLeastUptoCard : Claim7 := { stood := { row := fnNextIsLeastUptoRow, standIns := [], harness := (true, "570322591d50aed281b8eadefbfeb9a654fb497d93e3c22329b470258c53331a"), looks := false }, kinds := [], alts := [], laidByText := true, laidKinds := [.called, .called, .zero], laidTests := true, laidLooks := .later }
def FnNextIsLeastUptoCardSaid : Prop := Claim7.holds Tryd.pinned (.plain (OpenSpec.upto fnNextIsLeastSpec)) fnNextIsLeastUptoCard

/-- THE SECOND FORM's CARD OF 'laws.FnLengths'. -/
def fnLengthsUptoCard : Claim7 := { stood := { row := fnLengthsUptoRow, standIns := [], harness := (true, "570322591d50aed281b8eadefbfeb9a654fb497d93e3c22329b470258c53331a"), looks := false }, kinds := [], alts := [], laidByText := true, laidKinds := [.called, .called, .zero], laidTests := true, laidLooks := .later }
def FnLengthsUptoCardSaid : Prop := Claim7.holds Tryd.pinned (.plain (OpenSpec.upto fnLengthsSpec)) fnLengthsUptoCard

/-- THE SECOND FORM's CARD OF 'laws.FnSmallLetters'. -/
def fnSmallLettersUptoCard : Claim7 := { stood := { row := fnSmallLettersUptoRow, standIns := [], harness := (true, "570322591d50aed281b8eadefbfeb9a654fb497d93e3c22329b470258c53331a"), looks := false }, kinds := [], alts := [], laidByText := true, laidKinds := [.called, .called, .zero], laidTests := true, laidLooks := .later }
def FnSmallLettersUptoCardSaid : Prop := Claim7.holds Tryd.pinned (.plain (OpenSpec.upto fnSmallLettersSpec)) fnSmallLettersUptoCard

/-- THE SECOND FORM's CARD OF 'laws.FnKindsApart'. -/
def fnKindsApartUptoCard : Claim7 := { stood := { row := fnKindsApartUptoRow, standIns := [], harness := (true, "570322591d50aed281b8eadefbfeb9a654fb497d93e3c22329b470258c53331a"), looks := false }, kinds := [], alts := [], laidByText := true, laidKinds := [.called, .called, .zero], laidTests := true, laidLooks := .later }
def FnKindsApartUptoCardSaid : Prop := Claim7.holds Tryd.pinned (.plain (OpenSpec.upto fnKindsApartSpec)) fnKindsApartUptoCard

/-- THE SECOND FORM's CARD OF 'laws.FnColonsForZeros'. -/
def fnColonsForZerosUptoCard : Claim7 := { stood := { row := fnColonsForZerosUptoRow, standIns := [], harness := (true, "570322591d50aed281b8eadefbfeb9a654fb497d93e3c22329b470258c53331a"), looks := false }, kinds := [], alts := [], laidByText := true, laidKinds := [.called, .called, .zero], laidTests := true, laidLooks := .later }
def FnColonsForZerosUptoCardSaid : Prop := Claim7.holds Tryd.pinned (.plain (OpenSpec.upto fnColonsForZerosSpec)) fnColonsForZerosUptoCard

/-- THE SECOND FORM's CARD OF 'laws.FnColonsOnce'. -/
def fnColonsOnceUptoCard : Claim7 := { stood := { row := fnColonsOnceUptoRow, standIns := [], harness := (true, "570322591d50aed281b8eadefbfeb9a654fb497d93e3c22329b470258c53331a"), looks := false }, kinds := [], alts := [], laidByText := true, laidKinds := [.called, .called, .zero], laidTests := true, laidLooks := .later }
def FnColonsOnceUptoCardSaid : Prop := Claim7.holds Tryd.pinned (.plain (OpenSpec.upto fnColonsOnceSpec)) fnColonsOnceUptoCard

/-- THE SECOND FORM's CARD OF 'laws.FnLetters'. -/
def fnLettersUptoCard : Claim7 := { stood := { row := fnLettersUptoRow, standIns := [], harness := (true, "570322591d50aed281b8eadefbfeb9a654fb497d93e3c22329b470258c53331a"), looks := false }, kinds := [], alts := [], laidByText := true, laidKinds := [.called, .called, .zero], laidTests := true, laidLooks := .later }
def FnLettersUptoCardSaid : Prop := Claim7.holds Tryd.pinned (.plain (OpenSpec.upto fnLettersSpec)) fnLettersUptoCard

/-- THE SECOND FORM's CARD OF 'laws.FnKindsOfUnmapped'. -/
def fnKindsOfUnmappedUptoCard : Claim7 := { stood := { row := fnKindsOfUnmappedUptoRow, standIns := [], harness := (true, "570322591d50aed281b8eadefbfeb9a654fb497d93e3c22329b470258c53331a"), looks := false }, kinds := [], alts := [], laidByText := true, laidKinds := [.called, .called, .zero], laidTests := true, laidLooks := .later }
def FnKindsOfUnmappedUptoCardSaid : Prop := Claim7.holds Tryd.pinned (.plain (OpenSpec.upto fnKindsOfUnmappedSpec)) fnKindsOfUnmappedUptoCard

/-- THE SECOND FORM's CARD OF 'laws.FnTextRoundTripBare'. -/
def fnTextRoundTripBareUptoCard : Claim7 := { stood := { row := fnTextRoundTripBareUptoRow, standIns := [], harness := (true, "570322591d50aed281b8eadefbfeb9a654fb497d93e3c22329b470258c53331a"), looks := false }, kinds := [], alts := [], laidByText := true, laidKinds := [.called, .called, .zero], laidTests := true, laidLooks := .later }
def FnTextRoundTripBareUptoCardSaid : Prop := Claim7.holds Tryd.pinned (.plain (OpenSpec.upto fnTextRoundTripBareSpec)) fnTextRoundTripBareUptoCard

/-- THE SECOND FORM's CARD OF 'laws.FnDotted'. -/
def fnDottedUptoCard : Claim7 := { stood := { row := fnDottedUptoRow, standIns := [], harness := (true, "570322591d50aed281b8eadefbfeb9a654fb497d93e3c22329b470258c53331a"), looks := false }, kinds := [], alts := [], laidByText := true, laidKinds := [.called, .called, .zero], laidTests := true, laidLooks := .later }
def FnDottedUptoCardSaid : Prop := Claim7.holds Tryd.pinned (.plain (OpenSpec.upto fnDottedSpec)) fnDottedUptoCard
end Rows
end Go.Proofs.YtmlkcgacneealaaDoor
