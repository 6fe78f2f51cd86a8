/-
  DERIVED. GIVEN WITH THE SEED: THE CARDS: each row of YtancmlapnhccdaaDoorRows.lean that lists a variable, with what it lists TIED to the program's text (the seventh form; the later family's looks); each row that meets fmt, with fmt's text TOLD by the authors' own Lean function (tested against real Go, not proved from fmt's source: count such statements apart). THE CARD IS WHAT COUNTS. Prove the row's statement (the work); the ties are given (YtancmlapnhccdaaDoorTie.lean); close each card by the builder's one call (the guide's Derived/Test/ToyasCard.lean, 'card_holds'). Laid BY PROGRAM, IN A SANDBOX (cutbox-door.mjs). By AI agents, Wed Nov 11 2026. No macro, syntax, notation, axiom, sorry.
-/
import Derived.Test.YtancmlapnhccdaaDoorRows
import GoSem.ClaimSeven
namespace Go.Proofs.YtancmlapnhccdaaDoor
namespace Rows

/-- THE TIED CARD OF 'laws.FnSizes'. -/
def fnSizesCard : Claim7 := { stood := { row := fnSizesRow, standIns := [], harness := (true, "b1815cbadff33118e92ddc574fb7d07f4d98d0f45ba4d63c1cafec19e4c6bb10"), looks := true }, kinds := [], alts := [], laidByText := true, laidKinds := [.data, .sentinel, .sentinel, .sentinel, .sentinel, .sentinel, .sentinel, .sentinel, .sentinel, .pinned], laidTests := true, laidLooks := .later }
def FnSizesCardSaid : Prop := Claim7.holds Tryd.pinned (.plain (OpenSpec.ofChange fnSizesSpec)) fnSizesCard

/-- THE TIED CARD OF 'laws.FnUnreadByte'. -/
def fnUnreadByteCard : Claim7 := { stood := { row := fnUnreadByteRow, standIns := [], harness := (true, "b1815cbadff33118e92ddc574fb7d07f4d98d0f45ba4d63c1cafec19e4c6bb10"), looks := true }, kinds := [], alts := [], laidByText := true, laidKinds := [.data, .sentinel, .sentinel, .sentinel, .sentinel, .sentinel, .sentinel, .sentinel, .sentinel, .pinned], laidTests := true, laidLooks := .later }
def FnUnreadByteCardSaid : Prop := Claim7.holds Tryd.pinned (.plain (OpenSpec.ofChange fnUnreadByteSpec)) fnUnreadByteCard

/-- THE TIED CARD OF 'laws.FnUnreadRune'. -/
def fnUnreadRuneCard : Claim7 := { stood := { row := fnUnreadRuneRow, standIns := [], harness := (true, "b1815cbadff33118e92ddc574fb7d07f4d98d0f45ba4d63c1cafec19e4c6bb10"), looks := true }, kinds := [], alts := [], laidByText := true, laidKinds := [.data, .sentinel, .sentinel, .sentinel, .sentinel, .sentinel, .sentinel, .sentinel, .sentinel, .pinned], laidTests := true, laidLooks := .later }
def FnUnreadRuneCardSaid : Prop := Claim7.holds Tryd.pinned (.plain (OpenSpec.ofChange fnUnreadRuneSpec)) fnUnreadRuneCard

/-- THE TIED CARD OF 'laws.FnWriteTo'. -/
def fnWriteToCard : Claim7 := { stood := { row := fnWriteToRow, standIns := [], harness := (true, "b1815cbadff33118e92ddc574fb7d07f4d98d0f45ba4d63c1cafec19e4c6bb10"), looks := true }, kinds := [], alts := [], laidByText := true, laidKinds := [.sentinel, .sentinel, .sentinel, .sentinel, .sentinel, .sentinel, .sentinel, .sentinel], laidTests := true, laidLooks := .later }
def FnWriteToCardSaid : Prop := Claim7.holds Tryd.pinned (.plain (OpenSpec.ofChange fnWriteToSpec)) fnWriteToCard

/-- THE TIED CARD OF 'laws.FnReadFrom'. -/
def fnReadFromCard : Claim7 := { stood := { row := fnReadFromRow, standIns := [], harness := (true, "b1815cbadff33118e92ddc574fb7d07f4d98d0f45ba4d63c1cafec19e4c6bb10"), looks := true }, kinds := [], alts := [], laidByText := true, laidKinds := [.sentinel, .sentinel, .sentinel, .sentinel, .sentinel, .sentinel, .sentinel], laidTests := true, laidLooks := .later }
def FnReadFromCardSaid : Prop := Claim7.holds Tryd.pinned (.plain (OpenSpec.ofChange fnReadFromSpec)) fnReadFromCard

/-- THE TIED CARD OF 'laws.FnCopies'. -/
def fnCopiesCard : Claim7 := { stood := { row := fnCopiesRow, standIns := [], harness := (true, "b1815cbadff33118e92ddc574fb7d07f4d98d0f45ba4d63c1cafec19e4c6bb10"), looks := true }, kinds := [], alts := [], laidByText := true, laidKinds := [.sentinel, .sentinel, .sentinel, .sentinel, .sentinel, .sentinel, .sentinel, .sentinel, .sentinel], laidTests := true, laidLooks := .later }
def FnCopiesCardSaid : Prop := Claim7.holds Tryd.pinned (.plain (OpenSpec.ofChange fnCopiesSpec)) fnCopiesCard

/-- THE TIED CARD OF 'laws.FnApart'. -/
def fnApartCard : Claim7 := { stood := { row := fnApartRow, standIns := [], harness := (true, "b1815cbadff33118e92ddc574fb7d07f4d98d0f45ba4d63c1cafec19e4c6bb10"), looks := true }, kinds := [], alts := [], laidByText := true, laidKinds := [.data, .sentinel, .sentinel, .sentinel, .sentinel, .sentinel, .sentinel, .sentinel, .sentinel, .pinned], laidTests := true, laidLooks := .later }
def FnApartCardSaid : Prop := Claim7.holds Tryd.pinned (.plain (OpenSpec.ofChange fnApartSpec)) fnApartCard

/-- THE TIED CARD OF 'laws.FnFlushed'. -/
def fnFlushedCard : Claim7 := { stood := { row := fnFlushedRow, standIns := [], harness := (true, "b1815cbadff33118e92ddc574fb7d07f4d98d0f45ba4d63c1cafec19e4c6bb10"), looks := true }, kinds := [], alts := [], laidByText := true, laidKinds := [.data, .sentinel, .sentinel, .sentinel, .sentinel, .sentinel, .sentinel, .sentinel, .sentinel, .pinned], laidTests := true, laidLooks := .later }
def FnFlushedCardSaid : Prop := Claim7.holds Tryd.pinned (.plain (OpenSpec.ofChange fnFlushedSpec)) fnFlushedCard

/-- THE TIED CARD OF 'laws.FnLines'. -/
def fnLinesCard : Claim7 := { stood := { row := fnLinesRow, standIns := [], harness := (true, "b1815cbadff33118e92ddc574fb7d07f4d98d0f45ba4d63c1cafec19e4c6bb10"), looks := true }, kinds := [], alts := [], laidByText := true, laidKinds := [.data, .sentinel, .sentinel, .sentinel, .sentinel, .sentinel, .sentinel, .sentinel, .sentinel, .pinned], laidTests := true, laidLooks := .later }
def FnLinesCardSaid : Prop := Claim7.holds Tryd.pinned (.plain (OpenSpec.ofChange fnLinesSpec)) fnLinesCard

/-- THE TIED CARD OF 'laws.FnNegative'. -/
def fnNegativeCard : Claim7 := { stood := { row := fnNegativeRow, standIns := [], harness := (true, "b1815cbadff33118e92ddc574fb7d07f4d98d0f45ba4d63c1cafec19e4c6bb10"), looks := true }, kinds := [], alts := [], laidByText := true, laidKinds := [.data, .sentinel, .sentinel, .sentinel, .sentinel, .sentinel, .sentinel, .sentinel, .sentinel, .pinned], laidTests := true, laidLooks := .later }
def FnNegativeCardSaid : Prop := Claim7.holds Tryd.pinned (.plain (OpenSpec.ofChange fnNegativeSpec)) fnNegativeCard

/-- THE TIED CARD OF 'laws.FnOtherKinds'. -/
def fnOtherKindsCard : Claim7 := { stood := { row := fnOtherKindsRow, standIns := [], harness := (true, "b1815cbadff33118e92ddc574fb7d07f4d98d0f45ba4d63c1cafec19e4c6bb10"), looks := true }, kinds := [], alts := [], laidByText := true, laidKinds := [.data, .sentinel, .sentinel, .sentinel, .sentinel, .sentinel, .sentinel, .sentinel, .sentinel, .pinned], laidTests := true, laidLooks := .later }
def FnOtherKindsCardSaid : Prop := Claim7.holds Tryd.pinned (.plain (OpenSpec.ofChange fnOtherKindsSpec)) fnOtherKindsCard

/-- THE TIED CARD OF 'laws.FnPeekFull'. -/
def fnPeekFullCard : Claim7 := { stood := { row := fnPeekFullRow, standIns := [], harness := (true, "b1815cbadff33118e92ddc574fb7d07f4d98d0f45ba4d63c1cafec19e4c6bb10"), looks := true }, kinds := [], alts := [], laidByText := true, laidKinds := [.data, .sentinel, .sentinel, .sentinel, .sentinel, .sentinel, .sentinel, .sentinel, .sentinel, .pinned], laidTests := true, laidLooks := .later }
def FnPeekFullCardSaid : Prop := Claim7.holds Tryd.pinned (.plain (OpenSpec.ofChange fnPeekFullSpec)) fnPeekFullCard

/-- THE TIED CARD OF 'laws.FnPeeks'. -/
def fnPeeksCard : Claim7 := { stood := { row := fnPeeksRow, standIns := [], harness := (true, "b1815cbadff33118e92ddc574fb7d07f4d98d0f45ba4d63c1cafec19e4c6bb10"), looks := true }, kinds := [], alts := [], laidByText := true, laidKinds := [.data, .sentinel, .sentinel, .sentinel, .sentinel, .sentinel, .sentinel, .sentinel, .sentinel, .pinned], laidTests := true, laidLooks := .later }
def FnPeeksCardSaid : Prop := Claim7.holds Tryd.pinned (.plain (OpenSpec.ofChange fnPeeksSpec)) fnPeeksCard

/-- THE TIED CARD OF 'laws.FnPieces'. -/
def fnPiecesCard : Claim7 := { stood := { row := fnPiecesRow, standIns := [], harness := (true, "b1815cbadff33118e92ddc574fb7d07f4d98d0f45ba4d63c1cafec19e4c6bb10"), looks := true }, kinds := [], alts := [], laidByText := true, laidKinds := [.data, .sentinel, .sentinel, .sentinel, .sentinel, .sentinel, .sentinel, .sentinel, .sentinel, .pinned], laidTests := true, laidLooks := .later }
def FnPiecesCardSaid : Prop := Claim7.holds Tryd.pinned (.plain (OpenSpec.ofChange fnPiecesSpec)) fnPiecesCard

/-- THE TIED CARD OF 'laws.FnRun'. -/
def fnRunCard : Claim7 := { stood := { row := fnRunRow, standIns := [], harness := (true, "b1815cbadff33118e92ddc574fb7d07f4d98d0f45ba4d63c1cafec19e4c6bb10"), looks := true }, kinds := [], alts := [], laidByText := true, laidKinds := [.data, .sentinel, .sentinel, .sentinel, .sentinel, .sentinel, .sentinel, .sentinel, .sentinel, .pinned], laidTests := true, laidLooks := .later }
def FnRunCardSaid : Prop := Claim7.holds Tryd.pinned (.plain (OpenSpec.ofChange fnRunSpec)) fnRunCard

/-- THE TIED CARD OF 'laws.FnRunes'. -/
def fnRunesCard : Claim7 := { stood := { row := fnRunesRow, standIns := [], harness := (true, "b1815cbadff33118e92ddc574fb7d07f4d98d0f45ba4d63c1cafec19e4c6bb10"), looks := true }, kinds := [], alts := [], laidByText := true, laidKinds := [.data, .sentinel, .sentinel, .sentinel, .sentinel, .sentinel, .sentinel, .sentinel, .sentinel, .pinned], laidTests := true, laidLooks := .later }
def FnRunesCardSaid : Prop := Claim7.holds Tryd.pinned (.plain (OpenSpec.ofChange fnRunesSpec)) fnRunesCard

/-- THE TIED CARD OF 'laws.FnRunesWritten'. -/
def fnRunesWrittenCard : Claim7 := { stood := { row := fnRunesWrittenRow, standIns := [], harness := (true, "b1815cbadff33118e92ddc574fb7d07f4d98d0f45ba4d63c1cafec19e4c6bb10"), looks := true }, kinds := [], alts := [], laidByText := true, laidKinds := [.data, .sentinel, .sentinel, .sentinel, .sentinel, .sentinel, .sentinel, .sentinel, .sentinel, .pinned], laidTests := true, laidLooks := .later }
def FnRunesWrittenCardSaid : Prop := Claim7.holds Tryd.pinned (.plain (OpenSpec.ofChange fnRunesWrittenSpec)) fnRunesWrittenCard

/-- THE TIED CARD OF 'laws.FnSink'. -/
def fnSinkCard : Claim7 := { stood := { row := fnSinkRow, standIns := [], harness := (true, "b1815cbadff33118e92ddc574fb7d07f4d98d0f45ba4d63c1cafec19e4c6bb10"), looks := true }, kinds := [], alts := [], laidByText := true, laidKinds := [.data, .sentinel, .sentinel, .sentinel, .sentinel, .sentinel, .sentinel, .sentinel, .sentinel, .pinned], laidTests := true, laidLooks := .later }
def FnSinkCardSaid : Prop := Claim7.holds Tryd.pinned (.plain (OpenSpec.ofChange fnSinkSpec)) fnSinkCard

/-- THE SECOND FORM's CARD OF 'laws.FnSizes'. -/
def fnSizesUptoCard : Claim7 := { stood := { row := fnSizesUptoRow, standIns := [], harness := (true, "b1815cbadff33118e92ddc574fb7d07f4d98d0f45ba4d63c1cafec19e4c6bb10"), looks := true }, kinds := [], alts := [], laidByText := true, laidKinds := [.data, .sentinel, .sentinel, .sentinel, .sentinel, .sentinel, .sentinel, .sentinel, .sentinel, .pinned], laidTests := true, laidLooks := .later }
def FnSizesUptoCardSaid : Prop := Claim7.holds Tryd.pinned (.plain (OpenSpec.upto fnSizesSpec)) fnSizesUptoCard

/-- THE SECOND FORM's CARD OF 'laws.FnUnreadByte'. -/
def fnUnreadByteUptoCard : Claim7 := { stood := { row := fnUnreadByteUptoRow, standIns := [], harness := (true, "b1815cbadff33118e92ddc574fb7d07f4d98d0f45ba4d63c1cafec19e4c6bb10"), looks := true }, kinds := [], alts := [], laidByText := true, laidKinds := [.data, .sentinel, .sentinel, .sentinel, .sentinel, .sentinel, .sentinel, .sentinel, .sentinel, .pinned], laidTests := true, laidLooks := .later }
def FnUnreadByteUptoCardSaid : Prop := Claim7.holds Tryd.pinned (.plain (OpenSpec.upto fnUnreadByteSpec)) fnUnreadByteUptoCard

/-- THE SECOND FORM's CARD OF 'laws.FnUnreadRune'. -/
def fnUnreadRuneUptoCard : Claim7 := { stood := { row := fnUnreadRuneUptoRow, standIns := [], harness := (true, "b1815cbadff33118e92ddc574fb7d07f4d98d0f45ba4d63c1cafec19e4c6bb10"), looks := true }, kinds := [], alts := [], laidByText := true, laidKinds := [.data, .sentinel, .sentinel, .sentinel, .sentinel, .sentinel, .sentinel, .sentinel, .sentinel, .pinned], laidTests := true, laidLooks := .later }
def FnUnreadRuneUptoCardSaid : Prop := Claim7.holds Tryd.pinned (.plain (OpenSpec.upto fnUnreadRuneSpec)) fnUnreadRuneUptoCard

/-- THE SECOND FORM's CARD OF 'laws.FnWriteTo'. -/
def fnWriteToUptoCard : Claim7 := { stood := { row := fnWriteToUptoRow, standIns := [], harness := (true, "b1815cbadff33118e92ddc574fb7d07f4d98d0f45ba4d63c1cafec19e4c6bb10"), looks := true }, kinds := [], alts := [], laidByText := true, laidKinds := [.sentinel, .sentinel, .sentinel, .sentinel, .sentinel, .sentinel, .sentinel, .sentinel], laidTests := true, laidLooks := .later }
def FnWriteToUptoCardSaid : Prop := Claim7.holds Tryd.pinned (.plain (OpenSpec.upto fnWriteToSpec)) fnWriteToUptoCard

/-- THE SECOND FORM's CARD OF 'laws.FnReadFrom'. -/
def fnReadFromUptoCard : Claim7 := { stood := { row := fnReadFromUptoRow, standIns := [], harness := (true, "b1815cbadff33118e92ddc574fb7d07f4d98d0f45ba4d63c1cafec19e4c6bb10"), looks := true }, kinds := [], alts := [], laidByText := true, laidKinds := [.sentinel, .sentinel, .sentinel, .sentinel, .sentinel, .sentinel, .sentinel], laidTests := true, laidLooks := .later }
def FnReadFromUptoCardSaid : Prop := Claim7.holds Tryd.pinned (.plain (OpenSpec.upto fnReadFromSpec)) fnReadFromUptoCard

/-- THE SECOND FORM's CARD OF 'laws.FnCopies'. -/
def fnCopiesUptoCard : Claim7 := { stood := { row := fnCopiesUptoRow, standIns := [], harness := (true, "b1815cbadff33118e92ddc574fb7d07f4d98d0f45ba4d63c1cafec19e4c6bb10"), looks := true }, kinds := [], alts := [], laidByText := true, laidKinds := [.sentinel, .sentinel, .sentinel, .sentinel, .sentinel, .sentinel, .sentinel, .sentinel, .sentinel], laidTests := true, laidLooks := .later }
def FnCopiesUptoCardSaid : Prop := Claim7.holds Tryd.pinned (.plain (OpenSpec.upto fnCopiesSpec)) fnCopiesUptoCard

/-- THE SECOND FORM's CARD OF 'laws.FnApart'. -/
def fnApartUptoCard : Claim7 := { stood := { row := fnApartUptoRow, standIns := [], harness := (true, "b1815cbadff33118e92ddc574fb7d07f4d98d0f45ba4d63c1cafec19e4c6bb10"), looks := true }, kinds := [], alts := [], laidByText := true, laidKinds := [.data, .sentinel, .sentinel, .sentinel, .sentinel, .sentinel, .sentinel, .sentinel, .sentinel, .pinned], laidTests := true, laidLooks := .later }
def FnApartUptoCardSaid : Prop := Claim7.holds Tryd.pinned (.plain (OpenSpec.upto fnApartSpec)) fnApartUptoCard

/-- THE SECOND FORM's CARD OF 'laws.FnFlushed'. -/
def fnFlushedUptoCard : Claim7 := { stood := { row := fnFlushedUptoRow, standIns := [], harness := (true, "b1815cbadff33118e92ddc574fb7d07f4d98d0f45ba4d63c1cafec19e4c6bb10"), looks := true }, kinds := [], alts := [], laidByText := true, laidKinds := [.data, .sentinel, .sentinel, .sentinel, .sentinel, .sentinel, .sentinel, .sentinel, .sentinel, .pinned], laidTests := true, laidLooks := .later }
def FnFlushedUptoCardSaid : Prop := Claim7.holds Tryd.pinned (.plain (OpenSpec.upto fnFlushedSpec)) fnFlushedUptoCard

/-- THE SECOND FORM's CARD OF 'laws.FnLines'. -/
def fnLinesUptoCard : Claim7 := { stood := { row := fnLinesUptoRow, standIns := [], harness := (true, "b1815cbadff33118e92ddc574fb7d07f4d98d0f45ba4d63c1cafec19e4c6bb10"), looks := true }, kinds := [], alts := [], laidByText := true, laidKinds := [.data, .sentinel, .sentinel, .sentinel, .sentinel, .sentinel, .sentinel, .sentinel, .sentinel, .pinned], laidTests := true, laidLooks := .later }
def FnLinesUptoCardSaid : Prop := Claim7.holds Tryd.pinned (.plain (OpenSpec.upto fnLinesSpec)) fnLinesUptoCard

/-- THE SECOND FORM's CARD OF 'laws.FnNegative'. -/
def fnNegativeUptoCard : Claim7 := { stood := { row := fnNegativeUptoRow, standIns := [], harness := (true, "b1815cbadff33118e92ddc574fb7d07f4d98d0f45ba4d63c1cafec19e4c6bb10"), looks := true }, kinds := [], alts := [], laidByText := true, laidKinds := [.data, .sentinel, .sentinel, .sentinel, .sentinel, .sentinel, .sentinel, .sentinel, .sentinel, .pinned], laidTests := true, laidLooks := .later }
def FnNegativeUptoCardSaid : Prop := Claim7.holds Tryd.pinned (.plain (OpenSpec.upto fnNegativeSpec)) fnNegativeUptoCard

/-- THE SECOND FORM's CARD OF 'laws.FnOtherKinds'. -/
def fnOtherKindsUptoCard : Claim7 := { stood := { row := fnOtherKindsUptoRow, standIns := [], harness := (true, "b1815cbadff33118e92ddc574fb7d07f4d98d0f45ba4d63c1cafec19e4c6bb10"), looks := true }, kinds := [], alts := [], laidByText := true, laidKinds := [.data, .sentinel, .sentinel, .sentinel, .sentinel, .sentinel, .sentinel, .sentinel, .sentinel, .pinned], laidTests := true, laidLooks := .later }
def FnOtherKindsUptoCardSaid : Prop := Claim7.holds Tryd.pinned (.plain (OpenSpec.upto fnOtherKindsSpec)) fnOtherKindsUptoCard

/-- THE SECOND FORM's CARD OF 'laws.FnPeekFull'. -/
def fnPeekFullUptoCard : Claim7 := { stood := { row := fnPeekFullUptoRow, standIns := [], harness := (true, "b1815cbadff33118e92ddc574fb7d07f4d98d0f45ba4d63c1cafec19e4c6bb10"), looks := true }, kinds := [], alts := [], laidByText := true, laidKinds := [.data, .sentinel, .sentinel, .sentinel, .sentinel, .sentinel, .sentinel, .sentinel, .sentinel, .pinned], laidTests := true, laidLooks := .later }
def FnPeekFullUptoCardSaid : Prop := Claim7.holds Tryd.pinned (.plain (OpenSpec.upto fnPeekFullSpec)) fnPeekFullUptoCard

/-- THE SECOND FORM's CARD OF 'laws.FnPeeks'. -/
def fnPeeksUptoCard : Claim7 := { stood := { row := fnPeeksUptoRow, standIns := [], harness := (true, "b1815cbadff33118e92ddc574fb7d07f4d98d0f45ba4d63c1cafec19e4c6bb10"), looks := true }, kinds := [], alts := [], laidByText := true, laidKinds := [.data, .sentinel, .sentinel, .sentinel, .sentinel, .sentinel, .sentinel, .sentinel, .sentinel, .pinned], laidTests := true, laidLooks := .later }
def FnPeeksUptoCardSaid : Prop := Claim7.holds Tryd.pinned (.plain (OpenSpec.upto fnPeeksSpec)) fnPeeksUptoCard

/-- THE SECOND FORM's CARD OF 'laws.FnPieces'. -/
def fnPiecesUptoCard : Claim7 := { stood := { row := fnPiecesUptoRow, standIns := [], harness := (true, "b1815cbadff33118e92ddc574fb7d07f4d98d0f45ba4d63c1cafec19e4c6bb10"), looks := true }, kinds := [], alts := [], laidByText := true, laidKinds := [.data, .sentinel, .sentinel, .sentinel, .sentinel, .sentinel, .sentinel, .sentinel, .sentinel, .pinned], laidTests := true, laidLooks := .later }
def FnPiecesUptoCardSaid : Prop := Claim7.holds Tryd.pinned (.plain (OpenSpec.upto fnPiecesSpec)) fnPiecesUptoCard

/-- THE SECOND FORM's CARD OF 'laws.FnRun'. -/
def fnRunUptoCard : Claim7 := { stood := { row := fnRunUptoRow, standIns := [], harness := (true, "b1815cbadff33118e92ddc574fb7d07f4d98d0f45ba4d63c1cafec19e4c6bb10"), looks := true }, kinds := [], alts := [], laidByText := true, laidKinds := [.data, .sentinel, .sentinel, .sentinel, .sentinel, .sentinel, .sentinel, .sentinel, .sentinel, .pinned], laidTests := true, laidLooks := .later }
def FnRunUptoCardSaid : Prop := Claim7.holds Tryd.pinned (.plain (OpenSpec.upto fnRunSpec)) fnRunUptoCard

/-- THE SECOND FORM's CARD OF 'laws.FnRunes'. -/
def fnRunesUptoCard : Claim7 := { stood := { row := fnRunesUptoRow, standIns := [], harness := (true, "b1815cbadff33118e92ddc574fb7d07f4d98d0f45ba4d63c1cafec19e4c6bb10"), looks := true }, kinds := [], alts := [], laidByText := true, laidKinds := [.data, .sentinel, .sentinel, .sentinel, .sentinel, .sentinel, .sentinel, .sentinel, .sentinel, .pinned], laidTests := true, laidLooks := .later }
def FnRunesUptoCardSaid : Prop := Claim7.holds Tryd.pinned (.plain (OpenSpec.upto fnRunesSpec)) fnRunesUptoCard

/-- THE SECOND FORM's CARD OF 'laws.FnRunesWritten'. -/
def fnRunesWrittenUptoCard : Claim7 := { stood := { row := fnRunesWrittenUptoRow, standIns := [], harness := (true, "b1815cbadff33118e92ddc574fb7d07f4d98d0f45ba4d63c1cafec19e4c6bb10"), looks := true }, kinds := [], alts := [], laidByText := true, laidKinds := [.data, .sentinel, .sentinel, .sentinel, .sentinel, .sentinel, .sentinel, .sentinel, .sentinel, .pinned], laidTests := true, laidLooks := .later }
def FnRunesWrittenUptoCardSaid : Prop := Claim7.holds Tryd.pinned (.plain (OpenSpec.upto fnRunesWrittenSpec)) fnRunesWrittenUptoCard

/-- THE SECOND FORM's CARD OF 'laws.FnSink'. -/
def fnSinkUptoCard : Claim7 := { stood := { row := fnSinkUptoRow, standIns := [], harness := (true, "b1815cbadff33118e92ddc574fb7d07f4d98d0f45ba4d63c1cafec19e4c6bb10"), looks := true }, kinds := [], alts := [], laidByText := true, laidKinds := [.data, .sentinel, .sentinel, .sentinel, .sentinel, .sentinel, .sentinel, .sentinel, .sentinel, .pinned], laidTests := true, laidLooks := .later }
def FnSinkUptoCardSaid : Prop := Claim7.holds Tryd.pinned (.plain (OpenSpec.upto fnSinkSpec)) fnSinkUptoCard
end Rows
end Go.Proofs.YtancmlapnhccdaaDoor
