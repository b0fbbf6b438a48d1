/-
  DERIVED. GIVEN WITH THE SEED: THE CARDS: each row of YteodinhkhhaafaaGreatDoorRows.lean that lists a variable, with what it lists TIED to the program's text (the seventh form; the later family's looks); each row that meets fmt, with fmt's text TOLD by the authors' own Lean function (tested against real Go, not proved from fmt's source: count such statements apart). THE CARD IS WHAT COUNTS. Prove the row's statement (the work); the ties are given (YteodinhkhhaafaaGreatDoorTie.lean); close each card by the builder's one call (the guide's Derived/Test/ToyasCard.lean, 'card_holds'). Laid BY PROGRAM, IN A SANDBOX (cutbox-door.mjs). By AI agents, Wed Nov 11 2026. No macro, syntax, notation, axiom, sorry.
-/
import Derived.Test.YteodinhkhhaafaaGreatDoorRows
import GoSem.ClaimSeven
namespace Go.Proofs.YteodinhkhhaafaaGreatDoor
namespace Rows

/-- THE TIED CARD OF 'laws.FnDiagArray'. -/
def fnDiagArrayCard : Claim7 := { stood := { row := fnDiagArrayRow, standIns := [], harness := (true, "6290c9495f33fe9badd3dbfab1b5d898f91c774e4e5da1dae7cabe16e93ab7d6"), looks := true }, kinds := [], alts := [], laidByText := true, laidKinds := [.data, .pinned], laidTests := true, laidLooks := .later }
def FnDiagArrayCardSaid : Prop := Claim7.holds Tryz.pinned (.plain (OpenSpec.ofChange fnDiagArraySpec)) fnDiagArrayCard

/-- THE TIED CARD OF 'laws.FnDiagBack'. -/
def fnDiagBackCard : Claim7 := { stood := { row := fnDiagBackRow, standIns := [], harness := (true, "6290c9495f33fe9badd3dbfab1b5d898f91c774e4e5da1dae7cabe16e93ab7d6"), looks := true }, kinds := [], alts := [], laidByText := true, laidKinds := [.data, .pinned], laidTests := true, laidLooks := .later }
def FnDiagBackCardSaid : Prop := Claim7.holds Tryz.pinned (.plain (OpenSpec.ofChange fnDiagBackSpec)) fnDiagBackCard

/-- THE TIED CARD OF 'laws.FnDiagBig'. -/
def fnDiagBigCard : Claim7 := { stood := { row := fnDiagBigRow, standIns := [], harness := (true, "6290c9495f33fe9badd3dbfab1b5d898f91c774e4e5da1dae7cabe16e93ab7d6"), looks := true }, kinds := [], alts := [], laidByText := true, laidKinds := [.data, .pinned], laidTests := true, laidLooks := .later }
def FnDiagBigCardSaid : Prop := Claim7.holds Tryz.pinned (.plain (OpenSpec.ofChange fnDiagBigSpec)) fnDiagBigCard

/-- THE TIED CARD OF 'laws.FnDiagBytes'. -/
def fnDiagBytesCard : Claim7 := { stood := { row := fnDiagBytesRow, standIns := [], harness := (true, "6290c9495f33fe9badd3dbfab1b5d898f91c774e4e5da1dae7cabe16e93ab7d6"), looks := true }, kinds := [], alts := [], laidByText := true, laidKinds := [.data, .pinned], laidTests := true, laidLooks := .later }
def FnDiagBytesCardSaid : Prop := Claim7.holds Tryz.pinned (.plain (OpenSpec.ofChange fnDiagBytesSpec)) fnDiagBytesCard

/-- THE TIED CARD OF 'laws.FnDiagChunks'. -/
def fnDiagChunksCard : Claim7 := { stood := { row := fnDiagChunksRow, standIns := [], harness := (true, "6290c9495f33fe9badd3dbfab1b5d898f91c774e4e5da1dae7cabe16e93ab7d6"), looks := true }, kinds := [], alts := [], laidByText := true, laidKinds := [.data, .pinned], laidTests := true, laidLooks := .later }
def FnDiagChunksCardSaid : Prop := Claim7.holds Tryz.pinned (.plain (OpenSpec.ofChange fnDiagChunksSpec)) fnDiagChunksCard

/-- THE TIED CARD OF 'laws.FnDiagEmbedded'. -/
def fnDiagEmbeddedCard : Claim7 := { stood := { row := fnDiagEmbeddedRow, standIns := [], harness := (true, "6290c9495f33fe9badd3dbfab1b5d898f91c774e4e5da1dae7cabe16e93ab7d6"), looks := true }, kinds := [], alts := [], laidByText := true, laidKinds := [.data, .pinned], laidTests := true, laidLooks := .later }
def FnDiagEmbeddedCardSaid : Prop := Claim7.holds Tryz.pinned (.plain (OpenSpec.ofChange fnDiagEmbeddedSpec)) fnDiagEmbeddedCard

/-- THE TIED CARD OF 'laws.FnDiagFloat'. -/
def fnDiagFloatCard : Claim7 := { stood := { row := fnDiagFloatRow, standIns := [], harness := (true, "6290c9495f33fe9badd3dbfab1b5d898f91c774e4e5da1dae7cabe16e93ab7d6"), looks := true }, kinds := [], alts := [], laidByText := true, laidKinds := [.data, .pinned], laidTests := true, laidLooks := .later }
def FnDiagFloatCardSaid : Prop := Claim7.holds Tryz.pinned (.plain (OpenSpec.ofChange fnDiagFloatSpec)) fnDiagFloatCard

/-- THE TIED CARD OF 'laws.FnDiagHeads'. -/
def fnDiagHeadsCard : Claim7 := { stood := { row := fnDiagHeadsRow, standIns := [], harness := (true, "6290c9495f33fe9badd3dbfab1b5d898f91c774e4e5da1dae7cabe16e93ab7d6"), looks := true }, kinds := [], alts := [], laidByText := true, laidKinds := [.data, .pinned], laidTests := true, laidLooks := .later }
def FnDiagHeadsCardSaid : Prop := Claim7.holds Tryz.pinned (.plain (OpenSpec.ofChange fnDiagHeadsSpec)) fnDiagHeadsCard

/-- THE TIED CARD OF 'laws.FnDiagLimits'. -/
def fnDiagLimitsCard : Claim7 := { stood := { row := fnDiagLimitsRow, standIns := [], harness := (true, "6290c9495f33fe9badd3dbfab1b5d898f91c774e4e5da1dae7cabe16e93ab7d6"), looks := true }, kinds := [], alts := [], laidByText := true, laidKinds := [.data, .pinned], laidTests := true, laidLooks := .later }
def FnDiagLimitsCardSaid : Prop := Claim7.holds Tryz.pinned (.plain (OpenSpec.ofChange fnDiagLimitsSpec)) fnDiagLimitsCard

/-- THE TIED CARD OF 'laws.FnDiagMap'. -/
def fnDiagMapCard : Claim7 := { stood := { row := fnDiagMapRow, standIns := [], harness := (true, "6290c9495f33fe9badd3dbfab1b5d898f91c774e4e5da1dae7cabe16e93ab7d6"), looks := true }, kinds := [], alts := [], laidByText := true, laidKinds := [.data, .pinned], laidTests := true, laidLooks := .later }
def FnDiagMapCardSaid : Prop := Claim7.holds Tryz.pinned (.plain (OpenSpec.ofChange fnDiagMapSpec)) fnDiagMapCard

/-- THE TIED CARD OF 'laws.FnDiagOne'. -/
def fnDiagOneCard : Claim7 := { stood := { row := fnDiagOneRow, standIns := [], harness := (true, "6290c9495f33fe9badd3dbfab1b5d898f91c774e4e5da1dae7cabe16e93ab7d6"), looks := true }, kinds := [], alts := [], laidByText := true, laidKinds := [.data, .pinned], laidTests := true, laidLooks := .later }
def FnDiagOneCardSaid : Prop := Claim7.holds Tryz.pinned (.plain (OpenSpec.ofChange fnDiagOneSpec)) fnDiagOneCard

/-- THE TIED CARD OF 'laws.FnDiagSequence'. -/
def fnDiagSequenceCard : Claim7 := { stood := { row := fnDiagSequenceRow, standIns := [], harness := (true, "6290c9495f33fe9badd3dbfab1b5d898f91c774e4e5da1dae7cabe16e93ab7d6"), looks := true }, kinds := [], alts := [], laidByText := true, laidKinds := [.data, .pinned], laidTests := true, laidLooks := .later }
def FnDiagSequenceCardSaid : Prop := Claim7.holds Tryz.pinned (.plain (OpenSpec.ofChange fnDiagSequenceSpec)) fnDiagSequenceCard

/-- THE TIED CARD OF 'laws.FnDiagSpaced'. -/
def fnDiagSpacedCard : Claim7 := { stood := { row := fnDiagSpacedRow, standIns := [], harness := (true, "6290c9495f33fe9badd3dbfab1b5d898f91c774e4e5da1dae7cabe16e93ab7d6"), looks := true }, kinds := [], alts := [], laidByText := true, laidKinds := [.data, .pinned], laidTests := true, laidLooks := .later }
def FnDiagSpacedCardSaid : Prop := Claim7.holds Tryz.pinned (.plain (OpenSpec.ofChange fnDiagSpacedSpec)) fnDiagSpacedCard

/-- THE TIED CARD OF 'laws.FnDiagTag'. -/
def fnDiagTagCard : Claim7 := { stood := { row := fnDiagTagRow, standIns := [], harness := (true, "6290c9495f33fe9badd3dbfab1b5d898f91c774e4e5da1dae7cabe16e93ab7d6"), looks := true }, kinds := [], alts := [], laidByText := true, laidKinds := [.data, .pinned], laidTests := true, laidLooks := .later }
def FnDiagTagCardSaid : Prop := Claim7.holds Tryz.pinned (.plain (OpenSpec.ofChange fnDiagTagSpec)) fnDiagTagCard

/-- THE TIED CARD OF 'laws.FnDiagText'. -/
def fnDiagTextCard : Claim7 := { stood := { row := fnDiagTextRow, standIns := [], harness := (true, "6290c9495f33fe9badd3dbfab1b5d898f91c774e4e5da1dae7cabe16e93ab7d6"), looks := true }, kinds := [], alts := [], laidByText := true, laidKinds := [.data, .pinned], laidTests := true, laidLooks := .later }
def FnDiagTextCardSaid : Prop := Claim7.holds Tryz.pinned (.plain (OpenSpec.ofChange fnDiagTextSpec)) fnDiagTextCard

/-- THE TIED CARD OF 'laws.FnDiagWritten'. -/
def fnDiagWrittenCard : Claim7 := { stood := { row := fnDiagWrittenRow, standIns := [], harness := (true, "6290c9495f33fe9badd3dbfab1b5d898f91c774e4e5da1dae7cabe16e93ab7d6"), looks := true }, kinds := [], alts := [], laidByText := true, laidKinds := [.data, .pinned], laidTests := true, laidLooks := .later }
def FnDiagWrittenCardSaid : Prop := Claim7.holds Tryz.pinned (.plain (OpenSpec.ofChange fnDiagWrittenSpec)) fnDiagWrittenCard

/-- THE TIED CARD OF 'laws.FnDiagFirst'. -/
def fnDiagFirstCard : Claim7 := { stood := { row := fnDiagFirstRow, standIns := [], harness := (true, "6290c9495f33fe9badd3dbfab1b5d898f91c774e4e5da1dae7cabe16e93ab7d6"), looks := true }, kinds := [], alts := [], laidByText := true, laidKinds := [.data, .pinned], laidTests := true, laidLooks := .later }
def FnDiagFirstCardSaid : Prop := Claim7.holds Tryz.pinned (.plain (OpenSpec.ofChange fnDiagFirstSpec)) fnDiagFirstCard

/-- THE TIED CARD OF 'laws.FnDiagRefuses'. -/
def fnDiagRefusesCard : Claim7 := { stood := { row := fnDiagRefusesRow, standIns := [], harness := (true, "6290c9495f33fe9badd3dbfab1b5d898f91c774e4e5da1dae7cabe16e93ab7d6"), looks := true }, kinds := [], alts := [], laidByText := true, laidKinds := [.data, .pinned], laidTests := true, laidLooks := .later }
def FnDiagRefusesCardSaid : Prop := Claim7.holds Tryz.pinned (.plain (OpenSpec.ofChange fnDiagRefusesSpec)) fnDiagRefusesCard

/-- THE SECOND FORM's CARD OF 'laws.FnDiagArray'. -/
def fnDiagArrayUptoCard : Claim7 := { stood := { row := fnDiagArrayUptoRow, standIns := [], harness := (true, "6290c9495f33fe9badd3dbfab1b5d898f91c774e4e5da1dae7cabe16e93ab7d6"), looks := true }, kinds := [], alts := [], laidByText := true, laidKinds := [.data, .pinned], laidTests := true, laidLooks := .later }
def FnDiagArrayUptoCardSaid : Prop := Claim7.holds Tryz.pinned (.plain (OpenSpec.upto fnDiagArraySpec)) fnDiagArrayUptoCard

/-- THE SECOND FORM's CARD OF 'laws.FnDiagBack'. -/
def fnDiagBackUptoCard : Claim7 := { stood := { row := fnDiagBackUptoRow, standIns := [], harness := (true, "6290c9495f33fe9badd3dbfab1b5d898f91c774e4e5da1dae7cabe16e93ab7d6"), looks := true }, kinds := [], alts := [], laidByText := true, laidKinds := [.data, .pinned], laidTests := true, laidLooks := .later }
def FnDiagBackUptoCardSaid : Prop := Claim7.holds Tryz.pinned (.plain (OpenSpec.upto fnDiagBackSpec)) fnDiagBackUptoCard

/-- THE SECOND FORM's CARD OF 'laws.FnDiagBig'. -/
def fnDiagBigUptoCard : Claim7 := { stood := { row := fnDiagBigUptoRow, standIns := [], harness := (true, "6290c9495f33fe9badd3dbfab1b5d898f91c774e4e5da1dae7cabe16e93ab7d6"), looks := true }, kinds := [], alts := [], laidByText := true, laidKinds := [.data, .pinned], laidTests := true, laidLooks := .later }
def FnDiagBigUptoCardSaid : Prop := Claim7.holds Tryz.pinned (.plain (OpenSpec.upto fnDiagBigSpec)) fnDiagBigUptoCard

/-- THE SECOND FORM's CARD OF 'laws.FnDiagBytes'. -/
def fnDiagBytesUptoCard : Claim7 := { stood := { row := fnDiagBytesUptoRow, standIns := [], harness := (true, "6290c9495f33fe9badd3dbfab1b5d898f91c774e4e5da1dae7cabe16e93ab7d6"), looks := true }, kinds := [], alts := [], laidByText := true, laidKinds := [.data, .pinned], laidTests := true, laidLooks := .later }
def FnDiagBytesUptoCardSaid : Prop := Claim7.holds Tryz.pinned (.plain (OpenSpec.upto fnDiagBytesSpec)) fnDiagBytesUptoCard

/-- THE SECOND FORM's CARD OF 'laws.FnDiagChunks'. -/
def fnDiagChunksUptoCard : Claim7 := { stood := { row := fnDiagChunksUptoRow, standIns := [], harness := (true, "6290c9495f33fe9badd3dbfab1b5d898f91c774e4e5da1dae7cabe16e93ab7d6"), looks := true }, kinds := [], alts := [], laidByText := true, laidKinds := [.data, .pinned], laidTests := true, laidLooks := .later }
def FnDiagChunksUptoCardSaid : Prop := Claim7.holds Tryz.pinned (.plain (OpenSpec.upto fnDiagChunksSpec)) fnDiagChunksUptoCard

/-- THE SECOND FORM's CARD OF 'laws.FnDiagEmbedded'. -/
def fnDiagEmbeddedUptoCard : Claim7 := { stood := { row := fnDiagEmbeddedUptoRow, standIns := [], harness := (true, "6290c9495f33fe9badd3dbfab1b5d898f91c774e4e5da1dae7cabe16e93ab7d6"), looks := true }, kinds := [], alts := [], laidByText := true, laidKinds := [.data, .pinned], laidTests := true, laidLooks := .later }
def FnDiagEmbeddedUptoCardSaid : Prop := Claim7.holds Tryz.pinned (.plain (OpenSpec.upto fnDiagEmbeddedSpec)) fnDiagEmbeddedUptoCard

/-- THE SECOND FORM's CARD OF 'laws.FnDiagFloat'. -/
def fnDiagFloatUptoCard : Claim7 := { stood := { row := fnDiagFloatUptoRow, standIns := [], harness := (true, "6290c9495f33fe9badd3dbfab1b5d898f91c774e4e5da1dae7cabe16e93ab7d6"), looks := true }, kinds := [], alts := [], laidByText := true, laidKinds := [.data, .pinned], laidTests := true, laidLooks := .later }
def FnDiagFloatUptoCardSaid : Prop := Claim7.holds Tryz.pinned (.plain (OpenSpec.upto fnDiagFloatSpec)) fnDiagFloatUptoCard

/-- THE SECOND FORM's CARD OF 'laws.FnDiagHeads'. -/
def fnDiagHeadsUptoCard : Claim7 := { stood := { row := fnDiagHeadsUptoRow, standIns := [], harness := (true, "6290c9495f33fe9badd3dbfab1b5d898f91c774e4e5da1dae7cabe16e93ab7d6"), looks := true }, kinds := [], alts := [], laidByText := true, laidKinds := [.data, .pinned], laidTests := true, laidLooks := .later }
def FnDiagHeadsUptoCardSaid : Prop := Claim7.holds Tryz.pinned (.plain (OpenSpec.upto fnDiagHeadsSpec)) fnDiagHeadsUptoCard

/-- THE SECOND FORM's CARD OF 'laws.FnDiagLimits'. -/
def fnDiagLimitsUptoCard : Claim7 := { stood := { row := fnDiagLimitsUptoRow, standIns := [], harness := (true, "6290c9495f33fe9badd3dbfab1b5d898f91c774e4e5da1dae7cabe16e93ab7d6"), looks := true }, kinds := [], alts := [], laidByText := true, laidKinds := [.data, .pinned], laidTests := true, laidLooks := .later }
def FnDiagLimitsUptoCardSaid : Prop := Claim7.holds Tryz.pinned (.plain (OpenSpec.upto fnDiagLimitsSpec)) fnDiagLimitsUptoCard

/-- THE SECOND FORM's CARD OF 'laws.FnDiagMap'. -/
def fnDiagMapUptoCard : Claim7 := { stood := { row := fnDiagMapUptoRow, standIns := [], harness := (true, "6290c9495f33fe9badd3dbfab1b5d898f91c774e4e5da1dae7cabe16e93ab7d6"), looks := true }, kinds := [], alts := [], laidByText := true, laidKinds := [.data, .pinned], laidTests := true, laidLooks := .later }
def FnDiagMapUptoCardSaid : Prop := Claim7.holds Tryz.pinned (.plain (OpenSpec.upto fnDiagMapSpec)) fnDiagMapUptoCard

/-- THE SECOND FORM's CARD OF 'laws.FnDiagOne'. -/
def fnDiagOneUptoCard : Claim7 := { stood := { row := fnDiagOneUptoRow, standIns := [], harness := (true, "6290c9495f33fe9badd3dbfab1b5d898f91c774e4e5da1dae7cabe16e93ab7d6"), looks := true }, kinds := [], alts := [], laidByText := true, laidKinds := [.data, .pinned], laidTests := true, laidLooks := .later }
def FnDiagOneUptoCardSaid : Prop := Claim7.holds Tryz.pinned (.plain (OpenSpec.upto fnDiagOneSpec)) fnDiagOneUptoCard

/-- THE SECOND FORM's CARD OF 'laws.FnDiagSequence'. -/
def fnDiagSequenceUptoCard : Claim7 := { stood := { row := fnDiagSequenceUptoRow, standIns := [], harness := (true, "6290c9495f33fe9badd3dbfab1b5d898f91c774e4e5da1dae7cabe16e93ab7d6"), looks := true }, kinds := [], alts := [], laidByText := true, laidKinds := [.data, .pinned], laidTests := true, laidLooks := .later }
def FnDiagSequenceUptoCardSaid : Prop := Claim7.holds Tryz.pinned (.plain (OpenSpec.upto fnDiagSequenceSpec)) fnDiagSequenceUptoCard

/-- THE SECOND FORM's CARD OF 'laws.FnDiagSpaced'. -/
def fnDiagSpacedUptoCard : Claim7 := { stood := { row := fnDiagSpacedUptoRow, standIns := [], harness := (true, "6290c9495f33fe9badd3dbfab1b5d898f91c774e4e5da1dae7cabe16e93ab7d6"), looks := true }, kinds := [], alts := [], laidByText := true, laidKinds := [.data, .pinned], laidTests := true, laidLooks := .later }
def FnDiagSpacedUptoCardSaid : Prop := Claim7.holds Tryz.pinned (.plain (OpenSpec.upto fnDiagSpacedSpec)) fnDiagSpacedUptoCard

/-- THE SECOND FORM's CARD OF 'laws.FnDiagTag'. -/
def fnDiagTagUptoCard : Claim7 := { stood := { row := fnDiagTagUptoRow, standIns := [], harness := (true, "6290c9495f33fe9badd3dbfab1b5d898f91c774e4e5da1dae7cabe16e93ab7d6"), looks := true }, kinds := [], alts := [], laidByText := true, laidKinds := [.data, .pinned], laidTests := true, laidLooks := .later }
def FnDiagTagUptoCardSaid : Prop := Claim7.holds Tryz.pinned (.plain (OpenSpec.upto fnDiagTagSpec)) fnDiagTagUptoCard

/-- THE SECOND FORM's CARD OF 'laws.FnDiagText'. -/
def fnDiagTextUptoCard : Claim7 := { stood := { row := fnDiagTextUptoRow, standIns := [], harness := (true, "6290c9495f33fe9badd3dbfab1b5d898f91c774e4e5da1dae7cabe16e93ab7d6"), looks := true }, kinds := [], alts := [], laidByText := true, laidKinds := [.data, .pinned], laidTests := true, laidLooks := .later }
def FnDiagTextUptoCardSaid : Prop := Claim7.holds Tryz.pinned (.plain (OpenSpec.upto fnDiagTextSpec)) fnDiagTextUptoCard

/-- THE SECOND FORM's CARD OF 'laws.FnDiagWritten'. -/
def fnDiagWrittenUptoCard : Claim7 := { stood := { row := fnDiagWrittenUptoRow, standIns := [], harness := (true, "6290c9495f33fe9badd3dbfab1b5d898f91c774e4e5da1dae7cabe16e93ab7d6"), looks := true }, kinds := [], alts := [], laidByText := true, laidKinds := [.data, .pinned], laidTests := true, laidLooks := .later }
def FnDiagWrittenUptoCardSaid : Prop := Claim7.holds Tryz.pinned (.plain (OpenSpec.upto fnDiagWrittenSpec)) fnDiagWrittenUptoCard

/-- THE SECOND FORM's CARD OF 'laws.FnDiagFirst'. -/
def fnDiagFirstUptoCard : Claim7 := { stood := { row := fnDiagFirstUptoRow, standIns := [], harness := (true, "6290c9495f33fe9badd3dbfab1b5d898f91c774e4e5da1dae7cabe16e93ab7d6"), looks := true }, kinds := [], alts := [], laidByText := true, laidKinds := [.data, .pinned], laidTests := true, laidLooks := .later }
def FnDiagFirstUptoCardSaid : Prop := Claim7.holds Tryz.pinned (.plain (OpenSpec.upto fnDiagFirstSpec)) fnDiagFirstUptoCard

/-- THE SECOND FORM's CARD OF 'laws.FnDiagRefuses'. -/
def fnDiagRefusesUptoCard : Claim7 := { stood := { row := fnDiagRefusesUptoRow, standIns := [], harness := (true, "6290c9495f33fe9badd3dbfab1b5d898f91c774e4e5da1dae7cabe16e93ab7d6"), looks := true }, kinds := [], alts := [], laidByText := true, laidKinds := [.data, .pinned], laidTests := true, laidLooks := .later }
def FnDiagRefusesUptoCardSaid : Prop := Claim7.holds Tryz.pinned (.plain (OpenSpec.upto fnDiagRefusesSpec)) fnDiagRefusesUptoCard
end Rows
end Go.Proofs.YteodinhkhhaafaaGreatDoor
