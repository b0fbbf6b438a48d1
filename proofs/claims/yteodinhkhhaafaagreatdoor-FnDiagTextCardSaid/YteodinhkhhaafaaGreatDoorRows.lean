/-
  NARROWER THAN 'FOR EVERY INPUT', by the rows' own cells (each row's printed sentence says how): FnDiagArray: laid · FnDiagBack: loops, laid · FnDiagBig: laid · FnDiagBytes: laid · FnDiagChunks: laid · FnDiagEmbedded: laid · FnDiagFloat: laid · FnDiagHeads: laid · FnDiagLimits: laid · FnDiagMap: laid · FnDiagOne: laid · FnDiagSequence: laid · FnDiagSpaced: laid · FnDiagTag: laid · FnDiagText: laid · FnDiagWritten: loops, laid · FnDiagFirst: laid · FnDiagRefuses: laid.
  DERIVED. THE GIVEN ROWS OF THIS SEAT. 18 by the template 'for every input the law returns true; each argument reads behind the call as it read before'; 0 by the template 'total and deterministic' (their statements: YteodinhkhhaafaaGreatDoorTotals.lean).
  GIVEN WITH THE SEED: the statements are not yours to turn. If you find one false, say at which input.
  Laid BY PROGRAM, IN A SANDBOX (cutbox-rows.mjs): the forced cells as the released guide's own fill.sh prints them over the translation 40ee8a074ded440b… (all of the seat's roots in one cut). By AI agents, Wed Nov 11 2026. No macro, syntax, notation, axiom, sorry.
-/
import Derived.Test.YteodinhkhhaafaaGreatDoorChecked
import GoSem.PinnedTables
import GoSem.Claim
import GoSem.ClaimJoined
import GoSem.ClaimMapViews
import Derived.JoinedTies
import Derived.KernelRfl
namespace Go.Proofs.YteodinhkhhaafaaGreatDoor
/- THE CELL 'sum', in the pinned program and in every row, IS THE sha256 OF THE DUMP (.gsa) THAT YteodinhkhhaafaaGreatDoorProg.lean LOADS. Nothing in Lean hashes anything: it is a label: what it is worth is what the hold of that sum in a sandbox is worth. -/
noncomputable def Tryz.pinned : Pinned := { name := "yteodinhkhhaafaagreatdoor", sum := "40ee8a074ded440b22d6065726cdce4794aaf775790f5f854c78c30e0054fec3", checked := Tryz.checked }
namespace Rows
def none {H : Type} : Left H := { results := [], args := [] }

/- WHAT THE LISTED PACKAGE-LEVEL VARIABLES READ AS WHEN THE CALL BEGINS. Each datum BY PROGRAM (the guide's laid-datum.mjs) off the statement by which the dump's own 'gosem.cut.vars' lays the variable. In a bare row this is a premise. The card (YteodinhkhhaafaaGreatDoorCards.lean) ties it to the program's text. -/
def laid_unicode_utf8_acceptRanges {H : Type} : DataW H := .agg [.agg [.lit (.int .u8 128), .lit (.int .u8 191)], .agg [.lit (.int .u8 160), .lit (.int .u8 191)], .agg [.lit (.int .u8 128), .lit (.int .u8 159)], .agg [.lit (.int .u8 144), .lit (.int .u8 191)], .agg [.lit (.int .u8 128), .lit (.int .u8 143)], .agg [.lit (.int .u8 0), .lit (.int .u8 0)], .agg [.lit (.int .u8 0), .lit (.int .u8 0)], .agg [.lit (.int .u8 0), .lit (.int .u8 0)], .agg [.lit (.int .u8 0), .lit (.int .u8 0)], .agg [.lit (.int .u8 0), .lit (.int .u8 0)], .agg [.lit (.int .u8 0), .lit (.int .u8 0)], .agg [.lit (.int .u8 0), .lit (.int .u8 0)], .agg [.lit (.int .u8 0), .lit (.int .u8 0)], .agg [.lit (.int .u8 0), .lit (.int .u8 0)], .agg [.lit (.int .u8 0), .lit (.int .u8 0)], .agg [.lit (.int .u8 0), .lit (.int .u8 0)]]
/-- One of Go's own tables, pinned by name: the form's constant. -/
def laid_unicode_utf8_first : DataW Unit := Go.Pinned.utf8First

/-- 'laws.FnDiagArray': WHATEVER THE INPUT: true; the input reads as it did. -/
def fnDiagArraySpec : ChangeSpec := { name := "fnDiagArray", fn := fun _ => fun
  | [d1, d2, d3] => { results := [.lit (.bool true)], args := [d1, d2, d3] }
  | _ => none }
def fnDiagArrayRow : OpenClaim := { program := "yteodinhkhhaafaagreatdoor", sum := "40ee8a074ded440b22d6065726cdce4794aaf775790f5f854c78c30e0054fec3", func := "pub-necessaire/laws.FnDiagArray", spec := "fnDiagArray", inPlace := ["math.Float32frombits", "math.Float64bits", "math.Float64frombits", "math.Float32bits"], recurses := true, named := ["unicode/utf8.first", "unicode/utf8.acceptRanges"], apart := false, laid := [("unicode/utf8.acceptRanges", laid_unicode_utf8_acceptRanges), ("unicode/utf8.first", laid_unicode_utf8_first)] }
def FnDiagArraySaid : Prop := fnDiagArrayRow.holds Tryz.pinned (OpenSpec.ofChange fnDiagArraySpec)

/-- ITS FALSE NEIGHBOUR: 'it returns false'. Refute it at one input. -/
def fnDiagArrayWrong : ChangeSpec := { name := "fnDiagArray", fn := fun _ => fun
  | [d1, d2, d3] => { results := [.lit (.bool false)], args := [d1, d2, d3] }
  | _ => none }
def FnDiagArrayWrongFalsely : Prop := fnDiagArrayRow.holds Tryz.pinned (OpenSpec.ofChange fnDiagArrayWrong)

/-- 'laws.FnDiagBack': WHATEVER THE INPUT: true; the input reads as it did. -/
def fnDiagBackSpec : ChangeSpec := { name := "fnDiagBack", fn := fun _ => fun
  | [d1, d2, d3] => { results := [.lit (.bool true)], args := [d1, d2, d3] }
  | _ => none }
def fnDiagBackRow : OpenClaim := { program := "yteodinhkhhaafaagreatdoor", sum := "40ee8a074ded440b22d6065726cdce4794aaf775790f5f854c78c30e0054fec3", func := "pub-necessaire/laws.FnDiagBack", spec := "fnDiagBack", inPlace := ["math.Float32frombits", "math.Float64bits", "math.Float64frombits", "math.Float32bits"], recurses := true, named := ["unicode/utf8.first", "unicode/utf8.acceptRanges"], loops := true, apart := false, laid := [("unicode/utf8.acceptRanges", laid_unicode_utf8_acceptRanges), ("unicode/utf8.first", laid_unicode_utf8_first)] }
def FnDiagBackSaid : Prop := fnDiagBackRow.holds Tryz.pinned (OpenSpec.ofChange fnDiagBackSpec)

/-- ITS FALSE NEIGHBOUR: 'it returns false'. Refute it at one input. -/
def fnDiagBackWrong : ChangeSpec := { name := "fnDiagBack", fn := fun _ => fun
  | [d1, d2, d3] => { results := [.lit (.bool false)], args := [d1, d2, d3] }
  | _ => none }
def FnDiagBackWrongFalsely : Prop := fnDiagBackRow.holds Tryz.pinned (OpenSpec.ofChange fnDiagBackWrong)

/-- 'laws.FnDiagBig': WHATEVER THE INPUT: true; the input reads as it did. -/
def fnDiagBigSpec : ChangeSpec := { name := "fnDiagBig", fn := fun _ => fun
  | [d1, d2] => { results := [.lit (.bool true)], args := [d1, d2] }
  | _ => none }
def fnDiagBigRow : OpenClaim := { program := "yteodinhkhhaafaagreatdoor", sum := "40ee8a074ded440b22d6065726cdce4794aaf775790f5f854c78c30e0054fec3", func := "pub-necessaire/laws.FnDiagBig", spec := "fnDiagBig", inPlace := ["math.Float32frombits", "math.Float64bits", "math.Float64frombits", "math.Float32bits"], unfollowed := true, recurses := true, named := ["unicode/utf8.first", "unicode/utf8.acceptRanges"], apart := false, laid := [("unicode/utf8.acceptRanges", laid_unicode_utf8_acceptRanges), ("unicode/utf8.first", laid_unicode_utf8_first)] }
def FnDiagBigSaid : Prop := fnDiagBigRow.holds Tryz.pinned (OpenSpec.ofChange fnDiagBigSpec)

/-- ITS FALSE NEIGHBOUR: 'it returns false'. Refute it at one input. -/
def fnDiagBigWrong : ChangeSpec := { name := "fnDiagBig", fn := fun _ => fun
  | [d1, d2] => { results := [.lit (.bool false)], args := [d1, d2] }
  | _ => none }
def FnDiagBigWrongFalsely : Prop := fnDiagBigRow.holds Tryz.pinned (OpenSpec.ofChange fnDiagBigWrong)

/-- 'laws.FnDiagBytes': WHATEVER THE INPUT: true; the input reads as it did. -/
def fnDiagBytesSpec : ChangeSpec := { name := "fnDiagBytes", fn := fun _ => fun
  | [d1, d2] => { results := [.lit (.bool true)], args := [d1, d2] }
  | _ => none }
def fnDiagBytesRow : OpenClaim := { program := "yteodinhkhhaafaagreatdoor", sum := "40ee8a074ded440b22d6065726cdce4794aaf775790f5f854c78c30e0054fec3", func := "pub-necessaire/laws.FnDiagBytes", spec := "fnDiagBytes", inPlace := ["math.Float32frombits", "math.Float64bits", "math.Float64frombits", "math.Float32bits"], recurses := true, named := ["unicode/utf8.first", "unicode/utf8.acceptRanges"], apart := false, laid := [("unicode/utf8.acceptRanges", laid_unicode_utf8_acceptRanges), ("unicode/utf8.first", laid_unicode_utf8_first)] }
def FnDiagBytesSaid : Prop := fnDiagBytesRow.holds Tryz.pinned (OpenSpec.ofChange fnDiagBytesSpec)

/-- ITS FALSE NEIGHBOUR: 'it returns false'. Refute it at one input. -/
def fnDiagBytesWrong : ChangeSpec := { name := "fnDiagBytes", fn := fun _ => fun
  | [d1, d2] => { results := [.lit (.bool false)], args := [d1, d2] }
  | _ => none }
def FnDiagBytesWrongFalsely : Prop := fnDiagBytesRow.holds Tryz.pinned (OpenSpec.ofChange fnDiagBytesWrong)

/-- 'laws.FnDiagChunks': WHATEVER THE INPUT: true; the input reads as it did. -/
def fnDiagChunksSpec : ChangeSpec := { name := "fnDiagChunks", fn := fun _ => fun
  | [d1, d2, d3] => { results := [.lit (.bool true)], args := [d1, d2, d3] }
  | _ => none }
def fnDiagChunksRow : OpenClaim := { program := "yteodinhkhhaafaagreatdoor", sum := "40ee8a074ded440b22d6065726cdce4794aaf775790f5f854c78c30e0054fec3", func := "pub-necessaire/laws.FnDiagChunks", spec := "fnDiagChunks", inPlace := ["math.Float32frombits", "math.Float64bits", "math.Float64frombits", "math.Float32bits"], recurses := true, named := ["unicode/utf8.first", "unicode/utf8.acceptRanges"], apart := false, laid := [("unicode/utf8.acceptRanges", laid_unicode_utf8_acceptRanges), ("unicode/utf8.first", laid_unicode_utf8_first)] }
def FnDiagChunksSaid : Prop := fnDiagChunksRow.holds Tryz.pinned (OpenSpec.ofChange fnDiagChunksSpec)

/-- ITS FALSE NEIGHBOUR: 'it returns false'. Refute it at one input. -/
def fnDiagChunksWrong : ChangeSpec := { name := "fnDiagChunks", fn := fun _ => fun
  | [d1, d2, d3] => { results := [.lit (.bool false)], args := [d1, d2, d3] }
  | _ => none }
def FnDiagChunksWrongFalsely : Prop := fnDiagChunksRow.holds Tryz.pinned (OpenSpec.ofChange fnDiagChunksWrong)

/-- 'laws.FnDiagEmbedded': WHATEVER THE INPUT: true; the input reads as it did. -/
def fnDiagEmbeddedSpec : ChangeSpec := { name := "fnDiagEmbedded", fn := fun _ => fun
  | [d1, d2] => { results := [.lit (.bool true)], args := [d1, d2] }
  | _ => none }
def fnDiagEmbeddedRow : OpenClaim := { program := "yteodinhkhhaafaagreatdoor", sum := "40ee8a074ded440b22d6065726cdce4794aaf775790f5f854c78c30e0054fec3", func := "pub-necessaire/laws.FnDiagEmbedded", spec := "fnDiagEmbedded", inPlace := ["math.Float32frombits", "math.Float64bits", "math.Float64frombits", "math.Float32bits"], recurses := true, named := ["unicode/utf8.first", "unicode/utf8.acceptRanges"], apart := false, laid := [("unicode/utf8.acceptRanges", laid_unicode_utf8_acceptRanges), ("unicode/utf8.first", laid_unicode_utf8_first)] }
def FnDiagEmbeddedSaid : Prop := fnDiagEmbeddedRow.holds Tryz.pinned (OpenSpec.ofChange fnDiagEmbeddedSpec)

/-- ITS FALSE NEIGHBOUR: 'it returns false'. Refute it at one input. -/
def fnDiagEmbeddedWrong : ChangeSpec := { name := "fnDiagEmbedded", fn := fun _ => fun
  | [d1, d2] => { results := [.lit (.bool false)], args := [d1, d2] }
  | _ => none }
def FnDiagEmbeddedWrongFalsely : Prop := fnDiagEmbeddedRow.holds Tryz.pinned (OpenSpec.ofChange fnDiagEmbeddedWrong)

/-- 'laws.FnDiagFloat': WHATEVER THE INPUT: true; the input reads as it did. -/
def fnDiagFloatSpec : ChangeSpec := { name := "fnDiagFloat", fn := fun _ => fun
  | [d1, d2, d3] => { results := [.lit (.bool true)], args := [d1, d2, d3] }
  | _ => none }
def fnDiagFloatRow : OpenClaim := { program := "yteodinhkhhaafaagreatdoor", sum := "40ee8a074ded440b22d6065726cdce4794aaf775790f5f854c78c30e0054fec3", func := "pub-necessaire/laws.FnDiagFloat", spec := "fnDiagFloat", inPlace := ["math.Float32frombits", "math.Float64bits", "math.Float64frombits", "math.Float32bits"], recurses := true, named := ["unicode/utf8.first", "unicode/utf8.acceptRanges"], apart := false, laid := [("unicode/utf8.acceptRanges", laid_unicode_utf8_acceptRanges), ("unicode/utf8.first", laid_unicode_utf8_first)] }
def FnDiagFloatSaid : Prop := fnDiagFloatRow.holds Tryz.pinned (OpenSpec.ofChange fnDiagFloatSpec)

/-- ITS FALSE NEIGHBOUR: 'it returns false'. Refute it at one input. -/
def fnDiagFloatWrong : ChangeSpec := { name := "fnDiagFloat", fn := fun _ => fun
  | [d1, d2, d3] => { results := [.lit (.bool false)], args := [d1, d2, d3] }
  | _ => none }
def FnDiagFloatWrongFalsely : Prop := fnDiagFloatRow.holds Tryz.pinned (OpenSpec.ofChange fnDiagFloatWrong)

/-- 'laws.FnDiagHeads': WHATEVER THE INPUT: true; the input reads as it did. -/
def fnDiagHeadsSpec : ChangeSpec := { name := "fnDiagHeads", fn := fun _ => fun
  | [d1, d2, d3] => { results := [.lit (.bool true)], args := [d1, d2, d3] }
  | _ => none }
def fnDiagHeadsRow : OpenClaim := { program := "yteodinhkhhaafaagreatdoor", sum := "40ee8a074ded440b22d6065726cdce4794aaf775790f5f854c78c30e0054fec3", func := "pub-necessaire/laws.FnDiagHeads", spec := "fnDiagHeads", inPlace := ["math.Float32frombits", "math.Float64bits", "math.Float64frombits", "math.Float32bits"], recurses := true, named := ["unicode/utf8.first", "unicode/utf8.acceptRanges"], apart := false, laid := [("unicode/utf8.acceptRanges", laid_unicode_utf8_acceptRanges), ("unicode/utf8.first", laid_unicode_utf8_first)] }
def FnDiagHeadsSaid : Prop := fnDiagHeadsRow.holds Tryz.pinned (OpenSpec.ofChange fnDiagHeadsSpec)

/-- ITS FALSE NEIGHBOUR: 'it returns false'. Refute it at one input. -/
def fnDiagHeadsWrong : ChangeSpec := { name := "fnDiagHeads", fn := fun _ => fun
  | [d1, d2, d3] => { results := [.lit (.bool false)], args := [d1, d2, d3] }
  | _ => none }
def FnDiagHeadsWrongFalsely : Prop := fnDiagHeadsRow.holds Tryz.pinned (OpenSpec.ofChange fnDiagHeadsWrong)

/-- 'laws.FnDiagLimits': WHATEVER THE INPUT: true; the input reads as it did. -/
def fnDiagLimitsSpec : ChangeSpec := { name := "fnDiagLimits", fn := fun _ => fun
  | [d1, d2, d3] => { results := [.lit (.bool true)], args := [d1, d2, d3] }
  | _ => none }
def fnDiagLimitsRow : OpenClaim := { program := "yteodinhkhhaafaagreatdoor", sum := "40ee8a074ded440b22d6065726cdce4794aaf775790f5f854c78c30e0054fec3", func := "pub-necessaire/laws.FnDiagLimits", spec := "fnDiagLimits", inPlace := ["math.Float32frombits", "math.Float64bits", "math.Float64frombits", "math.Float32bits"], recurses := true, named := ["unicode/utf8.first", "unicode/utf8.acceptRanges"], apart := false, laid := [("unicode/utf8.acceptRanges", laid_unicode_utf8_acceptRanges), ("unicode/utf8.first", laid_unicode_utf8_first)] }
def FnDiagLimitsSaid : Prop := fnDiagLimitsRow.holds Tryz.pinned (OpenSpec.ofChange fnDiagLimitsSpec)

/-- ITS FALSE NEIGHBOUR: 'it returns false'. Refute it at one input. -/
def fnDiagLimitsWrong : ChangeSpec := { name := "fnDiagLimits", fn := fun _ => fun
  | [d1, d2, d3] => { results := [.lit (.bool false)], args := [d1, d2, d3] }
  | _ => none }
def FnDiagLimitsWrongFalsely : Prop := fnDiagLimitsRow.holds Tryz.pinned (OpenSpec.ofChange fnDiagLimitsWrong)

/-- 'laws.FnDiagMap': WHATEVER THE INPUT: true; the input reads as it did. -/
def fnDiagMapSpec : ChangeSpec := { name := "fnDiagMap", fn := fun _ => fun
  | [d1, d2, d3] => { results := [.lit (.bool true)], args := [d1, d2, d3] }
  | _ => none }
def fnDiagMapRow : OpenClaim := { program := "yteodinhkhhaafaagreatdoor", sum := "40ee8a074ded440b22d6065726cdce4794aaf775790f5f854c78c30e0054fec3", func := "pub-necessaire/laws.FnDiagMap", spec := "fnDiagMap", inPlace := ["math.Float32frombits", "math.Float64bits", "math.Float64frombits", "math.Float32bits"], recurses := true, named := ["unicode/utf8.first", "unicode/utf8.acceptRanges"], apart := false, laid := [("unicode/utf8.acceptRanges", laid_unicode_utf8_acceptRanges), ("unicode/utf8.first", laid_unicode_utf8_first)] }
def FnDiagMapSaid : Prop := fnDiagMapRow.holds Tryz.pinned (OpenSpec.ofChange fnDiagMapSpec)

/-- ITS FALSE NEIGHBOUR: 'it returns false'. Refute it at one input. -/
def fnDiagMapWrong : ChangeSpec := { name := "fnDiagMap", fn := fun _ => fun
  | [d1, d2, d3] => { results := [.lit (.bool false)], args := [d1, d2, d3] }
  | _ => none }
def FnDiagMapWrongFalsely : Prop := fnDiagMapRow.holds Tryz.pinned (OpenSpec.ofChange fnDiagMapWrong)

/-- 'laws.FnDiagOne': WHATEVER THE INPUT: true; the input reads as it did. -/
def fnDiagOneSpec : ChangeSpec := { name := "fnDiagOne", fn := fun _ => fun
  | [d1, d2] => { results := [.lit (.bool true)], args := [d1, d2] }
  | _ => none }
def fnDiagOneRow : OpenClaim := { program := "yteodinhkhhaafaagreatdoor", sum := "40ee8a074ded440b22d6065726cdce4794aaf775790f5f854c78c30e0054fec3", func := "pub-necessaire/laws.FnDiagOne", spec := "fnDiagOne", inPlace := ["math.Float32frombits", "math.Float64bits", "math.Float64frombits", "math.Float32bits"], recurses := true, named := ["unicode/utf8.first", "unicode/utf8.acceptRanges"], apart := false, laid := [("unicode/utf8.acceptRanges", laid_unicode_utf8_acceptRanges), ("unicode/utf8.first", laid_unicode_utf8_first)] }
def FnDiagOneSaid : Prop := fnDiagOneRow.holds Tryz.pinned (OpenSpec.ofChange fnDiagOneSpec)

/-- ITS FALSE NEIGHBOUR: 'it returns false'. Refute it at one input. -/
def fnDiagOneWrong : ChangeSpec := { name := "fnDiagOne", fn := fun _ => fun
  | [d1, d2] => { results := [.lit (.bool false)], args := [d1, d2] }
  | _ => none }
def FnDiagOneWrongFalsely : Prop := fnDiagOneRow.holds Tryz.pinned (OpenSpec.ofChange fnDiagOneWrong)

/-- 'laws.FnDiagSequence': WHATEVER THE INPUT: true; the input reads as it did. -/
def fnDiagSequenceSpec : ChangeSpec := { name := "fnDiagSequence", fn := fun _ => fun
  | [d1, d2] => { results := [.lit (.bool true)], args := [d1, d2] }
  | _ => none }
def fnDiagSequenceRow : OpenClaim := { program := "yteodinhkhhaafaagreatdoor", sum := "40ee8a074ded440b22d6065726cdce4794aaf775790f5f854c78c30e0054fec3", func := "pub-necessaire/laws.FnDiagSequence", spec := "fnDiagSequence", inPlace := ["math.Float32frombits", "math.Float64bits", "math.Float64frombits", "math.Float32bits"], recurses := true, named := ["unicode/utf8.first", "unicode/utf8.acceptRanges"], apart := false, laid := [("unicode/utf8.acceptRanges", laid_unicode_utf8_acceptRanges), ("unicode/utf8.first", laid_unicode_utf8_first)] }
def FnDiagSequenceSaid : Prop := fnDiagSequenceRow.holds Tryz.pinned (OpenSpec.ofChange fnDiagSequenceSpec)

/-- ITS FALSE NEIGHBOUR: 'it returns false'. Refute it at one input. -/
def fnDiagSequenceWrong : ChangeSpec := { name := "fnDiagSequence", fn := fun _ => fun
  | [d1, d2] => { results := [.lit (.bool false)], args := [d1, d2] }
  | _ => none }
def FnDiagSequenceWrongFalsely : Prop := fnDiagSequenceRow.holds Tryz.pinned (OpenSpec.ofChange fnDiagSequenceWrong)

/-- 'laws.FnDiagSpaced': WHATEVER THE INPUT: true; the input reads as it did. -/
def fnDiagSpacedSpec : ChangeSpec := { name := "fnDiagSpaced", fn := fun _ => fun
  | [d] => { results := [.lit (.bool true)], args := [d] }
  | _ => none }
def fnDiagSpacedRow : OpenClaim := { program := "yteodinhkhhaafaagreatdoor", sum := "40ee8a074ded440b22d6065726cdce4794aaf775790f5f854c78c30e0054fec3", func := "pub-necessaire/laws.FnDiagSpaced", spec := "fnDiagSpaced", inPlace := ["math.Float32frombits", "math.Float64bits", "math.Float64frombits", "math.Float32bits"], recurses := true, named := ["unicode/utf8.first", "unicode/utf8.acceptRanges"], apart := false, laid := [("unicode/utf8.acceptRanges", laid_unicode_utf8_acceptRanges), ("unicode/utf8.first", laid_unicode_utf8_first)] }
def FnDiagSpacedSaid : Prop := fnDiagSpacedRow.holds Tryz.pinned (OpenSpec.ofChange fnDiagSpacedSpec)

/-- ITS FALSE NEIGHBOUR: 'it returns false'. Refute it at one input. -/
def fnDiagSpacedWrong : ChangeSpec := { name := "fnDiagSpaced", fn := fun _ => fun
  | [d] => { results := [.lit (.bool false)], args := [d] }
  | _ => none }
def FnDiagSpacedWrongFalsely : Prop := fnDiagSpacedRow.holds Tryz.pinned (OpenSpec.ofChange fnDiagSpacedWrong)

/-- 'laws.FnDiagTag': WHATEVER THE INPUT: true; the input reads as it did. -/
def fnDiagTagSpec : ChangeSpec := { name := "fnDiagTag", fn := fun _ => fun
  | [d1, d2, d3] => { results := [.lit (.bool true)], args := [d1, d2, d3] }
  | _ => none }
def fnDiagTagRow : OpenClaim := { program := "yteodinhkhhaafaagreatdoor", sum := "40ee8a074ded440b22d6065726cdce4794aaf775790f5f854c78c30e0054fec3", func := "pub-necessaire/laws.FnDiagTag", spec := "fnDiagTag", inPlace := ["math.Float32frombits", "math.Float64bits", "math.Float64frombits", "math.Float32bits"], recurses := true, named := ["unicode/utf8.first", "unicode/utf8.acceptRanges"], apart := false, laid := [("unicode/utf8.acceptRanges", laid_unicode_utf8_acceptRanges), ("unicode/utf8.first", laid_unicode_utf8_first)] }
def FnDiagTagSaid : Prop := fnDiagTagRow.holds Tryz.pinned (OpenSpec.ofChange fnDiagTagSpec)

/-- ITS FALSE NEIGHBOUR: 'it returns false'. Refute it at one input. -/
def fnDiagTagWrong : ChangeSpec := { name := "fnDiagTag", fn := fun _ => fun
  | [d1, d2, d3] => { results := [.lit (.bool false)], args := [d1, d2, d3] }
  | _ => none }
def FnDiagTagWrongFalsely : Prop := fnDiagTagRow.holds Tryz.pinned (OpenSpec.ofChange fnDiagTagWrong)

/-- 'laws.FnDiagText': WHATEVER THE INPUT: true; the input reads as it did. -/
def fnDiagTextSpec : ChangeSpec := { name := "fnDiagText", fn := fun _ => fun
  | [d1, d2] => { results := [.lit (.bool true)], args := [d1, d2] }
  | _ => none }
def fnDiagTextRow : OpenClaim := { program := "yteodinhkhhaafaagreatdoor", sum := "40ee8a074ded440b22d6065726cdce4794aaf775790f5f854c78c30e0054fec3", func := "pub-necessaire/laws.FnDiagText", spec := "fnDiagText", inPlace := ["math.Float32frombits", "math.Float64bits", "math.Float64frombits", "math.Float32bits"], recurses := true, named := ["unicode/utf8.first", "unicode/utf8.acceptRanges"], apart := false, laid := [("unicode/utf8.acceptRanges", laid_unicode_utf8_acceptRanges), ("unicode/utf8.first", laid_unicode_utf8_first)] }
def FnDiagTextSaid : Prop := fnDiagTextRow.holds Tryz.pinned (OpenSpec.ofChange fnDiagTextSpec)

/-- ITS FALSE NEIGHBOUR: 'it returns false'. Refute it at one input. -/
def fnDiagTextWrong : ChangeSpec := { name := "fnDiagText", fn := fun _ => fun
  | [d1, d2] => { results := [.lit (.bool false)], args := [d1, d2] }
  | _ => none }
def FnDiagTextWrongFalsely : Prop := fnDiagTextRow.holds Tryz.pinned (OpenSpec.ofChange fnDiagTextWrong)

/-- 'laws.FnDiagWritten': WHATEVER THE INPUT: true; the input reads as it did. -/
def fnDiagWrittenSpec : ChangeSpec := { name := "fnDiagWritten", fn := fun _ => fun
  | [d1, d2] => { results := [.lit (.bool true)], args := [d1, d2] }
  | _ => none }
def fnDiagWrittenRow : OpenClaim := { program := "yteodinhkhhaafaagreatdoor", sum := "40ee8a074ded440b22d6065726cdce4794aaf775790f5f854c78c30e0054fec3", func := "pub-necessaire/laws.FnDiagWritten", spec := "fnDiagWritten", inPlace := ["math.Float32frombits", "math.Float64bits", "math.Float64frombits", "math.Float32bits"], recurses := true, named := ["unicode/utf8.first", "unicode/utf8.acceptRanges"], loops := true, apart := false, laid := [("unicode/utf8.acceptRanges", laid_unicode_utf8_acceptRanges), ("unicode/utf8.first", laid_unicode_utf8_first)] }
def FnDiagWrittenSaid : Prop := fnDiagWrittenRow.holds Tryz.pinned (OpenSpec.ofChange fnDiagWrittenSpec)

/-- ITS FALSE NEIGHBOUR: 'it returns false'. Refute it at one input. -/
def fnDiagWrittenWrong : ChangeSpec := { name := "fnDiagWritten", fn := fun _ => fun
  | [d1, d2] => { results := [.lit (.bool false)], args := [d1, d2] }
  | _ => none }
def FnDiagWrittenWrongFalsely : Prop := fnDiagWrittenRow.holds Tryz.pinned (OpenSpec.ofChange fnDiagWrittenWrong)

/-- 'laws.FnDiagFirst': WHATEVER THE INPUT: true; the input reads as it did. -/
def fnDiagFirstSpec : ChangeSpec := { name := "fnDiagFirst", fn := fun _ => fun
  | [d1, d2, d3] => { results := [.lit (.bool true)], args := [d1, d2, d3] }
  | _ => none }
def fnDiagFirstRow : OpenClaim := { program := "yteodinhkhhaafaagreatdoor", sum := "40ee8a074ded440b22d6065726cdce4794aaf775790f5f854c78c30e0054fec3", func := "pub-necessaire/laws.FnDiagFirst", spec := "fnDiagFirst", inPlace := ["math.Float32frombits", "math.Float64bits", "math.Float64frombits", "math.Float32bits"], recurses := true, named := ["unicode/utf8.first", "unicode/utf8.acceptRanges"], apart := false, laid := [("unicode/utf8.acceptRanges", laid_unicode_utf8_acceptRanges), ("unicode/utf8.first", laid_unicode_utf8_first)] }
def FnDiagFirstSaid : Prop := fnDiagFirstRow.holds Tryz.pinned (OpenSpec.ofChange fnDiagFirstSpec)

/-- ITS FALSE NEIGHBOUR: 'it returns false'. Refute it at one input. -/
def fnDiagFirstWrong : ChangeSpec := { name := "fnDiagFirst", fn := fun _ => fun
  | [d1, d2, d3] => { results := [.lit (.bool false)], args := [d1, d2, d3] }
  | _ => none }
def FnDiagFirstWrongFalsely : Prop := fnDiagFirstRow.holds Tryz.pinned (OpenSpec.ofChange fnDiagFirstWrong)

/-- 'laws.FnDiagRefuses': WHATEVER THE INPUT: true; the input reads as it did. -/
def fnDiagRefusesSpec : ChangeSpec := { name := "fnDiagRefuses", fn := fun _ => fun
  | [d1, d2] => { results := [.lit (.bool true)], args := [d1, d2] }
  | _ => none }
def fnDiagRefusesRow : OpenClaim := { program := "yteodinhkhhaafaagreatdoor", sum := "40ee8a074ded440b22d6065726cdce4794aaf775790f5f854c78c30e0054fec3", func := "pub-necessaire/laws.FnDiagRefuses", spec := "fnDiagRefuses", inPlace := ["math.Float32frombits", "math.Float64bits", "math.Float64frombits", "math.Float32bits"], recurses := true, named := ["unicode/utf8.first", "unicode/utf8.acceptRanges"], apart := false, laid := [("unicode/utf8.acceptRanges", laid_unicode_utf8_acceptRanges), ("unicode/utf8.first", laid_unicode_utf8_first)] }
def FnDiagRefusesSaid : Prop := fnDiagRefusesRow.holds Tryz.pinned (OpenSpec.ofChange fnDiagRefusesSpec)

/-- ITS FALSE NEIGHBOUR: 'it returns false'. Refute it at one input. -/
def fnDiagRefusesWrong : ChangeSpec := { name := "fnDiagRefuses", fn := fun _ => fun
  | [d1, d2] => { results := [.lit (.bool false)], args := [d1, d2] }
  | _ => none }
def FnDiagRefusesWrongFalsely : Prop := fnDiagRefusesRow.holds Tryz.pinned (OpenSpec.ofChange fnDiagRefusesWrong)

/- THE SECOND FORM. 'bulk': how many values and letters a reading holds, each counted each time it is reached (what is shared counts as often as it is met; a slice's spare places count too). A statement '..UptoSaid' is the law's where the arguments, and the package variables that the reading takes, are together of bulk at most 1048576: NARROWER than '..Said'. Prove '..Said' where nothing that the law and all that it calls make is longer than what came in: it says more and counts as full. Else prove '..UptoSaid'. A law counts once. -/
mutual
def uptoBulk {H : Type} : DataW H → Nat
  | .lit (.string bytes) => bytes.length + 1
  | .lit _ => 1
  | .nil => 1
  | .ptr d => uptoBulk d + 1
  | .slice elems spare => uptoBulkAll elems + uptoBulkAll spare + 1
  | .agg parts => uptoBulkAll parts + 1
  | .iface _ d => uptoBulk d + 1
  | .map entries => uptoBulkEntries entries + 1
  | .held _ => 1
def uptoBulkAll {H : Type} : List (DataW H) → Nat
  | [] => 0
  | d :: r => uptoBulk d + uptoBulkAll r
def uptoBulkEntries {H : Type} : List (Lit × DataW H) → Nat
  | [] => 0
  | x :: r => uptoBulkEntry x + uptoBulkEntries r
def uptoBulkEntry {H : Type} : Lit × DataW H → Nat
  | (.string bytes, d) => bytes.length + uptoBulk d + 1
  | (_, d) => uptoBulk d + 1
 end
def uptoSmall : (H : Type) → List (DataW H) → Bool := fun _ ds => decide (uptoBulkAll ds ≤ 1048576)
def OpenSpec.upto (s : _root_.Go.ChangeSpec) : _root_.Go.OpenSpec := { _root_.Go.OpenSpec.ofChange s with cond := some uptoSmall }

/-- 'laws.FnDiagArray', WHERE WHAT IT READS IS OF BULK AT MOST 1048576: true; the input reads as it did. -/
def fnDiagArrayUptoRow : OpenClaim := { program := "yteodinhkhhaafaagreatdoor", sum := "40ee8a074ded440b22d6065726cdce4794aaf775790f5f854c78c30e0054fec3", func := "pub-necessaire/laws.FnDiagArray", spec := "fnDiagArray", inPlace := ["math.Float32frombits", "math.Float64bits", "math.Float64frombits", "math.Float32bits"], recurses := true, named := ["unicode/utf8.first", "unicode/utf8.acceptRanges"], apart := false, laid := [("unicode/utf8.acceptRanges", laid_unicode_utf8_acceptRanges), ("unicode/utf8.first", laid_unicode_utf8_first)], narrowed := true }
def FnDiagArrayUptoSaid : Prop := fnDiagArrayUptoRow.holds Tryz.pinned (OpenSpec.upto fnDiagArraySpec)

/-- 'laws.FnDiagBack', WHERE WHAT IT READS IS OF BULK AT MOST 1048576: true; the input reads as it did. -/
def fnDiagBackUptoRow : OpenClaim := { program := "yteodinhkhhaafaagreatdoor", sum := "40ee8a074ded440b22d6065726cdce4794aaf775790f5f854c78c30e0054fec3", func := "pub-necessaire/laws.FnDiagBack", spec := "fnDiagBack", inPlace := ["math.Float32frombits", "math.Float64bits", "math.Float64frombits", "math.Float32bits"], recurses := true, named := ["unicode/utf8.first", "unicode/utf8.acceptRanges"], loops := true, apart := false, laid := [("unicode/utf8.acceptRanges", laid_unicode_utf8_acceptRanges), ("unicode/utf8.first", laid_unicode_utf8_first)], narrowed := true }
def FnDiagBackUptoSaid : Prop := fnDiagBackUptoRow.holds Tryz.pinned (OpenSpec.upto fnDiagBackSpec)

/-- 'laws.FnDiagBig', WHERE WHAT IT READS IS OF BULK AT MOST 1048576: true; the input reads as it did. -/
def fnDiagBigUptoRow : OpenClaim := { program := "yteodinhkhhaafaagreatdoor", sum := "40ee8a074ded440b22d6065726cdce4794aaf775790f5f854c78c30e0054fec3", func := "pub-necessaire/laws.FnDiagBig", spec := "fnDiagBig", inPlace := ["math.Float32frombits", "math.Float64bits", "math.Float64frombits", "math.Float32bits"], unfollowed := true, recurses := true, named := ["unicode/utf8.first", "unicode/utf8.acceptRanges"], apart := false, laid := [("unicode/utf8.acceptRanges", laid_unicode_utf8_acceptRanges), ("unicode/utf8.first", laid_unicode_utf8_first)], narrowed := true }
def FnDiagBigUptoSaid : Prop := fnDiagBigUptoRow.holds Tryz.pinned (OpenSpec.upto fnDiagBigSpec)

/-- 'laws.FnDiagBytes', WHERE WHAT IT READS IS OF BULK AT MOST 1048576: true; the input reads as it did. -/
def fnDiagBytesUptoRow : OpenClaim := { program := "yteodinhkhhaafaagreatdoor", sum := "40ee8a074ded440b22d6065726cdce4794aaf775790f5f854c78c30e0054fec3", func := "pub-necessaire/laws.FnDiagBytes", spec := "fnDiagBytes", inPlace := ["math.Float32frombits", "math.Float64bits", "math.Float64frombits", "math.Float32bits"], recurses := true, named := ["unicode/utf8.first", "unicode/utf8.acceptRanges"], apart := false, laid := [("unicode/utf8.acceptRanges", laid_unicode_utf8_acceptRanges), ("unicode/utf8.first", laid_unicode_utf8_first)], narrowed := true }
def FnDiagBytesUptoSaid : Prop := fnDiagBytesUptoRow.holds Tryz.pinned (OpenSpec.upto fnDiagBytesSpec)

/-- 'laws.FnDiagChunks', WHERE WHAT IT READS IS OF BULK AT MOST 1048576: true; the input reads as it did. -/
def fnDiagChunksUptoRow : OpenClaim := { program := "yteodinhkhhaafaagreatdoor", sum := "40ee8a074ded440b22d6065726cdce4794aaf775790f5f854c78c30e0054fec3", func := "pub-necessaire/laws.FnDiagChunks", spec := "fnDiagChunks", inPlace := ["math.Float32frombits", "math.Float64bits", "math.Float64frombits", "math.Float32bits"], recurses := true, named := ["unicode/utf8.first", "unicode/utf8.acceptRanges"], apart := false, laid := [("unicode/utf8.acceptRanges", laid_unicode_utf8_acceptRanges), ("unicode/utf8.first", laid_unicode_utf8_first)], narrowed := true }
def FnDiagChunksUptoSaid : Prop := fnDiagChunksUptoRow.holds Tryz.pinned (OpenSpec.upto fnDiagChunksSpec)

/-- 'laws.FnDiagEmbedded', WHERE WHAT IT READS IS OF BULK AT MOST 1048576: true; the input reads as it did. -/
def fnDiagEmbeddedUptoRow : OpenClaim := { program := "yteodinhkhhaafaagreatdoor", sum := "40ee8a074ded440b22d6065726cdce4794aaf775790f5f854c78c30e0054fec3", func := "pub-necessaire/laws.FnDiagEmbedded", spec := "fnDiagEmbedded", inPlace := ["math.Float32frombits", "math.Float64bits", "math.Float64frombits", "math.Float32bits"], recurses := true, named := ["unicode/utf8.first", "unicode/utf8.acceptRanges"], apart := false, laid := [("unicode/utf8.acceptRanges", laid_unicode_utf8_acceptRanges), ("unicode/utf8.first", laid_unicode_utf8_first)], narrowed := true }
def FnDiagEmbeddedUptoSaid : Prop := fnDiagEmbeddedUptoRow.holds Tryz.pinned (OpenSpec.upto fnDiagEmbeddedSpec)

/-- 'laws.FnDiagFloat', WHERE WHAT IT READS IS OF BULK AT MOST 1048576: true; the input reads as it did. -/
def fnDiagFloatUptoRow : OpenClaim := { program := "yteodinhkhhaafaagreatdoor", sum := "40ee8a074ded440b22d6065726cdce4794aaf775790f5f854c78c30e0054fec3", func := "pub-necessaire/laws.FnDiagFloat", spec := "fnDiagFloat", inPlace := ["math.Float32frombits", "math.Float64bits", "math.Float64frombits", "math.Float32bits"], recurses := true, named := ["unicode/utf8.first", "unicode/utf8.acceptRanges"], apart := false, laid := [("unicode/utf8.acceptRanges", laid_unicode_utf8_acceptRanges), ("unicode/utf8.first", laid_unicode_utf8_first)], narrowed := true }
def FnDiagFloatUptoSaid : Prop := fnDiagFloatUptoRow.holds Tryz.pinned (OpenSpec.upto fnDiagFloatSpec)

/-- 'laws.FnDiagHeads', WHERE WHAT IT READS IS OF BULK AT MOST 1048576: true; the input reads as it did. -/
def fnDiagHeadsUptoRow : OpenClaim := { program := "yteodinhkhhaafaagreatdoor", sum := "40ee8a074ded440b22d6065726cdce4794aaf775790f5f854c78c30e0054fec3", func := "pub-necessaire/laws.FnDiagHeads", spec := "fnDiagHeads", inPlace := ["math.Float32frombits", "math.Float64bits", "math.Float64frombits", "math.Float32bits"], recurses := true, named := ["unicode/utf8.first", "unicode/utf8.acceptRanges"], apart := false, laid := [("unicode/utf8.acceptRanges", laid_unicode_utf8_acceptRanges), ("unicode/utf8.first", laid_unicode_utf8_first)], narrowed := true }
def FnDiagHeadsUptoSaid : Prop := fnDiagHeadsUptoRow.holds Tryz.pinned (OpenSpec.upto fnDiagHeadsSpec)

/-- 'laws.FnDiagLimits', WHERE WHAT IT READS IS OF BULK AT MOST 1048576: true; the input reads as it did. -/
def fnDiagLimitsUptoRow : OpenClaim := { program := "yteodinhkhhaafaagreatdoor", sum := "40ee8a074ded440b22d6065726cdce4794aaf775790f5f854c78c30e0054fec3", func := "pub-necessaire/laws.FnDiagLimits", spec := "fnDiagLimits", inPlace := ["math.Float32frombits", "math.Float64bits", "math.Float64frombits", "math.Float32bits"], recurses := true, named := ["unicode/utf8.first", "unicode/utf8.acceptRanges"], apart := false, laid := [("unicode/utf8.acceptRanges", laid_unicode_utf8_acceptRanges), ("unicode/utf8.first", laid_unicode_utf8_first)], narrowed := true }
def FnDiagLimitsUptoSaid : Prop := fnDiagLimitsUptoRow.holds Tryz.pinned (OpenSpec.upto fnDiagLimitsSpec)

/-- 'laws.FnDiagMap', WHERE WHAT IT READS IS OF BULK AT MOST 1048576: true; the input reads as it did. -/
def fnDiagMapUptoRow : OpenClaim := { program := "yteodinhkhhaafaagreatdoor", sum := "40ee8a074ded440b22d6065726cdce4794aaf775790f5f854c78c30e0054fec3", func := "pub-necessaire/laws.FnDiagMap", spec := "fnDiagMap", inPlace := ["math.Float32frombits", "math.Float64bits", "math.Float64frombits", "math.Float32bits"], recurses := true, named := ["unicode/utf8.first", "unicode/utf8.acceptRanges"], apart := false, laid := [("unicode/utf8.acceptRanges", laid_unicode_utf8_acceptRanges), ("unicode/utf8.first", laid_unicode_utf8_first)], narrowed := true }
def FnDiagMapUptoSaid : Prop := fnDiagMapUptoRow.holds Tryz.pinned (OpenSpec.upto fnDiagMapSpec)

/-- 'laws.FnDiagOne', WHERE WHAT IT READS IS OF BULK AT MOST 1048576: true; the input reads as it did. -/
def fnDiagOneUptoRow : OpenClaim := { program := "yteodinhkhhaafaagreatdoor", sum := "40ee8a074ded440b22d6065726cdce4794aaf775790f5f854c78c30e0054fec3", func := "pub-necessaire/laws.FnDiagOne", spec := "fnDiagOne", inPlace := ["math.Float32frombits", "math.Float64bits", "math.Float64frombits", "math.Float32bits"], recurses := true, named := ["unicode/utf8.first", "unicode/utf8.acceptRanges"], apart := false, laid := [("unicode/utf8.acceptRanges", laid_unicode_utf8_acceptRanges), ("unicode/utf8.first", laid_unicode_utf8_first)], narrowed := true }
def FnDiagOneUptoSaid : Prop := fnDiagOneUptoRow.holds Tryz.pinned (OpenSpec.upto fnDiagOneSpec)

/-- 'laws.FnDiagSequence', WHERE WHAT IT READS IS OF BULK AT MOST 1048576: true; the input reads as it did. -/
def fnDiagSequenceUptoRow : OpenClaim := { program := "yteodinhkhhaafaagreatdoor", sum := "40ee8a074ded440b22d6065726cdce4794aaf775790f5f854c78c30e0054fec3", func := "pub-necessaire/laws.FnDiagSequence", spec := "fnDiagSequence", inPlace := ["math.Float32frombits", "math.Float64bits", "math.Float64frombits", "math.Float32bits"], recurses := true, named := ["unicode/utf8.first", "unicode/utf8.acceptRanges"], apart := false, laid := [("unicode/utf8.acceptRanges", laid_unicode_utf8_acceptRanges), ("unicode/utf8.first", laid_unicode_utf8_first)], narrowed := true }
def FnDiagSequenceUptoSaid : Prop := fnDiagSequenceUptoRow.holds Tryz.pinned (OpenSpec.upto fnDiagSequenceSpec)

/-- 'laws.FnDiagSpaced', WHERE WHAT IT READS IS OF BULK AT MOST 1048576: true; the input reads as it did. -/
def fnDiagSpacedUptoRow : OpenClaim := { program := "yteodinhkhhaafaagreatdoor", sum := "40ee8a074ded440b22d6065726cdce4794aaf775790f5f854c78c30e0054fec3", func := "pub-necessaire/laws.FnDiagSpaced", spec := "fnDiagSpaced", inPlace := ["math.Float32frombits", "math.Float64bits", "math.Float64frombits", "math.Float32bits"], recurses := true, named := ["unicode/utf8.first", "unicode/utf8.acceptRanges"], apart := false, laid := [("unicode/utf8.acceptRanges", laid_unicode_utf8_acceptRanges), ("unicode/utf8.first", laid_unicode_utf8_first)], narrowed := true }
def FnDiagSpacedUptoSaid : Prop := fnDiagSpacedUptoRow.holds Tryz.pinned (OpenSpec.upto fnDiagSpacedSpec)

/-- 'laws.FnDiagTag', WHERE WHAT IT READS IS OF BULK AT MOST 1048576: true; the input reads as it did. -/
def fnDiagTagUptoRow : OpenClaim := { program := "yteodinhkhhaafaagreatdoor", sum := "40ee8a074ded440b22d6065726cdce4794aaf775790f5f854c78c30e0054fec3", func := "pub-necessaire/laws.FnDiagTag", spec := "fnDiagTag", inPlace := ["math.Float32frombits", "math.Float64bits", "math.Float64frombits", "math.Float32bits"], recurses := true, named := ["unicode/utf8.first", "unicode/utf8.acceptRanges"], apart := false, laid := [("unicode/utf8.acceptRanges", laid_unicode_utf8_acceptRanges), ("unicode/utf8.first", laid_unicode_utf8_first)], narrowed := true }
def FnDiagTagUptoSaid : Prop := fnDiagTagUptoRow.holds Tryz.pinned (OpenSpec.upto fnDiagTagSpec)

/-- 'laws.FnDiagText', WHERE WHAT IT READS IS OF BULK AT MOST 1048576: true; the input reads as it did. -/
def fnDiagTextUptoRow : OpenClaim := { program := "yteodinhkhhaafaagreatdoor", sum := "40ee8a074ded440b22d6065726cdce4794aaf775790f5f854c78c30e0054fec3", func := "pub-necessaire/laws.FnDiagText", spec := "fnDiagText", inPlace := ["math.Float32frombits", "math.Float64bits", "math.Float64frombits", "math.Float32bits"], recurses := true, named := ["unicode/utf8.first", "unicode/utf8.acceptRanges"], apart := false, laid := [("unicode/utf8.acceptRanges", laid_unicode_utf8_acceptRanges), ("unicode/utf8.first", laid_unicode_utf8_first)], narrowed := true }
def FnDiagTextUptoSaid : Prop := fnDiagTextUptoRow.holds Tryz.pinned (OpenSpec.upto fnDiagTextSpec)

/-- 'laws.FnDiagWritten', WHERE WHAT IT READS IS OF BULK AT MOST 1048576: true; the input reads as it did. -/
def fnDiagWrittenUptoRow : OpenClaim := { program := "yteodinhkhhaafaagreatdoor", sum := "40ee8a074ded440b22d6065726cdce4794aaf775790f5f854c78c30e0054fec3", func := "pub-necessaire/laws.FnDiagWritten", spec := "fnDiagWritten", inPlace := ["math.Float32frombits", "math.Float64bits", "math.Float64frombits", "math.Float32bits"], recurses := true, named := ["unicode/utf8.first", "unicode/utf8.acceptRanges"], loops := true, apart := false, laid := [("unicode/utf8.acceptRanges", laid_unicode_utf8_acceptRanges), ("unicode/utf8.first", laid_unicode_utf8_first)], narrowed := true }
def FnDiagWrittenUptoSaid : Prop := fnDiagWrittenUptoRow.holds Tryz.pinned (OpenSpec.upto fnDiagWrittenSpec)

/-- 'laws.FnDiagFirst', WHERE WHAT IT READS IS OF BULK AT MOST 1048576: true; the input reads as it did. -/
def fnDiagFirstUptoRow : OpenClaim := { program := "yteodinhkhhaafaagreatdoor", sum := "40ee8a074ded440b22d6065726cdce4794aaf775790f5f854c78c30e0054fec3", func := "pub-necessaire/laws.FnDiagFirst", spec := "fnDiagFirst", inPlace := ["math.Float32frombits", "math.Float64bits", "math.Float64frombits", "math.Float32bits"], recurses := true, named := ["unicode/utf8.first", "unicode/utf8.acceptRanges"], apart := false, laid := [("unicode/utf8.acceptRanges", laid_unicode_utf8_acceptRanges), ("unicode/utf8.first", laid_unicode_utf8_first)], narrowed := true }
def FnDiagFirstUptoSaid : Prop := fnDiagFirstUptoRow.holds Tryz.pinned (OpenSpec.upto fnDiagFirstSpec)

/-- 'laws.FnDiagRefuses', WHERE WHAT IT READS IS OF BULK AT MOST 1048576: true; the input reads as it did. -/
def fnDiagRefusesUptoRow : OpenClaim := { program := "yteodinhkhhaafaagreatdoor", sum := "40ee8a074ded440b22d6065726cdce4794aaf775790f5f854c78c30e0054fec3", func := "pub-necessaire/laws.FnDiagRefuses", spec := "fnDiagRefuses", inPlace := ["math.Float32frombits", "math.Float64bits", "math.Float64frombits", "math.Float32bits"], recurses := true, named := ["unicode/utf8.first", "unicode/utf8.acceptRanges"], apart := false, laid := [("unicode/utf8.acceptRanges", laid_unicode_utf8_acceptRanges), ("unicode/utf8.first", laid_unicode_utf8_first)], narrowed := true }
def FnDiagRefusesUptoSaid : Prop := fnDiagRefusesUptoRow.holds Tryz.pinned (OpenSpec.upto fnDiagRefusesSpec)

end Rows
end Go.Proofs.YteodinhkhhaafaaGreatDoor
