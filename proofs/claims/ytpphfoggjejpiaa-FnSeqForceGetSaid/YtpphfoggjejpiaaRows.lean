/-
  NARROWER THAN 'FOR EVERY INPUT', by the rows' own cells (each row's printed sentence says how): FnSeqForceGet: loops · FnPolygonForce: loops · FnMultiLinePlaces: loops · FnCentroidPoints: loops.
  DERIVED. THE GIVEN ROWS OF THIS SEAT. 12 by the template 'for every input the law returns true; each argument reads behind the call as it read before'; 0 by the template 'total and deterministic' (their statements: YtpphfoggjejpiaaTotals.lean).
  GIVEN WITH THE SEED: the statements are not yours to turn. If you find one false, say at which input.
  Laid BY PROGRAM, IN A SANDBOX (cutbox-rows.mjs): the forced cells as the released guide's own fill.sh prints them over the translation 691d7f4167d4136f… (all of the seat's roots in one cut). By AI agents, Wed Nov 11 2026. No macro, syntax, notation, axiom, sorry.
-/
import Derived.Test.YtpphfoggjejpiaaChecked
import GoSem.Claim
import GoSem.ClaimJoined
import GoSem.ClaimMapViews
import Derived.JoinedTies
import Derived.KernelRfl
namespace Go.Proofs.Ytpphfoggjejpiaa
/- THE CELL 'sum', in the pinned program and in every row, IS THE sha256 OF THE DUMP (.gsa) THAT YtpphfoggjejpiaaProg.lean LOADS. Nothing in Lean hashes anything: it is a label: what it is worth is what the hold of that sum in a sandbox is worth. -/
noncomputable def Try.pinned : Pinned := { name := "ytpphfoggjejpiaa", sum := "691d7f4167d4136fc042899cd46617359a94b1c4852e5cb672c13eeed4a91bf7", checked := Try.checked }
namespace Rows
def none {H : Type} : Left H := { results := [], args := [] }

/-- 'laws.FnXYLess': WHATEVER THE INPUT: true; the input reads as it did. -/
def fnXYLessSpec : ChangeSpec := { name := "fnXYLess", fn := fun _ => fun
  | [d1, d2] => { results := [.lit (.bool true)], args := [d1, d2] }
  | _ => none }
def fnXYLessRow : OpenClaim := { program := "ytpphfoggjejpiaa", sum := "691d7f4167d4136fc042899cd46617359a94b1c4852e5cb672c13eeed4a91bf7", func := "pub-alidade/laws.FnXYLess", spec := "fnXYLess", inPlace := ["math.Float64bits", "math.Float64frombits"], apart := false }
def FnXYLessSaid : Prop := fnXYLessRow.holds Try.pinned (OpenSpec.ofChange fnXYLessSpec)

/-- ITS FALSE NEIGHBOUR: 'it returns false'. Refute it at one input. -/
def fnXYLessWrong : ChangeSpec := { name := "fnXYLess", fn := fun _ => fun
  | [d1, d2] => { results := [.lit (.bool false)], args := [d1, d2] }
  | _ => none }
def FnXYLessWrongFalsely : Prop := fnXYLessRow.holds Try.pinned (OpenSpec.ofChange fnXYLessWrong)

/-- 'laws.FnReadUvarint': WHATEVER THE INPUT: true; the input reads as it did. -/
def fnReadUvarintSpec : ChangeSpec := { name := "fnReadUvarint", fn := fun _ => fun
  | [d] => { results := [.lit (.bool true)], args := [d] }
  | _ => none }
def fnReadUvarintRow : OpenClaim := { program := "ytpphfoggjejpiaa", sum := "691d7f4167d4136fc042899cd46617359a94b1c4852e5cb672c13eeed4a91bf7", func := "pub-alidade/laws.FnReadUvarint", spec := "fnReadUvarint", apart := false }
def FnReadUvarintSaid : Prop := fnReadUvarintRow.holds Try.pinned (OpenSpec.ofChange fnReadUvarintSpec)

/-- ITS FALSE NEIGHBOUR: 'it returns false'. Refute it at one input. -/
def fnReadUvarintWrong : ChangeSpec := { name := "fnReadUvarint", fn := fun _ => fun
  | [d] => { results := [.lit (.bool false)], args := [d] }
  | _ => none }
def FnReadUvarintWrongFalsely : Prop := fnReadUvarintRow.holds Try.pinned (OpenSpec.ofChange fnReadUvarintWrong)

/-- 'laws.FnBoxDistanceJoin': WHATEVER THE INPUT: true; the input reads as it did. -/
def fnBoxDistanceJoinSpec : ChangeSpec := { name := "fnBoxDistanceJoin", fn := fun _ => fun
  | [d1, d2, d3] => { results := [.lit (.bool true)], args := [d1, d2, d3] }
  | _ => none }
def fnBoxDistanceJoinRow : OpenClaim := { program := "ytpphfoggjejpiaa", sum := "691d7f4167d4136fc042899cd46617359a94b1c4852e5cb672c13eeed4a91bf7", func := "pub-alidade/laws.FnBoxDistanceJoin", spec := "fnBoxDistanceJoin", inPlace := ["math.archTrunc", "math.Float64bits", "math.Float64frombits"], apart := false }
def FnBoxDistanceJoinSaid : Prop := fnBoxDistanceJoinRow.holds Try.pinned (OpenSpec.ofChange fnBoxDistanceJoinSpec)

/-- ITS FALSE NEIGHBOUR: 'it returns false'. Refute it at one input. -/
def fnBoxDistanceJoinWrong : ChangeSpec := { name := "fnBoxDistanceJoin", fn := fun _ => fun
  | [d1, d2, d3] => { results := [.lit (.bool false)], args := [d1, d2, d3] }
  | _ => none }
def FnBoxDistanceJoinWrongFalsely : Prop := fnBoxDistanceJoinRow.holds Try.pinned (OpenSpec.ofChange fnBoxDistanceJoinWrong)

/-- 'laws.FnEnvExpandXY': WHATEVER THE INPUT: true; the input reads as it did. -/
def fnEnvExpandXYSpec : ChangeSpec := { name := "fnEnvExpandXY", fn := fun _ => fun
  | [d1, d2] => { results := [.lit (.bool true)], args := [d1, d2] }
  | _ => none }
def fnEnvExpandXYRow : OpenClaim := { program := "ytpphfoggjejpiaa", sum := "691d7f4167d4136fc042899cd46617359a94b1c4852e5cb672c13eeed4a91bf7", func := "pub-alidade/laws.FnEnvExpandXY", spec := "fnEnvExpandXY", inPlace := ["math.Float64bits", "math.Float64frombits"], apart := false }
def FnEnvExpandXYSaid : Prop := fnEnvExpandXYRow.holds Try.pinned (OpenSpec.ofChange fnEnvExpandXYSpec)

/-- ITS FALSE NEIGHBOUR: 'it returns false'. Refute it at one input. -/
def fnEnvExpandXYWrong : ChangeSpec := { name := "fnEnvExpandXY", fn := fun _ => fun
  | [d1, d2] => { results := [.lit (.bool false)], args := [d1, d2] }
  | _ => none }
def FnEnvExpandXYWrongFalsely : Prop := fnEnvExpandXYRow.holds Try.pinned (OpenSpec.ofChange fnEnvExpandXYWrong)

/-- 'laws.FnNewEnvelopeOrder': WHATEVER THE INPUT: true; the input reads as it did. -/
def fnNewEnvelopeOrderSpec : ChangeSpec := { name := "fnNewEnvelopeOrder", fn := fun _ => fun
  | [d1, d2] => { results := [.lit (.bool true)], args := [d1, d2] }
  | _ => none }
def fnNewEnvelopeOrderRow : OpenClaim := { program := "ytpphfoggjejpiaa", sum := "691d7f4167d4136fc042899cd46617359a94b1c4852e5cb672c13eeed4a91bf7", func := "pub-alidade/laws.FnNewEnvelopeOrder", spec := "fnNewEnvelopeOrder", inPlace := ["math.Float64bits", "math.Float64frombits"], apart := false }
def FnNewEnvelopeOrderSaid : Prop := fnNewEnvelopeOrderRow.holds Try.pinned (OpenSpec.ofChange fnNewEnvelopeOrderSpec)

/-- ITS FALSE NEIGHBOUR: 'it returns false'. Refute it at one input. -/
def fnNewEnvelopeOrderWrong : ChangeSpec := { name := "fnNewEnvelopeOrder", fn := fun _ => fun
  | [d1, d2] => { results := [.lit (.bool false)], args := [d1, d2] }
  | _ => none }
def FnNewEnvelopeOrderWrongFalsely : Prop := fnNewEnvelopeOrderRow.holds Try.pinned (OpenSpec.ofChange fnNewEnvelopeOrderWrong)

/-- 'laws.FnRayCrossing': WHATEVER THE INPUT: true; the input reads as it did. -/
def fnRayCrossingSpec : ChangeSpec := { name := "fnRayCrossing", fn := fun _ => fun
  | [d1, d2, d3] => { results := [.lit (.bool true)], args := [d1, d2, d3] }
  | _ => none }
def fnRayCrossingRow : OpenClaim := { program := "ytpphfoggjejpiaa", sum := "691d7f4167d4136fc042899cd46617359a94b1c4852e5cb672c13eeed4a91bf7", func := "pub-alidade/laws.FnRayCrossing", spec := "fnRayCrossing", inPlace := ["math.Float64bits", "math.Float64frombits"], recurses := true, apart := false }
def FnRayCrossingSaid : Prop := fnRayCrossingRow.holds Try.pinned (OpenSpec.ofChange fnRayCrossingSpec)

/-- ITS FALSE NEIGHBOUR: 'it returns false'. Refute it at one input. -/
def fnRayCrossingWrong : ChangeSpec := { name := "fnRayCrossing", fn := fun _ => fun
  | [d1, d2, d3] => { results := [.lit (.bool false)], args := [d1, d2, d3] }
  | _ => none }
def FnRayCrossingWrongFalsely : Prop := fnRayCrossingRow.holds Try.pinned (OpenSpec.ofChange fnRayCrossingWrong)

/-- 'laws.FnEnvTransform': WHATEVER THE INPUT: true; the input reads as it did. -/
def fnEnvTransformSpec : ChangeSpec := { name := "fnEnvTransform", fn := fun _ => fun
  | [d1, d2] => { results := [.lit (.bool true)], args := [d1, d2] }
  | _ => none }
def fnEnvTransformRow : OpenClaim := { program := "ytpphfoggjejpiaa", sum := "691d7f4167d4136fc042899cd46617359a94b1c4852e5cb672c13eeed4a91bf7", func := "pub-alidade/laws.FnEnvTransform", spec := "fnEnvTransform", inPlace := ["math.archTrunc", "math.Float64bits", "math.Float64frombits"], unfollowed := true, recurses := true, apart := false }
def FnEnvTransformSaid : Prop := fnEnvTransformRow.holds Try.pinned (OpenSpec.ofChange fnEnvTransformSpec)

/-- ITS FALSE NEIGHBOUR: 'it returns false'. Refute it at one input. -/
def fnEnvTransformWrong : ChangeSpec := { name := "fnEnvTransform", fn := fun _ => fun
  | [d1, d2] => { results := [.lit (.bool false)], args := [d1, d2] }
  | _ => none }
def FnEnvTransformWrongFalsely : Prop := fnEnvTransformRow.holds Try.pinned (OpenSpec.ofChange fnEnvTransformWrong)

/-- 'laws.FnSeqForceGet': WHATEVER THE INPUT: true; the input reads as it did. -/
def fnSeqForceGetSpec : ChangeSpec := { name := "fnSeqForceGet", fn := fun _ => fun
  | [d1, d2, d3] => { results := [.lit (.bool true)], args := [d1, d2, d3] }
  | _ => none }
def fnSeqForceGetRow : OpenClaim := { program := "ytpphfoggjejpiaa", sum := "691d7f4167d4136fc042899cd46617359a94b1c4852e5cb672c13eeed4a91bf7", func := "pub-alidade/laws.FnSeqForceGet", spec := "fnSeqForceGet", inPlace := ["math.Float64bits"], unfollowed := true, recurses := true, loops := true, apart := false }
def FnSeqForceGetSaid : Prop := fnSeqForceGetRow.holds Try.pinned (OpenSpec.ofChange fnSeqForceGetSpec)

/-- ITS FALSE NEIGHBOUR: 'it returns false'. Refute it at one input. -/
def fnSeqForceGetWrong : ChangeSpec := { name := "fnSeqForceGet", fn := fun _ => fun
  | [d1, d2, d3] => { results := [.lit (.bool false)], args := [d1, d2, d3] }
  | _ => none }
def FnSeqForceGetWrongFalsely : Prop := fnSeqForceGetRow.holds Try.pinned (OpenSpec.ofChange fnSeqForceGetWrong)

/-- 'laws.FnLineValid': WHATEVER THE INPUT: true; the input reads as it did. -/
def fnLineValidSpec : ChangeSpec := { name := "fnLineValid", fn := fun _ => fun
  | [d1, d2] => { results := [.lit (.bool true)], args := [d1, d2] }
  | _ => none }
def fnLineValidRow : OpenClaim := { program := "ytpphfoggjejpiaa", sum := "691d7f4167d4136fc042899cd46617359a94b1c4852e5cb672c13eeed4a91bf7", func := "pub-alidade/laws.FnLineValid", spec := "fnLineValid", inPlace := ["math.Float64bits", "math.Float64frombits"], apart := false }
def FnLineValidSaid : Prop := fnLineValidRow.holds Try.pinned (OpenSpec.ofChange fnLineValidSpec)

/-- ITS FALSE NEIGHBOUR: 'it returns false'. Refute it at one input. -/
def fnLineValidWrong : ChangeSpec := { name := "fnLineValid", fn := fun _ => fun
  | [d1, d2] => { results := [.lit (.bool false)], args := [d1, d2] }
  | _ => none }
def FnLineValidWrongFalsely : Prop := fnLineValidRow.holds Try.pinned (OpenSpec.ofChange fnLineValidWrong)

/-- 'laws.FnPolygonForce': WHATEVER THE INPUT: true; the input reads as it did. -/
def fnPolygonForceSpec : ChangeSpec := { name := "fnPolygonForce", fn := fun _ => fun
  | [d1, d2] => { results := [.lit (.bool true)], args := [d1, d2] }
  | _ => none }
def fnPolygonForceRow : OpenClaim := { program := "ytpphfoggjejpiaa", sum := "691d7f4167d4136fc042899cd46617359a94b1c4852e5cb672c13eeed4a91bf7", func := "pub-alidade/laws.FnPolygonForce", spec := "fnPolygonForce", inPlace := ["math.Float64bits"], recurses := true, loops := true, apart := false }
def FnPolygonForceSaid : Prop := fnPolygonForceRow.holds Try.pinned (OpenSpec.ofChange fnPolygonForceSpec)

/-- ITS FALSE NEIGHBOUR: 'it returns false'. Refute it at one input. -/
def fnPolygonForceWrong : ChangeSpec := { name := "fnPolygonForce", fn := fun _ => fun
  | [d1, d2] => { results := [.lit (.bool false)], args := [d1, d2] }
  | _ => none }
def FnPolygonForceWrongFalsely : Prop := fnPolygonForceRow.holds Try.pinned (OpenSpec.ofChange fnPolygonForceWrong)

/-- 'laws.FnMultiLinePlaces': WHATEVER THE INPUT: true; the input reads as it did. -/
def fnMultiLinePlacesSpec : ChangeSpec := { name := "fnMultiLinePlaces", fn := fun _ => fun
  | [d] => { results := [.lit (.bool true)], args := [d] }
  | _ => none }
def fnMultiLinePlacesRow : OpenClaim := { program := "ytpphfoggjejpiaa", sum := "691d7f4167d4136fc042899cd46617359a94b1c4852e5cb672c13eeed4a91bf7", func := "pub-alidade/laws.FnMultiLinePlaces", spec := "fnMultiLinePlaces", inPlace := ["math.Float64bits"], recurses := true, loops := true, apart := false }
def FnMultiLinePlacesSaid : Prop := fnMultiLinePlacesRow.holds Try.pinned (OpenSpec.ofChange fnMultiLinePlacesSpec)

/-- ITS FALSE NEIGHBOUR: 'it returns false'. Refute it at one input. -/
def fnMultiLinePlacesWrong : ChangeSpec := { name := "fnMultiLinePlaces", fn := fun _ => fun
  | [d] => { results := [.lit (.bool false)], args := [d] }
  | _ => none }
def FnMultiLinePlacesWrongFalsely : Prop := fnMultiLinePlacesRow.holds Try.pinned (OpenSpec.ofChange fnMultiLinePlacesWrong)

/-- 'laws.FnCentroidPoints': WHATEVER THE INPUT: true; the input reads as it did. -/
def fnCentroidPointsSpec : ChangeSpec := { name := "fnCentroidPoints", fn := fun _ => fun
  | [d] => { results := [.lit (.bool true)], args := [d] }
  | _ => none }
def fnCentroidPointsRow : OpenClaim := { program := "ytpphfoggjejpiaa", sum := "691d7f4167d4136fc042899cd46617359a94b1c4852e5cb672c13eeed4a91bf7", func := "pub-alidade/laws.FnCentroidPoints", spec := "fnCentroidPoints", recurses := true, loops := true, apart := false }
def FnCentroidPointsSaid : Prop := fnCentroidPointsRow.holds Try.pinned (OpenSpec.ofChange fnCentroidPointsSpec)

/-- ITS FALSE NEIGHBOUR: 'it returns false'. Refute it at one input. -/
def fnCentroidPointsWrong : ChangeSpec := { name := "fnCentroidPoints", fn := fun _ => fun
  | [d] => { results := [.lit (.bool false)], args := [d] }
  | _ => none }
def FnCentroidPointsWrongFalsely : Prop := fnCentroidPointsRow.holds Try.pinned (OpenSpec.ofChange fnCentroidPointsWrong)

/- THE SECOND FORM. 'bulk': how many values and letters a reading holds, each counted each time it is reached (what is shared counts as often as it is met; a slice's spare places count too). A statement '..UptoSaid' is the law's where the arguments, and the package variables that the reading takes, are together of bulk at most 1048576: NARROWER than '..Said'. Prove '..Said' where nothing that the law and all that it calls make is longer than what came in: it says more and counts as full. Else prove '..UptoSaid'. A law counts once. -/
mutual
def uptoBulk {H : Type} : DataW H → Nat
  | .lit (.string bytes) => bytes.length + 1
  | .lit _ => 1
  | .nil => 1
  | .ptr d => uptoBulk d + 1
  | .slice elems spare => uptoBulkAll elems + uptoBulkAll spare + 1
  | .agg parts => uptoBulkAll parts + 1
  | .iface _ d => uptoBulk d + 1
  | .map entries => uptoBulkEntries entries + 1
  | .held _ => 1
def uptoBulkAll {H : Type} : List (DataW H) → Nat
  | [] => 0
  | d :: r => uptoBulk d + uptoBulkAll r
def uptoBulkEntries {H : Type} : List (Lit × DataW H) → Nat
  | [] => 0
  | x :: r => uptoBulkEntry x + uptoBulkEntries r
def uptoBulkEntry {H : Type} : Lit × DataW H → Nat
  | (.string bytes, d) => bytes.length + uptoBulk d + 1
  | (_, d) => uptoBulk d + 1
 end
def uptoSmall : (H : Type) → List (DataW H) → Bool := fun _ ds => decide (uptoBulkAll ds ≤ 1048576)
def OpenSpec.upto (s : _root_.Go.ChangeSpec) : _root_.Go.OpenSpec := { _root_.Go.OpenSpec.ofChange s with cond := some uptoSmall }

/-- 'laws.FnXYLess', WHERE WHAT IT READS IS OF BULK AT MOST 1048576: true; the input reads as it did. -/
def fnXYLessUptoRow : OpenClaim := { program := "ytpphfoggjejpiaa", sum := "691d7f4167d4136fc042899cd46617359a94b1c4852e5cb672c13eeed4a91bf7", func := "pub-alidade/laws.FnXYLess", spec := "fnXYLess", inPlace := ["math.Float64bits", "math.Float64frombits"], apart := false, narrowed := true }
def FnXYLessUptoSaid : Prop := fnXYLessUptoRow.holds Try.pinned (OpenSpec.upto fnXYLessSpec)

/-- 'laws.FnReadUvarint', WHERE WHAT IT READS IS OF BULK AT MOST 1048576: true; the input reads as it did. -/
def fnReadUvarintUptoRow : OpenClaim := { program := "ytpphfoggjejpiaa", sum := "691d7f4167d4136fc042899cd46617359a94b1c4852e5cb672c13eeed4a91bf7", func := "pub-alidade/laws.FnReadUvarint", spec := "fnReadUvarint", apart := false, narrowed := true }
def FnReadUvarintUptoSaid : Prop := fnReadUvarintUptoRow.holds Try.pinned (OpenSpec.upto fnReadUvarintSpec)

/-- 'laws.FnBoxDistanceJoin', WHERE WHAT IT READS IS OF BULK AT MOST 1048576: true; the input reads as it did. -/
def fnBoxDistanceJoinUptoRow : OpenClaim := { program := "ytpphfoggjejpiaa", sum := "691d7f4167d4136fc042899cd46617359a94b1c4852e5cb672c13eeed4a91bf7", func := "pub-alidade/laws.FnBoxDistanceJoin", spec := "fnBoxDistanceJoin", inPlace := ["math.archTrunc", "math.Float64bits", "math.Float64frombits"], apart := false, narrowed := true }
def FnBoxDistanceJoinUptoSaid : Prop := fnBoxDistanceJoinUptoRow.holds Try.pinned (OpenSpec.upto fnBoxDistanceJoinSpec)

/-- 'laws.FnEnvExpandXY', WHERE WHAT IT READS IS OF BULK AT MOST 1048576: true; the input reads as it did. -/
def fnEnvExpandXYUptoRow : OpenClaim := { program := "ytpphfoggjejpiaa", sum := "691d7f4167d4136fc042899cd46617359a94b1c4852e5cb672c13eeed4a91bf7", func := "pub-alidade/laws.FnEnvExpandXY", spec := "fnEnvExpandXY", inPlace := ["math.Float64bits", "math.Float64frombits"], apart := false, narrowed := true }
def FnEnvExpandXYUptoSaid : Prop := fnEnvExpandXYUptoRow.holds Try.pinned (OpenSpec.upto fnEnvExpandXYSpec)

/-- 'laws.FnNewEnvelopeOrder', WHERE WHAT IT READS IS OF BULK AT MOST 1048576: true; the input reads as it did. -/
def fnNewEnvelopeOrderUptoRow : OpenClaim := { program := "ytpphfoggjejpiaa", sum := "691d7f4167d4136fc042899cd46617359a94b1c4852e5cb672c13eeed4a91bf7", func := "pub-alidade/laws.FnNewEnvelopeOrder", spec := "fnNewEnvelopeOrder", inPlace := ["math.Float64bits", "math.Float64frombits"], apart := false, narrowed := true }
def FnNewEnvelopeOrderUptoSaid : Prop := fnNewEnvelopeOrderUptoRow.holds Try.pinned (OpenSpec.upto fnNewEnvelopeOrderSpec)

/-- 'laws.FnRayCrossing', WHERE WHAT IT READS IS OF BULK AT MOST 1048576: true; the input reads as it did. -/
def fnRayCrossingUptoRow : OpenClaim := { program := "ytpphfoggjejpiaa", sum := "691d7f4167d4136fc042899cd46617359a94b1c4852e5cb672c13eeed4a91bf7", func := "pub-alidade/laws.FnRayCrossing", spec := "fnRayCrossing", inPlace := ["math.Float64bits", "math.Float64frombits"], recurses := true, apart := false, narrowed := true }
def FnRayCrossingUptoSaid : Prop := fnRayCrossingUptoRow.holds Try.pinned (OpenSpec.upto fnRayCrossingSpec)

/-- 'laws.FnEnvTransform', WHERE WHAT IT READS IS OF BULK AT MOST 1048576: true; the input reads as it did. -/
def fnEnvTransformUptoRow : OpenClaim := { program := "ytpphfoggjejpiaa", sum := "691d7f4167d4136fc042899cd46617359a94b1c4852e5cb672c13eeed4a91bf7", func := "pub-alidade/laws.FnEnvTransform", spec := "fnEnvTransform", inPlace := ["math.archTrunc", "math.Float64bits", "math.Float64frombits"], unfollowed := true, recurses := true, apart := false, narrowed := true }
def FnEnvTransformUptoSaid : Prop := fnEnvTransformUptoRow.holds Try.pinned (OpenSpec.upto fnEnvTransformSpec)

/-- 'laws.FnSeqForceGet', WHERE WHAT IT READS IS OF BULK AT MOST 1048576: true; the input reads as it did. -/
def fnSeqForceGetUptoRow : OpenClaim := { program := "ytpphfoggjejpiaa", sum := "691d7f4167d4136fc042899cd46617359a94b1c4852e5cb672c13eeed4a91bf7", func := "pub-alidade/laws.FnSeqForceGet", spec := "fnSeqForceGet", inPlace := ["math.Float64bits"], unfollowed := true, recurses := true, loops := true, apart := false, narrowed := true }
def FnSeqForceGetUptoSaid : Prop := fnSeqForceGetUptoRow.holds Try.pinned (OpenSpec.upto fnSeqForceGetSpec)

/-- 'laws.FnLineValid', WHERE WHAT IT READS IS OF BULK AT MOST 1048576: true; the input reads as it did. -/
def fnLineValidUptoRow : OpenClaim := { program := "ytpphfoggjejpiaa", sum := "691d7f4167d4136fc042899cd46617359a94b1c4852e5cb672c13eeed4a91bf7", func := "pub-alidade/laws.FnLineValid", spec := "fnLineValid", inPlace := ["math.Float64bits", "math.Float64frombits"], apart := false, narrowed := true }
def FnLineValidUptoSaid : Prop := fnLineValidUptoRow.holds Try.pinned (OpenSpec.upto fnLineValidSpec)

/-- 'laws.FnPolygonForce', WHERE WHAT IT READS IS OF BULK AT MOST 1048576: true; the input reads as it did. -/
def fnPolygonForceUptoRow : OpenClaim := { program := "ytpphfoggjejpiaa", sum := "691d7f4167d4136fc042899cd46617359a94b1c4852e5cb672c13eeed4a91bf7", func := "pub-alidade/laws.FnPolygonForce", spec := "fnPolygonForce", inPlace := ["math.Float64bits"], recurses := true, loops := true, apart := false, narrowed := true }
def FnPolygonForceUptoSaid : Prop := fnPolygonForceUptoRow.holds Try.pinned (OpenSpec.upto fnPolygonForceSpec)

/-- 'laws.FnMultiLinePlaces', WHERE WHAT IT READS IS OF BULK AT MOST 1048576: true; the input reads as it did. -/
def fnMultiLinePlacesUptoRow : OpenClaim := { program := "ytpphfoggjejpiaa", sum := "691d7f4167d4136fc042899cd46617359a94b1c4852e5cb672c13eeed4a91bf7", func := "pub-alidade/laws.FnMultiLinePlaces", spec := "fnMultiLinePlaces", inPlace := ["math.Float64bits"], recurses := true, loops := true, apart := false, narrowed := true }
def FnMultiLinePlacesUptoSaid : Prop := fnMultiLinePlacesUptoRow.holds Try.pinned (OpenSpec.upto fnMultiLinePlacesSpec)

/-- 'laws.FnCentroidPoints', WHERE WHAT IT READS IS OF BULK AT MOST 1048576: true; the input reads as it did. -/
def fnCentroidPointsUptoRow : OpenClaim := { program := "ytpphfoggjejpiaa", sum := "691d7f4167d4136fc042899cd46617359a94b1c4852e5cb672c13eeed4a91bf7", func := "pub-alidade/laws.FnCentroidPoints", spec := "fnCentroidPoints", recurses := true, loops := true, apart := false, narrowed := true }
def FnCentroidPointsUptoSaid : Prop := fnCentroidPointsUptoRow.holds Try.pinned (OpenSpec.upto fnCentroidPointsSpec)

end Rows
end Go.Proofs.Ytpphfoggjejpiaa
