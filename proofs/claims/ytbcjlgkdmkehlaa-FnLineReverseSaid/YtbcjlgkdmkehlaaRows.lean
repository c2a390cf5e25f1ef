/-
  NARROWER THAN 'FOR EVERY INPUT', by the rows' own cells (each row's printed sentence says how): FnSeqGetXY: loops · FnClosed: loops · FnSeqLessOne: loops · FnLineReverse: loops · FnSeqEnvelope: loops.
  DERIVED. THE GIVEN ROWS OF THIS SEAT. 12 by the template 'for every input the law returns true; each argument reads behind the call as it read before'; 0 by the template 'total and deterministic' (their statements: YtbcjlgkdmkehlaaTotals.lean).
  GIVEN WITH THE SEED: the statements are not yours to turn. If you find one false, say at which input.
  Laid BY PROGRAM, IN A SANDBOX (cutbox-rows.mjs): the forced cells as the released guide's own fill.sh prints them over the translation 2f9d915fba9bbec4… (all of the seat's roots in one cut). By AI agents, Wed Nov 11 2026. No macro, syntax, notation, axiom, sorry.
-/
import Derived.Test.YtbcjlgkdmkehlaaChecked
import GoSem.Claim
import GoSem.ClaimJoined
import GoSem.ClaimMapViews
import Derived.JoinedTies
import Derived.KernelRfl
namespace Go.Proofs.Ytbcjlgkdmkehlaa
/- THE CELL 'sum', in the pinned program and in every row, IS THE sha256 OF THE DUMP (.gsa) THAT YtbcjlgkdmkehlaaProg.lean LOADS. Nothing in Lean hashes anything: it is a label: what it is worth is what the hold of that sum in a sandbox is worth. -/
noncomputable def Try.pinned : Pinned := { name := "ytbcjlgkdmkehlaa", sum := "2f9d915fba9bbec4261ec9c431a27eb12b32f5fc063cf9ed9a8b6e3373862466", checked := Try.checked }
namespace Rows
def none {H : Type} : Left H := { results := [], args := [] }

/-- 'laws.FnZigZagNext': WHATEVER THE INPUT: true; the input reads as it did. -/
def fnZigZagNextSpec : ChangeSpec := { name := "fnZigZagNext", fn := fun _ => fun
  | [d] => { results := [.lit (.bool true)], args := [d] }
  | _ => none }
def fnZigZagNextRow : OpenClaim := { program := "ytbcjlgkdmkehlaa", sum := "2f9d915fba9bbec4261ec9c431a27eb12b32f5fc063cf9ed9a8b6e3373862466", func := "pub-alidade/laws.FnZigZagNext", spec := "fnZigZagNext", apart := false }
def FnZigZagNextSaid : Prop := fnZigZagNextRow.holds Try.pinned (OpenSpec.ofChange fnZigZagNextSpec)

/-- ITS FALSE NEIGHBOUR: 'it returns false'. Refute it at one input. -/
def fnZigZagNextWrong : ChangeSpec := { name := "fnZigZagNext", fn := fun _ => fun
  | [d] => { results := [.lit (.bool false)], args := [d] }
  | _ => none }
def FnZigZagNextWrongFalsely : Prop := fnZigZagNextRow.holds Try.pinned (OpenSpec.ofChange fnZigZagNextWrong)

/-- 'laws.FnTriangleArea': WHATEVER THE INPUT: true; the input reads as it did. -/
def fnTriangleAreaSpec : ChangeSpec := { name := "fnTriangleArea", fn := fun _ => fun
  | [d1, d2, d3] => { results := [.lit (.bool true)], args := [d1, d2, d3] }
  | _ => none }
def fnTriangleAreaRow : OpenClaim := { program := "ytbcjlgkdmkehlaa", sum := "2f9d915fba9bbec4261ec9c431a27eb12b32f5fc063cf9ed9a8b6e3373862466", func := "pub-alidade/laws.FnTriangleArea", spec := "fnTriangleArea", recurses := true, apart := false }
def FnTriangleAreaSaid : Prop := fnTriangleAreaRow.holds Try.pinned (OpenSpec.ofChange fnTriangleAreaSpec)

/-- ITS FALSE NEIGHBOUR: 'it returns false'. Refute it at one input. -/
def fnTriangleAreaWrong : ChangeSpec := { name := "fnTriangleArea", fn := fun _ => fun
  | [d1, d2, d3] => { results := [.lit (.bool false)], args := [d1, d2, d3] }
  | _ => none }
def FnTriangleAreaWrongFalsely : Prop := fnTriangleAreaRow.holds Try.pinned (OpenSpec.ofChange fnTriangleAreaWrong)

/-- 'laws.FnTurnRound': WHATEVER THE INPUT: true; the input reads as it did. -/
def fnTurnRoundSpec : ChangeSpec := { name := "fnTurnRound", fn := fun _ => fun
  | [d1, d2, d3] => { results := [.lit (.bool true)], args := [d1, d2, d3] }
  | _ => none }
def fnTurnRoundRow : OpenClaim := { program := "ytbcjlgkdmkehlaa", sum := "2f9d915fba9bbec4261ec9c431a27eb12b32f5fc063cf9ed9a8b6e3373862466", func := "pub-alidade/laws.FnTurnRound", spec := "fnTurnRound", recurses := true, apart := false }
def FnTurnRoundSaid : Prop := fnTurnRoundRow.holds Try.pinned (OpenSpec.ofChange fnTurnRoundSpec)

/-- ITS FALSE NEIGHBOUR: 'it returns false'. Refute it at one input. -/
def fnTurnRoundWrong : ChangeSpec := { name := "fnTurnRound", fn := fun _ => fun
  | [d1, d2, d3] => { results := [.lit (.bool false)], args := [d1, d2, d3] }
  | _ => none }
def FnTurnRoundWrongFalsely : Prop := fnTurnRoundRow.holds Try.pinned (OpenSpec.ofChange fnTurnRoundWrong)

/-- 'laws.FnPermutation': WHATEVER THE INPUT: true; the input reads as it did. -/
def fnPermutationSpec : ChangeSpec := { name := "fnPermutation", fn := fun _ => fun
  | [d] => { results := [.lit (.bool true)], args := [d] }
  | _ => none }
def fnPermutationRow : OpenClaim := { program := "ytbcjlgkdmkehlaa", sum := "2f9d915fba9bbec4261ec9c431a27eb12b32f5fc063cf9ed9a8b6e3373862466", func := "pub-alidade/laws.FnPermutation", spec := "fnPermutation", unfollowed := true, recurses := true, apart := false }
def FnPermutationSaid : Prop := fnPermutationRow.holds Try.pinned (OpenSpec.ofChange fnPermutationSpec)

/-- ITS FALSE NEIGHBOUR: 'it returns false'. Refute it at one input. -/
def fnPermutationWrong : ChangeSpec := { name := "fnPermutation", fn := fun _ => fun
  | [d] => { results := [.lit (.bool false)], args := [d] }
  | _ => none }
def FnPermutationWrongFalsely : Prop := fnPermutationRow.holds Try.pinned (OpenSpec.ofChange fnPermutationWrong)

/-- 'laws.FnXYScale': WHATEVER THE INPUT: true; the input reads as it did. -/
def fnXYScaleSpec : ChangeSpec := { name := "fnXYScale", fn := fun _ => fun
  | [d1, d2] => { results := [.lit (.bool true)], args := [d1, d2] }
  | _ => none }
def fnXYScaleRow : OpenClaim := { program := "ytbcjlgkdmkehlaa", sum := "2f9d915fba9bbec4261ec9c431a27eb12b32f5fc063cf9ed9a8b6e3373862466", func := "pub-alidade/laws.FnXYScale", spec := "fnXYScale", inPlace := ["math.archTrunc", "math.Float64bits", "math.Float64frombits"], apart := false }
def FnXYScaleSaid : Prop := fnXYScaleRow.holds Try.pinned (OpenSpec.ofChange fnXYScaleSpec)

/-- ITS FALSE NEIGHBOUR: 'it returns false'. Refute it at one input. -/
def fnXYScaleWrong : ChangeSpec := { name := "fnXYScale", fn := fun _ => fun
  | [d1, d2] => { results := [.lit (.bool false)], args := [d1, d2] }
  | _ => none }
def FnXYScaleWrongFalsely : Prop := fnXYScaleRow.holds Try.pinned (OpenSpec.ofChange fnXYScaleWrong)

/-- 'laws.FnSeqGetXY': WHATEVER THE INPUT: true; the input reads as it did. -/
def fnSeqGetXYSpec : ChangeSpec := { name := "fnSeqGetXY", fn := fun _ => fun
  | [d1, d2] => { results := [.lit (.bool true)], args := [d1, d2] }
  | _ => none }
def fnSeqGetXYRow : OpenClaim := { program := "ytbcjlgkdmkehlaa", sum := "2f9d915fba9bbec4261ec9c431a27eb12b32f5fc063cf9ed9a8b6e3373862466", func := "pub-alidade/laws.FnSeqGetXY", spec := "fnSeqGetXY", inPlace := ["math.Float64bits"], unfollowed := true, recurses := true, loops := true, apart := false }
def FnSeqGetXYSaid : Prop := fnSeqGetXYRow.holds Try.pinned (OpenSpec.ofChange fnSeqGetXYSpec)

/-- ITS FALSE NEIGHBOUR: 'it returns false'. Refute it at one input. -/
def fnSeqGetXYWrong : ChangeSpec := { name := "fnSeqGetXY", fn := fun _ => fun
  | [d1, d2] => { results := [.lit (.bool false)], args := [d1, d2] }
  | _ => none }
def FnSeqGetXYWrongFalsely : Prop := fnSeqGetXYRow.holds Try.pinned (OpenSpec.ofChange fnSeqGetXYWrong)

/-- 'laws.FnClosed': WHATEVER THE INPUT: true; the input reads as it did. -/
def fnClosedSpec : ChangeSpec := { name := "fnClosed", fn := fun _ => fun
  | [d] => { results := [.lit (.bool true)], args := [d] }
  | _ => none }
def fnClosedRow : OpenClaim := { program := "ytbcjlgkdmkehlaa", sum := "2f9d915fba9bbec4261ec9c431a27eb12b32f5fc063cf9ed9a8b6e3373862466", func := "pub-alidade/laws.FnClosed", spec := "fnClosed", unfollowed := true, recurses := true, loops := true, apart := false }
def FnClosedSaid : Prop := fnClosedRow.holds Try.pinned (OpenSpec.ofChange fnClosedSpec)

/-- ITS FALSE NEIGHBOUR: 'it returns false'. Refute it at one input. -/
def fnClosedWrong : ChangeSpec := { name := "fnClosed", fn := fun _ => fun
  | [d] => { results := [.lit (.bool false)], args := [d] }
  | _ => none }
def FnClosedWrongFalsely : Prop := fnClosedRow.holds Try.pinned (OpenSpec.ofChange fnClosedWrong)

/-- 'laws.FnSeqLessOne': WHATEVER THE INPUT: true; the input reads as it did. -/
def fnSeqLessOneSpec : ChangeSpec := { name := "fnSeqLessOne", fn := fun _ => fun
  | [d1, d2] => { results := [.lit (.bool true)], args := [d1, d2] }
  | _ => none }
def fnSeqLessOneRow : OpenClaim := { program := "ytbcjlgkdmkehlaa", sum := "2f9d915fba9bbec4261ec9c431a27eb12b32f5fc063cf9ed9a8b6e3373862466", func := "pub-alidade/laws.FnSeqLessOne", spec := "fnSeqLessOne", unfollowed := true, recurses := true, loops := true, apart := false }
def FnSeqLessOneSaid : Prop := fnSeqLessOneRow.holds Try.pinned (OpenSpec.ofChange fnSeqLessOneSpec)

/-- ITS FALSE NEIGHBOUR: 'it returns false'. Refute it at one input. -/
def fnSeqLessOneWrong : ChangeSpec := { name := "fnSeqLessOne", fn := fun _ => fun
  | [d1, d2] => { results := [.lit (.bool false)], args := [d1, d2] }
  | _ => none }
def FnSeqLessOneWrongFalsely : Prop := fnSeqLessOneRow.holds Try.pinned (OpenSpec.ofChange fnSeqLessOneWrong)

/-- 'laws.FnEnvContains': WHATEVER THE INPUT: true; the input reads as it did. -/
def fnEnvContainsSpec : ChangeSpec := { name := "fnEnvContains", fn := fun _ => fun
  | [d1, d2] => { results := [.lit (.bool true)], args := [d1, d2] }
  | _ => none }
def fnEnvContainsRow : OpenClaim := { program := "ytbcjlgkdmkehlaa", sum := "2f9d915fba9bbec4261ec9c431a27eb12b32f5fc063cf9ed9a8b6e3373862466", func := "pub-alidade/laws.FnEnvContains", spec := "fnEnvContains", inPlace := ["math.Float64bits", "math.Float64frombits"], apart := false }
def FnEnvContainsSaid : Prop := fnEnvContainsRow.holds Try.pinned (OpenSpec.ofChange fnEnvContainsSpec)

/-- ITS FALSE NEIGHBOUR: 'it returns false'. Refute it at one input. -/
def fnEnvContainsWrong : ChangeSpec := { name := "fnEnvContains", fn := fun _ => fun
  | [d1, d2] => { results := [.lit (.bool false)], args := [d1, d2] }
  | _ => none }
def FnEnvContainsWrongFalsely : Prop := fnEnvContainsRow.holds Try.pinned (OpenSpec.ofChange fnEnvContainsWrong)

/-- 'laws.FnLineReverse': WHATEVER THE INPUT: true; the input reads as it did. -/
def fnLineReverseSpec : ChangeSpec := { name := "fnLineReverse", fn := fun _ => fun
  | [d] => { results := [.lit (.bool true)], args := [d] }
  | _ => none }
def fnLineReverseRow : OpenClaim := { program := "ytbcjlgkdmkehlaa", sum := "2f9d915fba9bbec4261ec9c431a27eb12b32f5fc063cf9ed9a8b6e3373862466", func := "pub-alidade/laws.FnLineReverse", spec := "fnLineReverse", inPlace := ["math.Float64bits"], recurses := true, loops := true, apart := false }
def FnLineReverseSaid : Prop := fnLineReverseRow.holds Try.pinned (OpenSpec.ofChange fnLineReverseSpec)

/-- ITS FALSE NEIGHBOUR: 'it returns false'. Refute it at one input. -/
def fnLineReverseWrong : ChangeSpec := { name := "fnLineReverse", fn := fun _ => fun
  | [d] => { results := [.lit (.bool false)], args := [d] }
  | _ => none }
def FnLineReverseWrongFalsely : Prop := fnLineReverseRow.holds Try.pinned (OpenSpec.ofChange fnLineReverseWrong)

/-- 'laws.FnSeqEnvelope': WHATEVER THE INPUT: true; the input reads as it did. -/
def fnSeqEnvelopeSpec : ChangeSpec := { name := "fnSeqEnvelope", fn := fun _ => fun
  | [d] => { results := [.lit (.bool true)], args := [d] }
  | _ => none }
def fnSeqEnvelopeRow : OpenClaim := { program := "ytbcjlgkdmkehlaa", sum := "2f9d915fba9bbec4261ec9c431a27eb12b32f5fc063cf9ed9a8b6e3373862466", func := "pub-alidade/laws.FnSeqEnvelope", spec := "fnSeqEnvelope", inPlace := ["math.Float64bits", "math.Float64frombits"], unfollowed := true, recurses := true, loops := true, apart := false }
def FnSeqEnvelopeSaid : Prop := fnSeqEnvelopeRow.holds Try.pinned (OpenSpec.ofChange fnSeqEnvelopeSpec)

/-- ITS FALSE NEIGHBOUR: 'it returns false'. Refute it at one input. -/
def fnSeqEnvelopeWrong : ChangeSpec := { name := "fnSeqEnvelope", fn := fun _ => fun
  | [d] => { results := [.lit (.bool false)], args := [d] }
  | _ => none }
def FnSeqEnvelopeWrongFalsely : Prop := fnSeqEnvelopeRow.holds Try.pinned (OpenSpec.ofChange fnSeqEnvelopeWrong)

/-- 'laws.FnEnvEnds': WHATEVER THE INPUT: true; the input reads as it did. -/
def fnEnvEndsSpec : ChangeSpec := { name := "fnEnvEnds", fn := fun _ => fun
  | [d] => { results := [.lit (.bool true)], args := [d] }
  | _ => none }
def fnEnvEndsRow : OpenClaim := { program := "ytbcjlgkdmkehlaa", sum := "2f9d915fba9bbec4261ec9c431a27eb12b32f5fc063cf9ed9a8b6e3373862466", func := "pub-alidade/laws.FnEnvEnds", spec := "fnEnvEnds", inPlace := ["math.Float64bits", "math.Float64frombits"], apart := false }
def FnEnvEndsSaid : Prop := fnEnvEndsRow.holds Try.pinned (OpenSpec.ofChange fnEnvEndsSpec)

/-- ITS FALSE NEIGHBOUR: 'it returns false'. Refute it at one input. -/
def fnEnvEndsWrong : ChangeSpec := { name := "fnEnvEnds", fn := fun _ => fun
  | [d] => { results := [.lit (.bool false)], args := [d] }
  | _ => none }
def FnEnvEndsWrongFalsely : Prop := fnEnvEndsRow.holds Try.pinned (OpenSpec.ofChange fnEnvEndsWrong)

/- THE SECOND FORM. 'bulk': how many values and letters a reading holds, each counted each time it is reached (what is shared counts as often as it is met; a slice's spare places count too). A statement '..UptoSaid' is the law's where the arguments, and the package variables that the reading takes, are together of bulk at most 1048576: NARROWER than '..Said'. Prove '..Said' where nothing that the law and all that it calls make is longer than what came in: it says more and counts as full. Else prove '..UptoSaid'. A law counts once. -/
mutual
def uptoBulk {H : Type} : DataW H → Nat
  | .lit (.string bytes) => bytes.length + 1
  | .lit _ => 1
  | .nil => 1
  | .ptr d => uptoBulk d + 1
  | .slice elems spare => uptoBulkAll elems + uptoBulkAll spare + 1
  | .agg parts => uptoBulkAll parts + 1
  | .iface _ d => uptoBulk d + 1
  | .map entries => uptoBulkEntries entries + 1
  | .held _ => 1
def uptoBulkAll {H : Type} : List (DataW H) → Nat
  | [] => 0
  | d :: r => uptoBulk d + uptoBulkAll r
def uptoBulkEntries {H : Type} : List (Lit × DataW H) → Nat
  | [] => 0
  | x :: r => uptoBulkEntry x + uptoBulkEntries r
def uptoBulkEntry {H : Type} : Lit × DataW H → Nat
  | (.string bytes, d) => bytes.length + uptoBulk d + 1
  | (_, d) => uptoBulk d + 1
 end
def uptoSmall : (H : Type) → List (DataW H) → Bool := fun _ ds => decide (uptoBulkAll ds ≤ 1048576)
def OpenSpec.upto (s : _root_.Go.ChangeSpec) : _root_.Go.OpenSpec := { _root_.Go.OpenSpec.ofChange s with cond := some uptoSmall }

/-- 'laws.FnZigZagNext', WHERE WHAT IT READS IS OF BULK AT MOST 1048576: true; the input reads as it did. -/
def fnZigZagNextUptoRow : OpenClaim := { program := "ytbcjlgkdmkehlaa", sum := "2f9d915fba9bbec4261ec9c431a27eb12b32f5fc063cf9ed9a8b6e3373862466", func := "pub-alidade/laws.FnZigZagNext", spec := "fnZigZagNext", apart := false, narrowed := true }
def FnZigZagNextUptoSaid : Prop := fnZigZagNextUptoRow.holds Try.pinned (OpenSpec.upto fnZigZagNextSpec)

/-- 'laws.FnTriangleArea', WHERE WHAT IT READS IS OF BULK AT MOST 1048576: true; the input reads as it did. -/
def fnTriangleAreaUptoRow : OpenClaim := { program := "ytbcjlgkdmkehlaa", sum := "2f9d915fba9bbec4261ec9c431a27eb12b32f5fc063cf9ed9a8b6e3373862466", func := "pub-alidade/laws.FnTriangleArea", spec := "fnTriangleArea", recurses := true, apart := false, narrowed := true }
def FnTriangleAreaUptoSaid : Prop := fnTriangleAreaUptoRow.holds Try.pinned (OpenSpec.upto fnTriangleAreaSpec)

/-- 'laws.FnTurnRound', WHERE WHAT IT READS IS OF BULK AT MOST 1048576: true; the input reads as it did. -/
def fnTurnRoundUptoRow : OpenClaim := { program := "ytbcjlgkdmkehlaa", sum := "2f9d915fba9bbec4261ec9c431a27eb12b32f5fc063cf9ed9a8b6e3373862466", func := "pub-alidade/laws.FnTurnRound", spec := "fnTurnRound", recurses := true, apart := false, narrowed := true }
def FnTurnRoundUptoSaid : Prop := fnTurnRoundUptoRow.holds Try.pinned (OpenSpec.upto fnTurnRoundSpec)

/-- 'laws.FnPermutation', WHERE WHAT IT READS IS OF BULK AT MOST 1048576: true; the input reads as it did. -/
def fnPermutationUptoRow : OpenClaim := { program := "ytbcjlgkdmkehlaa", sum := "2f9d915fba9bbec4261ec9c431a27eb12b32f5fc063cf9ed9a8b6e3373862466", func := "pub-alidade/laws.FnPermutation", spec := "fnPermutation", unfollowed := true, recurses := true, apart := false, narrowed := true }
def FnPermutationUptoSaid : Prop := fnPermutationUptoRow.holds Try.pinned (OpenSpec.upto fnPermutationSpec)

/-- 'laws.FnXYScale', WHERE WHAT IT READS IS OF BULK AT MOST 1048576: true; the input reads as it did. -/
def fnXYScaleUptoRow : OpenClaim := { program := "ytbcjlgkdmkehlaa", sum := "2f9d915fba9bbec4261ec9c431a27eb12b32f5fc063cf9ed9a8b6e3373862466", func := "pub-alidade/laws.FnXYScale", spec := "fnXYScale", inPlace := ["math.archTrunc", "math.Float64bits", "math.Float64frombits"], apart := false, narrowed := true }
def FnXYScaleUptoSaid : Prop := fnXYScaleUptoRow.holds Try.pinned (OpenSpec.upto fnXYScaleSpec)

/-- 'laws.FnSeqGetXY', WHERE WHAT IT READS IS OF BULK AT MOST 1048576: true; the input reads as it did. -/
def fnSeqGetXYUptoRow : OpenClaim := { program := "ytbcjlgkdmkehlaa", sum := "2f9d915fba9bbec4261ec9c431a27eb12b32f5fc063cf9ed9a8b6e3373862466", func := "pub-alidade/laws.FnSeqGetXY", spec := "fnSeqGetXY", inPlace := ["math.Float64bits"], unfollowed := true, recurses := true, loops := true, apart := false, narrowed := true }
def FnSeqGetXYUptoSaid : Prop := fnSeqGetXYUptoRow.holds Try.pinned (OpenSpec.upto fnSeqGetXYSpec)

/-- 'laws.FnClosed', WHERE WHAT IT READS IS OF BULK AT MOST 1048576: true; the input reads as it did. -/
def fnClosedUptoRow : OpenClaim := { program := "ytbcjlgkdmkehlaa", sum := "2f9d915fba9bbec4261ec9c431a27eb12b32f5fc063cf9ed9a8b6e3373862466", func := "pub-alidade/laws.FnClosed", spec := "fnClosed", unfollowed := true, recurses := true, loops := true, apart := false, narrowed := true }
def FnClosedUptoSaid : Prop := fnClosedUptoRow.holds Try.pinned (OpenSpec.upto fnClosedSpec)

/-- 'laws.FnSeqLessOne', WHERE WHAT IT READS IS OF BULK AT MOST 1048576: true; the input reads as it did. -/
def fnSeqLessOneUptoRow : OpenClaim := { program := "ytbcjlgkdmkehlaa", sum := "2f9d915fba9bbec4261ec9c431a27eb12b32f5fc063cf9ed9a8b6e3373862466", func := "pub-alidade/laws.FnSeqLessOne", spec := "fnSeqLessOne", unfollowed := true, recurses := true, loops := true, apart := false, narrowed := true }
def FnSeqLessOneUptoSaid : Prop := fnSeqLessOneUptoRow.holds Try.pinned (OpenSpec.upto fnSeqLessOneSpec)

/-- 'laws.FnEnvContains', WHERE WHAT IT READS IS OF BULK AT MOST 1048576: true; the input reads as it did. -/
def fnEnvContainsUptoRow : OpenClaim := { program := "ytbcjlgkdmkehlaa", sum := "2f9d915fba9bbec4261ec9c431a27eb12b32f5fc063cf9ed9a8b6e3373862466", func := "pub-alidade/laws.FnEnvContains", spec := "fnEnvContains", inPlace := ["math.Float64bits", "math.Float64frombits"], apart := false, narrowed := true }
def FnEnvContainsUptoSaid : Prop := fnEnvContainsUptoRow.holds Try.pinned (OpenSpec.upto fnEnvContainsSpec)

/-- 'laws.FnLineReverse', WHERE WHAT IT READS IS OF BULK AT MOST 1048576: true; the input reads as it did. -/
def fnLineReverseUptoRow : OpenClaim := { program := "ytbcjlgkdmkehlaa", sum := "2f9d915fba9bbec4261ec9c431a27eb12b32f5fc063cf9ed9a8b6e3373862466", func := "pub-alidade/laws.FnLineReverse", spec := "fnLineReverse", inPlace := ["math.Float64bits"], recurses := true, loops := true, apart := false, narrowed := true }
def FnLineReverseUptoSaid : Prop := fnLineReverseUptoRow.holds Try.pinned (OpenSpec.upto fnLineReverseSpec)

/-- 'laws.FnSeqEnvelope', WHERE WHAT IT READS IS OF BULK AT MOST 1048576: true; the input reads as it did. -/
def fnSeqEnvelopeUptoRow : OpenClaim := { program := "ytbcjlgkdmkehlaa", sum := "2f9d915fba9bbec4261ec9c431a27eb12b32f5fc063cf9ed9a8b6e3373862466", func := "pub-alidade/laws.FnSeqEnvelope", spec := "fnSeqEnvelope", inPlace := ["math.Float64bits", "math.Float64frombits"], unfollowed := true, recurses := true, loops := true, apart := false, narrowed := true }
def FnSeqEnvelopeUptoSaid : Prop := fnSeqEnvelopeUptoRow.holds Try.pinned (OpenSpec.upto fnSeqEnvelopeSpec)

/-- 'laws.FnEnvEnds', WHERE WHAT IT READS IS OF BULK AT MOST 1048576: true; the input reads as it did. -/
def fnEnvEndsUptoRow : OpenClaim := { program := "ytbcjlgkdmkehlaa", sum := "2f9d915fba9bbec4261ec9c431a27eb12b32f5fc063cf9ed9a8b6e3373862466", func := "pub-alidade/laws.FnEnvEnds", spec := "fnEnvEnds", inPlace := ["math.Float64bits", "math.Float64frombits"], apart := false, narrowed := true }
def FnEnvEndsUptoSaid : Prop := fnEnvEndsUptoRow.holds Try.pinned (OpenSpec.upto fnEnvEndsSpec)

end Rows
end Go.Proofs.Ytbcjlgkdmkehlaa
