/-
  NARROWER THAN 'FOR EVERY INPUT', by the rows' own cells (each row's printed sentence says how): FnCheckLayout: loops · FnEndsOf: loops · FnInterpolate: loops · FnNew: loops · FnAreasCoords: loops · FnReverseTwice: loops · FnPart: loops · FnLength: loops · FnBoxHasAll: loops.
  DERIVED. THE GIVEN ROWS OF THIS SEAT. 9 by the template 'for every input the law returns true; each argument reads behind the call as it read before'; 0 by the template 'total and deterministic' (their statements: YtdlhlgjgjkmdaaaTotals.lean).
  GIVEN WITH THE SEED: the statements are not yours to turn. If you find one false, say at which input.
  Laid BY PROGRAM, IN A SANDBOX (cutbox-rows.mjs): the forced cells as the released guide's own fill.sh prints them over the translation a6c7ba416186dbe8… (all of the seat's roots in one cut). By AI agents, Wed Nov 11 2026. No macro, syntax, notation, axiom, sorry.
-/
import Derived.Test.YtdlhlgjgjkmdaaaChecked
import GoSem.Claim
import GoSem.ClaimJoined
import GoSem.ClaimMapViews
import Derived.JoinedTies
import Derived.KernelRfl
namespace Go.Proofs.Ytdlhlgjgjkmdaaa
/- THE CELL 'sum', in the pinned program and in every row, IS THE sha256 OF THE DUMP (.gsa) THAT YtdlhlgjgjkmdaaaProg.lean LOADS. Nothing in Lean hashes anything: it is a label: what it is worth is what the hold of that sum in a sandbox is worth. -/
noncomputable def Try.pinned : Pinned := { name := "ytdlhlgjgjkmdaaa", sum := "a6c7ba416186dbe893e774ab7efdb34f8b5ebdd41f95fbd9afe338be9723babd", checked := Try.checked }
namespace Rows
def none {H : Type} : Left H := { results := [], args := [] }

/-- 'laws.FnCheckLayout': WHATEVER THE INPUT: true; the input reads as it did. -/
def fnCheckLayoutSpec : ChangeSpec := { name := "fnCheckLayout", fn := fun _ => fun
  | [d1, d2] => { results := [.lit (.bool true)], args := [d1, d2] }
  | _ => none }
def fnCheckLayoutRow : OpenClaim := { program := "ytdlhlgjgjkmdaaa", sum := "a6c7ba416186dbe893e774ab7efdb34f8b5ebdd41f95fbd9afe338be9723babd", func := "pub-orthodrome/laws.FnCheckLayout", spec := "fnCheckLayout", unfollowed := true, recurses := true, loops := true, apart := false }
def FnCheckLayoutSaid : Prop := fnCheckLayoutRow.holds Try.pinned (OpenSpec.ofChange fnCheckLayoutSpec)

/-- ITS FALSE NEIGHBOUR: 'it returns false'. Refute it at one input. -/
def fnCheckLayoutWrong : ChangeSpec := { name := "fnCheckLayout", fn := fun _ => fun
  | [d1, d2] => { results := [.lit (.bool false)], args := [d1, d2] }
  | _ => none }
def FnCheckLayoutWrongFalsely : Prop := fnCheckLayoutRow.holds Try.pinned (OpenSpec.ofChange fnCheckLayoutWrong)

/-- 'laws.FnEndsOf': WHATEVER THE INPUT: true; the input reads as it did. -/
def fnEndsOfSpec : ChangeSpec := { name := "fnEndsOf", fn := fun _ => fun
  | [d] => { results := [.lit (.bool true)], args := [d] }
  | _ => none }
def fnEndsOfRow : OpenClaim := { program := "ytdlhlgjgjkmdaaa", sum := "a6c7ba416186dbe893e774ab7efdb34f8b5ebdd41f95fbd9afe338be9723babd", func := "pub-orthodrome/laws.FnEndsOf", spec := "fnEndsOf", unfollowed := true, recurses := true, loops := true, apart := false }
def FnEndsOfSaid : Prop := fnEndsOfRow.holds Try.pinned (OpenSpec.ofChange fnEndsOfSpec)

/-- ITS FALSE NEIGHBOUR: 'it returns false'. Refute it at one input. -/
def fnEndsOfWrong : ChangeSpec := { name := "fnEndsOf", fn := fun _ => fun
  | [d] => { results := [.lit (.bool false)], args := [d] }
  | _ => none }
def FnEndsOfWrongFalsely : Prop := fnEndsOfRow.holds Try.pinned (OpenSpec.ofChange fnEndsOfWrong)

/-- 'laws.FnInterpolate': WHATEVER THE INPUT: true; the input reads as it did. -/
def fnInterpolateSpec : ChangeSpec := { name := "fnInterpolate", fn := fun _ => fun
  | [d1, d2, d3] => { results := [.lit (.bool true)], args := [d1, d2, d3] }
  | _ => none }
def fnInterpolateRow : OpenClaim := { program := "ytdlhlgjgjkmdaaa", sum := "a6c7ba416186dbe893e774ab7efdb34f8b5ebdd41f95fbd9afe338be9723babd", func := "pub-orthodrome/laws.FnInterpolate", spec := "fnInterpolate", inPlace := ["math.archTrunc", "math.Float64bits", "math.Float64frombits"], unfollowed := true, recurses := true, loops := true, apart := false }
def FnInterpolateSaid : Prop := fnInterpolateRow.holds Try.pinned (OpenSpec.ofChange fnInterpolateSpec)

/-- ITS FALSE NEIGHBOUR: 'it returns false'. Refute it at one input. -/
def fnInterpolateWrong : ChangeSpec := { name := "fnInterpolate", fn := fun _ => fun
  | [d1, d2, d3] => { results := [.lit (.bool false)], args := [d1, d2, d3] }
  | _ => none }
def FnInterpolateWrongFalsely : Prop := fnInterpolateRow.holds Try.pinned (OpenSpec.ofChange fnInterpolateWrong)

/-- 'laws.FnNew': WHATEVER THE INPUT: true; the input reads as it did. -/
def fnNewSpec : ChangeSpec := { name := "fnNew", fn := fun _ => fun
  | [d] => { results := [.lit (.bool true)], args := [d] }
  | _ => none }
def fnNewRow : OpenClaim := { program := "ytdlhlgjgjkmdaaa", sum := "a6c7ba416186dbe893e774ab7efdb34f8b5ebdd41f95fbd9afe338be9723babd", func := "pub-orthodrome/laws.FnNew", spec := "fnNew", inPlace := ["math.Float64bits"], unfollowed := true, recurses := true, loops := true, apart := false }
def FnNewSaid : Prop := fnNewRow.holds Try.pinned (OpenSpec.ofChange fnNewSpec)

/-- ITS FALSE NEIGHBOUR: 'it returns false'. Refute it at one input. -/
def fnNewWrong : ChangeSpec := { name := "fnNew", fn := fun _ => fun
  | [d] => { results := [.lit (.bool false)], args := [d] }
  | _ => none }
def FnNewWrongFalsely : Prop := fnNewRow.holds Try.pinned (OpenSpec.ofChange fnNewWrong)

/-- 'laws.FnAreasCoords': WHATEVER THE INPUT: true; the input reads as it did. -/
def fnAreasCoordsSpec : ChangeSpec := { name := "fnAreasCoords", fn := fun _ => fun
  | [d] => { results := [.lit (.bool true)], args := [d] }
  | _ => none }
def fnAreasCoordsRow : OpenClaim := { program := "ytdlhlgjgjkmdaaa", sum := "a6c7ba416186dbe893e774ab7efdb34f8b5ebdd41f95fbd9afe338be9723babd", func := "pub-orthodrome/laws.FnAreasCoords", spec := "fnAreasCoords", inPlace := ["math.Float64bits"], unfollowed := true, recurses := true, loops := true, apart := false }
def FnAreasCoordsSaid : Prop := fnAreasCoordsRow.holds Try.pinned (OpenSpec.ofChange fnAreasCoordsSpec)

/-- ITS FALSE NEIGHBOUR: 'it returns false'. Refute it at one input. -/
def fnAreasCoordsWrong : ChangeSpec := { name := "fnAreasCoords", fn := fun _ => fun
  | [d] => { results := [.lit (.bool false)], args := [d] }
  | _ => none }
def FnAreasCoordsWrongFalsely : Prop := fnAreasCoordsRow.holds Try.pinned (OpenSpec.ofChange fnAreasCoordsWrong)

/-- 'laws.FnReverseTwice': WHATEVER THE INPUT: true; the input reads as it did. -/
def fnReverseTwiceSpec : ChangeSpec := { name := "fnReverseTwice", fn := fun _ => fun
  | [d] => { results := [.lit (.bool true)], args := [d] }
  | _ => none }
def fnReverseTwiceRow : OpenClaim := { program := "ytdlhlgjgjkmdaaa", sum := "a6c7ba416186dbe893e774ab7efdb34f8b5ebdd41f95fbd9afe338be9723babd", func := "pub-orthodrome/laws.FnReverseTwice", spec := "fnReverseTwice", inPlace := ["math.Float64bits"], unfollowed := true, recurses := true, loops := true, apart := false }
def FnReverseTwiceSaid : Prop := fnReverseTwiceRow.holds Try.pinned (OpenSpec.ofChange fnReverseTwiceSpec)

/-- ITS FALSE NEIGHBOUR: 'it returns false'. Refute it at one input. -/
def fnReverseTwiceWrong : ChangeSpec := { name := "fnReverseTwice", fn := fun _ => fun
  | [d] => { results := [.lit (.bool false)], args := [d] }
  | _ => none }
def FnReverseTwiceWrongFalsely : Prop := fnReverseTwiceRow.holds Try.pinned (OpenSpec.ofChange fnReverseTwiceWrong)

/-- 'laws.FnPart': WHATEVER THE INPUT: true; the input reads as it did. -/
def fnPartSpec : ChangeSpec := { name := "fnPart", fn := fun _ => fun
  | [d1, d2] => { results := [.lit (.bool true)], args := [d1, d2] }
  | _ => none }
def fnPartRow : OpenClaim := { program := "ytdlhlgjgjkmdaaa", sum := "a6c7ba416186dbe893e774ab7efdb34f8b5ebdd41f95fbd9afe338be9723babd", func := "pub-orthodrome/laws.FnPart", spec := "fnPart", inPlace := ["math.Float64bits"], unfollowed := true, recurses := true, loops := true, apart := false }
def FnPartSaid : Prop := fnPartRow.holds Try.pinned (OpenSpec.ofChange fnPartSpec)

/-- ITS FALSE NEIGHBOUR: 'it returns false'. Refute it at one input. -/
def fnPartWrong : ChangeSpec := { name := "fnPart", fn := fun _ => fun
  | [d1, d2] => { results := [.lit (.bool false)], args := [d1, d2] }
  | _ => none }
def FnPartWrongFalsely : Prop := fnPartRow.holds Try.pinned (OpenSpec.ofChange fnPartWrong)

/-- 'laws.FnLength': WHATEVER THE INPUT: true; the input reads as it did. -/
def fnLengthSpec : ChangeSpec := { name := "fnLength", fn := fun _ => fun
  | [d] => { results := [.lit (.bool true)], args := [d] }
  | _ => none }
def fnLengthRow : OpenClaim := { program := "ytdlhlgjgjkmdaaa", sum := "a6c7ba416186dbe893e774ab7efdb34f8b5ebdd41f95fbd9afe338be9723babd", func := "pub-orthodrome/laws.FnLength", spec := "fnLength", inPlace := ["math.archTrunc", "math.Float64bits", "math.Float64frombits"], unfollowed := true, recurses := true, loops := true, apart := false }
def FnLengthSaid : Prop := fnLengthRow.holds Try.pinned (OpenSpec.ofChange fnLengthSpec)

/-- ITS FALSE NEIGHBOUR: 'it returns false'. Refute it at one input. -/
def fnLengthWrong : ChangeSpec := { name := "fnLength", fn := fun _ => fun
  | [d] => { results := [.lit (.bool false)], args := [d] }
  | _ => none }
def FnLengthWrongFalsely : Prop := fnLengthRow.holds Try.pinned (OpenSpec.ofChange fnLengthWrong)

/-- 'laws.FnBoxHasAll': WHATEVER THE INPUT: true; the input reads as it did. -/
def fnBoxHasAllSpec : ChangeSpec := { name := "fnBoxHasAll", fn := fun _ => fun
  | [d1, d2] => { results := [.lit (.bool true)], args := [d1, d2] }
  | _ => none }
def fnBoxHasAllRow : OpenClaim := { program := "ytdlhlgjgjkmdaaa", sum := "a6c7ba416186dbe893e774ab7efdb34f8b5ebdd41f95fbd9afe338be9723babd", func := "pub-orthodrome/laws.FnBoxHasAll", spec := "fnBoxHasAll", unfollowed := true, recurses := true, loops := true, apart := false }
def FnBoxHasAllSaid : Prop := fnBoxHasAllRow.holds Try.pinned (OpenSpec.ofChange fnBoxHasAllSpec)

/-- ITS FALSE NEIGHBOUR: 'it returns false'. Refute it at one input. -/
def fnBoxHasAllWrong : ChangeSpec := { name := "fnBoxHasAll", fn := fun _ => fun
  | [d1, d2] => { results := [.lit (.bool false)], args := [d1, d2] }
  | _ => none }
def FnBoxHasAllWrongFalsely : Prop := fnBoxHasAllRow.holds Try.pinned (OpenSpec.ofChange fnBoxHasAllWrong)

/- THE SECOND FORM. 'bulk': how many values and letters a reading holds, each counted each time it is reached (what is shared counts as often as it is met; a slice's spare places count too). A statement '..UptoSaid' is the law's where the arguments, and the package variables that the reading takes, are together of bulk at most 1048576: NARROWER than '..Said'. Prove '..Said' where nothing that the law and all that it calls make is longer than what came in: it says more and counts as full. Else prove '..UptoSaid'. A law counts once. -/
mutual
def uptoBulk {H : Type} : DataW H → Nat
  | .lit (.string bytes) => bytes.length + 1
  | .lit _ => 1
  | .nil => 1
  | .ptr d => uptoBulk d + 1
  | .slice elems spare => uptoBulkAll elems + uptoBulkAll spare + 1
  | .agg parts => uptoBulkAll parts + 1
  | .iface _ d => uptoBulk d + 1
  | .map entries => uptoBulkEntries entries + 1
  | .held _ => 1
def uptoBulkAll {H : Type} : List (DataW H) → Nat
  | [] => 0
  | d :: r => uptoBulk d + uptoBulkAll r
def uptoBulkEntries {H : Type} : List (Lit × DataW H) → Nat
  | [] => 0
  | x :: r => uptoBulkEntry x + uptoBulkEntries r
def uptoBulkEntry {H : Type} : Lit × DataW H → Nat
  | (.string bytes, d) => bytes.length + uptoBulk d + 1
  | (_, d) => uptoBulk d + 1
 end
def uptoSmall : (H : Type) → List (DataW H) → Bool := fun _ ds => decide (uptoBulkAll ds ≤ 1048576)
def OpenSpec.upto (s : _root_.Go.ChangeSpec) : _root_.Go.OpenSpec := { _root_.Go.OpenSpec.ofChange s with cond := some uptoSmall }

/-- 'laws.FnCheckLayout', WHERE WHAT IT READS IS OF BULK AT MOST 1048576: true; the input reads as it did. -/
def fnCheckLayoutUptoRow : OpenClaim := { program := "ytdlhlgjgjkmdaaa", sum := "a6c7ba416186dbe893e774ab7efdb34f8b5ebdd41f95fbd9afe338be9723babd", func := "pub-orthodrome/laws.FnCheckLayout", spec := "fnCheckLayout", unfollowed := true, recurses := true, loops := true, apart := false, narrowed := true }
def FnCheckLayoutUptoSaid : Prop := fnCheckLayoutUptoRow.holds Try.pinned (OpenSpec.upto fnCheckLayoutSpec)

/-- 'laws.FnEndsOf', WHERE WHAT IT READS IS OF BULK AT MOST 1048576: true; the input reads as it did. -/
def fnEndsOfUptoRow : OpenClaim := { program := "ytdlhlgjgjkmdaaa", sum := "a6c7ba416186dbe893e774ab7efdb34f8b5ebdd41f95fbd9afe338be9723babd", func := "pub-orthodrome/laws.FnEndsOf", spec := "fnEndsOf", unfollowed := true, recurses := true, loops := true, apart := false, narrowed := true }
def FnEndsOfUptoSaid : Prop := fnEndsOfUptoRow.holds Try.pinned (OpenSpec.upto fnEndsOfSpec)

/-- 'laws.FnInterpolate', WHERE WHAT IT READS IS OF BULK AT MOST 1048576: true; the input reads as it did. -/
def fnInterpolateUptoRow : OpenClaim := { program := "ytdlhlgjgjkmdaaa", sum := "a6c7ba416186dbe893e774ab7efdb34f8b5ebdd41f95fbd9afe338be9723babd", func := "pub-orthodrome/laws.FnInterpolate", spec := "fnInterpolate", inPlace := ["math.archTrunc", "math.Float64bits", "math.Float64frombits"], unfollowed := true, recurses := true, loops := true, apart := false, narrowed := true }
def FnInterpolateUptoSaid : Prop := fnInterpolateUptoRow.holds Try.pinned (OpenSpec.upto fnInterpolateSpec)

/-- 'laws.FnNew', WHERE WHAT IT READS IS OF BULK AT MOST 1048576: true; the input reads as it did. -/
def fnNewUptoRow : OpenClaim := { program := "ytdlhlgjgjkmdaaa", sum := "a6c7ba416186dbe893e774ab7efdb34f8b5ebdd41f95fbd9afe338be9723babd", func := "pub-orthodrome/laws.FnNew", spec := "fnNew", inPlace := ["math.Float64bits"], unfollowed := true, recurses := true, loops := true, apart := false, narrowed := true }
def FnNewUptoSaid : Prop := fnNewUptoRow.holds Try.pinned (OpenSpec.upto fnNewSpec)

/-- 'laws.FnAreasCoords', WHERE WHAT IT READS IS OF BULK AT MOST 1048576: true; the input reads as it did. -/
def fnAreasCoordsUptoRow : OpenClaim := { program := "ytdlhlgjgjkmdaaa", sum := "a6c7ba416186dbe893e774ab7efdb34f8b5ebdd41f95fbd9afe338be9723babd", func := "pub-orthodrome/laws.FnAreasCoords", spec := "fnAreasCoords", inPlace := ["math.Float64bits"], unfollowed := true, recurses := true, loops := true, apart := false, narrowed := true }
def FnAreasCoordsUptoSaid : Prop := fnAreasCoordsUptoRow.holds Try.pinned (OpenSpec.upto fnAreasCoordsSpec)

/-- 'laws.FnReverseTwice', WHERE WHAT IT READS IS OF BULK AT MOST 1048576: true; the input reads as it did. -/
def fnReverseTwiceUptoRow : OpenClaim := { program := "ytdlhlgjgjkmdaaa", sum := "a6c7ba416186dbe893e774ab7efdb34f8b5ebdd41f95fbd9afe338be9723babd", func := "pub-orthodrome/laws.FnReverseTwice", spec := "fnReverseTwice", inPlace := ["math.Float64bits"], unfollowed := true, recurses := true, loops := true, apart := false, narrowed := true }
def FnReverseTwiceUptoSaid : Prop := fnReverseTwiceUptoRow.holds Try.pinned (OpenSpec.upto fnReverseTwiceSpec)

/-- 'laws.FnPart', WHERE WHAT IT READS IS OF BULK AT MOST 1048576: true; the input reads as it did. -/
def fnPartUptoRow : OpenClaim := { program := "ytdlhlgjgjkmdaaa", sum := "a6c7ba416186dbe893e774ab7efdb34f8b5ebdd41f95fbd9afe338be9723babd", func := "pub-orthodrome/laws.FnPart", spec := "fnPart", inPlace := ["math.Float64bits"], unfollowed := true, recurses := true, loops := true, apart := false, narrowed := true }
def FnPartUptoSaid : Prop := fnPartUptoRow.holds Try.pinned (OpenSpec.upto fnPartSpec)

/-- 'laws.FnLength', WHERE WHAT IT READS IS OF BULK AT MOST 1048576: true; the input reads as it did. -/
def fnLengthUptoRow : OpenClaim := { program := "ytdlhlgjgjkmdaaa", sum := "a6c7ba416186dbe893e774ab7efdb34f8b5ebdd41f95fbd9afe338be9723babd", func := "pub-orthodrome/laws.FnLength", spec := "fnLength", inPlace := ["math.archTrunc", "math.Float64bits", "math.Float64frombits"], unfollowed := true, recurses := true, loops := true, apart := false, narrowed := true }
def FnLengthUptoSaid : Prop := fnLengthUptoRow.holds Try.pinned (OpenSpec.upto fnLengthSpec)

/-- 'laws.FnBoxHasAll', WHERE WHAT IT READS IS OF BULK AT MOST 1048576: true; the input reads as it did. -/
def fnBoxHasAllUptoRow : OpenClaim := { program := "ytdlhlgjgjkmdaaa", sum := "a6c7ba416186dbe893e774ab7efdb34f8b5ebdd41f95fbd9afe338be9723babd", func := "pub-orthodrome/laws.FnBoxHasAll", spec := "fnBoxHasAll", unfollowed := true, recurses := true, loops := true, apart := false, narrowed := true }
def FnBoxHasAllUptoSaid : Prop := fnBoxHasAllUptoRow.holds Try.pinned (OpenSpec.upto fnBoxHasAllSpec)

end Rows
end Go.Proofs.Ytdlhlgjgjkmdaaa
