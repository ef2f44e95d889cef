/-
  No cell of these rows narrows 'for every input' (looked for: loops, veiled, ifaces, maps, wideKeys, modest, calm, conditions, laid).
  DERIVED. THE GIVEN ROWS OF THIS SEAT. 11 by the template 'for every input the law returns true; each argument reads behind the call as it read before'; 0 by the template 'total and deterministic' (their statements: YtlkoaanagbgpkaaTotals.lean).
  GIVEN WITH THE SEED: the statements are not yours to turn. If you find one false, say at which input.
  Laid BY PROGRAM, IN A SANDBOX (cutbox-rows.mjs): the forced cells as the released guide's own fill.sh prints them over the translation bf28f0745cfaa4e9… (all of the seat's roots in one cut). By AI agents, Wed Nov 11 2026. No macro, syntax, notation, axiom, sorry.
-/
import Derived.Test.YtlkoaanagbgpkaaChecked
import GoSem.Claim
import GoSem.ClaimJoined
import GoSem.ClaimMapViews
import Derived.JoinedTies
import Derived.KernelRfl
namespace Go.Proofs.Ytlkoaanagbgpkaa
/- THE CELL 'sum', in the pinned program and in every row, IS THE sha256 OF THE DUMP (.gsa) THAT YtlkoaanagbgpkaaProg.lean LOADS. Nothing in Lean hashes anything: it is a label: what it is worth is what the hold of that sum in a sandbox is worth. -/
noncomputable def Try.pinned : Pinned := { name := "ytlkoaanagbgpkaa", sum := "bf28f0745cfaa4e9b541f095f23fe5d0c6de90dd4b3c28f543d5b1963a6b0122", checked := Try.checked }
namespace Rows
def none {H : Type} : Left H := { results := [], args := [] }

/-- 'laws.FnCoordSet': WHATEVER THE INPUT: true; the input reads as it did. -/
def fnCoordSetSpec : ChangeSpec := { name := "fnCoordSet", fn := fun _ => fun
  | [d1, d2] => { results := [.lit (.bool true)], args := [d1, d2] }
  | _ => none }
def fnCoordSetRow : OpenClaim := { program := "ytlkoaanagbgpkaa", sum := "bf28f0745cfaa4e9b541f095f23fe5d0c6de90dd4b3c28f543d5b1963a6b0122", func := "pub-orthodrome/laws.FnCoordSet", spec := "fnCoordSet", inPlace := ["math.Float64bits"], apart := false }
def FnCoordSetSaid : Prop := fnCoordSetRow.holds Try.pinned (OpenSpec.ofChange fnCoordSetSpec)

/-- ITS FALSE NEIGHBOUR: 'it returns false'. Refute it at one input. -/
def fnCoordSetWrong : ChangeSpec := { name := "fnCoordSet", fn := fun _ => fun
  | [d1, d2] => { results := [.lit (.bool false)], args := [d1, d2] }
  | _ => none }
def FnCoordSetWrongFalsely : Prop := fnCoordSetRow.holds Try.pinned (OpenSpec.ofChange fnCoordSetWrong)

/-- 'laws.FnReadByte': WHATEVER THE INPUT: true; the input reads as it did. -/
def fnReadByteSpec : ChangeSpec := { name := "fnReadByte", fn := fun _ => fun
  | [d] => { results := [.lit (.bool true)], args := [d] }
  | _ => none }
def fnReadByteRow : OpenClaim := { program := "ytlkoaanagbgpkaa", sum := "bf28f0745cfaa4e9b541f095f23fe5d0c6de90dd4b3c28f543d5b1963a6b0122", func := "pub-orthodrome/laws.FnReadByte", spec := "fnReadByte", unfollowed := true, recurses := true, apart := false }
def FnReadByteSaid : Prop := fnReadByteRow.holds Try.pinned (OpenSpec.ofChange fnReadByteSpec)

/-- ITS FALSE NEIGHBOUR: 'it returns false'. Refute it at one input. -/
def fnReadByteWrong : ChangeSpec := { name := "fnReadByte", fn := fun _ => fun
  | [d] => { results := [.lit (.bool false)], args := [d] }
  | _ => none }
def FnReadByteWrongFalsely : Prop := fnReadByteRow.holds Try.pinned (OpenSpec.ofChange fnReadByteWrong)

/-- 'laws.FnBoxLimits': WHATEVER THE INPUT: true; the input reads as it did. -/
def fnBoxLimitsSpec : ChangeSpec := { name := "fnBoxLimits", fn := fun _ => fun
  | [d1, d2] => { results := [.lit (.bool true)], args := [d1, d2] }
  | _ => none }
def fnBoxLimitsRow : OpenClaim := { program := "ytlkoaanagbgpkaa", sum := "bf28f0745cfaa4e9b541f095f23fe5d0c6de90dd4b3c28f543d5b1963a6b0122", func := "pub-orthodrome/laws.FnBoxLimits", spec := "fnBoxLimits", unfollowed := true, recurses := true, apart := false }
def FnBoxLimitsSaid : Prop := fnBoxLimitsRow.holds Try.pinned (OpenSpec.ofChange fnBoxLimitsSpec)

/-- ITS FALSE NEIGHBOUR: 'it returns false'. Refute it at one input. -/
def fnBoxLimitsWrong : ChangeSpec := { name := "fnBoxLimits", fn := fun _ => fun
  | [d1, d2] => { results := [.lit (.bool false)], args := [d1, d2] }
  | _ => none }
def FnBoxLimitsWrongFalsely : Prop := fnBoxLimitsRow.holds Try.pinned (OpenSpec.ofChange fnBoxLimitsWrong)

/-- 'laws.FnDeflate1': WHATEVER THE INPUT: true; the input reads as it did. -/
def fnDeflate1Spec : ChangeSpec := { name := "fnDeflate1", fn := fun _ => fun
  | [d1, d2] => { results := [.lit (.bool true)], args := [d1, d2] }
  | _ => none }
def fnDeflate1Row : OpenClaim := { program := "ytlkoaanagbgpkaa", sum := "bf28f0745cfaa4e9b541f095f23fe5d0c6de90dd4b3c28f543d5b1963a6b0122", func := "pub-orthodrome/laws.FnDeflate1", spec := "fnDeflate1", inPlace := ["math.Float64bits"], unfollowed := true, recurses := true, apart := false }
def FnDeflate1Said : Prop := fnDeflate1Row.holds Try.pinned (OpenSpec.ofChange fnDeflate1Spec)

/-- ITS FALSE NEIGHBOUR: 'it returns false'. Refute it at one input. -/
def fnDeflate1Wrong : ChangeSpec := { name := "fnDeflate1", fn := fun _ => fun
  | [d1, d2] => { results := [.lit (.bool false)], args := [d1, d2] }
  | _ => none }
def FnDeflate1WrongFalsely : Prop := fnDeflate1Row.holds Try.pinned (OpenSpec.ofChange fnDeflate1Wrong)

/-- 'laws.FnEmptyPointBytes': WHATEVER THE INPUT: true; the input reads as it did. -/
def fnEmptyPointBytesSpec : ChangeSpec := { name := "fnEmptyPointBytes", fn := fun _ => fun
  | [d1, d2] => { results := [.lit (.bool true)], args := [d1, d2] }
  | _ => none }
def fnEmptyPointBytesRow : OpenClaim := { program := "ytlkoaanagbgpkaa", sum := "bf28f0745cfaa4e9b541f095f23fe5d0c6de90dd4b3c28f543d5b1963a6b0122", func := "pub-orthodrome/laws.FnEmptyPointBytes", spec := "fnEmptyPointBytes", inPlace := ["math.Float64frombits", "math.Float64bits"], unfollowed := true, recurses := true, named := ["encoding/binary.BigEndian", "encoding/binary.LittleEndian"], apart := false }
def FnEmptyPointBytesSaid : Prop := fnEmptyPointBytesRow.holds Try.pinned (OpenSpec.ofChange fnEmptyPointBytesSpec)

/-- ITS FALSE NEIGHBOUR: 'it returns false'. Refute it at one input. -/
def fnEmptyPointBytesWrong : ChangeSpec := { name := "fnEmptyPointBytes", fn := fun _ => fun
  | [d1, d2] => { results := [.lit (.bool false)], args := [d1, d2] }
  | _ => none }
def FnEmptyPointBytesWrongFalsely : Prop := fnEmptyPointBytesRow.holds Try.pinned (OpenSpec.ofChange fnEmptyPointBytesWrong)

/-- 'laws.FnDoubleArea1': WHATEVER THE INPUT: true; the input reads as it did. -/
def fnDoubleArea1Spec : ChangeSpec := { name := "fnDoubleArea1", fn := fun _ => fun
  | [d1, d2] => { results := [.lit (.bool true)], args := [d1, d2] }
  | _ => none }
def fnDoubleArea1Row : OpenClaim := { program := "ytlkoaanagbgpkaa", sum := "bf28f0745cfaa4e9b541f095f23fe5d0c6de90dd4b3c28f543d5b1963a6b0122", func := "pub-orthodrome/laws.FnDoubleArea1", spec := "fnDoubleArea1", inPlace := ["math.archTrunc", "math.Float64bits", "math.Float64frombits"], unfollowed := true, recurses := true, apart := false }
def FnDoubleArea1Said : Prop := fnDoubleArea1Row.holds Try.pinned (OpenSpec.ofChange fnDoubleArea1Spec)

/-- ITS FALSE NEIGHBOUR: 'it returns false'. Refute it at one input. -/
def fnDoubleArea1Wrong : ChangeSpec := { name := "fnDoubleArea1", fn := fun _ => fun
  | [d1, d2] => { results := [.lit (.bool false)], args := [d1, d2] }
  | _ => none }
def FnDoubleArea1WrongFalsely : Prop := fnDoubleArea1Row.holds Try.pinned (OpenSpec.ofChange fnDoubleArea1Wrong)

/-- 'laws.FnSortLess': WHATEVER THE INPUT: true; the input reads as it did. -/
def fnSortLessSpec : ChangeSpec := { name := "fnSortLess", fn := fun _ => fun
  | [d1, d2, d3, d4] => { results := [.lit (.bool true)], args := [d1, d2, d3, d4] }
  | _ => none }
def fnSortLessRow : OpenClaim := { program := "ytlkoaanagbgpkaa", sum := "bf28f0745cfaa4e9b541f095f23fe5d0c6de90dd4b3c28f543d5b1963a6b0122", func := "pub-orthodrome/laws.FnSortLess", spec := "fnSortLess", unfollowed := true, recurses := true, apart := false }
def FnSortLessSaid : Prop := fnSortLessRow.holds Try.pinned (OpenSpec.ofChange fnSortLessSpec)

/-- ITS FALSE NEIGHBOUR: 'it returns false'. Refute it at one input. -/
def fnSortLessWrong : ChangeSpec := { name := "fnSortLess", fn := fun _ => fun
  | [d1, d2, d3, d4] => { results := [.lit (.bool false)], args := [d1, d2, d3, d4] }
  | _ => none }
def FnSortLessWrongFalsely : Prop := fnSortLessRow.holds Try.pinned (OpenSpec.ofChange fnSortLessWrong)

/-- 'laws.FnInflate3': WHATEVER THE INPUT: true; the input reads as it did. -/
def fnInflate3Spec : ChangeSpec := { name := "fnInflate3", fn := fun _ => fun
  | [d1, d2, d3] => { results := [.lit (.bool true)], args := [d1, d2, d3] }
  | _ => none }
def fnInflate3Row : OpenClaim := { program := "ytlkoaanagbgpkaa", sum := "bf28f0745cfaa4e9b541f095f23fe5d0c6de90dd4b3c28f543d5b1963a6b0122", func := "pub-orthodrome/laws.FnInflate3", spec := "fnInflate3", inPlace := ["math.Float64bits"], unfollowed := true, recurses := true, apart := false }
def FnInflate3Said : Prop := fnInflate3Row.holds Try.pinned (OpenSpec.ofChange fnInflate3Spec)

/-- ITS FALSE NEIGHBOUR: 'it returns false'. Refute it at one input. -/
def fnInflate3Wrong : ChangeSpec := { name := "fnInflate3", fn := fun _ => fun
  | [d1, d2, d3] => { results := [.lit (.bool false)], args := [d1, d2, d3] }
  | _ => none }
def FnInflate3WrongFalsely : Prop := fnInflate3Row.holds Try.pinned (OpenSpec.ofChange fnInflate3Wrong)

/-- 'laws.FnFlatLength3': WHATEVER THE INPUT: true; the input reads as it did. -/
def fnFlatLength3Spec : ChangeSpec := { name := "fnFlatLength3", fn := fun _ => fun
  | [d1, d2, d3] => { results := [.lit (.bool true)], args := [d1, d2, d3] }
  | _ => none }
def fnFlatLength3Row : OpenClaim := { program := "ytlkoaanagbgpkaa", sum := "bf28f0745cfaa4e9b541f095f23fe5d0c6de90dd4b3c28f543d5b1963a6b0122", func := "pub-orthodrome/laws.FnFlatLength3", spec := "fnFlatLength3", inPlace := ["math.archTrunc", "math.Float64bits", "math.Float64frombits", "math.sqrt"], unfollowed := true, recurses := true, apart := false }
def FnFlatLength3Said : Prop := fnFlatLength3Row.holds Try.pinned (OpenSpec.ofChange fnFlatLength3Spec)

/-- ITS FALSE NEIGHBOUR: 'it returns false'. Refute it at one input. -/
def fnFlatLength3Wrong : ChangeSpec := { name := "fnFlatLength3", fn := fun _ => fun
  | [d1, d2, d3] => { results := [.lit (.bool false)], args := [d1, d2, d3] }
  | _ => none }
def FnFlatLength3WrongFalsely : Prop := fnFlatLength3Row.holds Try.pinned (OpenSpec.ofChange fnFlatLength3Wrong)

/-- 'laws.FnBoxExtendFlat': WHATEVER THE INPUT: true; the input reads as it did. -/
def fnBoxExtendFlatSpec : ChangeSpec := { name := "fnBoxExtendFlat", fn := fun _ => fun
  | [d1, d2] => { results := [.lit (.bool true)], args := [d1, d2] }
  | _ => none }
def fnBoxExtendFlatRow : OpenClaim := { program := "ytlkoaanagbgpkaa", sum := "bf28f0745cfaa4e9b541f095f23fe5d0c6de90dd4b3c28f543d5b1963a6b0122", func := "pub-orthodrome/laws.FnBoxExtendFlat", spec := "fnBoxExtendFlat", inPlace := ["math.Float64frombits", "math.archMin", "math.Float64bits", "math.archMax"], unfollowed := true, recurses := true, apart := false }
def FnBoxExtendFlatSaid : Prop := fnBoxExtendFlatRow.holds Try.pinned (OpenSpec.ofChange fnBoxExtendFlatSpec)

/-- ITS FALSE NEIGHBOUR: 'it returns false'. Refute it at one input. -/
def fnBoxExtendFlatWrong : ChangeSpec := { name := "fnBoxExtendFlat", fn := fun _ => fun
  | [d1, d2] => { results := [.lit (.bool false)], args := [d1, d2] }
  | _ => none }
def FnBoxExtendFlatWrongFalsely : Prop := fnBoxExtendFlatRow.holds Try.pinned (OpenSpec.ofChange fnBoxExtendFlatWrong)

/-- 'laws.FnTreeSetUnique': WHATEVER THE INPUT: true; the input reads as it did. -/
def fnTreeSetUniqueSpec : ChangeSpec := { name := "fnTreeSetUnique", fn := fun _ => fun
  | [d1, d2, d3] => { results := [.lit (.bool true)], args := [d1, d2, d3] }
  | _ => none }
def fnTreeSetUniqueRow : OpenClaim := { program := "ytlkoaanagbgpkaa", sum := "bf28f0745cfaa4e9b541f095f23fe5d0c6de90dd4b3c28f543d5b1963a6b0122", func := "pub-orthodrome/laws.FnTreeSetUnique", spec := "fnTreeSetUnique", inPlace := ["math.Float64bits"], unfollowed := true, recurses := true, apart := false }
def FnTreeSetUniqueSaid : Prop := fnTreeSetUniqueRow.holds Try.pinned (OpenSpec.ofChange fnTreeSetUniqueSpec)

/-- ITS FALSE NEIGHBOUR: 'it returns false'. Refute it at one input. -/
def fnTreeSetUniqueWrong : ChangeSpec := { name := "fnTreeSetUnique", fn := fun _ => fun
  | [d1, d2, d3] => { results := [.lit (.bool false)], args := [d1, d2, d3] }
  | _ => none }
def FnTreeSetUniqueWrongFalsely : Prop := fnTreeSetUniqueRow.holds Try.pinned (OpenSpec.ofChange fnTreeSetUniqueWrong)

/- THE SECOND FORM. 'bulk': how many values and letters a reading holds, each counted each time it is reached (what is shared counts as often as it is met; a slice's spare places count too). A statement '..UptoSaid' is the law's where the arguments, and the package variables that the reading takes, are together of bulk at most 1048576: NARROWER than '..Said'. Prove '..Said' where nothing that the law and all that it calls make is longer than what came in: it says more and counts as full. Else prove '..UptoSaid'. A law counts once. -/
mutual
def uptoBulk {H : Type} : DataW H → Nat
  | .lit (.string bytes) => bytes.length + 1
  | .lit _ => 1
  | .nil => 1
  | .ptr d => uptoBulk d + 1
  | .slice elems spare => uptoBulkAll elems + uptoBulkAll spare + 1
  | .agg parts => uptoBulkAll parts + 1
  | .iface _ d => uptoBulk d + 1
  | .map entries => uptoBulkEntries entries + 1
  | .held _ => 1
def uptoBulkAll {H : Type} : List (DataW H) → Nat
  | [] => 0
  | d :: r => uptoBulk d + uptoBulkAll r
def uptoBulkEntries {H : Type} : List (Lit × DataW H) → Nat
  | [] => 0
  | x :: r => uptoBulkEntry x + uptoBulkEntries r
def uptoBulkEntry {H : Type} : Lit × DataW H → Nat
  | (.string bytes, d) => bytes.length + uptoBulk d + 1
  | (_, d) => uptoBulk d + 1
 end
def uptoSmall : (H : Type) → List (DataW H) → Bool := fun _ ds => decide (uptoBulkAll ds ≤ 1048576)
def OpenSpec.upto (s : _root_.Go.ChangeSpec) : _root_.Go.OpenSpec := { _root_.Go.OpenSpec.ofChange s with cond := some uptoSmall }

/-- 'laws.FnCoordSet', WHERE WHAT IT READS IS OF BULK AT MOST 1048576: true; the input reads as it did. -/
def fnCoordSetUptoRow : OpenClaim := { program := "ytlkoaanagbgpkaa", sum := "bf28f0745cfaa4e9b541f095f23fe5d0c6de90dd4b3c28f543d5b1963a6b0122", func := "pub-orthodrome/laws.FnCoordSet", spec := "fnCoordSet", inPlace := ["math.Float64bits"], apart := false, narrowed := true }
def FnCoordSetUptoSaid : Prop := fnCoordSetUptoRow.holds Try.pinned (OpenSpec.upto fnCoordSetSpec)

/-- 'laws.FnReadByte', WHERE WHAT IT READS IS OF BULK AT MOST 1048576: true; the input reads as it did. -/
def fnReadByteUptoRow : OpenClaim := { program := "ytlkoaanagbgpkaa", sum := "bf28f0745cfaa4e9b541f095f23fe5d0c6de90dd4b3c28f543d5b1963a6b0122", func := "pub-orthodrome/laws.FnReadByte", spec := "fnReadByte", unfollowed := true, recurses := true, apart := false, narrowed := true }
def FnReadByteUptoSaid : Prop := fnReadByteUptoRow.holds Try.pinned (OpenSpec.upto fnReadByteSpec)

/-- 'laws.FnBoxLimits', WHERE WHAT IT READS IS OF BULK AT MOST 1048576: true; the input reads as it did. -/
def fnBoxLimitsUptoRow : OpenClaim := { program := "ytlkoaanagbgpkaa", sum := "bf28f0745cfaa4e9b541f095f23fe5d0c6de90dd4b3c28f543d5b1963a6b0122", func := "pub-orthodrome/laws.FnBoxLimits", spec := "fnBoxLimits", unfollowed := true, recurses := true, apart := false, narrowed := true }
def FnBoxLimitsUptoSaid : Prop := fnBoxLimitsUptoRow.holds Try.pinned (OpenSpec.upto fnBoxLimitsSpec)

/-- 'laws.FnDeflate1', WHERE WHAT IT READS IS OF BULK AT MOST 1048576: true; the input reads as it did. -/
def fnDeflate1UptoRow : OpenClaim := { program := "ytlkoaanagbgpkaa", sum := "bf28f0745cfaa4e9b541f095f23fe5d0c6de90dd4b3c28f543d5b1963a6b0122", func := "pub-orthodrome/laws.FnDeflate1", spec := "fnDeflate1", inPlace := ["math.Float64bits"], unfollowed := true, recurses := true, apart := false, narrowed := true }
def FnDeflate1UptoSaid : Prop := fnDeflate1UptoRow.holds Try.pinned (OpenSpec.upto fnDeflate1Spec)

/-- 'laws.FnEmptyPointBytes', WHERE WHAT IT READS IS OF BULK AT MOST 1048576: true; the input reads as it did. -/
def fnEmptyPointBytesUptoRow : OpenClaim := { program := "ytlkoaanagbgpkaa", sum := "bf28f0745cfaa4e9b541f095f23fe5d0c6de90dd4b3c28f543d5b1963a6b0122", func := "pub-orthodrome/laws.FnEmptyPointBytes", spec := "fnEmptyPointBytes", inPlace := ["math.Float64frombits", "math.Float64bits"], unfollowed := true, recurses := true, named := ["encoding/binary.BigEndian", "encoding/binary.LittleEndian"], apart := false, narrowed := true }
def FnEmptyPointBytesUptoSaid : Prop := fnEmptyPointBytesUptoRow.holds Try.pinned (OpenSpec.upto fnEmptyPointBytesSpec)

/-- 'laws.FnDoubleArea1', WHERE WHAT IT READS IS OF BULK AT MOST 1048576: true; the input reads as it did. -/
def fnDoubleArea1UptoRow : OpenClaim := { program := "ytlkoaanagbgpkaa", sum := "bf28f0745cfaa4e9b541f095f23fe5d0c6de90dd4b3c28f543d5b1963a6b0122", func := "pub-orthodrome/laws.FnDoubleArea1", spec := "fnDoubleArea1", inPlace := ["math.archTrunc", "math.Float64bits", "math.Float64frombits"], unfollowed := true, recurses := true, apart := false, narrowed := true }
def FnDoubleArea1UptoSaid : Prop := fnDoubleArea1UptoRow.holds Try.pinned (OpenSpec.upto fnDoubleArea1Spec)

/-- 'laws.FnSortLess', WHERE WHAT IT READS IS OF BULK AT MOST 1048576: true; the input reads as it did. -/
def fnSortLessUptoRow : OpenClaim := { program := "ytlkoaanagbgpkaa", sum := "bf28f0745cfaa4e9b541f095f23fe5d0c6de90dd4b3c28f543d5b1963a6b0122", func := "pub-orthodrome/laws.FnSortLess", spec := "fnSortLess", unfollowed := true, recurses := true, apart := false, narrowed := true }
def FnSortLessUptoSaid : Prop := fnSortLessUptoRow.holds Try.pinned (OpenSpec.upto fnSortLessSpec)

/-- 'laws.FnInflate3', WHERE WHAT IT READS IS OF BULK AT MOST 1048576: true; the input reads as it did. -/
def fnInflate3UptoRow : OpenClaim := { program := "ytlkoaanagbgpkaa", sum := "bf28f0745cfaa4e9b541f095f23fe5d0c6de90dd4b3c28f543d5b1963a6b0122", func := "pub-orthodrome/laws.FnInflate3", spec := "fnInflate3", inPlace := ["math.Float64bits"], unfollowed := true, recurses := true, apart := false, narrowed := true }
def FnInflate3UptoSaid : Prop := fnInflate3UptoRow.holds Try.pinned (OpenSpec.upto fnInflate3Spec)

/-- 'laws.FnFlatLength3', WHERE WHAT IT READS IS OF BULK AT MOST 1048576: true; the input reads as it did. -/
def fnFlatLength3UptoRow : OpenClaim := { program := "ytlkoaanagbgpkaa", sum := "bf28f0745cfaa4e9b541f095f23fe5d0c6de90dd4b3c28f543d5b1963a6b0122", func := "pub-orthodrome/laws.FnFlatLength3", spec := "fnFlatLength3", inPlace := ["math.archTrunc", "math.Float64bits", "math.Float64frombits", "math.sqrt"], unfollowed := true, recurses := true, apart := false, narrowed := true }
def FnFlatLength3UptoSaid : Prop := fnFlatLength3UptoRow.holds Try.pinned (OpenSpec.upto fnFlatLength3Spec)

/-- 'laws.FnBoxExtendFlat', WHERE WHAT IT READS IS OF BULK AT MOST 1048576: true; the input reads as it did. -/
def fnBoxExtendFlatUptoRow : OpenClaim := { program := "ytlkoaanagbgpkaa", sum := "bf28f0745cfaa4e9b541f095f23fe5d0c6de90dd4b3c28f543d5b1963a6b0122", func := "pub-orthodrome/laws.FnBoxExtendFlat", spec := "fnBoxExtendFlat", inPlace := ["math.Float64frombits", "math.archMin", "math.Float64bits", "math.archMax"], unfollowed := true, recurses := true, apart := false, narrowed := true }
def FnBoxExtendFlatUptoSaid : Prop := fnBoxExtendFlatUptoRow.holds Try.pinned (OpenSpec.upto fnBoxExtendFlatSpec)

/-- 'laws.FnTreeSetUnique', WHERE WHAT IT READS IS OF BULK AT MOST 1048576: true; the input reads as it did. -/
def fnTreeSetUniqueUptoRow : OpenClaim := { program := "ytlkoaanagbgpkaa", sum := "bf28f0745cfaa4e9b541f095f23fe5d0c6de90dd4b3c28f543d5b1963a6b0122", func := "pub-orthodrome/laws.FnTreeSetUnique", spec := "fnTreeSetUnique", inPlace := ["math.Float64bits"], unfollowed := true, recurses := true, apart := false, narrowed := true }
def FnTreeSetUniqueUptoSaid : Prop := fnTreeSetUniqueUptoRow.holds Try.pinned (OpenSpec.upto fnTreeSetUniqueSpec)

end Rows
end Go.Proofs.Ytlkoaanagbgpkaa
