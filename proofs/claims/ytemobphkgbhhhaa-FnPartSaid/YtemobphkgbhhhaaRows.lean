/-
  NARROWER THAN 'FOR EVERY INPUT', by the rows' own cells (each row's printed sentence says how): FnLength: loops · FnPart: loops · FnBoxHasAll: loops.
  DERIVED. THE GIVEN ROWS OF THIS SEAT. 4 by the template 'for every input the law returns true; each argument reads behind the call as it read before'; 0 by the template 'total and deterministic' (their statements: YtemobphkgbhhhaaTotals.lean).
  GIVEN WITH THE SEED: the statements are not yours to turn. If you find one false, say at which input.
  Laid BY PROGRAM, IN A SANDBOX (cutbox-rows.mjs): the forced cells as the released guide's own fill.sh prints them over the translation f98bc12409448a9f… (all of the seat's roots in one cut). By AI agents, Wed Nov 11 2026. No macro, syntax, notation, axiom, sorry.
-/
import Derived.Test.YtemobphkgbhhhaaChecked
import GoSem.Claim
import GoSem.ClaimJoined
import GoSem.ClaimMapViews
import Derived.JoinedTies
import Derived.KernelRfl
namespace Go.Proofs.Ytemobphkgbhhhaa
/- THE CELL 'sum', in the pinned program and in every row, IS THE sha256 OF THE DUMP (.gsa) THAT YtemobphkgbhhhaaProg.lean LOADS. Nothing in Lean hashes anything: it is a label: what it is worth is what the hold of that sum in a sandbox is worth. -/
noncomputable def Try.pinned : Pinned := { name := "ytemobphkgbhhhaa", sum := "f98bc12409448a9f4109e5e13c7391c9a07817c108822cb4c44e4cd07e9136bf", checked := Try.checked }
namespace Rows
def none {H : Type} : Left H := { results := [], args := [] }

/-- 'laws.FnFlatLength3': WHATEVER THE INPUT: true; the input reads as it did. -/
def fnFlatLength3Spec : ChangeSpec := { name := "fnFlatLength3", fn := fun _ => fun
  | [d1, d2, d3] => { results := [.lit (.bool true)], args := [d1, d2, d3] }
  | _ => none }
def fnFlatLength3Row : OpenClaim := { program := "ytemobphkgbhhhaa", sum := "f98bc12409448a9f4109e5e13c7391c9a07817c108822cb4c44e4cd07e9136bf", func := "pub-orthodrome/laws.FnFlatLength3", spec := "fnFlatLength3", inPlace := ["math.archTrunc", "math.Float64bits", "math.Float64frombits", "math.sqrt"], unfollowed := true, recurses := true, apart := false }
def FnFlatLength3Said : Prop := fnFlatLength3Row.holds Try.pinned (OpenSpec.ofChange fnFlatLength3Spec)

/-- ITS FALSE NEIGHBOUR: 'it returns false'. Refute it at one input. -/
def fnFlatLength3Wrong : ChangeSpec := { name := "fnFlatLength3", fn := fun _ => fun
  | [d1, d2, d3] => { results := [.lit (.bool false)], args := [d1, d2, d3] }
  | _ => none }
def FnFlatLength3WrongFalsely : Prop := fnFlatLength3Row.holds Try.pinned (OpenSpec.ofChange fnFlatLength3Wrong)

/-- 'laws.FnLength': WHATEVER THE INPUT: true; the input reads as it did. -/
def fnLengthSpec : ChangeSpec := { name := "fnLength", fn := fun _ => fun
  | [d] => { results := [.lit (.bool true)], args := [d] }
  | _ => none }
def fnLengthRow : OpenClaim := { program := "ytemobphkgbhhhaa", sum := "f98bc12409448a9f4109e5e13c7391c9a07817c108822cb4c44e4cd07e9136bf", func := "pub-orthodrome/laws.FnLength", spec := "fnLength", inPlace := ["math.archTrunc", "math.Float64bits", "math.Float64frombits"], unfollowed := true, recurses := true, loops := true, apart := false }
def FnLengthSaid : Prop := fnLengthRow.holds Try.pinned (OpenSpec.ofChange fnLengthSpec)

/-- ITS FALSE NEIGHBOUR: 'it returns false'. Refute it at one input. -/
def fnLengthWrong : ChangeSpec := { name := "fnLength", fn := fun _ => fun
  | [d] => { results := [.lit (.bool false)], args := [d] }
  | _ => none }
def FnLengthWrongFalsely : Prop := fnLengthRow.holds Try.pinned (OpenSpec.ofChange fnLengthWrong)

/-- 'laws.FnPart': WHATEVER THE INPUT: true; the input reads as it did. -/
def fnPartSpec : ChangeSpec := { name := "fnPart", fn := fun _ => fun
  | [d1, d2] => { results := [.lit (.bool true)], args := [d1, d2] }
  | _ => none }
def fnPartRow : OpenClaim := { program := "ytemobphkgbhhhaa", sum := "f98bc12409448a9f4109e5e13c7391c9a07817c108822cb4c44e4cd07e9136bf", func := "pub-orthodrome/laws.FnPart", spec := "fnPart", inPlace := ["math.Float64bits"], unfollowed := true, recurses := true, loops := true, apart := false }
def FnPartSaid : Prop := fnPartRow.holds Try.pinned (OpenSpec.ofChange fnPartSpec)

/-- ITS FALSE NEIGHBOUR: 'it returns false'. Refute it at one input. -/
def fnPartWrong : ChangeSpec := { name := "fnPart", fn := fun _ => fun
  | [d1, d2] => { results := [.lit (.bool false)], args := [d1, d2] }
  | _ => none }
def FnPartWrongFalsely : Prop := fnPartRow.holds Try.pinned (OpenSpec.ofChange fnPartWrong)

/-- 'laws.FnBoxHasAll': WHATEVER THE INPUT: true; the input reads as it did. -/
def fnBoxHasAllSpec : ChangeSpec := { name := "fnBoxHasAll", fn := fun _ => fun
  | [d1, d2] => { results := [.lit (.bool true)], args := [d1, d2] }
  | _ => none }
def fnBoxHasAllRow : OpenClaim := { program := "ytemobphkgbhhhaa", sum := "f98bc12409448a9f4109e5e13c7391c9a07817c108822cb4c44e4cd07e9136bf", func := "pub-orthodrome/laws.FnBoxHasAll", spec := "fnBoxHasAll", unfollowed := true, recurses := true, loops := true, apart := false }
def FnBoxHasAllSaid : Prop := fnBoxHasAllRow.holds Try.pinned (OpenSpec.ofChange fnBoxHasAllSpec)

/-- ITS FALSE NEIGHBOUR: 'it returns false'. Refute it at one input. -/
def fnBoxHasAllWrong : ChangeSpec := { name := "fnBoxHasAll", fn := fun _ => fun
  | [d1, d2] => { results := [.lit (.bool false)], args := [d1, d2] }
  | _ => none }
def FnBoxHasAllWrongFalsely : Prop := fnBoxHasAllRow.holds Try.pinned (OpenSpec.ofChange fnBoxHasAllWrong)

/- THE SECOND FORM. 'bulk': how many values and letters a reading holds, each counted each time it is reached (what is shared counts as often as it is met; a slice's spare places count too). A statement '..UptoSaid' is the law's where the arguments, and the package variables that the reading takes, are together of bulk at most 1048576: NARROWER than '..Said'. Prove '..Said' where nothing that the law and all that it calls make is longer than what came in: it says more and counts as full. Else prove '..UptoSaid'. A law counts once. -/
mutual
def uptoBulk {H : Type} : DataW H → Nat
  | .lit (.string bytes) => bytes.length + 1
  | .lit _ => 1
  | .nil => 1
  | .ptr d => uptoBulk d + 1
  | .slice elems spare => uptoBulkAll elems + uptoBulkAll spare + 1
  | .agg parts => uptoBulkAll parts + 1
  | .iface _ d => uptoBulk d + 1
  | .map entries => uptoBulkEntries entries + 1
  | .held _ => 1
def uptoBulkAll {H : Type} : List (DataW H) → Nat
  | [] => 0
  | d :: r => uptoBulk d + uptoBulkAll r
def uptoBulkEntries {H : Type} : List (Lit × DataW H) → Nat
  | [] => 0
  | x :: r => uptoBulkEntry x + uptoBulkEntries r
def uptoBulkEntry {H : Type} : Lit × DataW H → Nat
  | (.string bytes, d) => bytes.length + uptoBulk d + 1
  | (_, d) => uptoBulk d + 1
 end
def uptoSmall : (H : Type) → List (DataW H) → Bool := fun _ ds => decide (uptoBulkAll ds ≤ 1048576)
def OpenSpec.upto (s : _root_.Go.ChangeSpec) : _root_.Go.OpenSpec := { _root_.Go.OpenSpec.ofChange s with cond := some uptoSmall }

/-- 'laws.FnFlatLength3', WHERE WHAT IT READS IS OF BULK AT MOST 1048576: true; the input reads as it did. -/
def fnFlatLength3UptoRow : OpenClaim := { program := "ytemobphkgbhhhaa", sum := "f98bc12409448a9f4109e5e13c7391c9a07817c108822cb4c44e4cd07e9136bf", func := "pub-orthodrome/laws.FnFlatLength3", spec := "fnFlatLength3", inPlace := ["math.archTrunc", "math.Float64bits", "math.Float64frombits", "math.sqrt"], unfollowed := true, recurses := true, apart := false, narrowed := true }
def FnFlatLength3UptoSaid : Prop := fnFlatLength3UptoRow.holds Try.pinned (OpenSpec.upto fnFlatLength3Spec)

/-- 'laws.FnLength', WHERE WHAT IT READS IS OF BULK AT MOST 1048576: true; the input reads as it did. -/
def fnLengthUptoRow : OpenClaim := { program := "ytemobphkgbhhhaa", sum := "f98bc12409448a9f4109e5e13c7391c9a07817c108822cb4c44e4cd07e9136bf", func := "pub-orthodrome/laws.FnLength", spec := "fnLength", inPlace := ["math.archTrunc", "math.Float64bits", "math.Float64frombits"], unfollowed := true, recurses := true, loops := true, apart := false, narrowed := true }
def FnLengthUptoSaid : Prop := fnLengthUptoRow.holds Try.pinned (OpenSpec.upto fnLengthSpec)

/-- 'laws.FnPart', WHERE WHAT IT READS IS OF BULK AT MOST 1048576: true; the input reads as it did. -/
def fnPartUptoRow : OpenClaim := { program := "ytemobphkgbhhhaa", sum := "f98bc12409448a9f4109e5e13c7391c9a07817c108822cb4c44e4cd07e9136bf", func := "pub-orthodrome/laws.FnPart", spec := "fnPart", inPlace := ["math.Float64bits"], unfollowed := true, recurses := true, loops := true, apart := false, narrowed := true }
def FnPartUptoSaid : Prop := fnPartUptoRow.holds Try.pinned (OpenSpec.upto fnPartSpec)

/-- 'laws.FnBoxHasAll', WHERE WHAT IT READS IS OF BULK AT MOST 1048576: true; the input reads as it did. -/
def fnBoxHasAllUptoRow : OpenClaim := { program := "ytemobphkgbhhhaa", sum := "f98bc12409448a9f4109e5e13c7391c9a07817c108822cb4c44e4cd07e9136bf", func := "pub-orthodrome/laws.FnBoxHasAll", spec := "fnBoxHasAll", unfollowed := true, recurses := true, loops := true, apart := false, narrowed := true }
def FnBoxHasAllUptoSaid : Prop := fnBoxHasAllUptoRow.holds Try.pinned (OpenSpec.upto fnBoxHasAllSpec)

end Rows
end Go.Proofs.Ytemobphkgbhhhaa
