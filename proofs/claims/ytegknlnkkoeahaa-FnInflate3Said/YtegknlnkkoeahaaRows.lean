/-
  No cell of these rows narrows 'for every input' (looked for: loops, veiled, ifaces, maps, wideKeys, modest, calm, conditions, laid).
  DERIVED. THE GIVEN ROWS OF THIS SEAT. 4 by the template 'for every input the law returns true; each argument reads behind the call as it read before'; 0 by the template 'total and deterministic' (their statements: YtegknlnkkoeahaaTotals.lean).
  GIVEN WITH THE SEED: the statements are not yours to turn. If you find one false, say at which input.
  Laid BY PROGRAM, IN A SANDBOX (cutbox-rows.mjs): the forced cells as the released guide's own fill.sh prints them over the translation 8ee197570e9b25d7… (all of the seat's roots in one cut). By AI agents, Wed Nov 11 2026. No macro, syntax, notation, axiom, sorry.
-/
import Derived.Test.YtegknlnkkoeahaaChecked
import GoSem.Claim
import GoSem.ClaimJoined
import GoSem.ClaimMapViews
import Derived.JoinedTies
import Derived.KernelRfl
namespace Go.Proofs.Ytegknlnkkoeahaa
/- THE CELL 'sum', in the pinned program and in every row, IS THE sha256 OF THE DUMP (.gsa) THAT YtegknlnkkoeahaaProg.lean LOADS. Nothing in Lean hashes anything: it is a label: what it is worth is what the hold of that sum in a sandbox is worth. -/
noncomputable def Try.pinned : Pinned := { name := "ytegknlnkkoeahaa", sum := "8ee197570e9b25d711ffe8bef135267263f473c6e88e8c9af48f8c4f590b0084", checked := Try.checked }
namespace Rows
def none {H : Type} : Left H := { results := [], args := [] }

/-- 'laws.FnInflate3': WHATEVER THE INPUT: true; the input reads as it did. -/
def fnInflate3Spec : ChangeSpec := { name := "fnInflate3", fn := fun _ => fun
  | [d1, d2, d3] => { results := [.lit (.bool true)], args := [d1, d2, d3] }
  | _ => none }
def fnInflate3Row : OpenClaim := { program := "ytegknlnkkoeahaa", sum := "8ee197570e9b25d711ffe8bef135267263f473c6e88e8c9af48f8c4f590b0084", func := "pub-orthodrome/laws.FnInflate3", spec := "fnInflate3", inPlace := ["math.Float64bits"], unfollowed := true, recurses := true, apart := false }
def FnInflate3Said : Prop := fnInflate3Row.holds Try.pinned (OpenSpec.ofChange fnInflate3Spec)

/-- ITS FALSE NEIGHBOUR: 'it returns false'. Refute it at one input. -/
def fnInflate3Wrong : ChangeSpec := { name := "fnInflate3", fn := fun _ => fun
  | [d1, d2, d3] => { results := [.lit (.bool false)], args := [d1, d2, d3] }
  | _ => none }
def FnInflate3WrongFalsely : Prop := fnInflate3Row.holds Try.pinned (OpenSpec.ofChange fnInflate3Wrong)

/-- 'laws.FnFlatLength3': WHATEVER THE INPUT: true; the input reads as it did. -/
def fnFlatLength3Spec : ChangeSpec := { name := "fnFlatLength3", fn := fun _ => fun
  | [d1, d2, d3] => { results := [.lit (.bool true)], args := [d1, d2, d3] }
  | _ => none }
def fnFlatLength3Row : OpenClaim := { program := "ytegknlnkkoeahaa", sum := "8ee197570e9b25d711ffe8bef135267263f473c6e88e8c9af48f8c4f590b0084", func := "pub-orthodrome/laws.FnFlatLength3", spec := "fnFlatLength3", inPlace := ["math.archTrunc", "math.Float64bits", "math.Float64frombits", "math.sqrt"], unfollowed := true, recurses := true, apart := false }
def FnFlatLength3Said : Prop := fnFlatLength3Row.holds Try.pinned (OpenSpec.ofChange fnFlatLength3Spec)

/-- ITS FALSE NEIGHBOUR: 'it returns false'. Refute it at one input. -/
def fnFlatLength3Wrong : ChangeSpec := { name := "fnFlatLength3", fn := fun _ => fun
  | [d1, d2, d3] => { results := [.lit (.bool false)], args := [d1, d2, d3] }
  | _ => none }
def FnFlatLength3WrongFalsely : Prop := fnFlatLength3Row.holds Try.pinned (OpenSpec.ofChange fnFlatLength3Wrong)

/-- 'laws.FnBoxExtendFlat': WHATEVER THE INPUT: true; the input reads as it did. -/
def fnBoxExtendFlatSpec : ChangeSpec := { name := "fnBoxExtendFlat", fn := fun _ => fun
  | [d1, d2] => { results := [.lit (.bool true)], args := [d1, d2] }
  | _ => none }
def fnBoxExtendFlatRow : OpenClaim := { program := "ytegknlnkkoeahaa", sum := "8ee197570e9b25d711ffe8bef135267263f473c6e88e8c9af48f8c4f590b0084", func := "pub-orthodrome/laws.FnBoxExtendFlat", spec := "fnBoxExtendFlat", inPlace := ["math.Float64frombits", "math.archMin", "math.Float64bits", "math.archMax"], unfollowed := true, recurses := true, apart := false }
def FnBoxExtendFlatSaid : Prop := fnBoxExtendFlatRow.holds Try.pinned (OpenSpec.ofChange fnBoxExtendFlatSpec)

/-- ITS FALSE NEIGHBOUR: 'it returns false'. Refute it at one input. -/
def fnBoxExtendFlatWrong : ChangeSpec := { name := "fnBoxExtendFlat", fn := fun _ => fun
  | [d1, d2] => { results := [.lit (.bool false)], args := [d1, d2] }
  | _ => none }
def FnBoxExtendFlatWrongFalsely : Prop := fnBoxExtendFlatRow.holds Try.pinned (OpenSpec.ofChange fnBoxExtendFlatWrong)

/-- 'laws.FnTreeSetUnique': WHATEVER THE INPUT: true; the input reads as it did. -/
def fnTreeSetUniqueSpec : ChangeSpec := { name := "fnTreeSetUnique", fn := fun _ => fun
  | [d1, d2, d3] => { results := [.lit (.bool true)], args := [d1, d2, d3] }
  | _ => none }
def fnTreeSetUniqueRow : OpenClaim := { program := "ytegknlnkkoeahaa", sum := "8ee197570e9b25d711ffe8bef135267263f473c6e88e8c9af48f8c4f590b0084", func := "pub-orthodrome/laws.FnTreeSetUnique", spec := "fnTreeSetUnique", inPlace := ["math.Float64bits"], unfollowed := true, recurses := true, apart := false }
def FnTreeSetUniqueSaid : Prop := fnTreeSetUniqueRow.holds Try.pinned (OpenSpec.ofChange fnTreeSetUniqueSpec)

/-- ITS FALSE NEIGHBOUR: 'it returns false'. Refute it at one input. -/
def fnTreeSetUniqueWrong : ChangeSpec := { name := "fnTreeSetUnique", fn := fun _ => fun
  | [d1, d2, d3] => { results := [.lit (.bool false)], args := [d1, d2, d3] }
  | _ => none }
def FnTreeSetUniqueWrongFalsely : Prop := fnTreeSetUniqueRow.holds Try.pinned (OpenSpec.ofChange fnTreeSetUniqueWrong)

/- THE SECOND FORM. 'bulk': how many values and letters a reading holds, each counted each time it is reached (what is shared counts as often as it is met; a slice's spare places count too). A statement '..UptoSaid' is the law's where the arguments, and the package variables that the reading takes, are together of bulk at most 1048576: NARROWER than '..Said'. Prove '..Said' where nothing that the law and all that it calls make is longer than what came in: it says more and counts as full. Else prove '..UptoSaid'. A law counts once. -/
mutual
def uptoBulk {H : Type} : DataW H → Nat
  | .lit (.string bytes) => bytes.length + 1
  | .lit _ => 1
  | .nil => 1
  | .ptr d => uptoBulk d + 1
  | .slice elems spare => uptoBulkAll elems + uptoBulkAll spare + 1
  | .agg parts => uptoBulkAll parts + 1
  | .iface _ d => uptoBulk d + 1
  | .map entries => uptoBulkEntries entries + 1
  | .held _ => 1
def uptoBulkAll {H : Type} : List (DataW H) → Nat
  | [] => 0
  | d :: r => uptoBulk d + uptoBulkAll r
def uptoBulkEntries {H : Type} : List (Lit × DataW H) → Nat
  | [] => 0
  | x :: r => uptoBulkEntry x + uptoBulkEntries r
def uptoBulkEntry {H : Type} : Lit × DataW H → Nat
  | (.string bytes, d) => bytes.length + uptoBulk d + 1
  | (_, d) => uptoBulk d + 1
 end
def uptoSmall : (H : Type) → List (DataW H) → Bool := fun _ ds => decide (uptoBulkAll ds ≤ 1048576)
def OpenSpec.upto (s : _root_.Go.ChangeSpec) : _root_.Go.OpenSpec := { _root_.Go.OpenSpec.ofChange s with cond := some uptoSmall }

/-- 'laws.FnInflate3', WHERE WHAT IT READS IS OF BULK AT MOST 1048576: true; the input reads as it did. -/
def fnInflate3UptoRow : OpenClaim := { program := "ytegknlnkkoeahaa", sum := "8ee197570e9b25d711ffe8bef135267263f473c6e88e8c9af48f8c4f590b0084", func := "pub-orthodrome/laws.FnInflate3", spec := "fnInflate3", inPlace := ["math.Float64bits"], unfollowed := true, recurses := true, apart := false, narrowed := true }
def FnInflate3UptoSaid : Prop := fnInflate3UptoRow.holds Try.pinned (OpenSpec.upto fnInflate3Spec)

/-- 'laws.FnFlatLength3', WHERE WHAT IT READS IS OF BULK AT MOST 1048576: true; the input reads as it did. -/
def fnFlatLength3UptoRow : OpenClaim := { program := "ytegknlnkkoeahaa", sum := "8ee197570e9b25d711ffe8bef135267263f473c6e88e8c9af48f8c4f590b0084", func := "pub-orthodrome/laws.FnFlatLength3", spec := "fnFlatLength3", inPlace := ["math.archTrunc", "math.Float64bits", "math.Float64frombits", "math.sqrt"], unfollowed := true, recurses := true, apart := false, narrowed := true }
def FnFlatLength3UptoSaid : Prop := fnFlatLength3UptoRow.holds Try.pinned (OpenSpec.upto fnFlatLength3Spec)

/-- 'laws.FnBoxExtendFlat', WHERE WHAT IT READS IS OF BULK AT MOST 1048576: true; the input reads as it did. -/
def fnBoxExtendFlatUptoRow : OpenClaim := { program := "ytegknlnkkoeahaa", sum := "8ee197570e9b25d711ffe8bef135267263f473c6e88e8c9af48f8c4f590b0084", func := "pub-orthodrome/laws.FnBoxExtendFlat", spec := "fnBoxExtendFlat", inPlace := ["math.Float64frombits", "math.archMin", "math.Float64bits", "math.archMax"], unfollowed := true, recurses := true, apart := false, narrowed := true }
def FnBoxExtendFlatUptoSaid : Prop := fnBoxExtendFlatUptoRow.holds Try.pinned (OpenSpec.upto fnBoxExtendFlatSpec)

/-- 'laws.FnTreeSetUnique', WHERE WHAT IT READS IS OF BULK AT MOST 1048576: true; the input reads as it did. -/
def fnTreeSetUniqueUptoRow : OpenClaim := { program := "ytegknlnkkoeahaa", sum := "8ee197570e9b25d711ffe8bef135267263f473c6e88e8c9af48f8c4f590b0084", func := "pub-orthodrome/laws.FnTreeSetUnique", spec := "fnTreeSetUnique", inPlace := ["math.Float64bits"], unfollowed := true, recurses := true, apart := false, narrowed := true }
def FnTreeSetUniqueUptoSaid : Prop := fnTreeSetUniqueUptoRow.holds Try.pinned (OpenSpec.upto fnTreeSetUniqueSpec)

end Rows
end Go.Proofs.Ytegknlnkkoeahaa
