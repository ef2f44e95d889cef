/-
  No cell of these rows narrows 'for every input' (looked for: loops, veiled, ifaces, maps, wideKeys, modest, calm, conditions, laid).
  DERIVED. THE GIVEN ROWS OF THIS SEAT. 9 by the template 'for every input the law returns true; each argument reads behind the call as it read before'; 0 by the template 'total and deterministic' (their statements: YtincapjbhbmeiaaTotals.lean).
  GIVEN WITH THE SEED: the statements are not yours to turn. If you find one false, say at which input.
  Laid BY PROGRAM, IN A SANDBOX (cutbox-rows.mjs): the forced cells as the released guide's own fill.sh prints them over the translation 1f5b41815d46976e… (all of the seat's roots in one cut). By AI agents, Wed Nov 11 2026. No macro, syntax, notation, axiom, sorry.
-/
import Derived.Test.YtincapjbhbmeiaaChecked
import GoSem.Claim
import GoSem.ClaimJoined
import GoSem.ClaimMapViews
import Derived.JoinedTies
import Derived.KernelRfl
namespace Go.Proofs.Ytincapjbhbmeiaa
/- THE CELL 'sum', in the pinned program and in every row, IS THE sha256 OF THE DUMP (.gsa) THAT YtincapjbhbmeiaaProg.lean LOADS. Nothing in Lean hashes anything: it is a label: what it is worth is what the hold of that sum in a sandbox is worth. -/
noncomputable def Try.pinned : Pinned := { name := "ytincapjbhbmeiaa", sum := "1f5b41815d46976e9c5899eb8a87266c60c7f01fa33bf4f1f938ade0d0b70ccd", checked := Try.checked }
namespace Rows
def none {H : Type} : Left H := { results := [], args := [] }

/-- 'laws.FnDot2': WHATEVER THE INPUT: true; the input reads as it did. -/
def fnDot2Spec : ChangeSpec := { name := "fnDot2", fn := fun _ => fun
  | [d1, d2] => { results := [.lit (.bool true)], args := [d1, d2] }
  | _ => none }
def fnDot2Row : OpenClaim := { program := "ytincapjbhbmeiaa", sum := "1f5b41815d46976e9c5899eb8a87266c60c7f01fa33bf4f1f938ade0d0b70ccd", func := "pub-orthodrome/laws.FnDot2", spec := "fnDot2", inPlace := ["math.archTrunc", "math.Float64bits", "math.Float64frombits"], apart := false }
def FnDot2Said : Prop := fnDot2Row.holds Try.pinned (OpenSpec.ofChange fnDot2Spec)

/-- ITS FALSE NEIGHBOUR: 'it returns false'. Refute it at one input. -/
def fnDot2Wrong : ChangeSpec := { name := "fnDot2", fn := fun _ => fun
  | [d1, d2] => { results := [.lit (.bool false)], args := [d1, d2] }
  | _ => none }
def FnDot2WrongFalsely : Prop := fnDot2Row.holds Try.pinned (OpenSpec.ofChange fnDot2Wrong)

/-- 'laws.FnDot3': WHATEVER THE INPUT: true; the input reads as it did. -/
def fnDot3Spec : ChangeSpec := { name := "fnDot3", fn := fun _ => fun
  | [d1, d2] => { results := [.lit (.bool true)], args := [d1, d2] }
  | _ => none }
def fnDot3Row : OpenClaim := { program := "ytincapjbhbmeiaa", sum := "1f5b41815d46976e9c5899eb8a87266c60c7f01fa33bf4f1f938ade0d0b70ccd", func := "pub-orthodrome/laws.FnDot3", spec := "fnDot3", inPlace := ["math.archTrunc", "math.Float64bits", "math.Float64frombits"], apart := false }
def FnDot3Said : Prop := fnDot3Row.holds Try.pinned (OpenSpec.ofChange fnDot3Spec)

/-- ITS FALSE NEIGHBOUR: 'it returns false'. Refute it at one input. -/
def fnDot3Wrong : ChangeSpec := { name := "fnDot3", fn := fun _ => fun
  | [d1, d2] => { results := [.lit (.bool false)], args := [d1, d2] }
  | _ => none }
def FnDot3WrongFalsely : Prop := fnDot3Row.holds Try.pinned (OpenSpec.ofChange fnDot3Wrong)

/-- 'laws.FnBoxCorners2': WHATEVER THE INPUT: true; the input reads as it did. -/
def fnBoxCorners2Spec : ChangeSpec := { name := "fnBoxCorners2", fn := fun _ => fun
  | [d1, d2] => { results := [.lit (.bool true)], args := [d1, d2] }
  | _ => none }
def fnBoxCorners2Row : OpenClaim := { program := "ytincapjbhbmeiaa", sum := "1f5b41815d46976e9c5899eb8a87266c60c7f01fa33bf4f1f938ade0d0b70ccd", func := "pub-orthodrome/laws.FnBoxCorners2", spec := "fnBoxCorners2", inPlace := ["math.archTrunc", "math.Float64bits", "math.Float64frombits"], apart := false }
def FnBoxCorners2Said : Prop := fnBoxCorners2Row.holds Try.pinned (OpenSpec.ofChange fnBoxCorners2Spec)

/-- ITS FALSE NEIGHBOUR: 'it returns false'. Refute it at one input. -/
def fnBoxCorners2Wrong : ChangeSpec := { name := "fnBoxCorners2", fn := fun _ => fun
  | [d1, d2] => { results := [.lit (.bool false)], args := [d1, d2] }
  | _ => none }
def FnBoxCorners2WrongFalsely : Prop := fnBoxCorners2Row.holds Try.pinned (OpenSpec.ofChange fnBoxCorners2Wrong)

/-- 'laws.FnBoxCorners3': WHATEVER THE INPUT: true; the input reads as it did. -/
def fnBoxCorners3Spec : ChangeSpec := { name := "fnBoxCorners3", fn := fun _ => fun
  | [d1, d2] => { results := [.lit (.bool true)], args := [d1, d2] }
  | _ => none }
def fnBoxCorners3Row : OpenClaim := { program := "ytincapjbhbmeiaa", sum := "1f5b41815d46976e9c5899eb8a87266c60c7f01fa33bf4f1f938ade0d0b70ccd", func := "pub-orthodrome/laws.FnBoxCorners3", spec := "fnBoxCorners3", inPlace := ["math.archTrunc", "math.Float64bits", "math.Float64frombits"], apart := false }
def FnBoxCorners3Said : Prop := fnBoxCorners3Row.holds Try.pinned (OpenSpec.ofChange fnBoxCorners3Spec)

/-- ITS FALSE NEIGHBOUR: 'it returns false'. Refute it at one input. -/
def fnBoxCorners3Wrong : ChangeSpec := { name := "fnBoxCorners3", fn := fun _ => fun
  | [d1, d2] => { results := [.lit (.bool false)], args := [d1, d2] }
  | _ => none }
def FnBoxCorners3WrongFalsely : Prop := fnBoxCorners3Row.holds Try.pinned (OpenSpec.ofChange fnBoxCorners3Wrong)

/-- 'laws.FnNormal3': WHATEVER THE INPUT: true; the input reads as it did. -/
def fnNormal3Spec : ChangeSpec := { name := "fnNormal3", fn := fun _ => fun
  | [d1, d2, d3] => { results := [.lit (.bool true)], args := [d1, d2, d3] }
  | _ => none }
def fnNormal3Row : OpenClaim := { program := "ytincapjbhbmeiaa", sum := "1f5b41815d46976e9c5899eb8a87266c60c7f01fa33bf4f1f938ade0d0b70ccd", func := "pub-orthodrome/laws.FnNormal3", spec := "fnNormal3", inPlace := ["math.archTrunc", "math.Float64bits", "math.Float64frombits"], apart := false }
def FnNormal3Said : Prop := fnNormal3Row.holds Try.pinned (OpenSpec.ofChange fnNormal3Spec)

/-- ITS FALSE NEIGHBOUR: 'it returns false'. Refute it at one input. -/
def fnNormal3Wrong : ChangeSpec := { name := "fnNormal3", fn := fun _ => fun
  | [d1, d2, d3] => { results := [.lit (.bool false)], args := [d1, d2, d3] }
  | _ => none }
def FnNormal3WrongFalsely : Prop := fnNormal3Row.holds Try.pinned (OpenSpec.ofChange fnNormal3Wrong)

/-- 'laws.FnBoxSize2': WHATEVER THE INPUT: true; the input reads as it did. -/
def fnBoxSize2Spec : ChangeSpec := { name := "fnBoxSize2", fn := fun _ => fun
  | [d1, d2] => { results := [.lit (.bool true)], args := [d1, d2] }
  | _ => none }
def fnBoxSize2Row : OpenClaim := { program := "ytincapjbhbmeiaa", sum := "1f5b41815d46976e9c5899eb8a87266c60c7f01fa33bf4f1f938ade0d0b70ccd", func := "pub-orthodrome/laws.FnBoxSize2", spec := "fnBoxSize2", inPlace := ["math.archTrunc", "math.Float64bits", "math.Float64frombits"], apart := false }
def FnBoxSize2Said : Prop := fnBoxSize2Row.holds Try.pinned (OpenSpec.ofChange fnBoxSize2Spec)

/-- ITS FALSE NEIGHBOUR: 'it returns false'. Refute it at one input. -/
def fnBoxSize2Wrong : ChangeSpec := { name := "fnBoxSize2", fn := fun _ => fun
  | [d1, d2] => { results := [.lit (.bool false)], args := [d1, d2] }
  | _ => none }
def FnBoxSize2WrongFalsely : Prop := fnBoxSize2Row.holds Try.pinned (OpenSpec.ofChange fnBoxSize2Wrong)

/-- 'laws.FnBoxSize3': WHATEVER THE INPUT: true; the input reads as it did. -/
def fnBoxSize3Spec : ChangeSpec := { name := "fnBoxSize3", fn := fun _ => fun
  | [d1, d2] => { results := [.lit (.bool true)], args := [d1, d2] }
  | _ => none }
def fnBoxSize3Row : OpenClaim := { program := "ytincapjbhbmeiaa", sum := "1f5b41815d46976e9c5899eb8a87266c60c7f01fa33bf4f1f938ade0d0b70ccd", func := "pub-orthodrome/laws.FnBoxSize3", spec := "fnBoxSize3", inPlace := ["math.archTrunc", "math.Float64bits", "math.Float64frombits"], apart := false }
def FnBoxSize3Said : Prop := fnBoxSize3Row.holds Try.pinned (OpenSpec.ofChange fnBoxSize3Spec)

/-- ITS FALSE NEIGHBOUR: 'it returns false'. Refute it at one input. -/
def fnBoxSize3Wrong : ChangeSpec := { name := "fnBoxSize3", fn := fun _ => fun
  | [d1, d2] => { results := [.lit (.bool false)], args := [d1, d2] }
  | _ => none }
def FnBoxSize3WrongFalsely : Prop := fnBoxSize3Row.holds Try.pinned (OpenSpec.ofChange fnBoxSize3Wrong)

/-- 'laws.FnSpaceEqual': WHATEVER THE INPUT: true; the input reads as it did. -/
def fnSpaceEqualSpec : ChangeSpec := { name := "fnSpaceEqual", fn := fun _ => fun
  | [d1, d2] => { results := [.lit (.bool true)], args := [d1, d2] }
  | _ => none }
def fnSpaceEqualRow : OpenClaim := { program := "ytincapjbhbmeiaa", sum := "1f5b41815d46976e9c5899eb8a87266c60c7f01fa33bf4f1f938ade0d0b70ccd", func := "pub-orthodrome/laws.FnSpaceEqual", spec := "fnSpaceEqual", apart := false }
def FnSpaceEqualSaid : Prop := fnSpaceEqualRow.holds Try.pinned (OpenSpec.ofChange fnSpaceEqualSpec)

/-- ITS FALSE NEIGHBOUR: 'it returns false'. Refute it at one input. -/
def fnSpaceEqualWrong : ChangeSpec := { name := "fnSpaceEqual", fn := fun _ => fun
  | [d1, d2] => { results := [.lit (.bool false)], args := [d1, d2] }
  | _ => none }
def FnSpaceEqualWrongFalsely : Prop := fnSpaceEqualRow.holds Try.pinned (OpenSpec.ofChange fnSpaceEqualWrong)

/-- 'laws.FnEqualAt': WHATEVER THE INPUT: true; the input reads as it did. -/
def fnEqualAtSpec : ChangeSpec := { name := "fnEqualAt", fn := fun _ => fun
  | [d1, d2, d3, d4] => { results := [.lit (.bool true)], args := [d1, d2, d3, d4] }
  | _ => none }
def fnEqualAtRow : OpenClaim := { program := "ytincapjbhbmeiaa", sum := "1f5b41815d46976e9c5899eb8a87266c60c7f01fa33bf4f1f938ade0d0b70ccd", func := "pub-orthodrome/laws.FnEqualAt", spec := "fnEqualAt", unfollowed := true, recurses := true, apart := false }
def FnEqualAtSaid : Prop := fnEqualAtRow.holds Try.pinned (OpenSpec.ofChange fnEqualAtSpec)

/-- ITS FALSE NEIGHBOUR: 'it returns false'. Refute it at one input. -/
def fnEqualAtWrong : ChangeSpec := { name := "fnEqualAt", fn := fun _ => fun
  | [d1, d2, d3, d4] => { results := [.lit (.bool false)], args := [d1, d2, d3, d4] }
  | _ => none }
def FnEqualAtWrongFalsely : Prop := fnEqualAtRow.holds Try.pinned (OpenSpec.ofChange fnEqualAtWrong)

/- THE SECOND FORM. 'bulk': how many values and letters a reading holds, each counted each time it is reached (what is shared counts as often as it is met; a slice's spare places count too). A statement '..UptoSaid' is the law's where the arguments, and the package variables that the reading takes, are together of bulk at most 1048576: NARROWER than '..Said'. Prove '..Said' where nothing that the law and all that it calls make is longer than what came in: it says more and counts as full. Else prove '..UptoSaid'. A law counts once. -/
mutual
def uptoBulk {H : Type} : DataW H → Nat
  | .lit (.string bytes) => bytes.length + 1
  | .lit _ => 1
  | .nil => 1
  | .ptr d => uptoBulk d + 1
  | .slice elems spare => uptoBulkAll elems + uptoBulkAll spare + 1
  | .agg parts => uptoBulkAll parts + 1
  | .iface _ d => uptoBulk d + 1
  | .map entries => uptoBulkEntries entries + 1
  | .held _ => 1
def uptoBulkAll {H : Type} : List (DataW H) → Nat
  | [] => 0
  | d :: r => uptoBulk d + uptoBulkAll r
def uptoBulkEntries {H : Type} : List (Lit × DataW H) → Nat
  | [] => 0
  | x :: r => uptoBulkEntry x + uptoBulkEntries r
def uptoBulkEntry {H : Type} : Lit × DataW H → Nat
  | (.string bytes, d) => bytes.length + uptoBulk d + 1
  | (_, d) => uptoBulk d + 1
 end
def uptoSmall : (H : Type) → List (DataW H) → Bool := fun _ ds => decide (uptoBulkAll ds ≤ 1048576)
def OpenSpec.upto (s : _root_.Go.ChangeSpec) : _root_.Go.OpenSpec := { _root_.Go.OpenSpec.ofChange s with cond := some uptoSmall }

/-- 'laws.FnDot2', WHERE WHAT IT READS IS OF BULK AT MOST 1048576: true; the input reads as it did. -/
def fnDot2UptoRow : OpenClaim := { program := "ytincapjbhbmeiaa", sum := "1f5b41815d46976e9c5899eb8a87266c60c7f01fa33bf4f1f938ade0d0b70ccd", func := "pub-orthodrome/laws.FnDot2", spec := "fnDot2", inPlace := ["math.archTrunc", "math.Float64bits", "math.Float64frombits"], apart := false, narrowed := true }
def FnDot2UptoSaid : Prop := fnDot2UptoRow.holds Try.pinned (OpenSpec.upto fnDot2Spec)

/-- 'laws.FnDot3', WHERE WHAT IT READS IS OF BULK AT MOST 1048576: true; the input reads as it did. -/
def fnDot3UptoRow : OpenClaim := { program := "ytincapjbhbmeiaa", sum := "1f5b41815d46976e9c5899eb8a87266c60c7f01fa33bf4f1f938ade0d0b70ccd", func := "pub-orthodrome/laws.FnDot3", spec := "fnDot3", inPlace := ["math.archTrunc", "math.Float64bits", "math.Float64frombits"], apart := false, narrowed := true }
def FnDot3UptoSaid : Prop := fnDot3UptoRow.holds Try.pinned (OpenSpec.upto fnDot3Spec)

/-- 'laws.FnBoxCorners2', WHERE WHAT IT READS IS OF BULK AT MOST 1048576: true; the input reads as it did. -/
def fnBoxCorners2UptoRow : OpenClaim := { program := "ytincapjbhbmeiaa", sum := "1f5b41815d46976e9c5899eb8a87266c60c7f01fa33bf4f1f938ade0d0b70ccd", func := "pub-orthodrome/laws.FnBoxCorners2", spec := "fnBoxCorners2", inPlace := ["math.archTrunc", "math.Float64bits", "math.Float64frombits"], apart := false, narrowed := true }
def FnBoxCorners2UptoSaid : Prop := fnBoxCorners2UptoRow.holds Try.pinned (OpenSpec.upto fnBoxCorners2Spec)

/-- 'laws.FnBoxCorners3', WHERE WHAT IT READS IS OF BULK AT MOST 1048576: true; the input reads as it did. -/
def fnBoxCorners3UptoRow : OpenClaim := { program := "ytincapjbhbmeiaa", sum := "1f5b41815d46976e9c5899eb8a87266c60c7f01fa33bf4f1f938ade0d0b70ccd", func := "pub-orthodrome/laws.FnBoxCorners3", spec := "fnBoxCorners3", inPlace := ["math.archTrunc", "math.Float64bits", "math.Float64frombits"], apart := false, narrowed := true }
def FnBoxCorners3UptoSaid : Prop := fnBoxCorners3UptoRow.holds Try.pinned (OpenSpec.upto fnBoxCorners3Spec)

/-- 'laws.FnNormal3', WHERE WHAT IT READS IS OF BULK AT MOST 1048576: true; the input reads as it did. -/
def fnNormal3UptoRow : OpenClaim := { program := "ytincapjbhbmeiaa", sum := "1f5b41815d46976e9c5899eb8a87266c60c7f01fa33bf4f1f938ade0d0b70ccd", func := "pub-orthodrome/laws.FnNormal3", spec := "fnNormal3", inPlace := ["math.archTrunc", "math.Float64bits", "math.Float64frombits"], apart := false, narrowed := true }
def FnNormal3UptoSaid : Prop := fnNormal3UptoRow.holds Try.pinned (OpenSpec.upto fnNormal3Spec)

/-- 'laws.FnBoxSize2', WHERE WHAT IT READS IS OF BULK AT MOST 1048576: true; the input reads as it did. -/
def fnBoxSize2UptoRow : OpenClaim := { program := "ytincapjbhbmeiaa", sum := "1f5b41815d46976e9c5899eb8a87266c60c7f01fa33bf4f1f938ade0d0b70ccd", func := "pub-orthodrome/laws.FnBoxSize2", spec := "fnBoxSize2", inPlace := ["math.archTrunc", "math.Float64bits", "math.Float64frombits"], apart := false, narrowed := true }
def FnBoxSize2UptoSaid : Prop := fnBoxSize2UptoRow.holds Try.pinned (OpenSpec.upto fnBoxSize2Spec)

/-- 'laws.FnBoxSize3', WHERE WHAT IT READS IS OF BULK AT MOST 1048576: true; the input reads as it did. -/
def fnBoxSize3UptoRow : OpenClaim := { program := "ytincapjbhbmeiaa", sum := "1f5b41815d46976e9c5899eb8a87266c60c7f01fa33bf4f1f938ade0d0b70ccd", func := "pub-orthodrome/laws.FnBoxSize3", spec := "fnBoxSize3", inPlace := ["math.archTrunc", "math.Float64bits", "math.Float64frombits"], apart := false, narrowed := true }
def FnBoxSize3UptoSaid : Prop := fnBoxSize3UptoRow.holds Try.pinned (OpenSpec.upto fnBoxSize3Spec)

/-- 'laws.FnSpaceEqual', WHERE WHAT IT READS IS OF BULK AT MOST 1048576: true; the input reads as it did. -/
def fnSpaceEqualUptoRow : OpenClaim := { program := "ytincapjbhbmeiaa", sum := "1f5b41815d46976e9c5899eb8a87266c60c7f01fa33bf4f1f938ade0d0b70ccd", func := "pub-orthodrome/laws.FnSpaceEqual", spec := "fnSpaceEqual", apart := false, narrowed := true }
def FnSpaceEqualUptoSaid : Prop := fnSpaceEqualUptoRow.holds Try.pinned (OpenSpec.upto fnSpaceEqualSpec)

/-- 'laws.FnEqualAt', WHERE WHAT IT READS IS OF BULK AT MOST 1048576: true; the input reads as it did. -/
def fnEqualAtUptoRow : OpenClaim := { program := "ytincapjbhbmeiaa", sum := "1f5b41815d46976e9c5899eb8a87266c60c7f01fa33bf4f1f938ade0d0b70ccd", func := "pub-orthodrome/laws.FnEqualAt", spec := "fnEqualAt", unfollowed := true, recurses := true, apart := false, narrowed := true }
def FnEqualAtUptoSaid : Prop := fnEqualAtUptoRow.holds Try.pinned (OpenSpec.upto fnEqualAtSpec)

end Rows
end Go.Proofs.Ytincapjbhbmeiaa
