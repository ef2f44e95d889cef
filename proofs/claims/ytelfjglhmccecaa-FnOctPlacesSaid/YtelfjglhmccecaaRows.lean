/-
  No cell of these rows narrows 'for every input' (looked for: loops, veiled, ifaces, maps, wideKeys, modest, calm, conditions, laid).
  DERIVED. THE GIVEN ROWS OF THIS SEAT. 11 by the template 'for every input the law returns true; each argument reads behind the call as it read before'; 0 by the template 'total and deterministic' (their statements: YtelfjglhmccecaaTotals.lean).
  GIVEN WITH THE SEED: the statements are not yours to turn. If you find one false, say at which input.
  Laid BY PROGRAM, IN A SANDBOX (cutbox-rows.mjs): the forced cells as the released guide's own fill.sh prints them over the translation 41368044bcf3434b… (all of the seat's roots in one cut). By AI agents, Wed Nov 11 2026. No macro, syntax, notation, axiom, sorry.
-/
import Derived.Test.YtelfjglhmccecaaChecked
import GoSem.Claim
import GoSem.ClaimJoined
import GoSem.ClaimMapViews
import Derived.JoinedTies
import Derived.KernelRfl
namespace Go.Proofs.Ytelfjglhmccecaa
/- THE CELL 'sum', in the pinned program and in every row, IS THE sha256 OF THE DUMP (.gsa) THAT YtelfjglhmccecaaProg.lean LOADS. Nothing in Lean hashes anything: it is a label: what it is worth is what the hold of that sum in a sandbox is worth. -/
noncomputable def Try.pinned : Pinned := { name := "ytelfjglhmccecaa", sum := "41368044bcf3434bee6c22d382bc81502d0a151b4e41602425a3feb3b0ddde4d", checked := Try.checked }
namespace Rows
def none {H : Type} : Left H := { results := [], args := [] }

/-- 'laws.FnCommonMiddle': WHATEVER THE INPUT: true; the input reads as it did. -/
def fnCommonMiddleSpec : ChangeSpec := { name := "fnCommonMiddle", fn := fun _ => fun
  | [d1, d2, d3, d4] => { results := [.lit (.bool true)], args := [d1, d2, d3, d4] }
  | _ => none }
def fnCommonMiddleRow : OpenClaim := { program := "ytelfjglhmccecaa", sum := "41368044bcf3434bee6c22d382bc81502d0a151b4e41602425a3feb3b0ddde4d", func := "pub-orthodrome/laws.FnCommonMiddle", spec := "fnCommonMiddle", inPlace := ["math.archTrunc", "math.Float64bits", "math.Float64frombits"], apart := false }
def FnCommonMiddleSaid : Prop := fnCommonMiddleRow.holds Try.pinned (OpenSpec.ofChange fnCommonMiddleSpec)

/-- ITS FALSE NEIGHBOUR: 'it returns false'. Refute it at one input. -/
def fnCommonMiddleWrong : ChangeSpec := { name := "fnCommonMiddle", fn := fun _ => fun
  | [d1, d2, d3, d4] => { results := [.lit (.bool false)], args := [d1, d2, d3, d4] }
  | _ => none }
def FnCommonMiddleWrongFalsely : Prop := fnCommonMiddleRow.holds Try.pinned (OpenSpec.ofChange fnCommonMiddleWrong)

/-- 'laws.FnOctOrder': WHATEVER THE INPUT: true; the input reads as it did. -/
def fnOctOrderSpec : ChangeSpec := { name := "fnOctOrder", fn := fun _ => fun
  | [d1, d2] => { results := [.lit (.bool true)], args := [d1, d2] }
  | _ => none }
def fnOctOrderRow : OpenClaim := { program := "ytelfjglhmccecaa", sum := "41368044bcf3434bee6c22d382bc81502d0a151b4e41602425a3feb3b0ddde4d", func := "pub-orthodrome/laws.FnOctOrder", spec := "fnOctOrder", inPlace := ["math.archTrunc", "math.Float64bits", "math.Float64frombits"], unfollowed := true, recurses := true, apart := false }
def FnOctOrderSaid : Prop := fnOctOrderRow.holds Try.pinned (OpenSpec.ofChange fnOctOrderSpec)

/-- ITS FALSE NEIGHBOUR: 'it returns false'. Refute it at one input. -/
def fnOctOrderWrong : ChangeSpec := { name := "fnOctOrder", fn := fun _ => fun
  | [d1, d2] => { results := [.lit (.bool false)], args := [d1, d2] }
  | _ => none }
def FnOctOrderWrongFalsely : Prop := fnOctOrderRow.holds Try.pinned (OpenSpec.ofChange fnOctOrderWrong)

/-- 'laws.FnOctPlaces': WHATEVER THE INPUT: true; the input reads as it did. -/
def fnOctPlacesSpec : ChangeSpec := { name := "fnOctPlaces", fn := fun _ => fun
  | [d1, d2] => { results := [.lit (.bool true)], args := [d1, d2] }
  | _ => none }
def fnOctPlacesRow : OpenClaim := { program := "ytelfjglhmccecaa", sum := "41368044bcf3434bee6c22d382bc81502d0a151b4e41602425a3feb3b0ddde4d", func := "pub-orthodrome/laws.FnOctPlaces", spec := "fnOctPlaces", inPlace := ["math.archTrunc", "math.Float64bits", "math.Float64frombits"], unfollowed := true, recurses := true, apart := false }
def FnOctPlacesSaid : Prop := fnOctPlacesRow.holds Try.pinned (OpenSpec.ofChange fnOctPlacesSpec)

/-- ITS FALSE NEIGHBOUR: 'it returns false'. Refute it at one input. -/
def fnOctPlacesWrong : ChangeSpec := { name := "fnOctPlaces", fn := fun _ => fun
  | [d1, d2] => { results := [.lit (.bool false)], args := [d1, d2] }
  | _ => none }
def FnOctPlacesWrongFalsely : Prop := fnOctPlacesRow.holds Try.pinned (OpenSpec.ofChange fnOctPlacesWrong)

/-- 'laws.FnSimplify': WHATEVER THE INPUT: true; the input reads as it did. -/
def fnSimplifySpec : ChangeSpec := { name := "fnSimplify", fn := fun _ => fun
  | [d1, d2, d3] => { results := [.lit (.bool true)], args := [d1, d2, d3] }
  | _ => none }
def fnSimplifyRow : OpenClaim := { program := "ytelfjglhmccecaa", sum := "41368044bcf3434bee6c22d382bc81502d0a151b4e41602425a3feb3b0ddde4d", func := "pub-orthodrome/laws.FnSimplify", spec := "fnSimplify", inPlace := ["math.archTrunc", "math.Float64bits", "math.Float64frombits"], unfollowed := true, recurses := true, apart := false }
def FnSimplifySaid : Prop := fnSimplifyRow.holds Try.pinned (OpenSpec.ofChange fnSimplifySpec)

/-- ITS FALSE NEIGHBOUR: 'it returns false'. Refute it at one input. -/
def fnSimplifyWrong : ChangeSpec := { name := "fnSimplify", fn := fun _ => fun
  | [d1, d2, d3] => { results := [.lit (.bool false)], args := [d1, d2, d3] }
  | _ => none }
def FnSimplifyWrongFalsely : Prop := fnSimplifyRow.holds Try.pinned (OpenSpec.ofChange fnSimplifyWrong)

/-- 'laws.FnSignedArea': WHATEVER THE INPUT: true; the input reads as it did. -/
def fnSignedAreaSpec : ChangeSpec := { name := "fnSignedArea", fn := fun _ => fun
  | [d1, d2] => { results := [.lit (.bool true)], args := [d1, d2] }
  | _ => none }
def fnSignedAreaRow : OpenClaim := { program := "ytelfjglhmccecaa", sum := "41368044bcf3434bee6c22d382bc81502d0a151b4e41602425a3feb3b0ddde4d", func := "pub-orthodrome/laws.FnSignedArea", spec := "fnSignedArea", inPlace := ["math.archTrunc", "math.Float64bits", "math.Float64frombits"], unfollowed := true, recurses := true, apart := false }
def FnSignedAreaSaid : Prop := fnSignedAreaRow.holds Try.pinned (OpenSpec.ofChange fnSignedAreaSpec)

/-- ITS FALSE NEIGHBOUR: 'it returns false'. Refute it at one input. -/
def fnSignedAreaWrong : ChangeSpec := { name := "fnSignedArea", fn := fun _ => fun
  | [d1, d2] => { results := [.lit (.bool false)], args := [d1, d2] }
  | _ => none }
def FnSignedAreaWrongFalsely : Prop := fnSignedAreaRow.holds Try.pinned (OpenSpec.ofChange fnSignedAreaWrong)

/-- 'laws.FnNormalizeAngle': WHATEVER THE INPUT: true; the input reads as it did. -/
def fnNormalizeAngleSpec : ChangeSpec := { name := "fnNormalizeAngle", fn := fun _ => fun
  | [d] => { results := [.lit (.bool true)], args := [d] }
  | _ => none }
def fnNormalizeAngleRow : OpenClaim := { program := "ytelfjglhmccecaa", sum := "41368044bcf3434bee6c22d382bc81502d0a151b4e41602425a3feb3b0ddde4d", func := "pub-orthodrome/laws.FnNormalizeAngle", spec := "fnNormalizeAngle", inPlace := ["math.Float64bits", "math.Float64frombits"], apart := false }
def FnNormalizeAngleSaid : Prop := fnNormalizeAngleRow.holds Try.pinned (OpenSpec.ofChange fnNormalizeAngleSpec)

/-- ITS FALSE NEIGHBOUR: 'it returns false'. Refute it at one input. -/
def fnNormalizeAngleWrong : ChangeSpec := { name := "fnNormalizeAngle", fn := fun _ => fun
  | [d] => { results := [.lit (.bool false)], args := [d] }
  | _ => none }
def FnNormalizeAngleWrongFalsely : Prop := fnNormalizeAngleRow.holds Try.pinned (OpenSpec.ofChange fnNormalizeAngleWrong)

/-- 'laws.FnAngleBetween': WHATEVER THE INPUT: true; the input reads as it did. -/
def fnAngleBetweenSpec : ChangeSpec := { name := "fnAngleBetween", fn := fun _ => fun
  | [d1, d2, d3] => { results := [.lit (.bool true)], args := [d1, d2, d3] }
  | _ => none }
def fnAngleBetweenRow : OpenClaim := { program := "ytelfjglhmccecaa", sum := "41368044bcf3434bee6c22d382bc81502d0a151b4e41602425a3feb3b0ddde4d", func := "pub-orthodrome/laws.FnAngleBetween", spec := "fnAngleBetween", inPlace := ["math.archTrunc", "math.Float64bits", "math.Float64frombits"], apart := false }
def FnAngleBetweenSaid : Prop := fnAngleBetweenRow.holds Try.pinned (OpenSpec.ofChange fnAngleBetweenSpec)

/-- ITS FALSE NEIGHBOUR: 'it returns false'. Refute it at one input. -/
def fnAngleBetweenWrong : ChangeSpec := { name := "fnAngleBetween", fn := fun _ => fun
  | [d1, d2, d3] => { results := [.lit (.bool false)], args := [d1, d2, d3] }
  | _ => none }
def FnAngleBetweenWrongFalsely : Prop := fnAngleBetweenRow.holds Try.pinned (OpenSpec.ofChange fnAngleBetweenWrong)

/-- 'laws.FnDetSign': WHATEVER THE INPUT: true; the input reads as it did. -/
def fnDetSignSpec : ChangeSpec := { name := "fnDetSign", fn := fun _ => fun
  | [d1, d2, d3, d4, d5] => { results := [.lit (.bool true)], args := [d1, d2, d3, d4, d5] }
  | _ => none }
def fnDetSignRow : OpenClaim := { program := "ytelfjglhmccecaa", sum := "41368044bcf3434bee6c22d382bc81502d0a151b4e41602425a3feb3b0ddde4d", func := "pub-orthodrome/laws.FnDetSign", spec := "fnDetSign", inPlace := ["math.archTrunc", "math.Float64bits", "math.Float64frombits", "math.archFloor"], apart := false }
def FnDetSignSaid : Prop := fnDetSignRow.holds Try.pinned (OpenSpec.ofChange fnDetSignSpec)

/-- ITS FALSE NEIGHBOUR: 'it returns false'. Refute it at one input. -/
def fnDetSignWrong : ChangeSpec := { name := "fnDetSign", fn := fun _ => fun
  | [d1, d2, d3, d4, d5] => { results := [.lit (.bool false)], args := [d1, d2, d3, d4, d5] }
  | _ => none }
def FnDetSignWrongFalsely : Prop := fnDetSignRow.holds Try.pinned (OpenSpec.ofChange fnDetSignWrong)

/-- 'laws.FnLineLineDistance': WHATEVER THE INPUT: true; the input reads as it did. -/
def fnLineLineDistanceSpec : ChangeSpec := { name := "fnLineLineDistance", fn := fun _ => fun
  | [d1, d2, d3, d4] => { results := [.lit (.bool true)], args := [d1, d2, d3, d4] }
  | _ => none }
def fnLineLineDistanceRow : OpenClaim := { program := "ytelfjglhmccecaa", sum := "41368044bcf3434bee6c22d382bc81502d0a151b4e41602425a3feb3b0ddde4d", func := "pub-orthodrome/laws.FnLineLineDistance", spec := "fnLineLineDistance", inPlace := ["math.archTrunc", "math.Float64bits", "math.Float64frombits", "math.sqrt", "math.archMin", "math.archMax"], apart := false }
def FnLineLineDistanceSaid : Prop := fnLineLineDistanceRow.holds Try.pinned (OpenSpec.ofChange fnLineLineDistanceSpec)

/-- ITS FALSE NEIGHBOUR: 'it returns false'. Refute it at one input. -/
def fnLineLineDistanceWrong : ChangeSpec := { name := "fnLineLineDistance", fn := fun _ => fun
  | [d1, d2, d3, d4] => { results := [.lit (.bool false)], args := [d1, d2, d3, d4] }
  | _ => none }
def FnLineLineDistanceWrongFalsely : Prop := fnLineLineDistanceRow.holds Try.pinned (OpenSpec.ofChange fnLineLineDistanceWrong)

/-- 'laws.FnLocateTurned': WHATEVER THE INPUT: true; the input reads as it did. -/
def fnLocateTurnedSpec : ChangeSpec := { name := "fnLocateTurned", fn := fun _ => fun
  | [d1, d2, d3] => { results := [.lit (.bool true)], args := [d1, d2, d3] }
  | _ => none }
def fnLocateTurnedRow : OpenClaim := { program := "ytelfjglhmccecaa", sum := "41368044bcf3434bee6c22d382bc81502d0a151b4e41602425a3feb3b0ddde4d", func := "pub-orthodrome/laws.FnLocateTurned", spec := "fnLocateTurned", inPlace := ["math.archTrunc", "math.Float64bits", "math.Float64frombits", "math.archFloor"], unfollowed := true, recurses := true, apart := false }
def FnLocateTurnedSaid : Prop := fnLocateTurnedRow.holds Try.pinned (OpenSpec.ofChange fnLocateTurnedSpec)

/-- ITS FALSE NEIGHBOUR: 'it returns false'. Refute it at one input. -/
def fnLocateTurnedWrong : ChangeSpec := { name := "fnLocateTurned", fn := fun _ => fun
  | [d1, d2, d3] => { results := [.lit (.bool false)], args := [d1, d2, d3] }
  | _ => none }
def FnLocateTurnedWrongFalsely : Prop := fnLocateTurnedRow.holds Try.pinned (OpenSpec.ofChange fnLocateTurnedWrong)

/-- 'laws.FnSpaceLineLine': WHATEVER THE INPUT: true; the input reads as it did. -/
def fnSpaceLineLineSpec : ChangeSpec := { name := "fnSpaceLineLine", fn := fun _ => fun
  | [d1, d2, d3, d4] => { results := [.lit (.bool true)], args := [d1, d2, d3, d4] }
  | _ => none }
def fnSpaceLineLineRow : OpenClaim := { program := "ytelfjglhmccecaa", sum := "41368044bcf3434bee6c22d382bc81502d0a151b4e41602425a3feb3b0ddde4d", func := "pub-orthodrome/laws.FnSpaceLineLine", spec := "fnSpaceLineLine", inPlace := ["math.archTrunc", "math.Float64bits", "math.Float64frombits", "math.sqrt"], unfollowed := true, recurses := true, apart := false }
def FnSpaceLineLineSaid : Prop := fnSpaceLineLineRow.holds Try.pinned (OpenSpec.ofChange fnSpaceLineLineSpec)

/-- ITS FALSE NEIGHBOUR: 'it returns false'. Refute it at one input. -/
def fnSpaceLineLineWrong : ChangeSpec := { name := "fnSpaceLineLine", fn := fun _ => fun
  | [d1, d2, d3, d4] => { results := [.lit (.bool false)], args := [d1, d2, d3, d4] }
  | _ => none }
def FnSpaceLineLineWrongFalsely : Prop := fnSpaceLineLineRow.holds Try.pinned (OpenSpec.ofChange fnSpaceLineLineWrong)

/- THE SECOND FORM. 'bulk': how many values and letters a reading holds, each counted each time it is reached (what is shared counts as often as it is met; a slice's spare places count too). A statement '..UptoSaid' is the law's where the arguments, and the package variables that the reading takes, are together of bulk at most 1048576: NARROWER than '..Said'. Prove '..Said' where nothing that the law and all that it calls make is longer than what came in: it says more and counts as full. Else prove '..UptoSaid'. A law counts once. -/
mutual
def uptoBulk {H : Type} : DataW H → Nat
  | .lit (.string bytes) => bytes.length + 1
  | .lit _ => 1
  | .nil => 1
  | .ptr d => uptoBulk d + 1
  | .slice elems spare => uptoBulkAll elems + uptoBulkAll spare + 1
  | .agg parts => uptoBulkAll parts + 1
  | .iface _ d => uptoBulk d + 1
  | .map entries => uptoBulkEntries entries + 1
  | .held _ => 1
def uptoBulkAll {H : Type} : List (DataW H) → Nat
  | [] => 0
  | d :: r => uptoBulk d + uptoBulkAll r
def uptoBulkEntries {H : Type} : List (Lit × DataW H) → Nat
  | [] => 0
  | x :: r => uptoBulkEntry x + uptoBulkEntries r
def uptoBulkEntry {H : Type} : Lit × DataW H → Nat
  | (.string bytes, d) => bytes.length + uptoBulk d + 1
  | (_, d) => uptoBulk d + 1
 end
def uptoSmall : (H : Type) → List (DataW H) → Bool := fun _ ds => decide (uptoBulkAll ds ≤ 1048576)
def OpenSpec.upto (s : _root_.Go.ChangeSpec) : _root_.Go.OpenSpec := { _root_.Go.OpenSpec.ofChange s with cond := some uptoSmall }

/-- 'laws.FnCommonMiddle', WHERE WHAT IT READS IS OF BULK AT MOST 1048576: true; the input reads as it did. -/
def fnCommonMiddleUptoRow : OpenClaim := { program := "ytelfjglhmccecaa", sum := "41368044bcf3434bee6c22d382bc81502d0a151b4e41602425a3feb3b0ddde4d", func := "pub-orthodrome/laws.FnCommonMiddle", spec := "fnCommonMiddle", inPlace := ["math.archTrunc", "math.Float64bits", "math.Float64frombits"], apart := false, narrowed := true }
def FnCommonMiddleUptoSaid : Prop := fnCommonMiddleUptoRow.holds Try.pinned (OpenSpec.upto fnCommonMiddleSpec)

/-- 'laws.FnOctOrder', WHERE WHAT IT READS IS OF BULK AT MOST 1048576: true; the input reads as it did. -/
def fnOctOrderUptoRow : OpenClaim := { program := "ytelfjglhmccecaa", sum := "41368044bcf3434bee6c22d382bc81502d0a151b4e41602425a3feb3b0ddde4d", func := "pub-orthodrome/laws.FnOctOrder", spec := "fnOctOrder", inPlace := ["math.archTrunc", "math.Float64bits", "math.Float64frombits"], unfollowed := true, recurses := true, apart := false, narrowed := true }
def FnOctOrderUptoSaid : Prop := fnOctOrderUptoRow.holds Try.pinned (OpenSpec.upto fnOctOrderSpec)

/-- 'laws.FnOctPlaces', WHERE WHAT IT READS IS OF BULK AT MOST 1048576: true; the input reads as it did. -/
def fnOctPlacesUptoRow : OpenClaim := { program := "ytelfjglhmccecaa", sum := "41368044bcf3434bee6c22d382bc81502d0a151b4e41602425a3feb3b0ddde4d", func := "pub-orthodrome/laws.FnOctPlaces", spec := "fnOctPlaces", inPlace := ["math.archTrunc", "math.Float64bits", "math.Float64frombits"], unfollowed := true, recurses := true, apart := false, narrowed := true }
def FnOctPlacesUptoSaid : Prop := fnOctPlacesUptoRow.holds Try.pinned (OpenSpec.upto fnOctPlacesSpec)

/-- 'laws.FnSimplify', WHERE WHAT IT READS IS OF BULK AT MOST 1048576: true; the input reads as it did. -/
def fnSimplifyUptoRow : OpenClaim := { program := "ytelfjglhmccecaa", sum := "41368044bcf3434bee6c22d382bc81502d0a151b4e41602425a3feb3b0ddde4d", func := "pub-orthodrome/laws.FnSimplify", spec := "fnSimplify", inPlace := ["math.archTrunc", "math.Float64bits", "math.Float64frombits"], unfollowed := true, recurses := true, apart := false, narrowed := true }
def FnSimplifyUptoSaid : Prop := fnSimplifyUptoRow.holds Try.pinned (OpenSpec.upto fnSimplifySpec)

/-- 'laws.FnSignedArea', WHERE WHAT IT READS IS OF BULK AT MOST 1048576: true; the input reads as it did. -/
def fnSignedAreaUptoRow : OpenClaim := { program := "ytelfjglhmccecaa", sum := "41368044bcf3434bee6c22d382bc81502d0a151b4e41602425a3feb3b0ddde4d", func := "pub-orthodrome/laws.FnSignedArea", spec := "fnSignedArea", inPlace := ["math.archTrunc", "math.Float64bits", "math.Float64frombits"], unfollowed := true, recurses := true, apart := false, narrowed := true }
def FnSignedAreaUptoSaid : Prop := fnSignedAreaUptoRow.holds Try.pinned (OpenSpec.upto fnSignedAreaSpec)

/-- 'laws.FnNormalizeAngle', WHERE WHAT IT READS IS OF BULK AT MOST 1048576: true; the input reads as it did. -/
def fnNormalizeAngleUptoRow : OpenClaim := { program := "ytelfjglhmccecaa", sum := "41368044bcf3434bee6c22d382bc81502d0a151b4e41602425a3feb3b0ddde4d", func := "pub-orthodrome/laws.FnNormalizeAngle", spec := "fnNormalizeAngle", inPlace := ["math.Float64bits", "math.Float64frombits"], apart := false, narrowed := true }
def FnNormalizeAngleUptoSaid : Prop := fnNormalizeAngleUptoRow.holds Try.pinned (OpenSpec.upto fnNormalizeAngleSpec)

/-- 'laws.FnAngleBetween', WHERE WHAT IT READS IS OF BULK AT MOST 1048576: true; the input reads as it did. -/
def fnAngleBetweenUptoRow : OpenClaim := { program := "ytelfjglhmccecaa", sum := "41368044bcf3434bee6c22d382bc81502d0a151b4e41602425a3feb3b0ddde4d", func := "pub-orthodrome/laws.FnAngleBetween", spec := "fnAngleBetween", inPlace := ["math.archTrunc", "math.Float64bits", "math.Float64frombits"], apart := false, narrowed := true }
def FnAngleBetweenUptoSaid : Prop := fnAngleBetweenUptoRow.holds Try.pinned (OpenSpec.upto fnAngleBetweenSpec)

/-- 'laws.FnDetSign', WHERE WHAT IT READS IS OF BULK AT MOST 1048576: true; the input reads as it did. -/
def fnDetSignUptoRow : OpenClaim := { program := "ytelfjglhmccecaa", sum := "41368044bcf3434bee6c22d382bc81502d0a151b4e41602425a3feb3b0ddde4d", func := "pub-orthodrome/laws.FnDetSign", spec := "fnDetSign", inPlace := ["math.archTrunc", "math.Float64bits", "math.Float64frombits", "math.archFloor"], apart := false, narrowed := true }
def FnDetSignUptoSaid : Prop := fnDetSignUptoRow.holds Try.pinned (OpenSpec.upto fnDetSignSpec)

/-- 'laws.FnLineLineDistance', WHERE WHAT IT READS IS OF BULK AT MOST 1048576: true; the input reads as it did. -/
def fnLineLineDistanceUptoRow : OpenClaim := { program := "ytelfjglhmccecaa", sum := "41368044bcf3434bee6c22d382bc81502d0a151b4e41602425a3feb3b0ddde4d", func := "pub-orthodrome/laws.FnLineLineDistance", spec := "fnLineLineDistance", inPlace := ["math.archTrunc", "math.Float64bits", "math.Float64frombits", "math.sqrt", "math.archMin", "math.archMax"], apart := false, narrowed := true }
def FnLineLineDistanceUptoSaid : Prop := fnLineLineDistanceUptoRow.holds Try.pinned (OpenSpec.upto fnLineLineDistanceSpec)

/-- 'laws.FnLocateTurned', WHERE WHAT IT READS IS OF BULK AT MOST 1048576: true; the input reads as it did. -/
def fnLocateTurnedUptoRow : OpenClaim := { program := "ytelfjglhmccecaa", sum := "41368044bcf3434bee6c22d382bc81502d0a151b4e41602425a3feb3b0ddde4d", func := "pub-orthodrome/laws.FnLocateTurned", spec := "fnLocateTurned", inPlace := ["math.archTrunc", "math.Float64bits", "math.Float64frombits", "math.archFloor"], unfollowed := true, recurses := true, apart := false, narrowed := true }
def FnLocateTurnedUptoSaid : Prop := fnLocateTurnedUptoRow.holds Try.pinned (OpenSpec.upto fnLocateTurnedSpec)

/-- 'laws.FnSpaceLineLine', WHERE WHAT IT READS IS OF BULK AT MOST 1048576: true; the input reads as it did. -/
def fnSpaceLineLineUptoRow : OpenClaim := { program := "ytelfjglhmccecaa", sum := "41368044bcf3434bee6c22d382bc81502d0a151b4e41602425a3feb3b0ddde4d", func := "pub-orthodrome/laws.FnSpaceLineLine", spec := "fnSpaceLineLine", inPlace := ["math.archTrunc", "math.Float64bits", "math.Float64frombits", "math.sqrt"], unfollowed := true, recurses := true, apart := false, narrowed := true }
def FnSpaceLineLineUptoSaid : Prop := fnSpaceLineLineUptoRow.holds Try.pinned (OpenSpec.upto fnSpaceLineLineSpec)

end Rows
end Go.Proofs.Ytelfjglhmccecaa
