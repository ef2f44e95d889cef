/-
  No cell of these rows narrows 'for every input' (looked for: loops, veiled, ifaces, maps, wideKeys, modest, calm, conditions, laid).
  DERIVED. THE GIVEN ROWS OF THIS SEAT. 4 by the template 'for every input the law returns true; each argument reads behind the call as it read before'; 0 by the template 'total and deterministic' (their statements: YtcpdhkbmfgphpaaTotals.lean).
  GIVEN WITH THE SEED: the statements are not yours to turn. If you find one false, say at which input.
  Laid BY PROGRAM, IN A SANDBOX (cutbox-rows.mjs): the forced cells as the released guide's own fill.sh prints them over the translation 269e2be4139a266e… (all of the seat's roots in one cut). By AI agents, Wed Nov 11 2026. No macro, syntax, notation, axiom, sorry.
-/
import Derived.Test.YtcpdhkbmfgphpaaChecked
import GoSem.Claim
import GoSem.ClaimJoined
import GoSem.ClaimMapViews
import Derived.JoinedTies
import Derived.KernelRfl
namespace Go.Proofs.Ytcpdhkbmfgphpaa
/- THE CELL 'sum', in the pinned program and in every row, IS THE sha256 OF THE DUMP (.gsa) THAT YtcpdhkbmfgphpaaProg.lean LOADS. Nothing in Lean hashes anything: it is a label: what it is worth is what the hold of that sum in a sandbox is worth. -/
noncomputable def Try.pinned : Pinned := { name := "ytcpdhkbmfgphpaa", sum := "269e2be4139a266edd209a42d05c3f214467e6776f880831a0f6e2c619772c5a", checked := Try.checked }
namespace Rows
def none {H : Type} : Left H := { results := [], args := [] }

/-- 'laws.FnKContains': WHATEVER THE INPUT: true; the input reads as it did. -/
def fnKContainsSpec : ChangeSpec := { name := "fnKContains", fn := fun _ => fun
  | [d1, d2, d3] => { results := [.lit (.bool true)], args := [d1, d2, d3] }
  | _ => none }
def fnKContainsRow : OpenClaim := { program := "ytcpdhkbmfgphpaa", sum := "269e2be4139a266edd209a42d05c3f214467e6776f880831a0f6e2c619772c5a", func := "pub-orthodrome/laws.FnKContains", spec := "fnKContains", inPlace := ["math.archTrunc", "math.Float64bits", "math.Float64frombits"], unfollowed := true, recurses := true, apart := false }
def FnKContainsSaid : Prop := fnKContainsRow.holds Try.pinned (OpenSpec.ofChange fnKContainsSpec)

/-- ITS FALSE NEIGHBOUR: 'it returns false'. Refute it at one input. -/
def fnKContainsWrong : ChangeSpec := { name := "fnKContains", fn := fun _ => fun
  | [d1, d2, d3] => { results := [.lit (.bool false)], args := [d1, d2, d3] }
  | _ => none }
def FnKContainsWrongFalsely : Prop := fnKContainsRow.holds Try.pinned (OpenSpec.ofChange fnKContainsWrong)

/-- 'laws.FnKNearest': WHATEVER THE INPUT: true; the input reads as it did. -/
def fnKNearestSpec : ChangeSpec := { name := "fnKNearest", fn := fun _ => fun
  | [d1, d2, d3] => { results := [.lit (.bool true)], args := [d1, d2, d3] }
  | _ => none }
def fnKNearestRow : OpenClaim := { program := "ytcpdhkbmfgphpaa", sum := "269e2be4139a266edd209a42d05c3f214467e6776f880831a0f6e2c619772c5a", func := "pub-orthodrome/laws.FnKNearest", spec := "fnKNearest", inPlace := ["math.archTrunc", "math.Float64bits", "math.Float64frombits", "math.archMin"], unfollowed := true, recurses := true, apart := false }
def FnKNearestSaid : Prop := fnKNearestRow.holds Try.pinned (OpenSpec.ofChange fnKNearestSpec)

/-- ITS FALSE NEIGHBOUR: 'it returns false'. Refute it at one input. -/
def fnKNearestWrong : ChangeSpec := { name := "fnKNearest", fn := fun _ => fun
  | [d1, d2, d3] => { results := [.lit (.bool false)], args := [d1, d2, d3] }
  | _ => none }
def FnKNearestWrongFalsely : Prop := fnKNearestRow.holds Try.pinned (OpenSpec.ofChange fnKNearestWrong)

/-- 'laws.FnKInsert': WHATEVER THE INPUT: true; the input reads as it did. -/
def fnKInsertSpec : ChangeSpec := { name := "fnKInsert", fn := fun _ => fun
  | [d1, d2, d3, d4] => { results := [.lit (.bool true)], args := [d1, d2, d3, d4] }
  | _ => none }
def fnKInsertRow : OpenClaim := { program := "ytcpdhkbmfgphpaa", sum := "269e2be4139a266edd209a42d05c3f214467e6776f880831a0f6e2c619772c5a", func := "pub-orthodrome/laws.FnKInsert", spec := "fnKInsert", inPlace := ["math.archTrunc", "math.Float64bits", "math.Float64frombits"], unfollowed := true, recurses := true, apart := false }
def FnKInsertSaid : Prop := fnKInsertRow.holds Try.pinned (OpenSpec.ofChange fnKInsertSpec)

/-- ITS FALSE NEIGHBOUR: 'it returns false'. Refute it at one input. -/
def fnKInsertWrong : ChangeSpec := { name := "fnKInsert", fn := fun _ => fun
  | [d1, d2, d3, d4] => { results := [.lit (.bool false)], args := [d1, d2, d3, d4] }
  | _ => none }
def FnKInsertWrongFalsely : Prop := fnKInsertRow.holds Try.pinned (OpenSpec.ofChange fnKInsertWrong)

/-- 'laws.FnKKeepWithin': WHATEVER THE INPUT: true; the input reads as it did. -/
def fnKKeepWithinSpec : ChangeSpec := { name := "fnKKeepWithin", fn := fun _ => fun
  | [d1, d2] => { results := [.lit (.bool true)], args := [d1, d2] }
  | _ => none }
def fnKKeepWithinRow : OpenClaim := { program := "ytcpdhkbmfgphpaa", sum := "269e2be4139a266edd209a42d05c3f214467e6776f880831a0f6e2c619772c5a", func := "pub-orthodrome/laws.FnKKeepWithin", spec := "fnKKeepWithin", unfollowed := true, recurses := true, apart := false }
def FnKKeepWithinSaid : Prop := fnKKeepWithinRow.holds Try.pinned (OpenSpec.ofChange fnKKeepWithinSpec)

/-- ITS FALSE NEIGHBOUR: 'it returns false'. Refute it at one input. -/
def fnKKeepWithinWrong : ChangeSpec := { name := "fnKKeepWithin", fn := fun _ => fun
  | [d1, d2] => { results := [.lit (.bool false)], args := [d1, d2] }
  | _ => none }
def FnKKeepWithinWrongFalsely : Prop := fnKKeepWithinRow.holds Try.pinned (OpenSpec.ofChange fnKKeepWithinWrong)

/- THE SECOND FORM. 'bulk': how many values and letters a reading holds, each counted each time it is reached (what is shared counts as often as it is met; a slice's spare places count too). A statement '..UptoSaid' is the law's where the arguments, and the package variables that the reading takes, are together of bulk at most 1048576: NARROWER than '..Said'. Prove '..Said' where nothing that the law and all that it calls make is longer than what came in: it says more and counts as full. Else prove '..UptoSaid'. A law counts once. -/
mutual
def uptoBulk {H : Type} : DataW H → Nat
  | .lit (.string bytes) => bytes.length + 1
  | .lit _ => 1
  | .nil => 1
  | .ptr d => uptoBulk d + 1
  | .slice elems spare => uptoBulkAll elems + uptoBulkAll spare + 1
  | .agg parts => uptoBulkAll parts + 1
  | .iface _ d => uptoBulk d + 1
  | .map entries => uptoBulkEntries entries + 1
  | .held _ => 1
def uptoBulkAll {H : Type} : List (DataW H) → Nat
  | [] => 0
  | d :: r => uptoBulk d + uptoBulkAll r
def uptoBulkEntries {H : Type} : List (Lit × DataW H) → Nat
  | [] => 0
  | x :: r => uptoBulkEntry x + uptoBulkEntries r
def uptoBulkEntry {H : Type} : Lit × DataW H → Nat
  | (.string bytes, d) => bytes.length + uptoBulk d + 1
  | (_, d) => uptoBulk d + 1
 end
def uptoSmall : (H : Type) → List (DataW H) → Bool := fun _ ds => decide (uptoBulkAll ds ≤ 1048576)
def OpenSpec.upto (s : _root_.Go.ChangeSpec) : _root_.Go.OpenSpec := { _root_.Go.OpenSpec.ofChange s with cond := some uptoSmall }

/-- 'laws.FnKContains', WHERE WHAT IT READS IS OF BULK AT MOST 1048576: true; the input reads as it did. -/
def fnKContainsUptoRow : OpenClaim := { program := "ytcpdhkbmfgphpaa", sum := "269e2be4139a266edd209a42d05c3f214467e6776f880831a0f6e2c619772c5a", func := "pub-orthodrome/laws.FnKContains", spec := "fnKContains", inPlace := ["math.archTrunc", "math.Float64bits", "math.Float64frombits"], unfollowed := true, recurses := true, apart := false, narrowed := true }
def FnKContainsUptoSaid : Prop := fnKContainsUptoRow.holds Try.pinned (OpenSpec.upto fnKContainsSpec)

/-- 'laws.FnKNearest', WHERE WHAT IT READS IS OF BULK AT MOST 1048576: true; the input reads as it did. -/
def fnKNearestUptoRow : OpenClaim := { program := "ytcpdhkbmfgphpaa", sum := "269e2be4139a266edd209a42d05c3f214467e6776f880831a0f6e2c619772c5a", func := "pub-orthodrome/laws.FnKNearest", spec := "fnKNearest", inPlace := ["math.archTrunc", "math.Float64bits", "math.Float64frombits", "math.archMin"], unfollowed := true, recurses := true, apart := false, narrowed := true }
def FnKNearestUptoSaid : Prop := fnKNearestUptoRow.holds Try.pinned (OpenSpec.upto fnKNearestSpec)

/-- 'laws.FnKInsert', WHERE WHAT IT READS IS OF BULK AT MOST 1048576: true; the input reads as it did. -/
def fnKInsertUptoRow : OpenClaim := { program := "ytcpdhkbmfgphpaa", sum := "269e2be4139a266edd209a42d05c3f214467e6776f880831a0f6e2c619772c5a", func := "pub-orthodrome/laws.FnKInsert", spec := "fnKInsert", inPlace := ["math.archTrunc", "math.Float64bits", "math.Float64frombits"], unfollowed := true, recurses := true, apart := false, narrowed := true }
def FnKInsertUptoSaid : Prop := fnKInsertUptoRow.holds Try.pinned (OpenSpec.upto fnKInsertSpec)

/-- 'laws.FnKKeepWithin', WHERE WHAT IT READS IS OF BULK AT MOST 1048576: true; the input reads as it did. -/
def fnKKeepWithinUptoRow : OpenClaim := { program := "ytcpdhkbmfgphpaa", sum := "269e2be4139a266edd209a42d05c3f214467e6776f880831a0f6e2c619772c5a", func := "pub-orthodrome/laws.FnKKeepWithin", spec := "fnKKeepWithin", unfollowed := true, recurses := true, apart := false, narrowed := true }
def FnKKeepWithinUptoSaid : Prop := fnKKeepWithinUptoRow.holds Try.pinned (OpenSpec.upto fnKKeepWithinSpec)

end Rows
end Go.Proofs.Ytcpdhkbmfgphpaa
