/-
  NARROWER THAN 'FOR EVERY INPUT', by the rows' own cells (each row's printed sentence says how): FnMatOuter: laid · FnMatMul: laid · FnMatThree: laid.
  DERIVED. THE GIVEN ROWS OF THIS SEAT. 3 by the template 'for every input the law returns true; each argument reads behind the call as it read before'; 0 by the template 'total and deterministic' (their statements: YtpnmcmpeecpjeaaDoorTotals.lean).
  GIVEN WITH THE SEED: the statements are not yours to turn. If you find one false, say at which input.
  Laid BY PROGRAM, IN A SANDBOX (cutbox-rows.mjs): the forced cells as the released guide's own fill.sh prints them over the translation f5e699699d122585… (all of the seat's roots in one cut). By AI agents, Wed Nov 11 2026. No macro, syntax, notation, axiom, sorry.
-/
import Derived.Test.YtpnmcmpeecpjeaaDoorChecked
import GoSem.Claim
import GoSem.ClaimJoined
import GoSem.ClaimMapViews
import Derived.JoinedTies
import Derived.KernelRfl
namespace Go.Proofs.YtpnmcmpeecpjeaaDoor
/- THE CELL 'sum', in the pinned program and in every row, IS THE sha256 OF THE DUMP (.gsa) THAT YtpnmcmpeecpjeaaDoorProg.lean LOADS. Nothing in Lean hashes anything: it is a label: what it is worth is what the hold of that sum in a sandbox is worth. -/
noncomputable def Tryd.pinned : Pinned := { name := "ytpnmcmpeecpjeaadoor", sum := "f5e699699d12258553081fb4c40df54af48fb461773eff4b77a0fae977605dcb", checked := Tryd.checked }
namespace Rows
def none {H : Type} : Left H := { results := [], args := [] }

/- WHAT THE LISTED PACKAGE-LEVEL VARIABLES READ AS WHEN THE CALL BEGINS. Each datum BY PROGRAM (the guide's laid-datum.mjs) off the statement by which the dump's own 'gosem.cut.vars' lays the variable. In a bare row this is a premise. The card (YtpnmcmpeecpjeaaDoorCards.lean) ties it to the program's text. -/
def laid_pub_orthodrome_pub_gonum_mat_ErrRowAccess {H : Type} : DataW H := .agg [.lit (.string [109, 97, 116, 58, 32, 114, 111, 119, 32, 105, 110, 100, 101, 120, 32, 111, 117, 116, 32, 111, 102, 32, 114, 97, 110, 103, 101])]
def laid_pub_orthodrome_pub_gonum_mat_ErrColAccess {H : Type} : DataW H := .agg [.lit (.string [109, 97, 116, 58, 32, 99, 111, 108, 117, 109, 110, 32, 105, 110, 100, 101, 120, 32, 111, 117, 116, 32, 111, 102, 32, 114, 97, 110, 103, 101])]
def laid_pub_orthodrome_pub_gonum_mat_ErrShape {H : Type} : DataW H := .agg [.lit (.string [109, 97, 116, 58, 32, 100, 105, 109, 101, 110, 115, 105, 111, 110, 32, 109, 105, 115, 109, 97, 116, 99, 104])]

/-- 'laws.FnMatOuter': WHATEVER THE INPUT: true; the input reads as it did. -/
def fnMatOuterSpec : ChangeSpec := { name := "fnMatOuter", fn := fun _ => fun
  | [d1, d2, d3] => { results := [.lit (.bool true)], args := [d1, d2, d3] }
  | _ => none }
def fnMatOuterRow : OpenClaim := { program := "ytpnmcmpeecpjeaadoor", sum := "f5e699699d12258553081fb4c40df54af48fb461773eff4b77a0fae977605dcb", func := "pub-orthodrome/laws.FnMatOuter", spec := "fnMatOuter", inPlace := ["math.archTrunc", "math.Float64bits", "math.Float64frombits"], named := ["pub-orthodrome/pub/gonum/mat.ErrRowAccess", "pub-orthodrome/pub/gonum/mat.ErrColAccess"], apart := false, laid := [("pub-orthodrome/pub/gonum/mat.ErrRowAccess", laid_pub_orthodrome_pub_gonum_mat_ErrRowAccess), ("pub-orthodrome/pub/gonum/mat.ErrColAccess", laid_pub_orthodrome_pub_gonum_mat_ErrColAccess)] }
def FnMatOuterSaid : Prop := fnMatOuterRow.holds Tryd.pinned (OpenSpec.ofChange fnMatOuterSpec)

/-- ITS FALSE NEIGHBOUR: 'it returns false'. Refute it at one input. -/
def fnMatOuterWrong : ChangeSpec := { name := "fnMatOuter", fn := fun _ => fun
  | [d1, d2, d3] => { results := [.lit (.bool false)], args := [d1, d2, d3] }
  | _ => none }
def FnMatOuterWrongFalsely : Prop := fnMatOuterRow.holds Tryd.pinned (OpenSpec.ofChange fnMatOuterWrong)

/-- 'laws.FnMatMul': WHATEVER THE INPUT: true; the input reads as it did. -/
def fnMatMulSpec : ChangeSpec := { name := "fnMatMul", fn := fun _ => fun
  | [d1, d2] => { results := [.lit (.bool true)], args := [d1, d2] }
  | _ => none }
def fnMatMulRow : OpenClaim := { program := "ytpnmcmpeecpjeaadoor", sum := "f5e699699d12258553081fb4c40df54af48fb461773eff4b77a0fae977605dcb", func := "pub-orthodrome/laws.FnMatMul", spec := "fnMatMul", inPlace := ["math.archTrunc", "math.Float64bits", "math.Float64frombits"], unfollowed := true, recurses := true, named := ["pub-orthodrome/pub/gonum/mat.ErrShape", "pub-orthodrome/pub/gonum/mat.ErrRowAccess", "pub-orthodrome/pub/gonum/mat.ErrColAccess"], apart := false, laid := [("pub-orthodrome/pub/gonum/mat.ErrRowAccess", laid_pub_orthodrome_pub_gonum_mat_ErrRowAccess), ("pub-orthodrome/pub/gonum/mat.ErrColAccess", laid_pub_orthodrome_pub_gonum_mat_ErrColAccess), ("pub-orthodrome/pub/gonum/mat.ErrShape", laid_pub_orthodrome_pub_gonum_mat_ErrShape)] }
def FnMatMulSaid : Prop := fnMatMulRow.holds Tryd.pinned (OpenSpec.ofChange fnMatMulSpec)

/-- ITS FALSE NEIGHBOUR: 'it returns false'. Refute it at one input. -/
def fnMatMulWrong : ChangeSpec := { name := "fnMatMul", fn := fun _ => fun
  | [d1, d2] => { results := [.lit (.bool false)], args := [d1, d2] }
  | _ => none }
def FnMatMulWrongFalsely : Prop := fnMatMulRow.holds Tryd.pinned (OpenSpec.ofChange fnMatMulWrong)

/-- 'laws.FnMatThree': WHATEVER THE INPUT: true; the input reads as it did. -/
def fnMatThreeSpec : ChangeSpec := { name := "fnMatThree", fn := fun _ => fun
  | [d1, d2, d3] => { results := [.lit (.bool true)], args := [d1, d2, d3] }
  | _ => none }
def fnMatThreeRow : OpenClaim := { program := "ytpnmcmpeecpjeaadoor", sum := "f5e699699d12258553081fb4c40df54af48fb461773eff4b77a0fae977605dcb", func := "pub-orthodrome/laws.FnMatThree", spec := "fnMatThree", inPlace := ["math.archTrunc", "math.Float64bits", "math.Float64frombits"], unfollowed := true, recurses := true, named := ["pub-orthodrome/pub/gonum/mat.ErrShape", "pub-orthodrome/pub/gonum/mat.ErrRowAccess", "pub-orthodrome/pub/gonum/mat.ErrColAccess"], apart := false, laid := [("pub-orthodrome/pub/gonum/mat.ErrRowAccess", laid_pub_orthodrome_pub_gonum_mat_ErrRowAccess), ("pub-orthodrome/pub/gonum/mat.ErrColAccess", laid_pub_orthodrome_pub_gonum_mat_ErrColAccess), ("pub-orthodrome/pub/gonum/mat.ErrShape", laid_pub_orthodrome_pub_gonum_mat_ErrShape)] }
def FnMatThreeSaid : Prop := fnMatThreeRow.holds Tryd.pinned (OpenSpec.ofChange fnMatThreeSpec)

/-- ITS FALSE NEIGHBOUR: 'it returns false'. Refute it at one input. -/
def fnMatThreeWrong : ChangeSpec := { name := "fnMatThree", fn := fun _ => fun
  | [d1, d2, d3] => { results := [.lit (.bool false)], args := [d1, d2, d3] }
  | _ => none }
def FnMatThreeWrongFalsely : Prop := fnMatThreeRow.holds Tryd.pinned (OpenSpec.ofChange fnMatThreeWrong)

/- THE SECOND FORM. 'bulk': how many values and letters a reading holds, each counted each time it is reached (what is shared counts as often as it is met; a slice's spare places count too). A statement '..UptoSaid' is the law's where the arguments, and the package variables that the reading takes, are together of bulk at most 1048576: NARROWER than '..Said'. Prove '..Said' where nothing that the law and all that it calls make is longer than what came in: it says more and counts as full. Else prove '..UptoSaid'. A law counts once. -/
mutual
def uptoBulk {H : Type} : DataW H → Nat
  | .lit (.string bytes) => bytes.length + 1
  | .lit _ => 1
  | .nil => 1
  | .ptr d => uptoBulk d + 1
  | .slice elems spare => uptoBulkAll elems + uptoBulkAll spare + 1
  | .agg parts => uptoBulkAll parts + 1
  | .iface _ d => uptoBulk d + 1
  | .map entries => uptoBulkEntries entries + 1
  | .held _ => 1
def uptoBulkAll {H : Type} : List (DataW H) → Nat
  | [] => 0
  | d :: r => uptoBulk d + uptoBulkAll r
def uptoBulkEntries {H : Type} : List (Lit × DataW H) → Nat
  | [] => 0
  | x :: r => uptoBulkEntry x + uptoBulkEntries r
def uptoBulkEntry {H : Type} : Lit × DataW H → Nat
  | (.string bytes, d) => bytes.length + uptoBulk d + 1
  | (_, d) => uptoBulk d + 1
 end
def uptoSmall : (H : Type) → List (DataW H) → Bool := fun _ ds => decide (uptoBulkAll ds ≤ 1048576)
def OpenSpec.upto (s : _root_.Go.ChangeSpec) : _root_.Go.OpenSpec := { _root_.Go.OpenSpec.ofChange s with cond := some uptoSmall }

/-- 'laws.FnMatOuter', WHERE WHAT IT READS IS OF BULK AT MOST 1048576: true; the input reads as it did. -/
def fnMatOuterUptoRow : OpenClaim := { program := "ytpnmcmpeecpjeaadoor", sum := "f5e699699d12258553081fb4c40df54af48fb461773eff4b77a0fae977605dcb", func := "pub-orthodrome/laws.FnMatOuter", spec := "fnMatOuter", inPlace := ["math.archTrunc", "math.Float64bits", "math.Float64frombits"], named := ["pub-orthodrome/pub/gonum/mat.ErrRowAccess", "pub-orthodrome/pub/gonum/mat.ErrColAccess"], apart := false, laid := [("pub-orthodrome/pub/gonum/mat.ErrRowAccess", laid_pub_orthodrome_pub_gonum_mat_ErrRowAccess), ("pub-orthodrome/pub/gonum/mat.ErrColAccess", laid_pub_orthodrome_pub_gonum_mat_ErrColAccess)], narrowed := true }
def FnMatOuterUptoSaid : Prop := fnMatOuterUptoRow.holds Tryd.pinned (OpenSpec.upto fnMatOuterSpec)

/-- 'laws.FnMatMul', WHERE WHAT IT READS IS OF BULK AT MOST 1048576: true; the input reads as it did. -/
def fnMatMulUptoRow : OpenClaim := { program := "ytpnmcmpeecpjeaadoor", sum := "f5e699699d12258553081fb4c40df54af48fb461773eff4b77a0fae977605dcb", func := "pub-orthodrome/laws.FnMatMul", spec := "fnMatMul", inPlace := ["math.archTrunc", "math.Float64bits", "math.Float64frombits"], unfollowed := true, recurses := true, named := ["pub-orthodrome/pub/gonum/mat.ErrShape", "pub-orthodrome/pub/gonum/mat.ErrRowAccess", "pub-orthodrome/pub/gonum/mat.ErrColAccess"], apart := false, laid := [("pub-orthodrome/pub/gonum/mat.ErrRowAccess", laid_pub_orthodrome_pub_gonum_mat_ErrRowAccess), ("pub-orthodrome/pub/gonum/mat.ErrColAccess", laid_pub_orthodrome_pub_gonum_mat_ErrColAccess), ("pub-orthodrome/pub/gonum/mat.ErrShape", laid_pub_orthodrome_pub_gonum_mat_ErrShape)], narrowed := true }
def FnMatMulUptoSaid : Prop := fnMatMulUptoRow.holds Tryd.pinned (OpenSpec.upto fnMatMulSpec)

/-- 'laws.FnMatThree', WHERE WHAT IT READS IS OF BULK AT MOST 1048576: true; the input reads as it did. -/
def fnMatThreeUptoRow : OpenClaim := { program := "ytpnmcmpeecpjeaadoor", sum := "f5e699699d12258553081fb4c40df54af48fb461773eff4b77a0fae977605dcb", func := "pub-orthodrome/laws.FnMatThree", spec := "fnMatThree", inPlace := ["math.archTrunc", "math.Float64bits", "math.Float64frombits"], unfollowed := true, recurses := true, named := ["pub-orthodrome/pub/gonum/mat.ErrShape", "pub-orthodrome/pub/gonum/mat.ErrRowAccess", "pub-orthodrome/pub/gonum/mat.ErrColAccess"], apart := false, laid := [("pub-orthodrome/pub/gonum/mat.ErrRowAccess", laid_pub_orthodrome_pub_gonum_mat_ErrRowAccess), ("pub-orthodrome/pub/gonum/mat.ErrColAccess", laid_pub_orthodrome_pub_gonum_mat_ErrColAccess), ("pub-orthodrome/pub/gonum/mat.ErrShape", laid_pub_orthodrome_pub_gonum_mat_ErrShape)], narrowed := true }
def FnMatThreeUptoSaid : Prop := fnMatThreeUptoRow.holds Tryd.pinned (OpenSpec.upto fnMatThreeSpec)

end Rows
end Go.Proofs.YtpnmcmpeecpjeaaDoor
