/-
  NARROWER THAN 'FOR EVERY INPUT', by the rows' own cells (each row's printed sentence says how): FnHilbertFirst: laid.
  DERIVED. THE GIVEN ROWS OF THIS SEAT. 1 by the template 'for every input the law returns true; each argument reads behind the call as it read before'; 0 by the template 'total and deterministic' (their statements: YtkcpjndelcfmhaaDoorTotals.lean).
  GIVEN WITH THE SEED: the statements are not yours to turn. If you find one false, say at which input.
  Laid BY PROGRAM, IN A SANDBOX (cutbox-rows.mjs): the forced cells as the released guide's own fill.sh prints them over the translation 0f8493ba77c5283f… (all of the seat's roots in one cut). By AI agents, Wed Nov 11 2026. No macro, syntax, notation, axiom, sorry.
-/
import Derived.Test.YtkcpjndelcfmhaaDoorChecked
import GoSem.Claim
import GoSem.ClaimJoined
import GoSem.ClaimMapViews
import Derived.JoinedTies
import Derived.KernelRfl
namespace Go.Proofs.YtkcpjndelcfmhaaDoor
/- THE CELL 'sum', in the pinned program and in every row, IS THE sha256 OF THE DUMP (.gsa) THAT YtkcpjndelcfmhaaDoorProg.lean LOADS. Nothing in Lean hashes anything: it is a label: what it is worth is what the hold of that sum in a sandbox is worth. -/
noncomputable def Tryd.pinned : Pinned := { name := "ytkcpjndelcfmhaadoor", sum := "0f8493ba77c5283f8942ae65a3634f4b7647f7771185e163fab4ab0cb667ff1f", checked := Tryd.checked }
namespace Rows
def none {H : Type} : Left H := { results := [], args := [] }

/- WHAT THE LISTED PACKAGE-LEVEL VARIABLES READ AS WHEN THE CALL BEGINS. Each datum BY PROGRAM (the guide's laid-datum.mjs) off the statement by which the dump's own 'gosem.cut.vars' lays the variable. In a bare row this is a premise. The card (YtkcpjndelcfmhaaDoorCards.lean) ties it to the program's text. -/
def laid_pub_orthodrome_pub_gonum_spatial_curve_ErrUnderflow {H : Type} : DataW H := .iface "*errors.errorString" (.ptr (.agg [.lit (.string [111, 114, 100, 101, 114, 32, 105, 115, 32, 108, 101, 115, 115, 32, 116, 104, 97, 110, 32, 49])]))
def laid_pub_orthodrome_pub_gonum_spatial_curve_ErrOverflow {H : Type} : DataW H := .iface "*errors.errorString" (.ptr (.agg [.lit (.string [111, 118, 101, 114, 102, 108, 111, 119, 32, 105, 110, 116])]))

/-- 'laws.FnHilbertFirst': WHATEVER THE INPUT: true; the input reads as it did. -/
def fnHilbertFirstSpec : ChangeSpec := { name := "fnHilbertFirst", fn := fun _ => fun
  | [d1, d2] => { results := [.lit (.bool true)], args := [d1, d2] }
  | _ => none }
def fnHilbertFirstRow : OpenClaim := { program := "ytkcpjndelcfmhaadoor", sum := "0f8493ba77c5283f8942ae65a3634f4b7647f7771185e163fab4ab0cb667ff1f", func := "pub-orthodrome/laws.FnHilbertFirst", spec := "fnHilbertFirst", unfollowed := true, recurses := true, named := ["pub-orthodrome/pub/gonum/spatial/curve.ErrUnderflow", "pub-orthodrome/pub/gonum/spatial/curve.ErrOverflow"], apart := false, laid := [("pub-orthodrome/pub/gonum/spatial/curve.ErrUnderflow", laid_pub_orthodrome_pub_gonum_spatial_curve_ErrUnderflow), ("pub-orthodrome/pub/gonum/spatial/curve.ErrOverflow", laid_pub_orthodrome_pub_gonum_spatial_curve_ErrOverflow)] }
def FnHilbertFirstSaid : Prop := fnHilbertFirstRow.holds Tryd.pinned (OpenSpec.ofChange fnHilbertFirstSpec)

/-- ITS FALSE NEIGHBOUR: 'it returns false'. Refute it at one input. -/
def fnHilbertFirstWrong : ChangeSpec := { name := "fnHilbertFirst", fn := fun _ => fun
  | [d1, d2] => { results := [.lit (.bool false)], args := [d1, d2] }
  | _ => none }
def FnHilbertFirstWrongFalsely : Prop := fnHilbertFirstRow.holds Tryd.pinned (OpenSpec.ofChange fnHilbertFirstWrong)

/- THE SECOND FORM. 'bulk': how many values and letters a reading holds, each counted each time it is reached (what is shared counts as often as it is met; a slice's spare places count too). A statement '..UptoSaid' is the law's where the arguments, and the package variables that the reading takes, are together of bulk at most 1048576: NARROWER than '..Said'. Prove '..Said' where nothing that the law and all that it calls make is longer than what came in: it says more and counts as full. Else prove '..UptoSaid'. A law counts once. -/
mutual
def uptoBulk {H : Type} : DataW H → Nat
  | .lit (.string bytes) => bytes.length + 1
  | .lit _ => 1
  | .nil => 1
  | .ptr d => uptoBulk d + 1
  | .slice elems spare => uptoBulkAll elems + uptoBulkAll spare + 1
  | .agg parts => uptoBulkAll parts + 1
  | .iface _ d => uptoBulk d + 1
  | .map entries => uptoBulkEntries entries + 1
  | .held _ => 1
def uptoBulkAll {H : Type} : List (DataW H) → Nat
  | [] => 0
  | d :: r => uptoBulk d + uptoBulkAll r
def uptoBulkEntries {H : Type} : List (Lit × DataW H) → Nat
  | [] => 0
  | x :: r => uptoBulkEntry x + uptoBulkEntries r
def uptoBulkEntry {H : Type} : Lit × DataW H → Nat
  | (.string bytes, d) => bytes.length + uptoBulk d + 1
  | (_, d) => uptoBulk d + 1
 end
def uptoSmall : (H : Type) → List (DataW H) → Bool := fun _ ds => decide (uptoBulkAll ds ≤ 1048576)
def OpenSpec.upto (s : _root_.Go.ChangeSpec) : _root_.Go.OpenSpec := { _root_.Go.OpenSpec.ofChange s with cond := some uptoSmall }

/-- 'laws.FnHilbertFirst', WHERE WHAT IT READS IS OF BULK AT MOST 1048576: true; the input reads as it did. -/
def fnHilbertFirstUptoRow : OpenClaim := { program := "ytkcpjndelcfmhaadoor", sum := "0f8493ba77c5283f8942ae65a3634f4b7647f7771185e163fab4ab0cb667ff1f", func := "pub-orthodrome/laws.FnHilbertFirst", spec := "fnHilbertFirst", unfollowed := true, recurses := true, named := ["pub-orthodrome/pub/gonum/spatial/curve.ErrUnderflow", "pub-orthodrome/pub/gonum/spatial/curve.ErrOverflow"], apart := false, laid := [("pub-orthodrome/pub/gonum/spatial/curve.ErrUnderflow", laid_pub_orthodrome_pub_gonum_spatial_curve_ErrUnderflow), ("pub-orthodrome/pub/gonum/spatial/curve.ErrOverflow", laid_pub_orthodrome_pub_gonum_spatial_curve_ErrOverflow)], narrowed := true }
def FnHilbertFirstUptoSaid : Prop := fnHilbertFirstUptoRow.holds Tryd.pinned (OpenSpec.upto fnHilbertFirstSpec)

end Rows
end Go.Proofs.YtkcpjndelcfmhaaDoor
