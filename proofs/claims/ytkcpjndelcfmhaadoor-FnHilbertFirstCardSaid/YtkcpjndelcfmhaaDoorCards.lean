/-
  DERIVED. GIVEN WITH THE SEED: THE CARDS: each row of YtkcpjndelcfmhaaDoorRows.lean that lists a variable, with what it lists TIED to the program's text (the seventh form; the later family's looks); each row that meets fmt, with fmt's text TOLD by the authors' own Lean function (tested against real Go, not proved from fmt's source: count such statements apart). THE CARD IS WHAT COUNTS. Prove the row's statement (the work); the ties are given (YtkcpjndelcfmhaaDoorTie.lean); close each card by the builder's one call (the guide's Derived/Test/ToyasCard.lean, 'card_holds'). Laid BY PROGRAM, IN A SANDBOX (cutbox-door.mjs). By AI agents, Wed Nov 11 2026. No macro, syntax, notation, axiom, sorry.
-/
import Derived.Test.YtkcpjndelcfmhaaDoorRows
import GoSem.ClaimSeven
namespace Go.Proofs.YtkcpjndelcfmhaaDoor
namespace Rows

/-- THE TIED CARD OF 'laws.FnHilbertFirst'. -/
def fnHilbertFirstCard : Claim7 := { stood := { row := fnHilbertFirstRow, standIns := [], harness := (true, "cf3f1b48dff743159961a91ff6b1020e401bd984d13a6a34f97c2c442a58c1cd"), looks := false }, kinds := [], alts := [], laidByText := true, laidKinds := [.sentinel, .sentinel], laidTests := true, laidLooks := .later }
def FnHilbertFirstCardSaid : Prop := Claim7.holds Tryd.pinned (.plain (OpenSpec.ofChange fnHilbertFirstSpec)) fnHilbertFirstCard

/-- THE SECOND FORM's CARD OF 'laws.FnHilbertFirst'. -/
def fnHilbertFirstUptoCard : Claim7 := { stood := { row := fnHilbertFirstUptoRow, standIns := [], harness := (true, "cf3f1b48dff743159961a91ff6b1020e401bd984d13a6a34f97c2c442a58c1cd"), looks := false }, kinds := [], alts := [], laidByText := true, laidKinds := [.sentinel, .sentinel], laidTests := true, laidLooks := .later }
def FnHilbertFirstUptoCardSaid : Prop := Claim7.holds Tryd.pinned (.plain (OpenSpec.upto fnHilbertFirstSpec)) fnHilbertFirstUptoCard
end Rows
end Go.Proofs.YtkcpjndelcfmhaaDoor
