/-
  DERIVED. GIVEN WITH THE SEED: THE CARDS: each row of YtpnmcmpeecpjeaaDoorRows.lean that lists a variable, with what it lists TIED to the program's text (the seventh form; the later family's looks); each row that meets fmt, with fmt's text TOLD by the authors' own Lean function (tested against real Go, not proved from fmt's source: count such statements apart). THE CARD IS WHAT COUNTS. Prove the row's statement (the work); the ties are given (YtpnmcmpeecpjeaaDoorTie.lean); close each card by the builder's one call (the guide's Derived/Test/ToyasCard.lean, 'card_holds'). Laid BY PROGRAM, IN A SANDBOX (cutbox-door.mjs). By AI agents, Wed Nov 11 2026. No macro, syntax, notation, axiom, sorry.
-/
import Derived.Test.YtpnmcmpeecpjeaaDoorRows
import GoSem.ClaimSeven
namespace Go.Proofs.YtpnmcmpeecpjeaaDoor
namespace Rows

/-- THE TIED CARD OF 'laws.FnMatOuter'. -/
def fnMatOuterCard : Claim7 := { stood := { row := fnMatOuterRow, standIns := [], harness := (true, "ef0bf4a24de0e053d9cb8bd9a457dc4c84040d7f02754094871edf04234ead7b"), looks := false }, kinds := [], alts := [], laidByText := true, laidKinds := [.data, .data], laidTests := true, laidLooks := .later }
def FnMatOuterCardSaid : Prop := Claim7.holds Tryd.pinned (.plain (OpenSpec.ofChange fnMatOuterSpec)) fnMatOuterCard

/-- THE TIED CARD OF 'laws.FnMatMul'. -/
def fnMatMulCard : Claim7 := { stood := { row := fnMatMulRow, standIns := [], harness := (true, "ef0bf4a24de0e053d9cb8bd9a457dc4c84040d7f02754094871edf04234ead7b"), looks := false }, kinds := [], alts := [], laidByText := true, laidKinds := [.data, .data, .data], laidTests := true, laidLooks := .later }
def FnMatMulCardSaid : Prop := Claim7.holds Tryd.pinned (.plain (OpenSpec.ofChange fnMatMulSpec)) fnMatMulCard

/-- THE TIED CARD OF 'laws.FnMatThree'. -/
def fnMatThreeCard : Claim7 := { stood := { row := fnMatThreeRow, standIns := [], harness := (true, "ef0bf4a24de0e053d9cb8bd9a457dc4c84040d7f02754094871edf04234ead7b"), looks := false }, kinds := [], alts := [], laidByText := true, laidKinds := [.data, .data, .data], laidTests := true, laidLooks := .later }
def FnMatThreeCardSaid : Prop := Claim7.holds Tryd.pinned (.plain (OpenSpec.ofChange fnMatThreeSpec)) fnMatThreeCard

/-- THE SECOND FORM's CARD OF 'laws.FnMatOuter'. -/
def fnMatOuterUptoCard : Claim7 := { stood := { row := fnMatOuterUptoRow, standIns := [], harness := (true, "ef0bf4a24de0e053d9cb8bd9a457dc4c84040d7f02754094871edf04234ead7b"), looks := false }, kinds := [], alts := [], laidByText := true, laidKinds := [.data, .data], laidTests := true, laidLooks := .later }
def FnMatOuterUptoCardSaid : Prop := Claim7.holds Tryd.pinned (.plain (OpenSpec.upto fnMatOuterSpec)) fnMatOuterUptoCard

/-- THE SECOND FORM's CARD OF 'laws.FnMatMul'. -/
def fnMatMulUptoCard : Claim7 := { stood := { row := fnMatMulUptoRow, standIns := [], harness := (true, "ef0bf4a24de0e053d9cb8bd9a457dc4c84040d7f02754094871edf04234ead7b"), looks := false }, kinds := [], alts := [], laidByText := true, laidKinds := [.data, .data, .data], laidTests := true, laidLooks := .later }
def FnMatMulUptoCardSaid : Prop := Claim7.holds Tryd.pinned (.plain (OpenSpec.upto fnMatMulSpec)) fnMatMulUptoCard

/-- THE SECOND FORM's CARD OF 'laws.FnMatThree'. -/
def fnMatThreeUptoCard : Claim7 := { stood := { row := fnMatThreeUptoRow, standIns := [], harness := (true, "ef0bf4a24de0e053d9cb8bd9a457dc4c84040d7f02754094871edf04234ead7b"), looks := false }, kinds := [], alts := [], laidByText := true, laidKinds := [.data, .data, .data], laidTests := true, laidLooks := .later }
def FnMatThreeUptoCardSaid : Prop := Claim7.holds Tryd.pinned (.plain (OpenSpec.upto fnMatThreeSpec)) fnMatThreeUptoCard
end Rows
end Go.Proofs.YtpnmcmpeecpjeaaDoor
