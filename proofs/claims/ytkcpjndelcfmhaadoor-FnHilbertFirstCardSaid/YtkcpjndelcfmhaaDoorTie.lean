/-
  DERIVED. GIVEN WITH THE SEED: THE PROGRAM's TIES (one call each: nine closed facts by the kernel) AND EACH ROW's TIE, after the 31st guide's Derived/Test/Toyas{Tie, Card}.lean. No idea stands in it: it is a product of the set-up. Laid BY PROGRAM, IN A SANDBOX (cutbox-door.mjs). By AI agents, Wed Nov 11 2026. No macro, syntax, notation, axiom, sorry.
-/
import Derived.Test.YtkcpjndelcfmhaaDoorRows
import Derived.LaidByTextLater
import Derived.SevenTiedAt
import Derived.LaidSub
import Derived.LaidOnce
namespace Go.Proofs.YtkcpjndelcfmhaaDoor
open Go
set_option maxRecDepth 100000
theorem seatTie1 : Tryd.prog.laidByTextLater [("pub-orthodrome/pub/gonum/spatial/curve.ErrUnderflow", Rows.laid_pub_orthodrome_pub_gonum_spatial_curve_ErrUnderflow), ("pub-orthodrome/pub/gonum/spatial/curve.ErrOverflow", Rows.laid_pub_orthodrome_pub_gonum_spatial_curve_ErrOverflow)] [.sentinel, .sentinel] true :=
  Program.laidByTextLater_by_one 47 8 2 (by kernel_rfl) (by kernel_rfl) (by kernel_rfl) (by kernel_rfl) (by kernel_rfl) (by kernel_rfl) (fun _ _ => by kernel_rfl)
theorem noOwnUnsafe : Tryd.pinned.checked.prog.headLifts.contains "ownunsafe" = false := by kernel_rfl
theorem tie : Tryd.prog.laidByTextLater [("pub-orthodrome/pub/gonum/spatial/curve.ErrUnderflow", Rows.laid_pub_orthodrome_pub_gonum_spatial_curve_ErrUnderflow), ("pub-orthodrome/pub/gonum/spatial/curve.ErrOverflow", Rows.laid_pub_orthodrome_pub_gonum_spatial_curve_ErrOverflow)] [.sentinel, .sentinel] true :=
  Program.laidByTextLater.sub seatTie1 ["pub-orthodrome/pub/gonum/spatial/curve.ErrUnderflow", "pub-orthodrome/pub/gonum/spatial/curve.ErrOverflow"] (by kernel_rfl) (by kernel_rfl)
theorem fnHilbertFirst_row_tie : Rows.fnHilbertFirstRow.laidByTextAt .later Tryd.pinned [.sentinel, .sentinel] true :=
  OpenClaim.laidByTextAt_later rfl rfl tie noOwnUnsafe
theorem fnHilbertFirstUpto_row_tie : Rows.fnHilbertFirstUptoRow.laidByTextAt .later Tryd.pinned [.sentinel, .sentinel] true :=
  OpenClaim.laidByTextAt_later rfl rfl tie noOwnUnsafe
end Go.Proofs.YtkcpjndelcfmhaaDoor
