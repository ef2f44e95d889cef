import Derived.Test.YtkcpjndelcfmhaaDoorHbL
import Derived.Test.YtkcpjndelcfmhaaDoorHbD
import Derived.Test.YtkcpjndelcfmhaaDoorHbE
import Derived.Test.YtkcpjndelcfmhaaDoorHbE2
import Derived.Test.YtkcpjndelcfmhaaDoorHbP2
import Derived.Test.YtkcpjndelcfmhaaDoorHbP3
import Derived.Test.YtkcpjndelcfmhaaDoorHbP4
import Derived.Test.YtkcpjndelcfmhaaDoorHbG2
import Derived.Test.YtkcpjndelcfmhaaDoorHbG3
import Derived.Test.YtkcpjndelcfmhaaDoorHbG4
namespace Go.Proofs.YtkcpjndelcfmhaaDoor
open Go.ChangeShapes Go.WideShapes Go.ChangeAt Go.RowKit Go.GrowR
set_option linter.unusedVariables false
set_option linter.unusedSimpArgs false
def HfQ (w : World) (e : Ending) (w' : World) : Prop := e = .returned (.bool true) ∧ Grow w w'
theorem at2_0 (w : World) : Calls Tryd.prog 3 #[.int .i64 2, .int .i64 0] w (HfQ w) := law2 0 (by omega) (hcoord2 0 (by omega) coord2_0) gray2_0 (fun g w hx => hpos2 0 g (fun g c w hx => pos2_0 g c w hx) w hx) w
theorem at2_1 (w : World) : Calls Tryd.prog 3 #[.int .i64 2, .int .i64 1] w (HfQ w) := law2 1 (by omega) (hcoord2 1 (by omega) coord2_1) gray2_1 (fun g w hx => hpos2 1 g (fun g c w hx => pos2_1 g c w hx) w hx) w
theorem at2_2 (w : World) : Calls Tryd.prog 3 #[.int .i64 2, .int .i64 2] w (HfQ w) := law2 2 (by omega) (hcoord2 2 (by omega) coord2_2) gray2_2 (fun g w hx => hpos2 2 g (fun g c w hx => pos2_2 g c w hx) w hx) w
theorem at2_3 (w : World) : Calls Tryd.prog 3 #[.int .i64 2, .int .i64 3] w (HfQ w) := law2 3 (by omega) (hcoord2 3 (by omega) coord2_3) gray2_3 (fun g w hx => hpos2 3 g (fun g c w hx => pos2_3 g c w hx) w hx) w
theorem at3_0 (w : World) : Calls Tryd.prog 3 #[.int .i64 3, .int .i64 0] w (HfQ w) := law3 0 (by omega) (hcoord3 0 (by omega) coord3_0) gray3_0 (fun g w hx => hpos3 0 g (fun g c w hx => pos3_0 g c w hx) w hx) w
theorem at3_1 (w : World) : Calls Tryd.prog 3 #[.int .i64 3, .int .i64 1] w (HfQ w) := law3 1 (by omega) (hcoord3 1 (by omega) coord3_1) gray3_1 (fun g w hx => hpos3 1 g (fun g c w hx => pos3_1 g c w hx) w hx) w
theorem at3_2 (w : World) : Calls Tryd.prog 3 #[.int .i64 3, .int .i64 2] w (HfQ w) := law3 2 (by omega) (hcoord3 2 (by omega) coord3_2) gray3_2 (fun g w hx => hpos3 2 g (fun g c w hx => pos3_2 g c w hx) w hx) w
theorem at3_3 (w : World) : Calls Tryd.prog 3 #[.int .i64 3, .int .i64 3] w (HfQ w) := law3 3 (by omega) (hcoord3 3 (by omega) coord3_3) gray3_3 (fun g w hx => hpos3 3 g (fun g c w hx => pos3_3 g c w hx) w hx) w
theorem at3_4 (w : World) : Calls Tryd.prog 3 #[.int .i64 3, .int .i64 4] w (HfQ w) := law3 4 (by omega) (hcoord3 4 (by omega) coord3_4) gray3_4 (fun g w hx => hpos3 4 g (fun g c w hx => pos3_4 g c w hx) w hx) w
theorem at3_5 (w : World) : Calls Tryd.prog 3 #[.int .i64 3, .int .i64 5] w (HfQ w) := law3 5 (by omega) (hcoord3 5 (by omega) coord3_5) gray3_5 (fun g w hx => hpos3 5 g (fun g c w hx => pos3_5 g c w hx) w hx) w
theorem at3_6 (w : World) : Calls Tryd.prog 3 #[.int .i64 3, .int .i64 6] w (HfQ w) := law3 6 (by omega) (hcoord3 6 (by omega) coord3_6) gray3_6 (fun g w hx => hpos3 6 g (fun g c w hx => pos3_6 g c w hx) w hx) w
theorem at3_7 (w : World) : Calls Tryd.prog 3 #[.int .i64 3, .int .i64 7] w (HfQ w) := law3 7 (by omega) (hcoord3 7 (by omega) coord3_7) gray3_7 (fun g w hx => hpos3 7 g (fun g c w hx => pos3_7 g c w hx) w hx) w
theorem at4_0 (w : World) : Calls Tryd.prog 3 #[.int .i64 4, .int .i64 0] w (HfQ w) := law4 0 (by omega) (hcoord4 0 (by omega) coord4_0) gray4_0 (fun g w hx => hpos4 0 g (fun g c w hx => pos4_0 g c w hx) w hx) w
theorem at4_1 (w : World) : Calls Tryd.prog 3 #[.int .i64 4, .int .i64 1] w (HfQ w) := law4 1 (by omega) (hcoord4 1 (by omega) coord4_1) gray4_1 (fun g w hx => hpos4 1 g (fun g c w hx => pos4_1 g c w hx) w hx) w
theorem at4_2 (w : World) : Calls Tryd.prog 3 #[.int .i64 4, .int .i64 2] w (HfQ w) := law4 2 (by omega) (hcoord4 2 (by omega) coord4_2) gray4_2 (fun g w hx => hpos4 2 g (fun g c w hx => pos4_2 g c w hx) w hx) w
theorem at4_3 (w : World) : Calls Tryd.prog 3 #[.int .i64 4, .int .i64 3] w (HfQ w) := law4 3 (by omega) (hcoord4 3 (by omega) coord4_3) gray4_3 (fun g w hx => hpos4 3 g (fun g c w hx => pos4_3 g c w hx) w hx) w
theorem at4_4 (w : World) : Calls Tryd.prog 3 #[.int .i64 4, .int .i64 4] w (HfQ w) := law4 4 (by omega) (hcoord4 4 (by omega) coord4_4) gray4_4 (fun g w hx => hpos4 4 g (fun g c w hx => pos4_4 g c w hx) w hx) w
theorem at4_5 (w : World) : Calls Tryd.prog 3 #[.int .i64 4, .int .i64 5] w (HfQ w) := law4 5 (by omega) (hcoord4 5 (by omega) coord4_5) gray4_5 (fun g w hx => hpos4 5 g (fun g c w hx => pos4_5 g c w hx) w hx) w
theorem at4_6 (w : World) : Calls Tryd.prog 3 #[.int .i64 4, .int .i64 6] w (HfQ w) := law4 6 (by omega) (hcoord4 6 (by omega) coord4_6) gray4_6 (fun g w hx => hpos4 6 g (fun g c w hx => pos4_6 g c w hx) w hx) w
theorem at4_7 (w : World) : Calls Tryd.prog 3 #[.int .i64 4, .int .i64 7] w (HfQ w) := law4 7 (by omega) (hcoord4 7 (by omega) coord4_7) gray4_7 (fun g w hx => hpos4 7 g (fun g c w hx => pos4_7 g c w hx) w hx) w
theorem at4_8 (w : World) : Calls Tryd.prog 3 #[.int .i64 4, .int .i64 8] w (HfQ w) := law4 8 (by omega) (hcoord4 8 (by omega) coord4_8) gray4_8 (fun g w hx => hpos4 8 g (fun g c w hx => pos4_8 g c w hx) w hx) w
theorem at4_9 (w : World) : Calls Tryd.prog 3 #[.int .i64 4, .int .i64 9] w (HfQ w) := law4 9 (by omega) (hcoord4 9 (by omega) coord4_9) gray4_9 (fun g w hx => hpos4 9 g (fun g c w hx => pos4_9 g c w hx) w hx) w
theorem at4_10 (w : World) : Calls Tryd.prog 3 #[.int .i64 4, .int .i64 10] w (HfQ w) := law4 10 (by omega) (hcoord4 10 (by omega) coord4_10) gray4_10 (fun g w hx => hpos4 10 g (fun g c w hx => pos4_10 g c w hx) w hx) w
theorem at4_11 (w : World) : Calls Tryd.prog 3 #[.int .i64 4, .int .i64 11] w (HfQ w) := law4 11 (by omega) (hcoord4 11 (by omega) coord4_11) gray4_11 (fun g w hx => hpos4 11 g (fun g c w hx => pos4_11 g c w hx) w hx) w
theorem at4_12 (w : World) : Calls Tryd.prog 3 #[.int .i64 4, .int .i64 12] w (HfQ w) := law4 12 (by omega) (hcoord4 12 (by omega) coord4_12) gray4_12 (fun g w hx => hpos4 12 g (fun g c w hx => pos4_12 g c w hx) w hx) w
theorem at4_13 (w : World) : Calls Tryd.prog 3 #[.int .i64 4, .int .i64 13] w (HfQ w) := law4 13 (by omega) (hcoord4 13 (by omega) coord4_13) gray4_13 (fun g w hx => hpos4 13 g (fun g c w hx => pos4_13 g c w hx) w hx) w
theorem at4_14 (w : World) : Calls Tryd.prog 3 #[.int .i64 4, .int .i64 14] w (HfQ w) := law4 14 (by omega) (hcoord4 14 (by omega) coord4_14) gray4_14 (fun g w hx => hpos4 14 g (fun g c w hx => pos4_14 g c w hx) w hx) w
theorem at4_15 (w : World) : Calls Tryd.prog 3 #[.int .i64 4, .int .i64 15] w (HfQ w) := law4 15 (by omega) (hcoord4 15 (by omega) coord4_15) gray4_15 (fun g w hx => hpos4 15 g (fun g c w hx => pos4_15 g c w hx) w hx) w
set_option maxRecDepth 100000 in
set_option maxHeartbeats 4000000 in
theorem low_calls (d p : Int) (hd : d < 2 ∨ 4 < d) (w : World) : Calls Tryd.prog 3 #[.int .i64 d, .int .i64 p] w (HfQ w) := by
  go_enter Tryd.func3, Tryd.ntmps3
  rcases hd with hd | hd
  · go_wp2
    go_ret
    exact ⟨rfl, Grow.refl w⟩
  · have h2 : ¬ d < 2 := by omega
    go_wp2
    go_ret
    exact ⟨rfl, Grow.refl w⟩
set_option maxRecDepth 100000 in
set_option maxHeartbeats 4000000 in
theorem out2 (p : Int) (hp : p < 0 ∨ 4 ≤ p) (w : World) : Calls Tryd.prog 3 #[.int .i64 2, .int .i64 p] w (HfQ w) := by
  go_enter Tryd.func3, Tryd.ntmps3
  rcases hp with hp | hp
  · go_wp2
    go_ret
    exact ⟨rfl, Grow.refl w⟩
  · have h2 : ¬ p < 0 := by omega
    go_wp2
    go_ret
    exact ⟨rfl, Grow.refl w⟩
theorem all2 (p : Int) (w : World) : Calls Tryd.prog 3 #[.int .i64 2, .int .i64 p] w (HfQ w) := by
  rcases Int.lt_or_le p 0 with h | h
  · exact out2 p (.inl h) w
  rcases Int.lt_or_le p 4 with h2 | h2
  · have hp : p = 0 ∨ p = 1 ∨ p = 2 ∨ p = 3 := by omega
    rcases hp with rfl | rfl | rfl | rfl
    · exact at2_0 w
    · exact at2_1 w
    · exact at2_2 w
    · exact at2_3 w
  · exact out2 p (.inr h2) w
set_option maxRecDepth 100000 in
set_option maxHeartbeats 4000000 in
theorem out3 (p : Int) (hp : p < 0 ∨ 8 ≤ p) (w : World) : Calls Tryd.prog 3 #[.int .i64 3, .int .i64 p] w (HfQ w) := by
  go_enter Tryd.func3, Tryd.ntmps3
  rcases hp with hp | hp
  · go_wp2
    go_ret
    exact ⟨rfl, Grow.refl w⟩
  · have h2 : ¬ p < 0 := by omega
    go_wp2
    go_ret
    exact ⟨rfl, Grow.refl w⟩
theorem all3 (p : Int) (w : World) : Calls Tryd.prog 3 #[.int .i64 3, .int .i64 p] w (HfQ w) := by
  rcases Int.lt_or_le p 0 with h | h
  · exact out3 p (.inl h) w
  rcases Int.lt_or_le p 8 with h2 | h2
  · have hp : p = 0 ∨ p = 1 ∨ p = 2 ∨ p = 3 ∨ p = 4 ∨ p = 5 ∨ p = 6 ∨ p = 7 := by omega
    rcases hp with rfl | rfl | rfl | rfl | rfl | rfl | rfl | rfl
    · exact at3_0 w
    · exact at3_1 w
    · exact at3_2 w
    · exact at3_3 w
    · exact at3_4 w
    · exact at3_5 w
    · exact at3_6 w
    · exact at3_7 w
  · exact out3 p (.inr h2) w
set_option maxRecDepth 100000 in
set_option maxHeartbeats 4000000 in
theorem out4 (p : Int) (hp : p < 0 ∨ 16 ≤ p) (w : World) : Calls Tryd.prog 3 #[.int .i64 4, .int .i64 p] w (HfQ w) := by
  go_enter Tryd.func3, Tryd.ntmps3
  rcases hp with hp | hp
  · go_wp2
    go_ret
    exact ⟨rfl, Grow.refl w⟩
  · have h2 : ¬ p < 0 := by omega
    go_wp2
    go_ret
    exact ⟨rfl, Grow.refl w⟩
theorem all4 (p : Int) (w : World) : Calls Tryd.prog 3 #[.int .i64 4, .int .i64 p] w (HfQ w) := by
  rcases Int.lt_or_le p 0 with h | h
  · exact out4 p (.inl h) w
  rcases Int.lt_or_le p 16 with h2 | h2
  · have hp : p = 0 ∨ p = 1 ∨ p = 2 ∨ p = 3 ∨ p = 4 ∨ p = 5 ∨ p = 6 ∨ p = 7 ∨ p = 8 ∨ p = 9 ∨ p = 10 ∨ p = 11 ∨ p = 12 ∨ p = 13 ∨ p = 14 ∨ p = 15 := by omega
    rcases hp with rfl | rfl | rfl | rfl | rfl | rfl | rfl | rfl | rfl | rfl | rfl | rfl | rfl | rfl | rfl | rfl
    · exact at4_0 w
    · exact at4_1 w
    · exact at4_2 w
    · exact at4_3 w
    · exact at4_4 w
    · exact at4_5 w
    · exact at4_6 w
    · exact at4_7 w
    · exact at4_8 w
    · exact at4_9 w
    · exact at4_10 w
    · exact at4_11 w
    · exact at4_12 w
    · exact at4_13 w
    · exact at4_14 w
    · exact at4_15 w
  · exact out4 p (.inr h2) w
theorem law_calls (d p : Int) (w : World) : Calls Tryd.prog 3 #[.int .i64 d, .int .i64 p] w fun e w' => e = .returned (.bool true) ∧ Grow w w' := by
  rcases Int.lt_or_le d 2 with h | h
  · exact low_calls d p (.inl h) w
  rcases Int.lt_or_le 4 d with h4 | h4
  · exact low_calls d p (.inr h4) w
  have hd : d = 2 ∨ d = 3 ∨ d = 4 := by omega
  rcases hd with rfl | rfl | rfl
  · exact all2 p w
  · exact all3 p w
  · exact all4 p w
end Go.Proofs.YtkcpjndelcfmhaaDoor
