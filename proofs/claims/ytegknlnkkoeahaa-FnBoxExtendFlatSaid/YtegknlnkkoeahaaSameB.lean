import Derived.Test.YtegknlnkkoeahaaBoxA
import Derived.Test.YtegknlnkkoeahaaExtC
import Derived.Deep.QuietTactic
import Derived.BigQuiet
namespace Go.Proofs.Ytegknlnkkoeahaa
open Go.ChangeShapes Go.WideShapes Go.ChangeAt Go.RowKit Go.GrowR
set_option linter.unusedVariables false
set_option linter.unusedSimpArgs false
theorem FSl.at {u : Value} {xs : List Nat} {w : World} {s : Nat} (h : FSl u xs w) (hs : xs.length = s) (hp : 0 < s) : ∃ b o c, u = .slice (some ⟨b, o, none⟩) s c ∧ FCells w b o xs := by
  obtain ⟨A, c, rfl, -, h0 | ⟨b, o, rfl, hc⟩⟩ := h
  · rw [h0] at hs; simp at hs; omega
  · exact ⟨b, o, c, by rw [hs], hc⟩
set_option maxRecDepth 100000 in
set_option maxHeartbeats 4000000 in
theorem sameBox_calls (n : Int) (s : Nat) (u v u' v' : Value) (xs ys xs' ys' : List Nat) (w : World) (hu : FSl u xs w) (hv : FSl v ys w) (hu' : FSl u' xs' w) (hv' : FSl v' ys' w) (l1 : xs.length = s) (l2 : ys.length = s) (l3 : xs'.length = s) (l4 : ys'.length = s) (hs : 0 < s) (hs9 : s ≤ 9)
    (hx : Fl.XL xs xs') (hy : Fl.XL ys ys') : Calls Try.prog 24 #[BxV n u v, BxV n u' v'] w fun e w' => e = .returned (.bool true) ∧ Grow w w' := by
  obtain ⟨b1, o1, c1, rfl, k1⟩ := FSl.at hu l1 hs
  obtain ⟨b2, o2, c2, rfl, k2⟩ := FSl.at hv l2 hs
  obtain ⟨b3, o3, c3, rfl, k3⟩ := FSl.at hu' l3 hs
  obtain ⟨b4, o4, c4, rfl, k4⟩ := FSl.at hv' l4 hs
  have HX := Lib.hid hx; have HY := Lib.hid hy
  have K1 := Lib.hid k1; have K2 := Lib.hid k2; have K3 := Lib.hid k3; have K4 := Lib.hid k4
  have L1 := Lib.hid l1; have L2 := Lib.hid l2; have L3 := Lib.hid l3; have L4 := Lib.hid l4
  clear hx hy k1 k2 k3 k4 l1 l2 l3 l4 hu hv hu' hv'
  go_enter Try.func24, Try.ntmps24
  go_wp2
  obtain ⟨W, hW⟩ : ∃ W, W = ((w.alloc (Obj.cells #[.int .i64 n, .slice (some ⟨b1, o1, none⟩) s c1, .slice (some ⟨b2, o2, none⟩) s c2] 46)).alloc (Obj.cells #[.int .i64 n, .slice (some ⟨b3, o3, none⟩) s c3, .slice (some ⟨b4, o4, none⟩) s c4] 46)) := ⟨_, rfl⟩
  have HGW : Hid (Grow w W) := by rw [hW]; exact ((Grow.refl w).alloc _).alloc _
  have D1 := Lib.hid (show W.cell? ⟨w.heap.size, 1, none⟩ = some (.slice (some ⟨b1, o1, none⟩) s c1) by rw [hW]; go_simp)
  have D2 := Lib.hid (show W.cell? ⟨w.heap.size, 2, none⟩ = some (.slice (some ⟨b2, o2, none⟩) s c2) by rw [hW]; go_simp)
  have D3 := Lib.hid (show W.cell? ⟨w.heap.size + 1, 1, none⟩ = some (.slice (some ⟨b3, o3, none⟩) s c3) by rw [hW]; go_simp)
  have D4 := Lib.hid (show W.cell? ⟨w.heap.size + 1, 2, none⟩ = some (.slice (some ⟨b4, o4, none⟩) s c4) by rw [hW]; go_simp)
  rw [← hW]
  clear hW
  go_loopw [41] (fun i wr => ∃ k : Nat, k ≤ s ∧ i = .int .i64 k ∧ Grow W wr) (fun i _ => s - (intOf i).toNat)
  case atStart => exact ⟨0, Nat.zero_le _, rfl, Grow.refl _⟩
  case round =>
    obtain ⟨k, hk, rfl, hg⟩ := hrel
    have HG := Lib.hid hg
    by_cases hlt : k < s
    case neg =>
      clear hg
      go_wp2
      go_ret
      exact ⟨rfl, HGW.out.trans HG.out⟩
    case pos =>
      obtain ⟨z1, hz1⟩ : ∃ z, xs[k]? = some z := ⟨xs[k]'(by rw [L1.out]; exact hlt), by simp⟩
      obtain ⟨z2, hz2⟩ : ∃ z, ys[k]? = some z := ⟨ys[k]'(by rw [L2.out]; exact hlt), by simp⟩
      obtain ⟨z3, hz3⟩ : ∃ z, xs'[k]? = some z := ⟨xs'[k]'(by rw [L3.out]; exact hlt), by simp⟩
      obtain ⟨z4, hz4⟩ : ∃ z, ys'[k]? = some z := ⟨ys'[k]'(by rw [L4.out]; exact hlt), by simp⟩
      obtain ⟨p1, p2, p3⟩ := HX.out.2 k z1 z3 hz1 hz3
      obtain ⟨q1, q2, q3⟩ := HY.out.2 k z2 z4 hz2 hz4
      have e1 := Fl.ne_X p1 p2 p3
      have e2 := Fl.ne_X q1 q2 q3
      have gw := HGW.out.trans hg
      have c1' := up_cell (K1.out k z1 hz1) gw
      have c2' := up_cell (K2.out k z2 hz2) gw
      have c3' := up_cell (K3.out k z3 hz3) gw
      have c4' := up_cell (K4.out k z4 hz4) gw
      have d1 := up_cell D1.out hg
      have d2 := up_cell D2.out hg
      have d3 := up_cell D3.out hg
      have d4 := up_cell D4.out hg
      have hlti : (k : Int) < (s : Int) := by omega
      clear hz1 hz2 hz3 hz4 p1 p2 p3 q1 q2 q3 gw hg
      go_wp2
      go_quiet (fail)
      go_wp2
      go_roundw
      case rel => exact ⟨k + 1, by omega, by go_num, HG.out.drewN _⟩
      case measure => simp [intOf]; omega
end Go.Proofs.Ytegknlnkkoeahaa
