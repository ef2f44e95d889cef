import Derived.Test.YtcpdhkbmfgphpaaKnH
namespace Go.Proofs.Ytcpdhkbmfgphpaa
open Go.ChangeShapes Go.WideShapes Go.ChangeAt Go.RowKit Go.GrowR
set_option linter.unusedVariables false
set_option linter.unusedSimpArgs false

set_option maxRecDepth 100000 in
set_option maxHeartbeats 8000000 in
/-- one point that is among others -/
theorem among1_calls (g : Nat) (u v : Value) (cg : Nat) (p : List Nat) (pts : List (List Nat)) (d j0 : Nat) (q0 : List Nat) (w : World) (hg : w.cell? ⟨g, 0, none⟩ = some u) (hu : FSl u p w) (hv : FSSl v pts w) (hp : Num p d (iv p)) (hps : ∀ q ∈ pts, Num q d (iv q)) (h6 : d ≤ 6) (hl : pts.length ≤ 1000000) (hj : pts[j0]? = some q0) (he : ∀ k, k < d → iv p k = iv q0 k) :
    Calls Try.prog 35 #[.slice (some ⟨g, 0, none⟩) 1 cg, v] w (BoolQ true w) := by
  have HU := Lib.hid hu; have HP := Lib.hid hp; have HPS := Lib.hid hps; have HE := Lib.hid he; have HJ := Lib.hid hj
  have hj1 : j0 < pts.length := (List.getElem?_eq_some_iff.1 hj).1
  obtain ⟨A, c, rfl, hc, hA⟩ := hv
  have HA := Lib.hid hA
  obtain ⟨Au, cu, rfl, -, -⟩ := hu
  have hmk := fun w => run_make_row' (P := Try.prog) 100 4 (.bool false) 1 undBl infoBl rfl .i64 .i64 pts.length (by omega) (by omega) w
  have HBL : Hid (∀ i, i < pts.length → (w.alloc (.cells (madeCells #[.bool false] pts.length) 4)).cell? ⟨w.heap.size, i, none⟩ = some (.bool false)) := fun i hi => (World.rowIs_made w (.bool false) pts.length 4).cell hi
  have HFZ : Hid (∀ i, (w.alloc (.cells (madeCells #[.bool false] pts.length) 4)).frozen? ⟨w.heap.size, i, none⟩ = false) := fun i => (World.rowIs_made w (.bool false) pts.length 4).frozen i
  have HGA : Hid (Grow w (w.alloc (.cells (madeCells #[.bool false] pts.length) 4))) := (Grow.refl w).alloc _
  have hgA := up_cell hg HGA.out
  have hsz : w.heap.size < (w.alloc (.cells (madeCells #[.bool false] pts.length) 4)).heap.size := by simp
  clear hp hps hA he hj hg
  go_enter Try.func35, Try.ntmps35
  go_wp2
  generalize w.alloc (.cells (madeCells #[.bool false] pts.length) 4) = W0 at *
  go_loopw [16] (fun i wr => Grow w wr ∧ ((i = .int .i64 0 ∧ Grow W0 wr) ∨ i = .int .i64 1)) (fun i _ => 1 - (intOf i).toNat)
  case atStart => exact ⟨HGA.out, .inl ⟨rfl, Grow.refl _⟩⟩
  case round =>
    obtain ⟨hgw, hcase⟩ := hrel
    have HGW := Lib.hid hgw
    rcases hcase with ⟨rfl, hg0⟩ | rfl
    case inr =>
      go_wp2
      go_ret
      exact ⟨rfl, HGW.out⟩
    case inl =>
      have HG0 := Lib.hid hg0
      clear hg0 hgw
      have e1 := up_cell hgA HG0.out
      go_wp2
      go_loopw [8, 22] (fun f i w2 => f = .bool false ∧ ∃ k : Nat, i = .int .i64 k ∧ k ≤ j0 ∧ Grow wr w2) (fun _ i _ => pts.length - (intOf i).toNat)
      case atStart => exact ⟨rfl, 0, rfl, Nat.zero_le _, Grow.refl _⟩
      case round =>
        obtain ⟨rfl, k, rfl, hk, hg2⟩ := hrel
        have HG2 := Lib.hid hg2
        clear hg2
        have hlt : k < pts.length := by omega
        obtain ⟨q, hq⟩ : ∃ q, pts[k]? = some q := ⟨pts[k], by simp [hlt]⟩
        have hqm := List.mem_of_getElem? hq
        rcases HA.out with h0 | ⟨b, o, rfl, hcell⟩
        · exfalso; subst h0; simp at hlt
        obtain ⟨z, hz, hzz⟩ := hcell k q hq
        have HGT := Lib.hid (HG0.out.trans HG2.out)
        have hz' := up_cell hz (HGW.out.trans HG2.out)
        have hb := up_cell (HBL.out k hlt) HGT.out
        have hf := (grow_frozen HGT.out _ k hsz).trans (HFZ.out k)
        have HSP := Lib.hid (fun w' (hg : Grow w w') => samePoint_calls _ z p q d (iv p) (iv q) w' (FSl.up _ _ HU.out hg) (FSl.up _ _ hzz hg) HP.out (HPS.out q hqm) h6)
        have HK : Hid (eqN (iv p) (iv q) d = false → k + 1 ≤ j0) := fun h => by
          by_cases e : k = j0
          · subst e
            rw [HJ.out] at hq; cases hq
            rw [eqN_true HE.out] at h; cases h
          · omega
        obtain ⟨A1, c1, rfl, -, -⟩ := hzz
        have hk3 : (k : Int) < (pts.length : Int) := by omega
        clear hcell hz hq hqm
        cases heq : eqN (iv p) (iv q) d with
        | true =>
          rw [heq] at HSP
          clear heq
          go_wp2_with fail
          refine (HSP.out _ (HGW.out.trans HG2.out)).mono ?_
          rintro e w5 ⟨rfl, hg5⟩
          have hb5 := up_cell hb hg5
          have hf5 := (grow_frozen hg5 _ k (cell_lt' hb)).trans hf
          have HG5 := Lib.hid ((HGW.out.trans HG2.out).trans hg5)
          clear hg5 hb hf
          go_wp2
          go_roundw
          case rel => exact ⟨HG5.out.setCell (by simp) _, .inr rfl⟩
          case measure => simp [intOf]
        | false =>
          have HK2 := Lib.hid (HK.out heq)
          rw [heq] at HSP
          clear heq
          go_wp2_with fail
          refine (HSP.out _ (HGW.out.trans HG2.out)).mono ?_
          rintro e w5 ⟨rfl, hg5⟩
          have HG5 := Lib.hid (HG2.out.trans hg5)
          clear hg5
          go_wp2
          go_roundw
          case rel => exact ⟨rfl, k + 1, by first | go_num | (simp <;> omega), HK2.out, HG5.out⟩
          case measure => simp [intOf]; omega
end Go.Proofs.Ytcpdhkbmfgphpaa
