import Derived.Test.YtemobphkgbhhhaaGeoD
import Derived.Test.YtemobphkgbhhhaaPlainF
import Derived.Test.YtemobphkgbhhhaaGoodT
namespace Go.Proofs.Ytemobphkgbhhhaa
open Go.ChangeShapes Go.WideShapes Go.ChangeAt Go.RowKit Go.GrowR
set_option linter.unusedVariables false
set_option linter.unusedSimpArgs false

/-- what gPlain tells of a geometry *)-/
def PlQ (g : GT) (k : Int) (K : Int → Prop) (w : World) (e : Ending) (w' : World) : Prop := ∃ r : Bool, e = .returned (.bool r) ∧ Grow w w' ∧ (r = true → GGood g ∧ K k)
theorem PlQ.no {g : GT} {k : Int} {K : Int → Prop} {w w' : World} (h : Grow w w') : PlQ g k K w (.returned (.bool false)) w' := ⟨false, rfl, h, fun h => by cases h⟩
set_option maxRecDepth 100000 in
set_option maxHeartbeats 4000000 in
theorem gPlain_calls (k l r : Int) (fl : List Nat) (en : List Int) (ens : List (List Int)) (kids : List GT) (gv : Value) (w : World) (hr : Reach44 (.mk k l r fl en ens kids)) (hv : GV (.mk k l r fl en ens kids) gv w) : Calls Try.prog 15 #[gv] w (PlQ (.mk k l r fl en ens kids) k (· ≠ 7) w) := by
  obtain ⟨k0, l0, r0, fl0, en0, ens0, kids0, A1, c1, A2, c2, A3, c3, A4, c4, he, rfl, -, -, -⟩ := hv.seven
  cases he
  have HGG := Lib.hid (fun b c0 w' (hw : Grow w w') h7 => gGoodT _ b c0 _ _ _ _ _ _ _ _ _ _ _ _ _ _ _ w' hr h7 (GV.up _ _ _ _ hv hw))
  clear hv hr
  go_enter Try.func15, Try.ntmps15
  go_wp2_with fail
  have HA := Lib.hid ((((Grow.refl w).alloc (Obj.cells #[.int .i64 k, .int .i64 l, .int .i64 r, .slice A1 fl.length c1, .slice A2 en.length c2, .slice A3 ens.length c3, .slice A4 kids.length c4] 28)).alloc (Obj.cells #[.int .i64 k, .int .i64 l, .int .i64 r, .slice A1 fl.length c1, .slice A2 en.length c2, .slice A3 ens.length c3, .slice A4 kids.length c4] 28)))
  refine (HGG.out (w.heap.size + 1) _ _ HA.out ⟨by go_simp, by go_simp, by go_simp, by go_simp, by go_simp, by go_simp, by go_simp⟩).mono ?_
  rintro e w1 ⟨r1, rfl, hg1, hr1⟩
  have q0 := up_cell (a := ⟨w.heap.size, 0, none⟩) (v := .int .i64 k) (by go_simp) hg1
  have HG1 := Lib.hid (HA.out.trans hg1)
  have HR1 := Lib.hid hr1
  clear hg1 hr1
  cases r1 with
  | false =>
    clear q0
    go_wp2
    go_ret
    exact PlQ.no HG1.out
  | true =>
    have H1 := Lib.hid (HR1.out (by first | rfl | trivial))
    by_cases h7 : k = 7
    · subst h7
      go_wp2
      go_ret
      exact PlQ.no HG1.out
    · have e7 : (k != 7) = true := by simpa using h7
      have H7 := Lib.hid h7
      clear h7
      go_wp2
      go_ret
      exact ⟨_, rfl, HG1.out, fun _ => ⟨H1.out, H7.out⟩⟩
end Go.Proofs.Ytemobphkgbhhhaa
namespace Go.Proofs.Ytemobphkgbhhhaa
open Go.ChangeShapes Go.WideShapes Go.ChangeAt Go.RowKit Go.GrowR
set_option linter.unusedVariables false
set_option linter.unusedSimpArgs false

/-- a list of ends is empty: both ways *)-/
def HolQ (ens : List (List Int)) (w : World) (e : Ending) (w' : World) : Prop := ∃ b : Bool, e = .returned (.bool b) ∧ (b = true → [] ∈ ens) ∧ (b = false → ∀ l ∈ ens, l ≠ []) ∧ Grow w w'
set_option maxRecDepth 100000 in
theorem gHollow_calls (k l r : Int) (A1 A2 A3 A4 : Option Addr) (n1 c1 n2 c2 n3 c3 n4 c4 : Nat) (ens : List (List Int)) (w : World) (hv : ISSl (.slice A3 n3 c3) ens w) (hn : n3 ≤ 1000000000000) :
    Calls Try.prog 9 #[Geo7 k l r A1 n1 c1 A2 n2 c2 A3 n3 c3 A4 n4 c4] w (HolQ ens w) := by
  obtain ⟨A', c', he, hc, hx⟩ := SlE.form hv
  simp only [Value.slice.injEq] at he
  obtain ⟨rfl, rfl, rfl⟩ := he
  have HX := Lib.hid hx
  clear hv hx
  go_enter Try.func9, Try.ntmps9
  go_wp2
  go_loop [8] (fun vi => ∃ q : Nat, q ≤ ens.length ∧ vi = .int .i64 q ∧ Hid (∀ l ∈ ens.take q, l ≠ [])) (fun vi => (ens.length - intOf vi).toNat)
  case atStart => exact ⟨0, Nat.zero_le _, rfl, Lib.hid (by simp)⟩
  case round =>
    obtain ⟨q, hq, rfl, HT⟩ := hrel
    by_cases hlt : q < ens.length
    · obtain ⟨x, hxq⟩ : ∃ p, ens[q]? = some p := ⟨ens[q], by simp [hlt]⟩
      rcases HX.out with h0 | ⟨b, o, rfl, hx⟩
      · exfalso; rw [h0] at hlt; simp at hlt
      obtain ⟨u, hcell, hu⟩ := hx q x hxq
      obtain ⟨A, c, rfl, -, -⟩ := SlE.form hu
      have HM := Lib.hid (List.mem_of_getElem? hxq)
      have htk : ens.take (q + 1) = ens.take q ++ [x] := by rw [List.take_add_one, hxq]; rfl
      have HTK : Hid (x ≠ [] → ∀ l ∈ ens.take (q + 1), l ≠ []) := fun h l hl => by
        rw [htk] at hl
        rcases List.mem_append.1 hl with hl | hl
        · exact HT.out l hl
        · simp at hl; subst hl; exact h
      have HC := Lib.hid (((Grow.refl w).alloc (Obj.cells #[.int .i64 k, .int .i64 l, .int .i64 r, .slice A1 n1 c1, .slice A2 n2 c2, .slice (some ⟨b, o, none⟩) ens.length c3, .slice A4 n4 c4] 28)))
      have hcell := up_cell hcell HC.out
      clear hx hu hxq htk HX HC HT
      by_cases hx0 : x = []
      · have h0 : (x.length == 0) = true := by simp [hx0]
        have hl0 : x.length = 0 := by simp [hx0]
        have HM2 : Hid ([] ∈ ens) := by rw [← hx0]; exact HM.out
        clear hx0 h0
        rw [hl0] at hcell
        clear hl0 HM HTK
        go_wp2
        go_ret
        exact ⟨true, rfl, fun _ => HM2.out, fun h => by simp at h, (Grow.refl w).alloc _⟩
      · have hl : 0 < x.length := List.length_pos_iff.2 hx0
        have HN := Lib.hid hx0
        have e1 : ((x.length : Int) == 0) = false := by simp [hx0]
        clear hx0 HM
        generalize x.length = m at *
        go_wp2
        go_round
        case rel => exact ⟨q + 1, by omega, by go_num, HTK.out HN.out⟩
        case measure => simp [intOf]; omega
    · have hqe : q = ens.length := by omega
      have HQ := Lib.hid hqe
      clear hqe
      go_wp2
      go_ret
      refine ⟨false, rfl, fun h => by simp at h, fun _ => ?_, (Grow.refl w).alloc _⟩
      have := HT.out; rwa [HQ.out, List.take_length] at this
end Go.Proofs.Ytemobphkgbhhhaa
