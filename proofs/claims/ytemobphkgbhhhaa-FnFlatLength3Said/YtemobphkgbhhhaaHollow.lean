import Derived.Test.YtemobphkgbhhhaaGoodT
namespace Go.Proofs.Ytemobphkgbhhhaa
open Go.ChangeShapes Go.WideShapes Go.ChangeAt Go.RowKit Go.GrowR
set_option linter.unusedVariables false
set_option linter.unusedSimpArgs false

/-- a list of ends is empty: both ways *)-/
def HolQ (ens : List (List Int)) (w : World) (e : Ending) (w' : World) : Prop := ∃ b : Bool, e = .returned (.bool b) ∧ (b = true → [] ∈ ens) ∧ (b = false → ∀ l ∈ ens, l ≠ []) ∧ Grow w w'
set_option maxRecDepth 100000 in
theorem gHollow_calls (k l r : Int) (A1 A2 A3 A4 : Option Addr) (n1 c1 n2 c2 n3 c3 n4 c4 : Nat) (ens : List (List Int)) (w : World) (hv : ISSl (.slice A3 n3 c3) ens w) (hn : n3 ≤ 1000000000000) :
    Calls Try.prog 9 #[Geo7 k l r A1 n1 c1 A2 n2 c2 A3 n3 c3 A4 n4 c4] w (HolQ ens w) := by
  obtain ⟨A', c', he, hc, hx⟩ := SlE.form hv
  simp only [Value.slice.injEq] at he
  obtain ⟨rfl, rfl, rfl⟩ := he
  have HX := Lib.hid hx
  clear hv hx
  go_enter Try.func9, Try.ntmps9
  go_wp2
  go_loop [8] (fun vi => ∃ q : Nat, q ≤ ens.length ∧ vi = .int .i64 q ∧ Hid (∀ l ∈ ens.take q, l ≠ [])) (fun vi => (ens.length - intOf vi).toNat)
  case atStart => exact ⟨0, Nat.zero_le _, rfl, Lib.hid (by simp)⟩
  case round =>
    obtain ⟨q, hq, rfl, HT⟩ := hrel
    by_cases hlt : q < ens.length
    · obtain ⟨x, hxq⟩ : ∃ p, ens[q]? = some p := ⟨ens[q], by simp [hlt]⟩
      rcases HX.out with h0 | ⟨b, o, rfl, hx⟩
      · exfalso; rw [h0] at hlt; simp at hlt
      obtain ⟨u, hcell, hu⟩ := hx q x hxq
      obtain ⟨A, c, rfl, -, -⟩ := SlE.form hu
      have HM := Lib.hid (List.mem_of_getElem? hxq)
      have htk : ens.take (q + 1) = ens.take q ++ [x] := by rw [List.take_add_one, hxq]; rfl
      have HTK : Hid (x ≠ [] → ∀ l ∈ ens.take (q + 1), l ≠ []) := fun h l hl => by
        rw [htk] at hl
        rcases List.mem_append.1 hl with hl | hl
        · exact HT.out l hl
        · simp at hl; subst hl; exact h
      have HC := Lib.hid (((Grow.refl w).alloc (Obj.cells #[.int .i64 k, .int .i64 l, .int .i64 r, .slice A1 n1 c1, .slice A2 n2 c2, .slice (some ⟨b, o, none⟩) ens.length c3, .slice A4 n4 c4] 28)))
      have hcell := up_cell hcell HC.out
      clear hx hu hxq htk HX HC HT
      by_cases hx0 : x = []
      · have h0 : (x.length == 0) = true := by simp [hx0]
        have hl0 : x.length = 0 := by simp [hx0]
        have HM2 : Hid ([] ∈ ens) := by rw [← hx0]; exact HM.out
        clear hx0 h0
        rw [hl0] at hcell
        clear hl0 HM HTK
        go_wp2
        go_ret
        exact ⟨true, rfl, fun _ => HM2.out, fun h => by simp at h, (Grow.refl w).alloc _⟩
      · have hl : 0 < x.length := List.length_pos_iff.2 hx0
        have HN := Lib.hid hx0
        have e1 : ((x.length : Int) == 0) = false := by simp [hx0]
        clear hx0 HM
        generalize x.length = m at *
        go_wp2
        go_round
        case rel => exact ⟨q + 1, by omega, by go_num, HTK.out HN.out⟩
        case measure => simp [intOf]; omega
    · have hqe : q = ens.length := by omega
      have HQ := Lib.hid hqe
      clear hqe
      go_wp2
      go_ret
      refine ⟨false, rfl, fun h => by simp at h, fun _ => ?_, (Grow.refl w).alloc _⟩
      have := HT.out; rwa [HQ.out, List.take_length] at this
end Go.Proofs.Ytemobphkgbhhhaa
