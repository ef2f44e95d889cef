import Derived.Test.YtegknlnkkoeahaaGoodS
namespace Go.Proofs.Ytegknlnkkoeahaa
open Go.ChangeShapes Go.WideShapes Go.ChangeAt Go.RowKit Go.GrowR
set_option linter.unusedVariables false
set_option linter.unusedSimpArgs false

/-- what gGood tells -/
def GGood (g : GT) : Prop := GoodF g ∧ LayF 9 g ∧ (Small31 g → Weight0 g)
def GGoodQ (g : GT) (w : World) (e : Ending) (w' : World) : Prop := ∃ r : Bool, e = .returned (.bool r) ∧ Grow w w' ∧ (r = true → GGood g)
theorem GGoodQ.no {g : GT} {w w' : World} (h : Grow w w') : GGoodQ g w (.returned (.bool false)) w' := ⟨false, rfl, h, fun h => by cases h⟩
set_option maxRecDepth 100000 in
set_option maxHeartbeats 8000000 in
theorem gGoodT (g : GT) (b c0 : Nat) (k l r : Int) (A1 : Option Addr) (n1 c1 : Nat) (A2 : Option Addr) (n2 c2 : Nat) (A3 : Option Addr) (n3 c3 : Nat) (A4 : Option Addr) (n4 c4 : Nat) (w : World) (hr : Reach44 g) (h7 : Seven b 0 k l r A1 n1 c1 A2 n2 c2 A3 n3 c3 A4 n4 c4 w) (hv : GV g (Geo7 k l r A1 n1 c1 A2 n2 c2 A3 n3 c3 A4 n4 c4) w) :
    Calls Try.prog 32 #[.slice (some ⟨b, 0, none⟩) 1 c0] w (GGoodQ g w) := by
  have HW := Lib.hid (fun w' (hw : Grow w w') => gSmallT g b c0 k l r A1 n1 c1 A2 n2 c2 A3 n3 c3 A4 n4 c4 w' hr (Seven.up _ _ h7 hw) (GV.up _ _ _ _ hv hw))
  have HL := Lib.hid (fun w' (hw : Grow w w') => goodT g _ w' hr (GV.up _ _ _ _ hv hw))
  have H7 := Lib.hid h7
  clear h7 hv
  go_enter Try.func32, Try.ntmps32
  go_wp2_with fail
  refine (HW.out _ (Grow.refl _)).mono ?_
  rintro e w1 ⟨r1, rfl, hg1, hr1⟩
  have HG1 := Lib.hid hg1; have HR1 := Lib.hid hr1
  clear hg1 hr1
  cases r1 with
  | false =>
    go_wp2
    go_ret
    exact GGoodQ.no HG1.out
  | true =>
    go_wp2
    go_loopw [10] (fun i wr => (i = .int .i64 0 ∧ Grow w1 wr) ∨ (i = .int .i64 1 ∧ Grow w1 wr ∧ GoodF g)) (fun i _ => 1 - (intOf i).toNat)
    case atStart => exact .inl ⟨rfl, Grow.refl _⟩
    case round =>
      rcases hrel with ⟨rfl, hg⟩ | ⟨rfl, hg, h1⟩
      · obtain ⟨k0, k1, k2, k3, k4, k5, k6⟩ := Seven.up _ _ H7.out (HG1.out.trans hg)
        simp only [Nat.zero_add] at k1 k2 k3 k4 k5 k6
        have HG := Lib.hid (HG1.out.trans hg)
        have HG0 := Lib.hid hg
        clear hg
        go_wp2_with (go_at_call 62; refine (HL.out _ (HG.out.trans ((Grow.refl _).alloc _))).mono ?_; rintro e w5 ⟨r5, rfl, hg5, hr5⟩; have HG5 := Lib.hid (((Grow.refl wr).alloc _).trans hg5); have HR5 := Lib.hid hr5; clear hg5 hr5; cases r5)
        · go_ret
          exact GGoodQ.no (HG.out.trans HG5.out)
        · go_roundw
          case rel => exact .inr ⟨by first | rfl | go_num, HG0.out.trans HG5.out, HR5.out (by first | rfl | trivial)⟩
          case measure => simp [intOf]
      · have H1 := Lib.hid h1; have HG := Lib.hid hg
        clear h1 hg
        go_wp2
        go_ret
        exact ⟨true, rfl, HG1.out.trans HG.out, fun _ => ⟨H1.out, HR1.out (by first | rfl | trivial)⟩⟩
def FitsQ (b : Prop) (w : World) (e : Ending) (w' : World) : Prop := ∃ r : Bool, e = .returned (.bool r) ∧ Grow w w' ∧ (r = true → b)
theorem FitsQ.no {b : Prop} {w w' : World} (h : Grow w w') : FitsQ b w (.returned (.bool false)) w' := ⟨false, rfl, h, fun h => by cases h⟩
set_option maxHeartbeats 4000000 in
theorem fits3_calls (u : Value) (ens : List (List Int)) (w : World) (hu : ISSl u ens w) (hl : ens.length ≤ 17592186044416) (hl2 : ∀ x ∈ ens, x.length ≤ 17592186044416) :
    Calls Try.prog 7 #[u] w (FitsQ (ens.length ≤ 2147483647 ∧ ∀ x ∈ ens, x.length ≤ 2147483647) w) := by
  have HU := Lib.hid hu; have HL2 := Lib.hid hl2
  obtain ⟨A, c, rfl, -, -⟩ := SlE.form hu
  clear hu hl2
  by_cases h1 : 2147483647 < ens.length
  · go_enter Try.func7, Try.ntmps7
    go_wp2
    go_ret
    exact FitsQ.no (Grow.refl _)
  have L1 := Lib.hid (show ens.length ≤ 2147483647 by omega)
  go_enter Try.func7, Try.ntmps7
  go_wp2
  go_loop [4, 10] (fun x i => ∃ k : Nat, i = .int .i64 k ∧ k ≤ ens.length ∧ ∀ (j : Nat) (x : List Int), j < k → ens[j]? = some x → x.length ≤ 2147483647) (fun _ i => ens.length - (intOf i).toNat)
  case atStart => exact ⟨0, rfl, Nat.zero_le _, by intro i xs h; omega⟩
  case round =>
    obtain ⟨k, rfl, hk, hall⟩ := hrel
    have HL := Lib.hid hall; clear hall
    by_cases hlt : k < ens.length
    case neg =>
      go_wp2
      go_ret
      exact ⟨true, rfl, Grow.refl _, fun _ => ⟨L1.out, fun x hx => by
        obtain ⟨i, hi⟩ := List.mem_iff_getElem?.1 hx
        exact HL.out i x (by have := (List.getElem?_eq_some_iff.1 hi).1; omega) hi⟩⟩
    case pos =>
      obtain ⟨p, hp⟩ : ∃ p, ens[k]? = some p := ⟨ens[k], by simp [hlt]⟩
      have hpl := HL2.out p (List.mem_of_getElem? hp)
      obtain ⟨b, o, A1, c1, n1, he, hc, -⟩ := iss_at HU.out hp
      simp only [Value.slice.injEq] at he
      obtain ⟨rfl, -, -⟩ := he
      have HP := Lib.hid hp
      clear hp h1
      by_cases h2 : 2147483647 < p.length
      case pos =>
        go_wp2
        go_ret
        exact FitsQ.no (Grow.refl _)
      case neg =>
        have H2 := Lib.hid h2
        go_wp2
        go_round
        case rel =>
          refine ⟨k + 1, by go_num, by omega, fun i xs hi hx => ?_⟩
          rcases Nat.lt_or_ge i k with h | h
          · exact HL.out i xs h hx
          · obtain rfl : i = k := by omega
            have h3 := HP.out
            rw [hx] at h3; cases h3
            have := H2.out; omega
        case measure => simp [intOf]; omega
end Go.Proofs.Ytegknlnkkoeahaa
