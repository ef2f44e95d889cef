import Derived.Test.YtemobphkgbhhhaaBndC
import Derived.Test.YtemobphkgbhhhaaPlHol
namespace Go.Proofs.Ytemobphkgbhhhaa
open Go.ChangeShapes Go.WideShapes Go.ChangeAt Go.RowKit Go.GrowR
set_option linter.unusedVariables false
set_option linter.unusedSimpArgs false

def NumQ (xs : List Nat) (w : World) (e : Ending) (w' : World) : Prop := ∃ r : Bool, e = .returned (.bool r) ∧ (r = true → AllNum xs) ∧ Grow w w'
theorem num_is (x : Nat) (b : Bool) (w : World) (h : Fl.isNum x = b) : Calls Try.prog 47 #[.float .f64 x] w fun e w' => e = .returned (.bool b) ∧ w' = w := by
  have := gNumber_calls x w
  rw [Fl.isNum_order, h] at this
  exact this
set_option maxHeartbeats 2000000 in
theorem eachNumG (k l r : Int) (u : Value) (B E A4 : Option Addr) (m d q e c4 : Nat) (xs : List Nat) (w : World) (hu : FSl u xs w) (hl : xs.length ≤ 17592186044416) :
    Calls Try.prog 10 #[GeoF k l r u (.slice B m d) (.slice E q e) (.slice A4 0 c4), .func (Fn.func 47) #[] #[]] w (NumQ xs w) := by
  obtain ⟨A, c, rfl, -, hA⟩ := hu
  have HA := Lib.hid hA; clear hA
  go_enter Try.func10, Try.ntmps10
  go_wp2
  go_loop [12] (fun i => ∃ k : Nat, k ≤ xs.length ∧ i = .int .i64 k ∧ Hid (AllNum (xs.take k))) (fun i => xs.length - (intOf i).toNat)
  case atStart => exact ⟨0, Nat.zero_le _, rfl, Lib.hid (fun k x h => by simp at h)⟩
  case round =>
    obtain ⟨j, hj, rfl, HL⟩ := hrel
    by_cases hlt : j < xs.length
    case neg =>
      have hje : j = xs.length := by omega
      have HJ := Lib.hid hje; clear hje
      go_wp2
      go_loop [24] (fun i => i = .int .i64 0) (fun _ => 0)
      case atStart => rfl
      case round =>
        subst hrel
        go_wp2
        go_ret
        refine ⟨true, rfl, fun _ => ?_, (Grow.refl w).alloc _⟩
        have := HL.out
        rwa [HJ.out, List.take_length] at this
    case pos =>
      obtain ⟨x, hx⟩ : ∃ x, xs[j]? = some x := ⟨xs[j], by simp [hlt]⟩
      rcases HA.out with h0 | ⟨b1, o1, rfl, hcell⟩
      · exfalso; subst h0; simp at hlt
      have hxc := up_cell (hcell j x hx) ((Grow.refl w).alloc (Obj.cells #[.int .i64 k, .int .i64 l, .int .i64 r, .slice (some ⟨b1, o1, none⟩) xs.length c, .slice B m d, .slice E q e, .slice A4 0 c4] 28))
      have htk : xs.take (j + 1) = xs.take j ++ [x] := by rw [List.take_add_one, hx]; rfl
      have HTK : Hid (Fl.isNum x = true → AllNum (xs.take (j + 1))) := fun h p y hy => by
        rw [htk, List.getElem?_append] at hy
        split at hy
        · exact HL.out p y hy
        · rw [List.getElem?_singleton] at hy
          split at hy <;> cases hy
          exact h
      clear hcell hx htk
      cases hb : Fl.isNum x
      all_goals
        have HB := Lib.hid hb; clear hb
        go_wp2_with (go_at_call 47; refine (num_is _ _ _ HB.out).mono ?_; rintro e w' ⟨rfl, rfl⟩)
      · go_ret
        exact ⟨false, rfl, fun h => (by cases h), (Grow.refl _).alloc _⟩
      · go_round
        case rel => exact ⟨j + 1, by omega, by go_num, HTK.out HB.out⟩
        case measure => simp [intOf]; omega
/-- what bAdds tells *)-/
def AddQ (g : GT) (k : Int) (fl : List Nat) (w : World) (e : Ending) (w' : World) : Prop := ∃ r : Bool, e = .returned (.bool r) ∧ Grow w w' ∧ (r = true → GGood g ∧ k ≠ 7 ∧ LayF 4 g ∧ AllNum fl)
theorem AddQ.no {g : GT} {k : Int} {fl : List Nat} {w w' : World} (h : Grow w w') : AddQ g k fl w (.returned (.bool false)) w' := ⟨false, rfl, h, fun h => by cases h⟩
set_option maxRecDepth 100000 in
set_option maxHeartbeats 8000000 in
theorem bAdds_calls (b c0 : Nat) (k l r : Int) (fl : List Nat) (en : List Int) (ens : List (List Int)) (kids : List GT) (A1 : Option Addr) (c1 : Nat) (A2 : Option Addr) (c2 : Nat) (A3 : Option Addr) (c3 : Nat) (A4 : Option Addr) (c4 : Nat) (w : World) (hr : Reach44 (.mk k l r fl en ens kids)) (h7 : Seven b 0 k l r A1 fl.length c1 A2 en.length c2 A3 ens.length c3 A4 kids.length c4 w) (hv : GV (.mk k l r fl en ens kids) (Geo7 k l r A1 fl.length c1 A2 en.length c2 A3 ens.length c3 A4 kids.length c4) w) (hfl : fl.length ≤ 17592186044416) :
    Calls Try.prog 22 #[.slice (some ⟨b, 0, none⟩) 1 c0] w (AddQ (.mk k l r fl en ens kids) k fl w) := by
  obtain ⟨G, hG⟩ : ∃ G, G = GT.mk k l r fl en ens kids := ⟨_, rfl⟩
  have HP := Lib.hid (fun w' (hw : Grow w w') => gPlain_calls k l r fl en ens kids _ w' hr (GV.up _ _ _ _ hv hw))
  have HL := Lib.hid (fun w' (hw : Grow w w') => layoutsT 4 _ _ w' hr (GV.up _ _ _ _ hv hw))
  have HE : Hid (∀ w', Grow w w' → kids = [] → Calls Try.prog 10 #[Geo7 k l r A1 fl.length c1 A2 en.length c2 A3 ens.length c3 A4 kids.length c4, .func (Fn.func 47) #[] #[]] w' (NumQ fl w')) := fun w' hw hk0 => by
    subst hk0
    obtain ⟨k', l', r', fl', en', ens', kids', B1, d1, B2, d2, B3, d3, B4, d4, he, hv', hf, -, -⟩ := (GV.up _ _ _ _ hv hw).seven
    cases he
    simp only [GeoF, Value.agg.injEq, Array.mk.injEq, List.cons.injEq, Value.slice.injEq] at hv'
    obtain ⟨-, -, -, ⟨rfl, -, rfl⟩, -⟩ := hv'
    exact eachNumG _ _ _ _ _ _ _ _ _ _ _ _ fl w' hf hfl
  have HGN : Hid (∀ w', Grow w w' → Calls Try.prog 48 #[.slice (some ⟨b, 0, none⟩) 1 c0] w' (SmallQ (.mk k l r fl en ens kids) w')) := fun w' hw => gSmallT _ b c0 k l r A1 _ c1 A2 _ c2 A3 _ c3 A4 _ c4 w' hr (Seven.up _ _ h7 hw) (GV.up _ _ _ _ hv hw)
  have HKI : Hid (GGood (.mk k l r fl en ens kids) → k ≠ 7 → kids = []) := fun hg hk7 => by
    obtain ⟨h, -, -⟩ := hg
    cases h with
    | coll => exact absurd rfl hk7
    | plain => rfl
  have H7 := Lib.hid h7
  rw [← hG] at HP HL HGN HKI ⊢
  clear hr h7 hv hG hfl
  go_enter Try.func22, Try.ntmps22
  go_wp2
  go_loopw [7] (fun i wr => (i = .int .i64 0 ∧ wr = w) ∨ (i = .int .i64 1 ∧ Grow w wr ∧ GGood G ∧ k ≠ 7 ∧ LayF 4 G ∧ AllNum fl)) (fun i _ => 1 - (intOf i).toNat)
  case atStart => exact .inl ⟨rfl, rfl⟩
  case round =>
    rcases hrel with ⟨rfl, rfl⟩ | ⟨rfl, hg, h1, h2, h3, h4⟩
    · obtain ⟨k0, k1, k2, k3, k4, k5, k6⟩ := H7.out
      simp only [Nat.zero_add] at k1 k2 k3 k4 k5 k6
      go_wp2_with fail
      refine (HP.out _ ((Grow.refl _).alloc _)).mono ?_
      rintro e w1 ⟨r1, rfl, hg1, hr1⟩
      have H71 : Hid (Seven wr.heap.size 0 k l r A1 fl.length c1 A2 en.length c2 A3 ens.length c3 A4 kids.length c4 w1) := ⟨up_cell (by go_simp) hg1, up_cell (by go_simp) hg1, up_cell (by go_simp) hg1, up_cell (by go_simp) hg1, up_cell (by go_simp) hg1, up_cell (by go_simp) hg1, up_cell (by go_simp) hg1⟩
      have HG1 := Lib.hid (((Grow.refl wr).alloc _).trans hg1); have HR1 := Lib.hid hr1
      clear hg1 hr1 k0 k1 k2 k3 k4 k5 k6
      cases r1 with
      | false =>
        go_wp2
        go_ret
        exact AddQ.no HG1.out
      | true =>
        obtain ⟨hgood, h7⟩ := HR1.out (by first | rfl | trivial)
        have HGOOD := Lib.hid hgood; have HK7 := Lib.hid h7; have HK0 := Lib.hid (HKI.out hgood h7)
        clear hgood h7
        obtain ⟨q0, q1, q2, q3, q4, q5, q6⟩ := H71.out
        simp only [Nat.zero_add] at q1 q2 q3 q4 q5 q6
        have lt1 := cell_ltH q0
        go_wp2_with fail
        refine (HL.out _ HG1.out).mono ?_
        rintro e w2 ⟨r2, rfl, hg2, hr2⟩
        have H72 := Lib.hid (Seven.up _ _ H71.out hg2)
        have HG2 := Lib.hid (HG1.out.trans hg2); have HR2 := Lib.hid hr2
        clear hg2 hr2 q0 q1 q2 q3 q4 q5 q6 lt1
        cases r2 with
        | false =>
          go_wp2
          go_ret
          exact AddQ.no HG2.out
        | true =>
          obtain ⟨q0, q1, q2, q3, q4, q5, q6⟩ := H72.out
          simp only [Nat.zero_add] at q1 q2 q3 q4 q5 q6
          have lt1 := cell_ltH q0
          go_wp2_with fail
          refine (HE.out _ HG2.out HK0.out).mono ?_
          rintro e w3 ⟨r3, rfl, hr3, hg3⟩
          have HG3 := Lib.hid (HG2.out.trans hg3); have HR3 := Lib.hid hr3
          clear hg3 hr3 q0 q1 q2 q3 q4 q5 q6 lt1
          cases r3 with
          | false =>
            go_wp2
            go_ret
            exact AddQ.no HG3.out
          | true =>
            go_wp2
            go_roundw
            case rel => exact .inr ⟨by go_num, HG3.out, HGOOD.out, HK7.out, HR2.out (by first | rfl | trivial), HR3.out (by first | rfl | trivial)⟩
            case measure => simp [intOf]
    · have HG := Lib.hid hg; have H1 := Lib.hid h1; have H2 := Lib.hid h2; have H3 := Lib.hid h3; have H4 := Lib.hid h4
      clear hg h1 h2 h3 h4
      go_wp2_with fail
      refine (HGN.out _ HG.out).mono ?_
      rintro e w5 ⟨r5, rfl, hg5, hr5⟩
      have HG5 := Lib.hid (HG.out.trans hg5)
      clear hg5 hr5
      go_wp2
      go_ret
      exact ⟨r5, rfl, HG5.out, fun _ => ⟨H1.out, H2.out, H3.out, H4.out⟩⟩
end Go.Proofs.Ytemobphkgbhhhaa
