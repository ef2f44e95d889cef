import Derived.Test.YtemobphkgbhhhaaGeoV
namespace Go.Proofs.Ytemobphkgbhhhaa
open Go.ChangeShapes Go.WideShapes Go.ChangeAt Go.RowKit Go.GrowR
set_option linter.unusedVariables false
set_option linter.unusedSimpArgs false

theorem g0Layout (b : Nat) (l : Int) (w : World) (h : w.cell? ⟨b, 0, none⟩ = some (.int .i64 l)) : Calls Try.prog 126 #[.pointer (some ⟨b, 0, none⟩)] w fun e w' => e = .returned (.int .i64 l) ∧ w' = w := by
  go_enter Try.func126, Try.ntmps126
  go_wp2
  go_ret
  exact ⟨rfl, rfl⟩
set_option maxRecDepth 100000 in
theorem mLay0 (k : Int) (b : Nat) (w : World) : (method 293 (tyK k) (.pointer (some ⟨b, 0, none⟩)) "Layout").run Try.prog w = .ok (126, .pointer (some ⟨b, 0, none⟩)) w := by
  unfold tyK
  repeat' split
  all_goals kernel_rfl
theorem mLay7 (b : Nat) (w : World) : (method 293 78 (.pointer (some ⟨b, 0, none⟩)) "Layout").run Try.prog w = .ok (161, .pointer (some ⟨b, 0, none⟩)) w := by kernel_rfl
/-- what Layout tells of a geometry *)-/
def LV (l : Int) (v : Value) (w : World) : Prop := (∃ k b, v = .iface (tyK k) (.pointer (some ⟨b, 0, none⟩)) ∧ w.cell? ⟨b, 0, none⟩ = some (.int .i64 l)) ∨
  (∃ b, v = .iface 78 (.pointer (some ⟨b, 0, none⟩)) ∧ Calls Try.prog 161 #[.pointer (some ⟨b, 0, none⟩)] w fun e w' => e = .returned (.int .i64 l) ∧ w' = w)
theorem coverI_eq (a l : Int) : coverI a l = if l = 2 then (if a = 3 then 4 else if l > a then l else a) else if l = 3 then (if a = 2 then 4 else if l > a then l else a) else if l > a then l else a := by
  unfold coverI
  rw [Int.max_def]
  repeat' split
  all_goals omega
set_option maxRecDepth 100000 in
set_option maxHeartbeats 8000000 in
theorem layV : ∀ (g : GT) (v : Value) (w : World), TV g v w → LV (layO g) v w := by
  refine GT.ind fun k l r fl en ens kids ih v w hv => ?_
  unfold TV at hv
  rcases hv with ⟨h7, b, u, rfl, ho, -, -⟩ | ⟨rfl, b, V, us, rfl, hc, hown, hus⟩
  · refine .inl ⟨k, b, rfl, ?_⟩
    have : layO (.mk k l r fl en ens kids) = l := by simp [layO, h7]
    rw [this]; exact ho.1
  refine .inr ⟨b, rfl, ?_⟩
  obtain ⟨x0, x1, x2, x3⟩ := hc
  by_cases h0 : l = 0
  case neg =>
    have R : Hid (layO (.mk 7 l r fl en ens kids) = l) := by show _ = _; simp [layO, h0]
    have e7 : (l != 0) = true := by simpa using h0
    clear h0
    go_enter Try.func161, Try.ntmps161
    go_wp2
    go_ret
    exact ⟨by rw [R.out]; rfl, rfl⟩
  subst h0
  obtain ⟨A, c, rfl, -, hA⟩ := VOwn.sl hown
  have HL := Lib.hid (TVs_len hus)
  have hub : us.length ≤ 9223372036854775807 := by
    rcases hown.2 with ⟨-, h0⟩ | ⟨g, cap, cur, -, -, -, h1, h2, -⟩
    · omega
    · simp [maxLen] at h2; omega
  have HA := Lib.hid hA; have HUS := Lib.hid hus; have IH := Lib.hid ih
  clear hA hus ih hown x2 x3
  go_enter Try.func161, Try.ntmps161
  go_wp2
  go_loop [3, 5, 6, 21, 27, 32, 40] (fun a _ _ i _ _ _ => ∃ j : Nat, j ≤ us.length ∧ i = .int .i64 j ∧ a = .int .i64 (layOs (kids.take j) 0)) (fun _ _ _ i _ _ _ => us.length - (intOf i).toNat)
  case atStart => exact ⟨0, Nat.zero_le _, rfl, by simp [layOs]⟩
  case round =>
    obtain ⟨q, hq, rfl, rfl⟩ := hrel
    by_cases hlt : q < us.length
    case neg =>
      have HQ := Lib.hid (show kids.length ≤ q by have := HL.out; omega)
      go_wp2
      go_ret
      refine ⟨?_, rfl⟩
      rw [List.take_of_length_le HQ.out]
      simp [layO]
    case pos =>
      obtain ⟨kid, hkid⟩ : ∃ p, kids[q]? = some p := ⟨kids[q]'(by have := HL.out; omega), by have := HL.out; simp [show q < kids.length by omega]⟩
      obtain ⟨u, hu, htv⟩ := TVs_at HUS.out hkid
      rcases HA.out with h0 | ⟨bV, oV, rfl, hcell⟩
      · exfalso; rw [h0] at hlt; simp at hlt
      have hcu := hcell q u hu
      have HS : Hid (layOs (kids.take (q + 1)) 0 = coverI (layOs (kids.take q) 0) (layO kid)) := by show _ = _; rw [List.take_add_one, hkid]; exact layOs_snoc _ _ _
      have hlv := IH.out kid (List.mem_of_getElem? hkid) u w htv
      generalize layOs (kids.take q) 0 = cur at *
      generalize layO kid = lk at *
      have HCI := Lib.hid (coverI_eq cur lk)
      clear hcell hu htv hkid
      rcases hlv with ⟨k2, b2, rfl, hc2⟩ | ⟨b2, rfl, hcall⟩
      · have hm := fun w => mLay0 k2 b2 w
        have HC2 := Lib.hid hc2; clear hc2
        go_wp2_with (go_at_call 126; refine (g0Layout b2 lk _ HC2.out).mono ?_; rintro e w' ⟨rfl, rfl⟩)
        all_goals
          try simp only [beq_iff_eq, beq_eq_false_iff_ne, ne_eq] at *
          go_round
          case rel => exact ⟨q + 1, by omega, by go_num, by rw [HS.out]; exact congrArg (Value.int .i64) (by unfold coverI; rw [Int.max_def]; (repeat' split) <;> omega)⟩
          case measure => simp [intOf]; omega
      · have hm := fun w => mLay7 b2 w
        have HCA := Lib.hid hcall; clear hcall
        go_wp2_with (go_at_call 161; refine (HCA.out).mono ?_; rintro e w' ⟨rfl, rfl⟩)
        all_goals
          try simp only [beq_iff_eq, beq_eq_false_iff_ne, ne_eq] at *
          go_round
          case rel => exact ⟨q + 1, by omega, by go_num, by rw [HS.out]; exact congrArg (Value.int .i64) (by unfold coverI; rw [Int.max_def]; (repeat' split) <;> omega)⟩
          case measure => simp [intOf]; omega
end Go.Proofs.Ytemobphkgbhhhaa
