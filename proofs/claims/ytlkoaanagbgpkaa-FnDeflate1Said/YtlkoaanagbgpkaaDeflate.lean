import Derived.Test.YtlkoaanagbgpkaaCoords
namespace Go.Proofs.Ytlkoaanagbgpkaa
open Go.ChangeShapes Go.WideShapes Go.ChangeAt Go.RowKit Go.GrowR
set_option linter.unusedVariables false
set_option linter.unusedSimpArgs false
def D0 (B : Nat) (R : Value) (xs : List Value) (ys : List Nat) (n : Int) (w : World) (e : Ending) (w' : World) : Prop :=
  ((ys.length : Int) = n ∧ ∃ R', e = .returned (.tuple #[R', .nilIface]) ∧ VOwn 33 B R' (xs ++ flo ys) w' ∧ w.grownBy w' R.ownBlock) ∨ ((ys.length : Int) ≠ n ∧ ∃ t x, e = .returned (.tuple #[.slice none 0 0, .iface t x]) ∧ Grow w w')
set_option maxRecDepth 100000 in
set_option maxHeartbeats 2000000 in
theorem deflate0_calls (B : Nat) (R u : Value) (xs : List Value) (ys : List Nat) (n : Int) (w : World) (hR : VOwn 33 B R xs w) (hu : FSl u ys w) (hB : B ≤ w.heap.size) (hl : xs.length + ys.length ≤ 1099511627776) :
    Calls Try.prog 130 #[R, u, .int .i64 n] w (D0 B R xs ys n w) := by
  obtain ⟨i0, hi, hz0, hz1, hz2⟩ := info_parts infoF
  have HI := Lib.hid hi; have HZ0 := Lib.hid hz0; have HZ1 := Lib.hid hz1; have HZ2 := Lib.hid hz2; clear hi hz0 hz1 hz2
  have HU := Lib.hid hu
  have HR := Lib.hid hR
  obtain ⟨A, c, rfl, -, -⟩ := hu
  obtain ⟨A1, n1, c1, rfl⟩ := hR.isSl
  clear hR
  by_cases h : (ys.length : Int) = n
  case neg =>
    have h' : ((ys.length : Int) != n) = true := by simp; exact h
    have H := Lib.hid h; clear h
    go_enter Try.func130, Try.ntmps130
    go_wp2
    go_ret2
    exact .inr ⟨H.out, _, _, rfl, Grow.refl _⟩
  case pos =>
    have H := Lib.hid h
    subst h
    go_enter Try.func130, Try.ntmps130
    go_wp2_with (at_builtin; refine wpList_append_vsl' rfl _ _ 22 93 rfl B 33 33 i0 (.float .f64 0) 8 undF undC HI.out HZ0.out HZ1.out HZ2.out rfl rfl HR.out rfl HU.out.v (fl_one _) (by simp [maxLen]; omega) (by simp; omega) hB ?_; intro v' w' hown hgrow hwhere)
    go_ret2
    exact .inl ⟨rfl, _, rfl, hown, hgrow⟩
def D1 (xss : List (List Nat)) (n : Int) (w : World) (e : Ending) (w' : World) : Prop :=
  ((∀ (i : Nat) (xs : List Nat), xss[i]? = some xs → (xs.length : Int) = n) ∧ ∃ R', e = .returned (.tuple #[R', .nilIface]) ∧ VOwn 33 w.heap.size R' (flo xss.flatten) w' ∧ Grow w w') ∨ ((∃ (i : Nat) (xs : List Nat), xss[i]? = some xs ∧ (xs.length : Int) ≠ n) ∧ ∃ t x, e = .returned (.tuple #[.slice none 0 0, .iface t x]) ∧ Grow w w')
theorem flatten_take_succ {xss : List (List Nat)} {k : Nat} {p : List Nat} (hp : xss[k]? = some p) : (xss.take (k + 1)).flatten = (xss.take k).flatten ++ p := by
  rw [List.take_add_one, hp]; simp
theorem flatten_take_le (xss : List (List Nat)) (k : Nat) : (xss.take k).flatten.length ≤ xss.flatten.length := by
  have h : xss.flatten = (xss.take k).flatten ++ (xss.drop k).flatten := by rw [← List.flatten_append, List.take_append_drop]
  rw [h, List.length_append]; omega
theorem rows_at {B : Nat} {us : List Value} {xss : List (List Nat)} {w : World} (h : Rows B us xss w) {k : Nat} {p : List Nat} (hp : xss[k]? = some p) : ∃ u, us[k]? = some u ∧ VOwn 33 B u (flo p) w := by
  have hk : k < us.length := by rw [h.1]; exact (List.getElem?_eq_some_iff.1 hp).1
  exact ⟨us[k], by simp [hk], h.2 k _ p (by simp [hk]) hp⟩
set_option maxRecDepth 100000 in
set_option maxHeartbeats 4000000 in
theorem deflate1_calls (B : Nat) (O : Value) (us : List Value) (xss : List (List Nat)) (n : Int) (w : World) (hO : VOwn 93 B O us w) (hus : Rows B us xss w) (hl : xss.flatten.length ≤ 549755813888) (hl2 : xss.length ≤ 2147483647) :
    Calls Try.prog 105 #[.slice none 0 0, O, .int .i64 n] w (D1 xss n w) := by
  obtain ⟨A, c, rfl, -, hA⟩ := hO.sl
  have HA := Lib.hid hA; clear hA hO
  have HUS := Lib.hid hus
  have hlen := hus.1
  clear hus
  rw [hlen]
  have HLN := Lib.hid hlen; clear hlen
  go_enter Try.func105, Try.ntmps105
  go_wp2
  go_loopw [0, 13] (fun R i wr => ∃ k : Nat, i = .int .i64 k ∧ k ≤ xss.length ∧ Grow w wr ∧ VOwn 33 w.heap.size R (flo (xss.take k).flatten) wr ∧ ∀ (i : Nat) (xs : List Nat), i < k → xss[i]? = some xs → (xs.length : Int) = n) (fun _ i _ => xss.length - (intOf i).toNat)
  case atStart => exact ⟨0, rfl, Nat.zero_le _, Grow.refl w, VOwn.nil, by intro i xs h; omega⟩
  case round =>
    obtain ⟨k, rfl, hk, hg, hown, hall⟩ := hrel
    have HG := Lib.hid hg; have HO := Lib.hid hown; have HALL := Lib.hid hall; clear hg hown hall
    by_cases hlt : k < xss.length
    case neg =>
      go_wp2
      go_ret2
      refine .inl ⟨fun i xs hi => HALL.out i xs (by have := (List.getElem?_eq_some_iff.1 hi).1; omega) hi, _, rfl, ?_, HG.out⟩
      have := HO.out
      rwa [List.take_of_length_le (by omega)] at this
    case pos =>
      obtain ⟨p, hp⟩ : ∃ p, xss[k]? = some p := ⟨xss[k], by simp [hlt]⟩
      obtain ⟨u, hu, huo⟩ := rows_at HUS.out hp
      have HF := Lib.hid (VOwn.up _ _ huo HG.out).sl.f
      rcases HA.out with h0 | ⟨b, o, rfl, hcell⟩
      · exfalso; subst h0; simp at hu
      have hc1 := up_cell (hcell k u hu) HG.out
      have hpl : (flo (xss.take k).flatten).length + p.length ≤ 1099511627776 := by
        have h1 := flatten_take_le xss (k + 1)
        rw [flatten_take_succ hp, List.length_append] at h1
        simp only [List.length_map]; omega
      have HP := Lib.hid hp
      clear hcell hp hu huo
      have HD := Lib.hid (deflate0_calls w.heap.size _ u _ p n wr HO.out HF.out HG.out.size hpl)
      clear hpl
      go_wp2_with (go_at_call 130; refine HD.out.mono ?_; rintro e w1 (⟨he, R', rfl, hr, hgr⟩ | ⟨he, t, x, rfl, hgr⟩))
      · have HGR := Lib.hid (Below.grown HG.out hgr HG.out.size HO.out.lt)
        have HRR := Lib.hid hr; clear hr hgr
        go_roundw
        case rel =>
          refine ⟨k + 1, by go_num, by omega, HGR.out, ?_, fun i xs hi hx => ?_⟩
          · rw [flatten_take_succ HP.out]
            have := HRR.out
            unfold flo at this ⊢
            rwa [List.map_append]
          · rcases Nat.lt_or_ge i k with h | h
            · exact HALL.out i xs h hx
            · obtain rfl : i = k := by omega
              have := HP.out; rw [hx] at this; cases this; exact he
        case measure => simp [intOf]; omega
      · go_ret2
        exact .inr ⟨⟨k, p, HP.out, he⟩, _, _, rfl, HG.out.trans hgr⟩
theorem doorDeflate1_calls (B : Nat) (O : Value) (us : List Value) (xss : List (List Nat)) (n : Int) (w : World) (hO : VOwn 93 B O us w) (hus : Rows B us xss w) (hl : xss.flatten.length ≤ 549755813888) (hl2 : xss.length ≤ 2147483647) :
    Calls Try.prog 68 #[O, .int .i64 n] w (D1 xss n w) := by
  have HK := Lib.hid (deflate1_calls B O us xss n w hO hus hl hl2)
  obtain ⟨A1, n1, c1, rfl⟩ := hO.isSl
  clear hO hus
  go_enter Try.func68, Try.ntmps68
  go_wp2_with (go_at_call 105; refine HK.out.mono ?_; rintro e w1 (⟨h1, R', rfl, hr, hg⟩ | ⟨h1, t, x, rfl, hg⟩))
  · go_ret2
    exact .inl ⟨h1, _, rfl, hr, hg⟩
  · go_ret2
    exact .inr ⟨h1, _, _, rfl, hg⟩
end Go.Proofs.Ytlkoaanagbgpkaa
