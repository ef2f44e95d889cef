import Derived.Test.YtlkoaanagbgpkaaFloats
namespace Go.Proofs.Ytlkoaanagbgpkaa
open Go.ChangeShapes Go.WideShapes Go.ChangeAt Go.RowKit Go.GrowR
set_option linter.unusedVariables false
set_option linter.unusedSimpArgs false
theorem infoC : (Try.prog.info? 93).map (fun i => (i.zero, i.size, i.bytes)) = some (some (.slice none 0 0), 1, 24) := by kernel_rfl
theorem undC : Try.prog.underlying 93 = some (.slice 33) := by kernel_rfl
theorem undCC : Try.prog.underlying 110 = some (.slice 93) := by kernel_rfl
abbrev flo (xs : List Nat) : List Value := xs.map (Value.float .f64)
/-- rows of floats, each of the call's own -/
def Rows (B : Nat) (us : List Value) (xss : List (List Nat)) (w : World) : Prop := us.length = xss.length ∧ ∀ (i : Nat) (u : Value) (xs : List Nat), us[i]? = some u → xss[i]? = some xs → VOwn 33 B u (flo xs) w
def Fits4 (xss : List (List Nat)) (w : World) (e : Ending) (w' : World) : Prop := ∃ r, e = .returned (.bool r) ∧ w' = w ∧ (r = true → xss.length ≤ 2147483647 ∧ ∀ (i : Nat) (xs : List Nat), xss[i]? = some xs → xs.length ≤ 2147483647)
theorem fits4_calls (v : Value) (xss : List (List Nat)) (w : World) (hv : FSSl v xss w) (hm : xss.length ≤ maxLen) :
    Calls Try.prog 21 #[v] w (Fits4 xss w) := by
  obtain ⟨A, c, rfl, -, hA⟩ := hv
  have HA := Lib.hid hA; clear hA
  by_cases h1 : 2147483647 < xss.length
  · clear hm
    go_enter Try.func21, Try.ntmps21
    go_wp2
    go_ret
    exact ⟨_, rfl, rfl, by intro h; cases h⟩
  have L1 : xss.length ≤ 2147483647 := by omega
  clear hm
  go_enter Try.func21, Try.ntmps21
  go_wp2
  go_loop [10] (fun i => ∃ k : Nat, i = .int .i64 k ∧ k ≤ xss.length ∧ ∀ (i : Nat) (xs : List Nat), i < k → xss[i]? = some xs → xs.length ≤ 2147483647) (fun i => xss.length - (intOf i).toNat)
  case atStart => exact ⟨0, rfl, Nat.zero_le _, by intro i xs h; omega⟩
  case round =>
    obtain ⟨k, rfl, hk, hall⟩ := hrel
    have HL := Lib.hid hall; clear hall
    by_cases hlt : k < xss.length
    case neg =>
      go_wp2
      go_ret
      exact ⟨_, rfl, rfl, fun _ => ⟨L1, fun i xs hi => HL.out i xs (by have := (List.getElem?_eq_some_iff.1 hi).1; omega) hi⟩⟩
    case pos =>
      obtain ⟨p, hp⟩ : ∃ p, xss[k]? = some p := ⟨xss[k], by simp [hlt]⟩
      rcases HA.out with h0 | ⟨b, o, rfl, hcell⟩
      · exfalso; subst h0; simp at hlt
      obtain ⟨u, hu, A1, c1, rfl, -, -⟩ := hcell k p hp
      have HP := Lib.hid hp
      clear hcell hp h1
      by_cases h2 : 2147483647 < p.length
      case pos =>
        go_wp2
        go_ret
        exact ⟨_, rfl, rfl, by intro h; cases h⟩
      case neg =>
        have H2 := Lib.hid h2
        go_wp2
        go_round
        case rel =>
          refine ⟨k + 1, by go_num, by omega, fun i xs hi hx => ?_⟩
          rcases Nat.lt_or_ge i k with h | h
          · exact HL.out i xs h hx
          · obtain rfl : i = k := by omega
            have := HP.out; rw [hx] at this; cases this; have := H2.out; omega
        case measure => simp [intOf]; omega
set_option maxRecDepth 100000 in
set_option maxHeartbeats 2000000 in
theorem coords1_calls (v : Value) (xss : List (List Nat)) (w : World) (hv : FSSl v xss w) (hm : xss.length ≤ 2147483647) (hm2 : ∀ (i : Nat) (xs : List Nat), xss[i]? = some xs → xs.length ≤ 2147483647) :
    Calls Try.prog 69 #[v] w fun e w' => ∃ O us, e = .returned O ∧ Grow w w' ∧ VOwn 93 w.heap.size O us w' ∧ Rows w.heap.size us xss w' := by
  obtain ⟨i0, hi, hz0, hz1, hz2⟩ := info_parts infoC
  have HI := Lib.hid hi; have HZ0 := Lib.hid hz0; have HZ1 := Lib.hid hz1; have HZ2 := Lib.hid hz2; clear hi hz0 hz1 hz2
  obtain ⟨A, c, rfl, -, hA⟩ := hv
  have HA := Lib.hid hA; clear hA
  have HM2 := Lib.hid hm2; clear hm2
  go_enter Try.func69, Try.ntmps69
  go_wp2
  go_loopw [3, 8] (fun O i wr => ∃ (k : Nat) (us : List Value), i = .int .i64 k ∧ k ≤ xss.length ∧ Grow w wr ∧ VOwn 93 w.heap.size O us wr ∧ Rows w.heap.size us (xss.take k) wr) (fun _ i _ => xss.length - (intOf i).toNat)
  case atStart => exact ⟨0, [], rfl, Nat.zero_le _, Grow.refl w, VOwn.nil, rfl, by intro i u xs h; simp at h⟩
  case round =>
    obtain ⟨k, us, rfl, hk, hg, hown, hrows⟩ := hrel
    have HG := Lib.hid hg; have HO := Lib.hid hown; have HR := Lib.hid hrows; clear hg hown hrows
    by_cases hlt : k < xss.length
    case neg =>
      go_wp2
      go_ret
      refine ⟨_, us, rfl, HG.out, HO.out, ?_⟩
      have := HR.out
      rwa [List.take_of_length_le (by omega)] at this
    case pos =>
      obtain ⟨p, hp⟩ : ∃ p, xss[k]? = some p := ⟨xss[k], by simp [hlt]⟩
      rcases HA.out with h0 | ⟨b, o, rfl, hcell⟩
      · exfalso; subst h0; simp at hlt
      obtain ⟨u, hu, hf⟩ := hcell k p hp
      have hu1 := up_cell hu HG.out
      have HF := Lib.hid (FSl.up _ _ hf HG.out)
      have hpl := HM2.out k p hp
      have HP := Lib.hid hp
      clear hcell hp hu hf
      go_wp2_with (first
        | (go_at_call 55; refine (floats_calls _ p _ HF.out (by omega)).mono ?_; rintro e w1 ⟨V, rfl, hg1, hown1⟩; obtain ⟨A1, n1, c1, rfl⟩ := hown1.isSl; have HG1 := Lib.hid hg1; have HV := Lib.hid (hown1.mono HG.out.size); clear hg1 hown1)
        | (at_builtin; refine wpList_append_vsl rfl _ _ 110 rfl w.heap.size 93 i0 (.slice none 0 0) 24 undCC HI.out HZ0.out HZ1.out HZ2.out rfl rfl (VOwn.up _ _ (VOwn.up _ _ HO.out HG1.out) ((Grow.refl w1).alloc _)) rfl (VSl.one (u := .slice A1 n1 c1) (by go_simp)) (by intro x hx; simp at hx; subst hx; exact HV.out.one) (by have := HR.out.1; simp [maxLen] at *; omega) (by have := HR.out.1; simp at *; omega) (by have := HG.out.size; have := HG1.out.size; simp; omega) ?_; intro O5 w5 hown5 hgrow5 hwh5; have H5 := Lib.hid hown5; have HGR := Lib.hid hgrow5; clear hown5 hgrow5 hwh5))
      have HOw := Lib.hid (VOwn.up _ _ HO.out HG1.out)
      have HG5 := Lib.hid (Below.grown ((HG.out.trans HG1.out).alloc _) HGR.out (by have := HG.out.size; have := HG1.out.size; simp; omega) HO.out.lt)
      go_roundw
      case rel =>
        refine ⟨k + 1, us ++ [.slice A1 n1 c1], by go_num, by omega, HG5.out, H5.out, ?_, fun i z xs hz hx => ?_⟩
        · have := HR.out.1; simp at *; omega
        · have hlen : us.length = k := by have := HR.out.1; simp at this; omega
          rw [List.getElem?_append] at hz
          split at hz
          · next hik =>
            have hx' : (xss.take k)[i]? = some xs := by
              rw [List.getElem?_take] at hx ⊢
              split at hx
              · rw [if_pos (by omega)]; exact hx
              · cases hx
            have h1 := VOwn.up _ _ (VOwn.up _ _ (HR.out.2 i z xs hz hx') HG1.out) ((Grow.refl w1).alloc (Obj.cells #[.slice A1 n1 c1] 93))
            exact h1.grown HGR.out (h1.ne (VOwn.up _ _ HOw.out ((Grow.refl w1).alloc _)) (by decide))
          · next hik =>
            rw [List.getElem?_singleton] at hz
            split at hz
            · next h0 =>
              cases hz
              have hi : i = k := by omega
              subst hi
              have hxp : xs = p := by
                rw [List.getElem?_take] at hx
                split at hx
                · have := HP.out; rw [hx] at this; exact Option.some.inj this
                · cases hx
              subst hxp
              have h1 := VOwn.up _ _ HV.out ((Grow.refl w1).alloc (Obj.cells #[.slice A1 n1 c1] 93))
              exact h1.grown HGR.out (h1.ne (VOwn.up _ _ HOw.out ((Grow.refl w1).alloc _)) (by decide))
            · cases hz
      case measure => simp [intOf]; omega
end Go.Proofs.Ytlkoaanagbgpkaa
