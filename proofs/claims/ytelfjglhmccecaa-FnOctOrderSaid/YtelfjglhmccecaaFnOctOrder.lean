import Derived.Test.YtelfjglhmccecaaLawOctA
namespace Go.Proofs.Ytelfjglhmccecaa
open Go.ChangeShapes Go.WideShapes Go.ChangeAt Go.RowKit Go.GrowR
set_option linter.unusedVariables false
set_option linter.unusedSimpArgs false
theorem rowV_sl {b o c s i : Nat} {xs : List Nat} {w : World} (hc : FCells w b o xs) (hi : i * s + s ≤ xs.length) (hl : xs.length ≤ c) : FSl (rowV b o c s i) (rowN xs s i) w := by
  refine ⟨_, c - i * s, by rw [rowN_len]; rfl, by rw [rowN_len]; omega, .inr ⟨b, o + i * s, rfl, fun t x ht => ?_⟩⟩
  have hts : t < s := by
    rcases Nat.lt_or_ge t s with h | h
    · exact h
    · rw [List.getElem?_eq_none (by rw [rowN_len]; exact h)] at ht; cases ht
  rw [rowN_get hts] at ht
  cases ht
  have h := hc (i * s + t) _ (getD_some (by omega))
  rwa [← Nat.add_assoc] at h
theorem getD_mem {xs : List Nat} {i : Nat} (h : i < xs.length) : xs.getD i 0 ∈ xs := by
  rw [List.getD_eq_getElem?_getD, List.getElem?_eq_getElem h]; exact List.getElem_mem h
theorem row_in {s K i : Nat} {xs : List Nat} (hK : xs.length = K * s) (hi : i < K) : i * s + s ≤ xs.length := by
  have h3 : (i + 1) * s ≤ K * s := Nat.mul_le_mul_right s hi
  rw [Nat.add_mul] at h3; omega
theorem octN_fin {xs : List Nat} {s K : Nat} {a : Nat → Nat} (hx : xs.all finB = true) (hK : xs.length = K * s) (ha : ∀ j, a j < K) (m : Nat) : (octN xs s a m).all finB = true := by
  rw [List.all_eq_true]
  intro x hx'
  unfold octN at hx'
  obtain ⟨j, -, hj⟩ := List.mem_flatMap.1 hx'
  unfold rowN at hj
  obtain ⟨t, ht, rfl⟩ := List.mem_map.1 hj
  have hts : t < s := by simpa using ht
  have := row_in hK (ha j)
  exact List.all_eq_true.1 hx _ (getD_mem (by omega))
set_option maxRecDepth 100000 in
set_option maxHeartbeats 4000000 in
theorem law_calls (lay : Int) (u : Value) (xs : List Nat) (w : World) (hu : FSl u xs w) :
    Calls Try.prog 4 #[.int .i64 lay, u] w fun e w' => e = .returned (.bool true) ∧ Grow w w' := by
  have HU := Lib.hid hu
  obtain ⟨A, c, rfl, hc, hA⟩ := hu
  by_cases hm : xs.length ≤ 2147483647
  case neg =>
    clear hA
    go_enter Try.func4, Try.ntmps4
    go_wp2
    go_ret
    exact ⟨rfl, Grow.refl _⟩
  rcases flat_cases lay xs with H | ⟨s, K, X, Y, hs, s2, s9, l1, l8, hK, K60, hi, H⟩
  · have HF := Lib.hid H; clear H hA
    go_enter Try.func4, Try.ntmps4
    go_wp2_with (go_at_call 16; refine (HF.out _ _ HU.out (by omega)).mono ?_; rintro e w1 ⟨v, rfl, ⟨A1, n1, c1, rfl⟩, hg⟩; have HG := Lib.hid hg; clear hg)
    go_ret
    exact ⟨rfl, HG.out⟩
  have HF : Hid (∀ w', Grow w w' → Calls Try.prog 16 #[.int .i64 lay, .slice A xs.length c, .float .f64 4715268809856909312, .int .i64 60] w' (fun e w2 => ∃ A1 c1, e = .returned (.tuple #[.slice A1 K c1, .bool true]) ∧ Grow w' w2)) := by
    intro w' hg
    refine (H _ w' (FSl.up _ _ HU.out hg)).mono ?_
    rintro e w2 ⟨v, rfl, ⟨A1, c1, rfl, -, -⟩, hg2⟩
    exact ⟨A1, c1, by rw [pls_len], hg2⟩
  clear H
  rcases Nat.eq_zero_or_pos K with h0 | K1
  · subst h0
    clear hA hK hi hs
    go_enter Try.func4, Try.ntmps4
    go_wp2_with (go_at_call 16; refine (HF.out _ (Grow.refl _)).mono ?_; rintro e w1 ⟨A1, c1, rfl, hg⟩; have HG := Lib.hid hg; clear hg)
    go_ret
    exact ⟨rfl, HG.out⟩
  have hlen : xs.length ≤ 540 := by rw [hK]; exact Nat.mul_le_mul K60 s9
  have hKz : ¬ (K : Int) = 0 := by omega
  have HA := Lib.hid (fun w' (hg : Grow w w') => allFinite_calls _ xs w' (FSl.up _ _ HU.out hg) (by omega))
  cases hf : xs.all finB with
  | false =>
    have HFI := Lib.hid hf; clear hf hA hK hi hs
    go_enter Try.func4, Try.ntmps4
    go_wp2_with (first
      | (go_at_call 16; refine (HF.out _ (Grow.refl _)).mono ?_; rintro e w1 ⟨A1, c1, rfl, hg⟩; have HG := Lib.hid hg; clear hg)
      | (go_at_call 17; refine (HA.out _ HG.out).mono ?_; rw [HFI.out]; rintro e w2 ⟨rfl, hg⟩; have HG2 := Lib.hid (HG.out.trans hg); clear hg))
    go_ret
    exact ⟨rfl, HG2.out⟩
  | true =>
    have HFI := Lib.hid hf; clear hf
    obtain ⟨b, o, rfl, hcell⟩ : ∃ b o, A = some ⟨b, o, none⟩ ∧ FCells w b o xs := by
      rcases hA with h | h
      · exfalso
        have : 1 * 2 ≤ K * s := Nat.mul_le_mul K1 s2
        rw [h] at hK; simp at hK; omega
      · exact h
    clear hA
    have HC := Lib.hid hcell; clear hcell
    have haK : ∀ j, argF (sc X Y j) K < K := fun j => argF_pos _ K1
    have HAK := Lib.hid haK; clear haK
    have HRW := Lib.hid (fun w' => rowsOf_calls b o c xs.length s K lay w' hs (by omega) s9 hK (by omega) hc)
    have HOV := Lib.hid (fun V w' (hg : Grow w w') hV => octOf_calls b o c s K xs X Y V w' (HC.out.up hg) hK K1 K60 s2 s9 hi hV)
    have HIM := Lib.hid (fun w' (hg : Grow w w') => implOct_calls lay _ xs s K X Y w' (FSl.up _ _ HU.out hg) l1 (by omega) hs hK K1 K60 s2 s9 hi)
    have HSM := Lib.hid (fun u v w' h1 h2 => sameNums_calls u v (octN xs s (fun j => argF (sc X Y j) K) 8) (octN xs s (fun j => argF (sc X Y j) K) 8) w' h1 h2 (by rw [octN_len]; omega) (by rw [octN_len]; omega))
    have HSS := Lib.hid (same_self (octN_fin (s := s) (a := fun j => argF (sc X Y j) K) HFI.out hK HAK.out 8))
    have HKK := Lib.hid hK
    obtain ⟨i0, hi0, hz0, hz1, hz2⟩ := info_parts infoF_
    have HI0 := Lib.hid hi0; have HZ0 := Lib.hid hz0; have HZ1 := Lib.hid hz1; have HZ2 := Lib.hid hz2; clear hi0 hz0 hz1 hz2
    clear hK hi hs
    go_enter Try.func4, Try.ntmps4
    go_wp2_with (first
      | (go_at_call 16; refine (HF.out _ (Grow.refl _)).mono ?_; rintro e w1 ⟨A1, c1, rfl, hg⟩; have HG := Lib.hid hg; clear hg)
      | (go_at_call 17; refine (HA.out _ HG.out).mono ?_; rw [HFI.out]; rintro e w2 ⟨rfl, hg⟩; have HG2 := Lib.hid (HG.out.trans hg); clear hg)
      | (go_at_call 19; refine (HRW.out _).mono ?_; rintro e w3 ⟨V, rfl, hg, hown⟩; have HV := Lib.hid hown; have HG3 := Lib.hid (HG2.out.trans hg); clear hg; obtain ⟨A3, n3, c3, rfl⟩ := hown.isSl; clear hown)
      | (go_at_call 18; refine (HOV.out _ _ HG3.out HV.out.sl).mono ?_; rintro e w4 ⟨R, rfl, hg, hown⟩; have HR := Lib.hid hown.sl; have HG4 := Lib.hid (HG3.out.trans hg); clear hg; obtain ⟨A4, c4, rfl, hc4, hcells⟩ := hown.sl; rw [octV_len]; clear hown hc4; have HRC := Lib.hid hcells; clear hcells))
    go_loopw [7, 38] (fun O i wr => ∃ j : Nat, i = .int .i64 j ∧ j ≤ 8 ∧ Grow w4 wr ∧ VOwn 22 w4.heap.size O ((octN xs s (fun j => argF (sc X Y j) K) j).map (.float .f64)) wr) (fun _ i _ => 8 - (intOf i).toNat)
    case atStart => exact ⟨0, rfl, Nat.zero_le _, Grow.refl _, VOwn.nil⟩
    case round =>
      obtain ⟨j, rfl, hj, hg, hown⟩ := hrel
      have HGR := Lib.hid hg
      have HO := Lib.hid hown; clear hg hown
      by_cases hj8 : j < 8
      case neg =>
        have e8 : j = 8 := by omega
        subst e8
        have HGX := Lib.hid (HG4.out.trans HGR.out)
        obtain ⟨A7, n7, c7, e7⟩ := HO.out.isSl
        subst e7
        go_wp2_with (first
          | (go_at_call 20; refine (HIM.out _ HGX.out).mono ?_; rintro e w6 ⟨V6, rfl, hown6, hg⟩; have HO6 := Lib.hid hown6; have HG6 := Lib.hid hg; clear hg; obtain ⟨A6, n6, c6, rfl⟩ := hown6.isSl; clear hown6)
          | (go_at_call 21; refine (HSM.out _ _ _ HO6.out.sl.f (VOwn.up _ _ HO.out HG6.out).sl.f).mono ?_; rw [HSS.out]; rintro e w7 ⟨rfl, hg⟩; have HG7 := Lib.hid ((HGX.out.trans HG6.out).trans hg); clear hg))
        go_ret
        exact ⟨rfl, HG7.out⟩
      case pos =>
        have hrow := rowV_sl (i := argF (sc X Y j) K) (HC.out.up (HG4.out.trans HGR.out)) (row_in HKK.out (HAK.out j)) hc
        obtain ⟨b4, o4, rfl, hx4⟩ : ∃ b4 o4, A4 = some ⟨b4, o4, none⟩ ∧ ∀ i x, (octV b o c s (fun j => argF (sc X Y j) K) 8)[i]? = some x → w4.cell? ⟨b4, o4 + i, none⟩ = some x := by
          rcases HRC.out with h | h
          · exfalso; have := octV_len b o c s (fun j => argF (sc X Y j) K) 8; rw [h] at this; simp at this
          · exact h
        have cr := up_cell (hx4 j (rowV b o c s (argF (sc X Y j) K)) (by unfold octV; rw [List.getElem?_map, List.getElem?_range hj8]; rfl)) HGR.out
        have HROW := Lib.hid hrow
        have hjl : (octN xs s (fun j => argF (sc X Y j) K) j).length ≤ 540 := by rw [octN_len]; exact Nat.le_trans (Nat.mul_le_mul hj s9) (by decide)
        have HJL := Lib.hid hjl
        have HRL := Lib.hid (rowN_len xs s (argF (sc X Y j) K))
        have HOS := Lib.hid (octN_succ xs s (fun j => argF (sc X Y j) K) j)
        have HSZ := Lib.hid HGR.out.size
        obtain ⟨rv, hrv⟩ : ∃ rv, rv = rowV b o c s (argF (sc X Y j) K) := ⟨_, rfl⟩
        rw [← hrv] at cr HROW
        clear hrow hx4 hrv hjl
        go_wp2_with (at_builtin; refine wpList_append_vsl rfl _ _ 28 rfl w4.heap.size 22 i0 (.float .f64 0) 8 undF_ HI0.out HZ0.out HZ1.out HZ2.out rfl rfl HO.out rfl HROW.out.v (fl_one _) (by have h1 := HJL.out; have h2 := HRL.out; simp [maxLen] at *; omega) (by have h1 := HJL.out; have h2 := HRL.out; simp at *; omega) HSZ.out ?_; intro O5 w5 hown5 hgrow5 hwh5; have H5 := Lib.hid hown5; have HGW := Lib.hid hgrow5; clear hown5 hgrow5 hwh5)
        go_roundw
        case rel => exact ⟨j + 1, by go_num, by omega, Below.grown HGR.out HGW.out HSZ.out HO.out.lt, by rw [HOS.out, List.map_append]; exact H5.out⟩
        case measure => simp [intOf]; omega
end Go.Proofs.Ytelfjglhmccecaa
