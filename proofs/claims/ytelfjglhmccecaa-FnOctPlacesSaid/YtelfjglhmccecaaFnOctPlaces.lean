import Derived.Test.YtelfjglhmccecaaOctM
namespace Go.Proofs.Ytelfjglhmccecaa
open Go.ChangeShapes Go.WideShapes Go.ChangeAt Go.RowKit Go.GrowR
set_option linter.unusedVariables false
set_option linter.unusedSimpArgs false

def pm : Nat → Nat
  | 0 => 4
  | 1 => 0
  | 2 => 2
  | 3 => 6
  | 4 => 3
  | 5 => 7
  | 6 => 5
  | _ => 1
theorem pm_lt (j : Nat) : pm j < 8 := by unfold pm; split <;> decide
def D8p (g : Nat) (w : World) : Prop := ∀ j, j < 8 → w.cell? ⟨g, j * 2, none⟩ = some (.float .f64 (bA (pm j))) ∧ w.cell? ⟨g, j * 2 + 1, none⟩ = some (.float .f64 (bB (pm j)))
theorem D8p.up {g : Nat} : Up (D8p g) := fun _ _ h hg j hj => ⟨up_cell (h j hj).1 hg, up_cell (h j hj).2 hg⟩
def IsV (V : Value) (b o c s K : Nat) (w : World) : Prop := VSl V (rowsV b o c s K) w
theorem IsV.up {V : Value} {b o c s K : Nat} : Up (IsV V b o c s K) := VSl.up
set_option maxRecDepth 100000 in
set_option maxHeartbeats 8000000 in
theorem law_calls (lay : Int) (u : Value) (xs : List Nat) (w : World) (hu : FSl u xs w) :
    Calls Try.prog 5 #[.int .i64 lay, u] w fun e w' => e = .returned (.bool true) ∧ Grow w w' := by
  have HU := Lib.hid hu
  obtain ⟨A, c, rfl, hc, hA⟩ := hu
  by_cases hm : xs.length ≤ 2147483647
  case neg =>
    clear hA
    go_enter Try.func5, Try.ntmps5
    go_wp2
    go_ret
    exact ⟨rfl, Grow.refl _⟩
  rcases flat_cases lay xs with H | ⟨s, K, X, Y, hs, s2, s9, l1, l8, hK, K60, hi, H⟩
  · have HF := Lib.hid H; clear H hA
    go_enter Try.func5, Try.ntmps5
    go_wp2_with (go_at_call 16; refine (HF.out _ _ HU.out (by omega)).mono ?_; rintro e w1 ⟨v, rfl, ⟨A1, n1, c1, rfl⟩, hg⟩; have HG := Lib.hid hg; clear hg)
    go_ret
    exact ⟨rfl, HG.out⟩
  have HF : Hid (∀ w', Grow w w' → Calls Try.prog 16 #[.int .i64 lay, .slice A xs.length c, .float .f64 4715268809856909312, .int .i64 60] w' (fun e w2 => ∃ A1 c1, e = .returned (.tuple #[.slice A1 K c1, .bool true]) ∧ Grow w' w2)) := by
    intro w' hg
    refine (H _ w' (FSl.up _ _ HU.out hg)).mono ?_
    rintro e w2 ⟨v, rfl, ⟨A1, c1, rfl, -, -⟩, hg2⟩
    exact ⟨A1, c1, by rw [pls_len], hg2⟩
  clear H
  rcases Nat.eq_zero_or_pos K with h0 | K1
  · subst h0
    clear hA hK hi hs
    go_enter Try.func5, Try.ntmps5
    go_wp2_with (go_at_call 16; refine (HF.out _ (Grow.refl _)).mono ?_; rintro e w1 ⟨A1, c1, rfl, hg⟩; have HG := Lib.hid hg; clear hg)
    go_ret
    exact ⟨rfl, HG.out⟩
  have hlen : xs.length ≤ 540 := by rw [hK]; exact Nat.mul_le_mul K60 s9
  have hKz : ¬ (K : Int) = 0 := by omega
  have HA := Lib.hid (fun w' (hg : Grow w w') => allFinite_calls _ xs w' (FSl.up _ _ HU.out hg) (by omega))
  cases hf : xs.all finB with
  | false =>
    have HFI := Lib.hid hf; clear hf hA hK hi hs
    go_enter Try.func5, Try.ntmps5
    go_wp2_with (first
      | (go_at_call 16; refine (HF.out _ (Grow.refl _)).mono ?_; rintro e w1 ⟨A1, c1, rfl, hg⟩; have HG := Lib.hid hg; clear hg)
      | (go_at_call 17; refine (HA.out _ HG.out).mono ?_; rw [HFI.out]; rintro e w2 ⟨rfl, hg⟩; have HG2 := Lib.hid (HG.out.trans hg); clear hg))
    go_ret
    exact ⟨rfl, HG2.out⟩
  | true =>
    have HFI := Lib.hid hf; clear hf
    obtain ⟨b, o, rfl, hcell⟩ : ∃ b o, A = some ⟨b, o, none⟩ ∧ FCells w b o xs := by
      rcases hA with h | h
      · exfalso
        have : 1 * 2 ≤ K * s := Nat.mul_le_mul K1 s2
        rw [h] at hK; simp at hK; omega
      · exact h
    clear hA
    have HC := Lib.hid hcell; clear hcell
    have haK : ∀ j, argF (sc X Y j) K < K := fun j => argF_pos _ K1
    have HAK := Lib.hid haK; clear haK
    obtain ⟨a, haa⟩ : ∃ a : Nat → Nat, a = fun j => argF (sc X Y j) K := ⟨_, rfl⟩
    have HAA := Lib.hid haa
    obtain ⟨ys, hys⟩ : ∃ ys, ys = octN xs s a 8 := ⟨_, rfl⟩
    have HYS := Lib.hid hys
    have haK : ∀ j, a j < K := by rw [haa]; exact HAK.out
    have HAK2 := Lib.hid haK
    have hyl : ys.length = 8 * s := by rw [hys, octN_len]
    have hyI : Ints ys s 8 (fun j => X (a j)) (fun j => Y (a j)) := by rw [hys]; exact ints_oct hi s2 haK
    have HRW := Lib.hid (fun w' => rowsOf_calls b o c xs.length s K lay w' hs (by omega) s9 hK (by omega) hc)
    have HRY := Lib.hid (fun b6 o6 c6 w' (h : ys.length ≤ c6) => rowsOf_calls b6 o6 c6 ys.length s 8 lay w' hs (by omega) s9 hyl (by omega) h)
    have HIM := Lib.hid (fun w' (hg : Grow w w') => implOct_calls lay _ xs s K X Y w' (FSl.up _ _ HU.out hg) l1 (by omega) hs hK K1 K60 s2 s9 hi)
    have HM1 := Lib.hid (fun d V w' (hg : Grow w w') hV => most_calls (bA d) (bB d) b o c s K d xs X Y V w' (isI_bA d) (isI_bB d) (HC.out.up hg) hK K1 K60 s2 s9 hi hV)
    have HM2 := Lib.hid (fun d V b6 o6 c6 w' hc6 hV => most_calls (bA d) (bB d) b6 o6 c6 s 8 d ys (fun j => X (a j)) (fun j => Y (a j)) V w' (isI_bA d) (isI_bB d) hc6 hyl (by decide) (by decide) s2 s9 hyI hV)
    have HEQ : Hid (∀ d, d < 8 → maxF (sc (fun j => X (a j)) (fun j => Y (a j)) d) 8 = maxF (sc X Y d) K) := fun d hd => maxF_oct (sc X Y d) K1 a haK d hd (by rw [haa])
    have HSM := Lib.hid (fun u v j k w' h1 h2 => sameNums_calls u v (rowN ys s j) (rowN xs s k) w' h1 h2 (by rw [rowN_len]; omega) (by rw [rowN_len]; omega))
    have HSS : Hid (∀ j, j < 8 → sameB (rowN ys s j) (rowN xs s (a j)) = true) := fun j hj => by rw [hys, rowN_oct hj]; exact same_self (rowN_fin HFI.out hK (haK j))
    have HST := Lib.hid (fun w' => strideS lay s w' hs)
    have HKK := Lib.hid hK
    have HYL := Lib.hid hyl
    have hnl : ¬ ((ys.length : Int) != 8 * (s : Int)) = true := by simp; omega
    clear hK hi hs hyI hyl haK haa hys
    go_enter Try.func5, Try.ntmps5
    go_wp2_with (first
      | (go_at_call 16; refine (HF.out _ (Grow.refl _)).mono ?_; rintro e w1 ⟨A1, c1, rfl, hg⟩; have HG := Lib.hid hg; clear hg)
      | (go_at_call 17; refine (HA.out _ HG.out).mono ?_; rw [HFI.out]; rintro e w2 ⟨rfl, hg⟩; have HG2 := Lib.hid (HG.out.trans hg); clear hg)
      | (go_at_call 20; refine (HIM.out _ HG2.out).mono ?_; rintro e w3 ⟨V6, rfl, hown6, hg⟩; rw [← HAA.out, ← HYS.out] at hown6; obtain ⟨A6, c6, rfl, hc6, hx6⟩ := hown6.sl.f; have HX6 := Lib.hid hx6; have HC6 := Lib.hid hc6; have HG3 := Lib.hid (HG2.out.trans hg); clear hg hown6 hx6)
      | (go_at_call 22; refine (HST.out _).mono ?_; rintro e w4 ⟨rfl, rfl⟩))
    obtain ⟨b6, o6, rfl, hf6⟩ : ∃ b6 o6, A6 = some ⟨b6, o6, none⟩ ∧ FCells w4 b6 o6 ys := by
      rcases HX6.out with h | h
      · exfalso
        have := HYL.out
        rw [h] at this; simp at this; omega
      · exact h
    have HF6 := Lib.hid hf6
    clear hf6 hnl
    refine (HRW.out _).mono ?_
    rintro e w5 ⟨V9, rfl, hg, hown9⟩
    have HV9 := Lib.hid hown9.sl
    have HG5 := Lib.hid (HG3.out.trans hg)
    have HF5 := Lib.hid (HF6.out.up hg)
    clear hg
    obtain ⟨A9, c9, rfl, -, -⟩ := hown9.sl
    rw [rowsV_len] at HV9 ⊢
    clear hown9
    go_wp2_with fail
    refine (HRY.out b6 o6 c6 _ HC6.out).mono ?_
    rintro e w8 ⟨R8, rfl, hg, hown8⟩
    have HR8 := Lib.hid hown8.sl
    have HV8 := Lib.hid (VSl.up _ _ HV9.out hg)
    have HF8 := Lib.hid (HF5.out.up hg)
    have HG8 := Lib.hid (HG5.out.trans hg)
    clear hg HX6 HF6 HF5 HV9 HG5 HG3
    obtain ⟨A8, c8, rfl, -, -⟩ := hown8.sl
    rw [rowsV_len]
    clear hown8
    have HC8 := Lib.hid (HC.out.up HG8.out)
    obtain ⟨b9, o9, rfl, h9⟩ : ∃ bV oV, A9 = some ⟨bV, oV, none⟩ ∧ ∀ i x, (rowsV b o c s K)[i]? = some x → w8.cell? ⟨bV, oV + i, none⟩ = some x := by
      obtain ⟨A, cc, he, -, h | ⟨bV, oV, hA, h⟩⟩ := HV8.out
      · exfalso; have := rowsV_len b o c s K; rw [h] at this; simp at this; omega
      · rw [rowsV_len] at he; injection he with h1; exact ⟨bV, oV, by rw [← hA]; exact h1, h⟩
    obtain ⟨b8, o8, rfl, h8⟩ : ∃ bV oV, A8 = some ⟨bV, oV, none⟩ ∧ ∀ i x, (rowsV b6 o6 c6 s 8)[i]? = some x → w8.cell? ⟨bV, oV + i, none⟩ = some x := by
      obtain ⟨A, cc, he, -, h | ⟨bV, oV, hA, h⟩⟩ := HR8.out
      · exfalso; have := rowsV_len b6 o6 c6 s 8; rw [h] at this; simp at this
      · rw [rowsV_len] at he; injection he with h1; exact ⟨bV, oV, by rw [← hA]; exact h1, h⟩
    have H9 := Lib.hid (fun i (h : i < K) => h9 i _ (rowsV_get h))
    have H8 := Lib.hid (fun i (h : i < 8) => h8 i _ (rowsV_get h))
    clear h9 h8
    go_wp2
    go_loopw [61] (fun i wr => ∃ j : Nat, i = .int .i64 j ∧ j ≤ 8 ∧ Grow w8 wr) (fun i _ => 8 - (intOf i).toNat)
    case atStart => exact ⟨0, rfl, Nat.zero_le _, Grow.refl _⟩
    case round =>
      obtain ⟨j, rfl, hj, hg⟩ := hrel
      have HGR := Lib.hid hg; clear hg
      by_cases hj8 : j < 8
      case pos =>
        have cr := up_cell (H8.out j hj8) HGR.out
        have HRY8 := Lib.hid (rowV_sl (i := j) (HF8.out) (row_in HYL.out hj8) HC6.out)
        obtain ⟨rv, hrv⟩ : ∃ rv, rv = rowV b6 o6 c6 s j := ⟨_, rfl⟩
        rw [← hrv] at cr HRY8
        clear hrv
        go_wp2
        rw [show decide ((j : Int) < 8) = true from decide_eq_true (by omega)]
        have HJ8 := Lib.hid hj8
        clear cr hj8
        go_loopw [12, 67] (fun f i wi => ∃ (k : Nat) (fb : Bool), i = .int .i64 k ∧ k ≤ K ∧ f = .bool fb ∧ (a j < k → fb = true) ∧ Grow w8 wi) (fun _ i _ => K - (intOf i).toNat)
        case atStart => exact ⟨0, false, rfl, Nat.zero_le _, rfl, by omega, HGR.out⟩
        case round =>
          obtain ⟨k, fb, rfl, hk, rfl, hfb, hg⟩ := hrel
          have HFB := Lib.hid hfb; clear hfb
          have HGI := Lib.hid hg; clear hg
          by_cases hkK : k < K
          case neg =>
            have e : k = K := by omega
            subst e
            obtain rfl : fb = true := HFB.out (HAK2.out j)
            have HJ9 : Hid (j + 1 ≤ 8) := HJ8.out
            go_wp2
            exact ⟨⟨j + 1, by go_num, HJ9.out, HGI.out⟩, by have := HJ9.out; simp [intOf]; omega⟩
          case pos =>
            have cv := up_cell (H9.out k hkK) HGI.out
            have HRX8 := Lib.hid (rowV_sl (i := k) (HC8.out) (row_in HKK.out hkK) hc)
            obtain ⟨rk, hrk⟩ : ∃ rk, rk = rowV b o c s k := ⟨_, rfl⟩
            rw [← hrk] at cv HRX8
            clear hrk
            have hk2 : (k : Int) < (K : Int) := by omega
            cases fb with
            | true =>
              go_wp2
              exact ⟨⟨k + 1, true, by go_num, by omega, rfl, fun _ => rfl, HGI.out⟩, by simp [intOf]; omega⟩
            | false =>
              go_wp2_with (go_at_call 21; refine (HSM.out _ _ j k _ (FSl.up _ _ HRY8.out HGI.out) (FSl.up _ _ HRX8.out HGI.out)).mono ?_; rintro e w10 ⟨rfl, hg⟩; have HG10 := Lib.hid (HGI.out.trans hg); clear hg)
              have HBB : Hid (a j < k + 1 → sameB (rowN ys s j) (rowN xs s k) = true) := by
                intro h
                by_cases he : a j = k
                · rw [← he]; exact HSS.out j HJ8.out
                · have := HFB.out (by omega); cases this
              generalize sameB (rowN ys s j) (rowN xs s k) = bb at HBB
              exact ⟨⟨k + 1, bb, by go_num, by omega, rfl, HBB.out, HG10.out⟩, by simp [intOf]; omega⟩
      case neg =>
        have e8 : j = 8 := by omega
        subst e8
        obtain ⟨wo, hwo⟩ : ∃ wo : World, wo = wr := ⟨_, rfl⟩
        subst hwo
        go_wp2
        have HGQ := Lib.hid (HG8.out.trans HGR.out)
        go_loopw [91] (fun i wr => ∃ j : Nat, i = .int .i64 j ∧ j ≤ 8 ∧ Grow wo wr ∧ D8p wo.heap.size wr) (fun i _ => 8 - (intOf i).toNat)
        case atStart =>
          refine ⟨0, rfl, Nat.zero_le _, (Grow.refl wo).alloc _, fun j hj => ?_⟩
          have : j = 0 ∨ j = 1 ∨ j = 2 ∨ j = 3 ∨ j = 4 ∨ j = 5 ∨ j = 6 ∨ j = 7 := by omega
          rcases this with rfl | rfl | rfl | rfl | rfl | rfl | rfl | rfl <;> constructor <;> (go_simp; try rfl)
        case round =>
          obtain ⟨j, rfl, hj, hg, hd8⟩ := hrel
          have HG1 := Lib.hid hg; clear hg
          have HD8 := Lib.hid hd8; clear hd8
          by_cases hj8 : j < 8
          case neg =>
            have e8 : j = 8 := by omega
            subst e8
            go_wp2
            go_ret
            exact ⟨rfl, HGQ.out.trans HG1.out⟩
          case pos =>
            have dx := (HD8.out j hj8).1
            have dy := (HD8.out j hj8).2
            have lg := cell_lt dx
            dsimp only at lg
            obtain ⟨d, hd⟩ : ∃ d, d = pm j := ⟨_, rfl⟩
            have hd8 : d < 8 := by rw [hd]; exact pm_lt j
            rw [← hd] at dx dy
            clear hd
            have HM1d := Lib.hid (fun V w' hg hV => HM1.out d V w' hg hV)
            have HM2d := Lib.hid (fun V b6 o6 c6 w' h1 h2 => HM2.out d V b6 o6 c6 w' h1 h2)
            have HEQd := Lib.hid (HEQ.out d hd8)
            clear hd8
            generalize hxe : bA d = x at dx HM1d HM2d
            generalize hye : bB d = y at dy HM1d HM2d
            clear hxe hye
            go_wp2
            obtain ⟨h, hh⟩ : ∃ h, h = wr.heap.size := ⟨_, rfl⟩
            have v0 : (wr.alloc (Obj.cells #[.float .f64 x, .float .f64 y] 24)).cell? ⟨wr.heap.size, 0, none⟩ = some (.float .f64 x) := by go_simp
            have v1 : (wr.alloc (Obj.cells #[.float .f64 x, .float .f64 y] 24)).cell? ⟨wr.heap.size, 1, none⟩ = some (.float .f64 y) := by go_simp
            have HG2 := Lib.hid ((HGQ.out.trans HG1.out).alloc (Obj.cells #[.float .f64 x, .float .f64 y] 24))
            have HG8' := Lib.hid ((HGR.out.trans HG1.out).alloc (Obj.cells #[.float .f64 x, .float .f64 y] 24))
            have HD9 := Lib.hid (D8p.up _ _ HD8.out ((Grow.refl wr).alloc (Obj.cells #[.float .f64 x, .float .f64 y] 24)))
            have HG1' := Lib.hid (HG1.out.alloc (Obj.cells #[.float .f64 x, .float .f64 y] 24))
            rw [← hh] at v0 v1 ⊢
            clear hh dx dy lg HG1 HD8
            generalize wr.alloc (Obj.cells #[.float .f64 x, .float .f64 y] 24) = wv at *
            have lv := cell_lt v0
            dsimp only at lv
            refine wp_region_grow (fun i => if i = 2 then some (fun _ _ => (fun V _ => ∃ z, V = .float .f64 z ∧ Fl.IsI z (maxF (sc X Y d) K))) else if i = 6 then some (fun _ _ V ww => (∃ A c, V = .slice A 8 c) ∧ IsV V b6 o6 c6 s 8 ww) else if i = 7 then some (fun _ _ => (fun V _ => ∃ z, V = .float .f64 z ∧ Fl.IsI z (maxF (sc X Y d) K))) else none) (by kernel_rfl) (by kernel_rfl) ?_ ?_
            · intro i Φ h lo hi v
              (repeat' split at h) <;> cases h
              · exact fun _ _ h _ => h
              · exact fun _ _ h hg => ⟨h.1, IsV.up _ _ h.2 hg⟩
              · exact fun _ _ h _ => h
            repeat (first
              | (refine wpGrow_skip (by rfl) ?_; simp only [Act.put, List.setIfInBounds_toArray, List.set_cons_zero, List.set_cons_succ, Nat.reduceAdd])
              | (refine wpGrow_det' (by rfl) (by rfl) ?_; apply Exists.intro; refine ⟨fun w' hc hh => ?_, ?_⟩; (have hcell := grow_cell hc; clear hc hh; go_simp; rfl); simp only [Act.put, List.setIfInBounds_toArray, List.set_cons_zero, List.set_cons_succ, Nat.reduceAdd]))
            refine wpGrow_eff' (by rfl) (by rfl) (fun w' hc hh => ?_) (fun v lo hi w' hap hc hh hv => ?_)
            · have HGW := Lib.hid hc
              clear hc hh
              go_simp
              go_at_call 23
              refine (HM1d.out _ _ (HG2.out.trans HGW.out) (VSl.up _ _ HV8.out (HG8'.out.trans HGW.out))).mono ?_
              rintro e w2 ⟨z, rfl, hz, hg⟩
              exact EffPost.mk hg ⟨z, rfl, hz⟩
            obtain ⟨z1, rfl, hz1⟩ := hv
            clear hc hh hap w'
            simp only [Act.put, List.setIfInBounds_toArray, List.set_cons_zero, List.set_cons_succ, Nat.reduceAdd]
            repeat (first
              | (refine wpGrow_skip (by rfl) ?_; simp only [Act.put, List.setIfInBounds_toArray, List.set_cons_zero, List.set_cons_succ, Nat.reduceAdd])
              | (refine wpGrow_det' (by rfl) (by rfl) ?_; apply Exists.intro; refine ⟨fun w' hc hh => ?_, ?_⟩; (have hcell := grow_cell hc; clear hc hh; go_simp; rfl); simp only [Act.put, List.setIfInBounds_toArray, List.set_cons_zero, List.set_cons_succ, Nat.reduceAdd]))
            refine wpGrow_eff' (by rfl) (by rfl) (fun w' hc hh => ?_) (fun v lo hi w' hap hc hh hv => ?_)
            · clear hc hh
              go_simp
              go_at_call 19
              refine (HRY.out b6 o6 c6 _ HC6.out).mono ?_
              rintro e w2 ⟨V, rfl, hg, hown⟩
              obtain ⟨A, cc, e1, -, -⟩ := hown.sl
              exact EffPost.mk hg ⟨⟨A, cc, by rw [e1, rowsV_len]⟩, hown.sl⟩
            obtain ⟨⟨Aq, cq, rfl⟩, -⟩ := hv
            clear hc hh hap w'
            simp only [Act.put, List.setIfInBounds_toArray, List.set_cons_zero, List.set_cons_succ, Nat.reduceAdd]
            repeat (first
              | (refine wpGrow_skip (by rfl) ?_; simp only [Act.put, List.setIfInBounds_toArray, List.set_cons_zero, List.set_cons_succ, Nat.reduceAdd])
              | (refine wpGrow_det' (by rfl) (by rfl) ?_; apply Exists.intro; refine ⟨fun w' hc hh => ?_, ?_⟩; (have hcell := grow_cell hc; clear hc hh; go_simp; rfl); simp only [Act.put, List.setIfInBounds_toArray, List.set_cons_zero, List.set_cons_succ, Nat.reduceAdd]))
            refine wpGrow_eff' (by rfl) (by rfl) (fun w' hc hh => ?_) (fun v lo hi w' hap hc hh hv => ?_)
            · have hv6 := hh 6 (anc_of 1 (by kernel_rfl))
              have HV6 : Hid (IsV (.slice Aq 8 cq) b6 o6 c6 s 8 w') := hv6.2
              have HGW := Lib.hid hc
              clear hc hh hv6
              go_simp
              go_at_call 23
              refine (HM2d.out _ b6 o6 c6 _ (HF8.out.up (HG8'.out.trans HGW.out)) HV6.out).mono ?_
              rintro e w2 ⟨z, rfl, hz, hg⟩
              rw [HEQd.out] at hz
              exact EffPost.mk hg ⟨z, rfl, hz⟩
            obtain ⟨z2, rfl, hz2⟩ := hv
            clear hc hh hap w'
            simp only [Act.put, List.setIfInBounds_toArray, List.set_cons_zero, List.set_cons_succ, Nat.reduceAdd]
            repeat (first
              | (refine wpGrow_skip (by rfl) ?_; simp only [Act.put, List.setIfInBounds_toArray, List.set_cons_zero, List.set_cons_succ, Nat.reduceAdd])
              | (refine wpGrow_det' (by rfl) (by rfl) ?_; apply Exists.intro; refine ⟨fun w' hc hh => ?_, ?_⟩; (have hcell := grow_cell hc; clear hc hh; go_simp; rfl); simp only [Act.put, List.setIfInBounds_toArray, List.set_cons_zero, List.set_cons_succ, Nat.reduceAdd]))
            refine wpGrow_nil ?_
            intro w1 hg hh
            have HE := Fl.eqV hz1 hz2
            have HNE : Hid ((FloatKind.f64.format.order z1 z2 != some .eq) = false) := by show _ = _; rw [bne, HE]; rfl
            clear HE hz1 hz2 hh
            have HG3 := Lib.hid (HG1'.out.trans hg)
            have HD3 := Lib.hid (D8p.up _ _ HD9.out hg)
            clear hg v0 v1 lv
            cases hb : (FloatKind.f64.format.order z1 z2 != some .eq) with
            | true => have h := HNE.out; rw [hb] at h; cases h
            | false =>
              clear HNE hb
              go_wp2
              exact ⟨⟨j + 1, by go_num, by omega, HG3.out, HD3.out⟩, by simp [intOf]; omega⟩
end Go.Proofs.Ytelfjglhmccecaa
