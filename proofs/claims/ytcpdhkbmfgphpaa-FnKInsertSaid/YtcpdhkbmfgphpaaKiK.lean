import Derived.Test.YtcpdhkbmfgphpaaKiJ
namespace Go.Proofs.Ytcpdhkbmfgphpaa
open Go.ChangeShapes Go.WideShapes Go.ChangeAt Go.RowKit Go.GrowR
set_option linter.unusedVariables false
set_option linter.unusedSimpArgs false

theorem fssl_two {w : World} {b : Nat} {u v : Value} {xs ys : List Nat} (h : w.cell? ⟨b, 0, none⟩ = some u) (h' : w.cell? ⟨b, 1, none⟩ = some v) (hu : FSl u xs w) (hv : FSl v ys w) : FSSl (.slice (some ⟨b, 0, none⟩) 2 2) [xs, ys] w :=
  ⟨_, _, rfl, Nat.le_refl _, .inr ⟨b, 0, rfl, fun i z hi => by
    match i, hi with
    | 0, hi => cases hi; exact ⟨u, h, hu⟩
    | 1, hi => cases hi; exact ⟨v, h', hv⟩⟩⟩
noncomputable def limN (d : Nat) (k : KN) : Bool := (decide (k.mn.length = 0) && decide (k.mx.length = 0)) || gridB 1048576 d [k.mn, k.mx]
noncomputable def limB (d : Nat) (ns : List KN) : Bool := ns.all (limN d)
theorem limN_box {d : Nat} {k : KN} (h : limN d k = true) : BxLen d (bxOf k) := by
  unfold limN at h
  unfold bxOf
  split
  · trivial
  · next hne =>
    rcases Bool.or_eq_true_iff.1 h with h | h
    · simp only [Bool.and_eq_true, decide_eq_true_eq] at h
      exact absurd (List.length_eq_zero_iff.1 h.1) hne
    · unfold gridB rowB at h
      simp only [Bool.and_eq_true, List.all_cons, beq_iff_eq] at h
      exact ⟨h.1.1.1, h.1.2.1.1⟩
theorem lim_wb {d : Nat} {ns : List KN} (h : limB d ns = true) : ∀ (t : Kt.KT), (∀ i ∈ t.ins, i < ns.length) → (toPT ns t).WB d
  | .nil, _ => trivial
  | .node i l r, hi => ⟨limN_box (List.all_eq_true.1 h _ (List.mem_of_getElem? (kn_at (hi i (by simp [Kt.KT.ins]))))), lim_wb h l fun x hx => hi x (by simp [Kt.KT.ins, hx]), lim_wb h r fun x hx => hi x (by simp [Kt.KT.ins, hx])⟩
set_option maxRecDepth 100000 in
set_option maxHeartbeats 4000000 in
theorem limited_calls (v : Value) (ns : List KN) (d : Nat) (w : World) (hv : KSl v ns w) (hf : fitsB ns = true) (hd : d ≤ 6) :
    Calls Try.prog 16 #[v, .int .i64 d] w (BoolQ (limB d ns) w) := by
  have HV := Lib.hid hv
  unfold fitsB at hf
  simp only [Bool.and_eq_true, decide_eq_true_eq] at hf
  obtain ⟨hn, hall⟩ := hf
  have HALL := Lib.hid hall
  clear hall
  obtain ⟨A, c, rfl, -, -⟩ := hv
  go_enter Try.func16, Try.ntmps16
  go_wp2
  go_loopw [9] (fun i wr => ∃ k : Nat, i = .int .i64 k ∧ k ≤ ns.length ∧ (ns.take k).all (limN d) = true ∧ Grow w wr) (fun i _ => ns.length - (intOf i).toNat)
  case atStart => exact ⟨0, rfl, Nat.zero_le _, rfl, Grow.refl _⟩
  case round =>
    obtain ⟨k, rfl, hk, hal, hgr⟩ := hrel
    have HAL := Lib.hid hal; have HGR := Lib.hid hgr
    clear hal hgr
    by_cases hlt : k < ns.length
    case neg =>
      have HT : Hid (limB d ns = true) := by
        have h := HAL.out
        rw [List.take_of_length_le (by omega)] at h
        exact h
      go_wp2
      go_ret
      exact ⟨by rw [HT.out]; rfl, HGR.out⟩
    case pos =>
      obtain ⟨kn, hkn⟩ : ∃ kn, ns[k]? = some kn := ⟨ns[k], by simp [hlt]⟩
      have HKN := Lib.hid hkn
      have hfit := List.all_eq_true.1 HALL.out _ (List.mem_of_getElem? hkn)
      unfold fits9 at hfit
      simp only [Bool.and_eq_true, decide_eq_true_eq] at hfit
      obtain ⟨-, hf1, hf2⟩ := hfit
      obtain ⟨b, o, c', p, mn, mx, he, hc, ⟨q0, q1, q2, q3, q4, q5⟩, hp, hmn, hmx⟩ := HV.out.at hkn
      simp only [Value.slice.injEq] at he
      obtain ⟨rfl, -, rfl⟩ := he
      have hq := HGR.out
      have r0 := up_cell q0 hq; have r1 := up_cell q1 hq; have r2 := up_cell q2 hq; have r3 := up_cell q3 hq; have r4 := up_cell q4 hq; have r5 := up_cell q5 hq
      have HC := Lib.hid (fun b' w' (hg : Grow w w') (h0 : w'.cell? ⟨b', 0, none⟩ = some mn) (h1 : w'.cell? ⟨b', 1, none⟩ = some mx) => grid_calls _ [kn.mn, kn.mx] d 4697254411347427328 1048576 w' (fssl_two h0 h1 (FSl.up _ _ hmn hg) (FSl.up _ _ hmx hg)) isI_20 (by decide) (by decide) (by simp) (by simp; omega) (by omega))
      obtain ⟨A2, c2, rfl, -, -⟩ := hp
      obtain ⟨A3, c3, rfl, -, -⟩ := hmn
      obtain ⟨A4, c4, rfl, -, -⟩ := hmx
      have HLN : Hid (limN d kn = ((decide (kn.mn.length = 0) && decide (kn.mx.length = 0)) || gridB 1048576 d [kn.mn, kn.mx])) := rfl
      have HT : Hid (limN d kn = true → (ns.take (k + 1)).all (limN d) = true) := fun h => by rw [all_take_succ _ _ _ _ HKN.out, HAL.out, h]; rfl
      have HF : Hid (limN d kn = false → limB d ns = false) := fun h => by unfold limB; rw [all_false_of _ _ k kn HKN.out h]
      clear q0 q1 q2 q3 q4 q5 hq hkn
      by_cases e : kn.mn.length = 0 ∧ kn.mx.length = 0
      case pos =>
        obtain ⟨e1, e2⟩ := e
        have HL : Hid (limN d kn = true) := by show _ = _; rw [HLN.out, decide_eq_true e1, decide_eq_true e2]; rfl
        rw [e1] at r4; rw [e2] at r5
        go_wp2
        go_roundw
        case rel => exact ⟨k + 1, by go_num, by omega, HT.out HL.out, HGR.out.alloc _⟩
        case measure => simp [intOf]; omega
      case neg =>
        have HL : Hid (limN d kn = gridB 1048576 d [kn.mn, kn.mx]) := by
          show _ = _
          rw [HLN.out]
          have : (decide (kn.mn.length = 0) && decide (kn.mx.length = 0)) = false := by
            simp only [Bool.and_eq_false_iff, decide_eq_false_iff_not]; omega
          rw [this]; rfl
        by_cases e1 : kn.mn.length = 0
        case pos =>
          have e2 : 0 < kn.mx.length := by omega
          cases hg : gridB 1048576 d [kn.mn, kn.mx] with
          | false =>
            have HB := Lib.hid (HF.out (HL.out.trans hg))
            rw [hg] at HC
            clear hg
            go_wp2_with fail
            refine (HC.out (wr.heap.size + 1) _ ((HGR.out.alloc _).alloc _) (by go_simp) (by go_simp)).mono ?_
            rintro e w1 ⟨rfl, rfl⟩
            go_wp2
            go_ret
            exact ⟨by rw [HB.out]; rfl, (HGR.out.alloc _).alloc _⟩
          | true =>
            have HB := Lib.hid (HT.out (HL.out.trans hg))
            rw [hg] at HC
            clear hg
            go_wp2_with fail
            refine (HC.out (wr.heap.size + 1) _ ((HGR.out.alloc _).alloc _) (by go_simp) (by go_simp)).mono ?_
            rintro e w1 ⟨rfl, rfl⟩
            go_wp2
            go_roundw
            case rel => exact ⟨k + 1, by go_num, by omega, HB.out, (HGR.out.alloc _).alloc _⟩
            case measure => simp [intOf]; omega
        case neg =>
          have e2 : 0 < kn.mn.length := by omega
          cases hg : gridB 1048576 d [kn.mn, kn.mx] with
          | false =>
            have HB := Lib.hid (HF.out (HL.out.trans hg))
            rw [hg] at HC
            clear hg
            go_wp2_with fail
            refine (HC.out (wr.heap.size + 1) _ ((HGR.out.alloc _).alloc _) (by go_simp) (by go_simp)).mono ?_
            rintro e w1 ⟨rfl, rfl⟩
            go_wp2
            go_ret
            exact ⟨by rw [HB.out]; rfl, (HGR.out.alloc _).alloc _⟩
          | true =>
            have HB := Lib.hid (HT.out (HL.out.trans hg))
            rw [hg] at HC
            clear hg
            go_wp2_with fail
            refine (HC.out (wr.heap.size + 1) _ ((HGR.out.alloc _).alloc _) (by go_simp) (by go_simp)).mono ?_
            rintro e w1 ⟨rfl, rfl⟩
            go_wp2
            go_roundw
            case rel => exact ⟨k + 1, by go_num, by omega, HB.out, (HGR.out.alloc _).alloc _⟩
            case measure => simp [intOf]; omega
end Go.Proofs.Ytcpdhkbmfgphpaa
