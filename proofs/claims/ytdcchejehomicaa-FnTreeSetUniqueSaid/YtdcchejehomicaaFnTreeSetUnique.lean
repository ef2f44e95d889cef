import Derived.Test.YtdcchejehomicaaTsL
namespace Go.Proofs.Ytdcchejehomicaa
open Go.ChangeShapes Go.WideShapes Go.ChangeAt Go.RowKit Go.GrowR
set_option linter.unusedVariables false
set_option linter.unusedSimpArgs false

def OrQ (w : World) (e : Ending) (w' : World) : Prop := ∃ b, e = .returned (.bool b) ∧ w' = w
theorem order_calls (c : Int) (w : World) : Calls Try.prog 5 #[.int .i64 c] w (OrQ w) := by
  by_cases h0 : 0 ≤ c
  · by_cases h3 : c ≤ 3
    · go_enter Try.func5, Try.ntmps5
      go_wp2
      go_ret
      exact ⟨_, rfl, rfl⟩
    · go_enter Try.func5, Try.ntmps5
      go_wp2
      go_ret
      exact ⟨_, rfl, rfl⟩
  · go_enter Try.func5, Try.ntmps5
    go_wp2
    go_ret
    exact ⟨_, rfl, rfl⟩
set_option maxRecDepth 100000 in
set_option maxHeartbeats 8000000 in
theorem law_calls (lay c : Int) (v : Value) (xs : List Nat) (w : World) (hv : FSl v xs w) : Calls Try.prog 3 #[.int .i64 lay, .int .i64 c, v] w fun e w' => e = .returned (.bool true) ∧ Grow w w' := by
  have HV := Lib.hid hv
  obtain ⟨A, cc, rfl, -, -⟩ := hv
  by_cases hl : xs.length ≤ 2147483647
  case neg =>
    have hgt : (2147483647 : Int) < (xs.length : Int) := by omega
    go_enter Try.func3, Try.ntmps3
    go_wp2
    go_ret
    exact ⟨rfl, Grow.refl w⟩
  have HROW := Lib.hid (sRow_calls lay _ xs w HV.out hl)
  obtain ⟨n, hn⟩ : ∃ n, n = xs.length := ⟨_, rfl⟩
  have HN := Lib.hid hn
  rw [← hn] at HROW hl HV ⊢
  have hle : (n : Int) ≤ 2147483647 := by omega
  clear hn
  go_enter Try.func3, Try.ntmps3
  go_wp2_with fail
  refine HROW.out.mono ?_
  rintro e w1 ⟨r, rfl, hg1, hr⟩
  have HG1 := Lib.hid hg1
  cases r with
  | false =>
    clear hr hg1
    go_wp2
    go_ret
    exact ⟨rfl, HG1.out⟩
  | true =>
  obtain ⟨h1, h9, hk, hmod, -⟩ := hr rfl
  obtain ⟨s, hs, s2, s9⟩ := stride_nat lay h1 h9
  rw [hs] at hmod
  have hK : xs.length = xs.length / s * s := by
    have h2 : xs.length % s = 0 := by have : ((xs.length % s : Nat) : Int) = 0 := by rw [Int.natCast_emod]; exact hmod
                                      omega
    have := Nat.div_add_mod xs.length s
    rw [h2, Nat.add_zero, Nat.mul_comm] at this; exact this.symm
  obtain ⟨rows, hrows, hrl, hl'⟩ := rows_ex s _ xs hK
  have hrs : rows.length * s ≤ 1000 := by rw [hrl, ← hK]; exact hk
  have HU := Lib.hid (fun w' (hg : Grow w w') => unique_calls (.slice A n cc) s lay c rows w' (FSl.up _ _ (by rw [← hrows]; exact HV.out) hg) hl' h1 h9 hs s2 s9 hrs)
  have HT := Lib.hid (fun w' (hg : Grow w w') => treeSet_calls (.slice A n cc) s lay c rows w' (FSl.up _ _ (by rw [← hrows]; exact HV.out) hg) hl' h1 h9 hs s2 s9 hrs)
  have hul : ∀ r ∈ (tsAll c rows).us, r.length = s := fun r hr => hl' r ((tsAll_mem c rows).1 r hr)
  have hus : (tsAll c rows).us.length * s ≤ 1000 := Nat.le_trans (Nat.mul_le_mul_right s (tsAll_le c rows)) hrs
  have HT2 := Lib.hid (fun v2 w' (hf : FSl v2 (tsAll c rows).us.flatten w') => treeSet_calls v2 s lay c (tsAll c rows).us w' hf hul h1 h9 hs s2 s9 hus)
  rw [tsAll_us] at HT2
  have hfl1 : (tsAll c rows).us.flatten.length = (tsAll c rows).us.length * s := flat_len hul
  have hfl2 : (tsAll c rows).t.rows.flatten.length = (tsAll c rows).us.length * s := by
    rw [flat_len fun r hr => hl' r ((tsAll_mem c rows).2 r hr), BT.rows_len, tsAll_size]
  obtain ⟨m, hm⟩ : ∃ m, m = (tsAll c rows).us.length * s := ⟨_, rfl⟩
  have HF1 : Hid ((tsAll c rows).us.flatten.length = m) := hfl1.trans hm.symm
  have HF2 : Hid ((tsAll c rows).t.rows.flatten.length = m) := hfl2.trans hm.symm
  have hm1 : m ≤ 1000 := by rw [hm]; exact hus
  have hmm : ((m : Int) == (m : Int)) = true := by simp
  clear hr hg1 hk hmod hs hK hrows hrl hl' hrs hul hus hfl1 hfl2 hm
  go_wp2_with fail
  refine (order_calls c _).mono ?_
  rintro e w2 ⟨bo, rfl, rfl⟩
  cases bo with
  | false =>
    go_wp2
    go_ret
    exact ⟨rfl, HG1.out⟩
  | true =>
  go_wp2_with fail
  refine (HU.out _ HG1.out).mono ?_
  rintro e w3 ⟨V3, rfl, hg3, hf3⟩
  have HF3 := Lib.hid hf3
  obtain ⟨A3, c3, rfl, -, -⟩ := hf3
  rw [HF1.out]
  rw [HF1.out] at HF3
  have HG3 := Lib.hid (HG1.out.trans hg3)
  clear hg3
  go_wp2_with fail
  refine (HT.out _ HG3.out).mono ?_
  rintro e w4 ⟨Va4, V4, rfl, hg4, hf4⟩
  have HF4 := Lib.hid hf4
  obtain ⟨A4, c4, rfl, -, -⟩ := hf4
  rw [HF2.out]
  rw [HF2.out] at HF4
  have HT4 := Lib.hid (HT2.out _ w4 (FSl.up _ _ HF3.out hg4))
  have HG4 := Lib.hid (HG3.out.trans hg4)
  clear hg4
  go_wp2_with fail
  refine HT4.out.mono ?_
  rintro e w5 ⟨Va5, V5, rfl, hg5, hf5⟩
  have HSM := Lib.hid ((same_calls _ V5 _ _ w5 (FSl.up _ _ HF4.out hg5) hf5 (by rw [HF2.out]; omega) (by rw [HF2.out]; omega)).mono (R' := fun e w' => e = .returned (.bool true) ∧ Grow w5 w') fun e w' ⟨h1, h2⟩ => ⟨by rw [h1]; simp, h2⟩)
  obtain ⟨A5, c5, rfl, -, -⟩ := hf5
  rw [HF2.out] at HSM ⊢
  have HG5 := Lib.hid (HG4.out.trans hg5)
  clear hg5
  go_wp2_with fail
  refine HSM.out.mono ?_
  rintro e w6 ⟨rfl, hg6⟩
  go_wp2
  go_ret
  exact ⟨rfl, HG5.out.trans hg6⟩
end Go.Proofs.Ytdcchejehomicaa
