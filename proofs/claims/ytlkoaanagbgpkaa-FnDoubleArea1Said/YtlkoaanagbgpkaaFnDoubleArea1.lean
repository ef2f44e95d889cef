import Derived.Test.YtlkoaanagbgpkaaAreaA
namespace Go.Proofs.Ytlkoaanagbgpkaa
open Go.ChangeShapes Go.WideShapes Go.ChangeAt Go.RowKit Go.GrowR
set_option linter.unusedVariables false
set_option linter.unusedSimpArgs false
theorem rows_div' {n s : Nat} (hs : 0 < s) (h : (n : Int) % (s : Int) = 0) : n = n / s * s := by
  have h' : n % s = 0 := by omega
  have := Nat.div_add_mod n s
  rw [h'] at this; rw [Nat.mul_comm]; omega
set_option maxRecDepth 100000 in
set_option maxHeartbeats 4000000 in
theorem law_calls (u : Value) (xs : List Nat) (n : Int) (w : World) (hu : FSl u xs w) :
    Calls Try.prog 8 #[u, .int .i64 n] w fun e w' => e = .returned (.bool true) ∧ Grow w w' := by
  have HU := Lib.hid hu
  obtain ⟨A, c, rfl, hc, hA⟩ := hu
  by_cases hm : xs.length ≤ 2147483647
  case neg =>
    clear hA
    go_enter Try.func8, Try.ntmps8
    go_wp2
    go_ret
    exact ⟨rfl, Grow.refl _⟩
  by_cases hn : 2 ≤ n ∧ n ≤ 9
  case neg =>
    have HO := Lib.hid (fun w => fRow_out A xs.length c n w hn); clear hn hA
    go_enter Try.func8, Try.ntmps8
    go_wp2_with (go_at_call 28; refine (HO.out _).mono ?_; rintro e w1 ⟨rfl, hg⟩; have HG := Lib.hid hg; clear hg)
    go_ret
    exact ⟨rfl, HG.out.alloc _⟩
  obtain ⟨n2, n9⟩ := hn
  obtain ⟨s, rfl⟩ : ∃ s : Nat, n = s := ⟨n.toNat, by omega⟩
  have HI := Lib.hid (fun w => fRow_in A xs.length c s s w n2 n9 rfl hm)
  have hsl := stride_lay s n2
  obtain ⟨b, o, hAA, hcell⟩ : ∃ b o, (xs.length = 0 ∨ A = some ⟨b, o, none⟩) ∧ FCells w b o xs := by
    rcases hA with rfl | ⟨b, o, rfl, h⟩
    · exact ⟨0, 0, .inl rfl, by intro i x h; simp at h⟩
    · exact ⟨b, o, .inr rfl, h⟩
  have HC := Lib.hid hcell; have HAA := Lib.hid hAA; have HSL := Lib.hid hsl
  clear hA hcell hAA hsl
  cases hg1 : (decide (1 + xs.length ≤ 2000) && ((xs.length : Int) % (s : Int) == 0))
  case false =>
    have HB := Lib.hid hg1; clear hg1
    go_enter Try.func8, Try.ntmps8
    go_wp2_with fail
    refine (HI.out _).mono ?_
    rw [HB.out]
    rintro e w1 ⟨rfl, hg⟩
    have HG := Lib.hid hg; clear hg
    go_wp2
    go_ret
    exact ⟨rfl, HG.out.alloc _⟩
  case true =>
    have HB := Lib.hid hg1
    rw [Bool.and_eq_true] at hg1
    have hle := of_decide_eq_true hg1.1
    have hdiv := rows_div' (s := s) (by omega) (by simpa using hg1.2)
    have HD := Lib.hid hdiv
    clear hg1 hdiv
    have HE := Lib.hid (fun w' (hg : Grow w w') => eachWhole_calls 8 (layN s) 0 _ none none 0 0 0 0 xs w' (FSl.up _ _ HU.out hg) (by omega))
    cases hall : xs.all w20
    case false =>
      have HALL := Lib.hid hall; clear hall
      go_enter Try.func8, Try.ntmps8
      go_wp2_with fail
      refine (HI.out _).mono ?_
      rw [HB.out]
      rintro e w1 ⟨rfl, hg⟩
      have HG := Lib.hid (hg.alloc (Obj.cells #[.int .i64 8, .int .i64 (layN s), .int .i64 0, .slice A xs.length c, .slice none 0 0, .slice none 0 0, .slice none 0 0] 56)); clear hg
      go_wp2_with (go_at_call 29; refine (HE.out _ HG.out).mono ?_; rw [HALL.out]; rintro e w2 ⟨rfl, hg2⟩; have HG2 := Lib.hid (HG.out.trans hg2); clear hg2)
      go_ret
      exact ⟨rfl, HG2.out⟩
    case true =>
      have HALL := Lib.hid hall
      obtain ⟨ns, hns⟩ := are_of hall
      clear hall
      obtain ⟨K, hK⟩ : ∃ K, K = xs.length / s := ⟨_, rfl⟩
      rw [← hK] at HD
      clear hK
      have s2 : 2 ≤ s := by omega
      have s9 : s ≤ 9 := by omega
      have HDA := Lib.hid (fun w' (hg : Grow w w') => implDouble_calls A b o c xs.length s K xs ns w' HAA.out rfl (HC.out.up hg) hns s2 s9 HD.out (by omega) hc)
      have HTW := Lib.hid (fun w' (hg : Grow w w') => gTwice_calls (layN s) 0 A b o c xs.length s K xs ns w' HAA.out HSL.out rfl (HC.out.up hg) hns s2 s9 HD.out (by omega) hc)
      have hab := area_bound hns.small s (K - 1)
      have hkk : ((K - 1 : Nat) : Int) ≤ 2000 := by
        have h2 := HD.out
        have : K ≤ xs.length := by rw [h2]; exact Nat.le_mul_of_pos_right K (by omega)
        omega
      have hof := Fl.ofInt_I (area ns s (K - 1)) (by omega)
      have HOF := Lib.hid hof
      clear hns hof hab hkk
      go_enter Try.func8, Try.ntmps8
      go_wp2_with fail
      refine (HI.out _).mono ?_
      rw [HB.out]
      rintro e w1 ⟨rfl, hg⟩
      have HG := Lib.hid (hg.alloc (Obj.cells #[.int .i64 8, .int .i64 (layN s), .int .i64 0, .slice A xs.length c, .slice none 0 0, .slice none 0 0, .slice none 0 0] 56)); clear hg
      have g0 : GeoAt w1.heap.size 0 8 (layN s) 0 (.slice A xs.length c) nilS nilS (w1.alloc (Obj.cells #[.int .i64 8, .int .i64 (layN s), .int .i64 0, .slice A xs.length c, .slice none 0 0, .slice none 0 0, .slice none 0 0] 56)) := ⟨by go_simp, by go_simp, by go_simp, by go_simp, by go_simp, by go_simp, by go_simp⟩
      have HG0 := Lib.hid g0; clear g0
      go_wp2_with fail
      refine (HE.out _ HG.out).mono ?_
      rw [HALL.out]
      rintro e w2 ⟨rfl, hg2⟩
      have HG2 := Lib.hid (HG.out.trans hg2)
      have HGE2 := Lib.hid (GeoAt.up _ _ HG0.out hg2); clear hg2
      go_wp2_with fail
      refine (HDA.out _ HG2.out).mono ?_
      rintro e w3 ⟨z, rfl, hz, hg3⟩
      have HG3 := Lib.hid (HG2.out.trans hg3)
      obtain ⟨d0, d1, d2, d3, d4, d5, d6⟩ := GeoAt.up _ _ HGE2.out hg3
      simp only [Nat.zero_add] at d1 d2 d3 d4 d5 d6
      have hcmp := Fl.eqB hz HOF.out
      have HCM := Lib.hid hcmp
      clear hz hg3
      go_wp2_with (go_at_call 32; refine (HTW.out _ HG3.out).mono ?_; rintro e w4 ⟨rfl, hg4⟩; have HG4 := Lib.hid (HG3.out.trans hg4); clear hg4)
      go_ret
      exact ⟨by first | rfl | simp, HG4.out⟩
end Go.Proofs.Ytlkoaanagbgpkaa
