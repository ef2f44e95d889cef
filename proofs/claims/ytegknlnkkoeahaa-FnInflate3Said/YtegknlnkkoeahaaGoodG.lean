import Derived.Test.YtegknlnkkoeahaaGoodE
namespace Go.Proofs.Ytegknlnkkoeahaa
open Go.ChangeShapes Go.WideShapes Go.ChangeAt Go.RowKit Go.GrowR
set_option linter.unusedVariables false
set_option linter.unusedSimpArgs false

def GoodQ (g : GT) (w : World) (e : Ending) (w' : World) : Prop := ∃ r : Bool, e = .returned (.bool r) ∧ Grow w w' ∧ (r = true → GoodF g)
theorem GoodQ.no {g : GT} {w w' : World} (h : Grow w w') : GoodQ g w (.returned (.bool false)) w' := ⟨false, rfl, h, fun h => by cases h⟩
theorem len0 {α : Type} {l : List α} (h : ((l.length : Int) == 0) = true) : l = [] := by
  have : l.length = 0 := by simp at h; simpa using h
  exact List.eq_nil_of_length_eq_zero this
set_option maxRecDepth 100000 in
set_option maxHeartbeats 8000000 in
/-- .. no collection -/
theorem goodPlain (k l r : Int) (fl : List Nat) (en : List Int) (ens : List (List Int)) (kids : List GT) (v : Value) (w : World) (hr : Reach44 (.mk k l r fl en ens kids)) (hv : GV (.mk k l r fl en ens kids) v w) (h7 : k ≠ 7) :
    Calls Try.prog 62 #[v] w (GoodQ (.mk k l r fl en ens kids) w) := by
  obtain ⟨r0, r1, r2, r3, -, r5, r6, r7, -, r8⟩ := hr
  have hvf := hv
  obtain ⟨k', l', r', A1, n1, c1, A2, n2, c2, A3, n3, c3, A4, n4, c4, rfl⟩ := hvf.form
  unfold GV at hv
  obtain ⟨u, e1, e2, A, c, he, -, hfl, hen, hens, hk⟩ := hv
  simp only [Value.agg.injEq, Array.mk.injEq, List.cons.injEq, Value.int.injEq, Value.slice.injEq, true_and, and_true] at he
  obtain ⟨rfl, rfl, rfl, he1, he2, he3, rfl, rfl, rfl⟩ := he
  have q1 : n1 = fl.length := by obtain ⟨_, _, h, _⟩ := hfl; rw [← he1] at h; cases h; rfl
  have q2 : n2 = en.length := by obtain ⟨_, _, h, _⟩ := SlE.form hen; rw [← he2] at h; cases h; rfl
  have q3 : n3 = ens.length := by obtain ⟨_, _, h, _⟩ := SlE.form hens; rw [← he3] at h; cases h; rfl
  subst q1 q2 q3 he1 he2 he3
  clear hfl hvf
  obtain ⟨W, hW⟩ : ∃ W, W = w.alloc (Obj.cells #[.int .i64 k', .int .i64 l', .int .i64 r', .slice A1 fl.length c1, .slice A2 en.length c2, .slice A3 ens.length c3, .slice A4 kids.length c4] 28) := ⟨_, rfl⟩
  have HGW : Hid (Grow w W) := by rw [hW]; exact (Grow.refl w).alloc _
  have d0 : W.cell? ⟨w.heap.size, 0, none⟩ = some (.int .i64 k') := by rw [hW]; go_simp
  have d1 : W.cell? ⟨w.heap.size, 1, none⟩ = some (.int .i64 l') := by rw [hW]; go_simp
  have d3 : W.cell? ⟨w.heap.size, 3, none⟩ = some (.slice A1 fl.length c1) := by rw [hW]; go_simp
  have d4 : W.cell? ⟨w.heap.size, 4, none⟩ = some (.slice A2 en.length c2) := by rw [hW]; go_simp
  have d5 : W.cell? ⟨w.heap.size, 5, none⟩ = some (.slice A3 ens.length c3) := by rw [hW]; go_simp
  have d6 : W.cell? ⟨w.heap.size, 6, none⟩ = some (.slice A4 kids.length c4) := by rw [hW]; go_simp
  have HWE := Lib.hid hW; clear hW
  have HEN := Lib.hid hen; have HENS := Lib.hid hens
  have R6 := Lib.hid r6; have R5 := Lib.hid r5; have R7 := Lib.hid r7
  have H7 := Lib.hid h7
  have e7 : (k' == 7) = false := by rw [beq_eq_false_iff_ne]; exact h7
  clear h7 hen hens hk r8 r5 r6 r7
  by_cases hl1 : 1 ≤ l'
  case neg =>
    have hs0 : strideN l' = 0 := by unfold strideN; rw [if_pos (by omega)]
    go_enter Try.func62, Try.ntmps62
    go_wp2_with (go_at_call 22; refine (stride_calls _ _).mono ?_; rw [hs0]; rintro e w1 ⟨rfl, rfl⟩)
    try (rw [← HWE.out]; go_wp2)
    go_ret
    exact GoodQ.no (by first | exact HGW.out | exact (Grow.refl w).alloc _)
  obtain ⟨s, hs⟩ : ∃ s, s = strideN l' := ⟨_, rfl⟩
  have hs1 : 0 < s := by rw [hs]; unfold strideN; repeat' split
                         all_goals omega
  have HS := Lib.hid hs
  have hs0 : (s == 0) = false := by rw [beq_eq_false_iff_ne]; omega
  have hs00 : ¬ s = 0 := by omega
  have KS := Lib.hid (fun w => (show Calls Try.prog 22 #[.int .i64 l'] w fun e w' => e = .returned (.int .i64 s) ∧ w' = w by rw [hs]; exact stride_calls _ _))
  have HL1 := Lib.hid hl1
  clear hs hl1
  cases hm : ((fl.length : Int) % s != 0) with
  | true =>
    go_enter Try.func62, Try.ntmps62
    go_wp2_with (go_at_call 22; refine (KS.out _).mono ?_; rintro e w1 ⟨rfl, rfl⟩)
    try (rw [← HWE.out]; go_wp2)
    go_ret
    exact GoodQ.no (by first | exact HGW.out | exact (Grow.refl w).alloc _)
  | false =>
  have HM := Lib.hid (show (fl.length : Int) % s = 0 by simpa using hm)
  by_cases hk0 : kids.length = 0
  case neg =>
    have p1 : (0 : Int) < (kids.length : Int) := by omega
    have p2 : 0 < kids.length := by omega
    clear hk0
    go_enter Try.func62, Try.ntmps62
    go_wp2_with (go_at_call 22; refine (KS.out _).mono ?_; rintro e w1 ⟨rfl, rfl⟩)
    try (rw [← HWE.out]; go_wp2)
    go_ret
    exact GoodQ.no (by first | exact HGW.out | exact (Grow.refl w).alloc _)
  obtain rfl : kids = [] := List.eq_nil_of_length_eq_zero hk0
  simp only [List.length_nil] at *
  clear hk0 r3
  by_cases h6 : k' = 6
  case pos =>
    subst h6
    clear H7 e7
    go_enter Try.func62, Try.ntmps62
    go_wp2_with (go_at_call 22; refine (KS.out _).mono ?_; rintro e w1 ⟨rfl, rfl⟩)
    rw [← HWE.out]
    clear HWE
    go_wp2
    all_goals
      go_loop [8, 9, 11, 12, 135] (fun t ok x y i => ∃ (j : Nat) (f : Int) (b : Bool), j ≤ ens.length ∧ i = .int .i64 j ∧ t = .int .i64 f ∧ ok = .bool b ∧ 0 ≤ f ∧ (b = true → EndsOk s false 0 (ens.take j).flatten ∧ f = lastE 0 (ens.take j).flatten)) (fun _ _ _ _ i => ens.length - (intOf i).toNat)
      case atStart => exact ⟨0, 0, true, Nat.zero_le _, rfl, rfl, rfl, by omega, fun _ => ⟨by simp [EndsOk], by simp [lastE]⟩⟩
      case round =>
        obtain ⟨j, f, b, hj, rfl, rfl, rfl, hf, hb⟩ := hrel
        have HB := Lib.hid hb
        clear hb
        by_cases hlt : j < ens.length
        · obtain ⟨p, hp⟩ : ∃ p, ens[j]? = some p := ⟨ens[j], by simp [hlt]⟩
          obtain ⟨b5, o5, A5, c5, n5, he, hc, hsl⟩ := iss_at HENS.out hp
          simp only [Value.slice.injEq] at he
          obtain ⟨rfl, -, -⟩ := he
          have hc' := up_cell hc HGW.out
          have HE := Lib.hid (goodEnds_calls _ p f s false W (ISl.up _ _ hsl HGW.out) (R5.out p (List.mem_of_getElem? hp)) (R7.out p (List.mem_of_getElem? hp)) hf hs1)
          have HT : Hid ((ens.take (j + 1)).flatten = (ens.take j).flatten ++ p) := by show _ = _; rw [List.take_add_one, hp]; simp
          clear hc hp hsl hf
          have hq1 : IntKind.i64.wrap ((j : Int) + 1) = (j : Int) + 1 := IntWalk.i64_in _ (by omega)
          go_wp2_with (go_at_call 84; refine HE.out.mono ?_; rintro e w5 ⟨to, ok, rfl, rfl, hto, hok⟩; have HOK := Lib.hid hok; clear hok)
          all_goals
            go_round
            case rel =>
              first
                | exact ⟨j + 1, to, true, by omega, by go_num, rfl, rfl, hto, fun _ => by
                    obtain ⟨h1, h2⟩ := HB.out (by first | rfl | assumption)
                    obtain ⟨h3, h4⟩ := HOK.out (by first | rfl | assumption)
                    rw [HT.out, lastE_append, ← h2]
                    exact ⟨endsOk_append h1 (by rw [← h2]; exact h3), h4⟩⟩
                | exact ⟨j + 1, to, _, by omega, by go_num, rfl, rfl, hto, fun hh => by
                    first
                      | (simp at hh)
                      | (have hb1 : b = true := by first | exact hh | (simp at hh; exact hh.1) | assumption
                         have hk1 : ok = true := by first | exact hh | (simp at hh; exact hh.2) | assumption
                         obtain ⟨h1, h2⟩ := HB.out hb1
                         obtain ⟨h3, h4⟩ := HOK.out hk1
                         rw [HT.out, lastE_append, ← h2]
                         exact ⟨endsOk_append h1 (by rw [← h2]; exact h3), h4⟩)⟩
            case measure => simp [intOf]; omega
        · have hje : j = ens.length := by omega
          have HJ := Lib.hid hje
          clear hje
          cases b with
          | false =>
            go_wp2
            go_ret
            exact GoodQ.no (by first | exact HGW.out | exact (Grow.refl w).alloc _)
          | true =>
            obtain ⟨hb1, hb2⟩ := HB.out rfl
            rw [List.take_of_length_le (by have := HJ.out; omega)] at hb1 hb2
            have HB1 := Lib.hid hb1; have HB2 := Lib.hid hb2
            clear hb1 hb2
            go_wp2
            all_goals
              go_ret
              refine ⟨_, rfl, by first | exact HGW.out | exact (Grow.refl w).alloc _, fun hh => ?_⟩
              first
                | (exfalso; simp at hh; done)
                | (have h1 : f = (fl.length : Int) := by first | assumption | (simp at hh; omega)
                   have h2 : en = [] := by first | (apply len0; assumption) | (simp at hh; first | exact List.eq_nil_of_length_eq_zero (by omega) | (obtain ⟨-, hh⟩ := hh; exact hh) | exact hh)
                   exact .plain (by decide) HL1.out (by rw [← HS.out]; exact HM.out) (.inr (.inr (.inr ⟨rfl, h2, by rw [← HS.out]; exact HB1.out, by rw [← HB2.out]; exact h1⟩))))
  by_cases he0 : ens.length = 0
  case neg =>
    have p1 : (0 : Int) < (ens.length : Int) := by omega
    have p2 : 0 < ens.length := by omega
    have e6 : (k' != 6) = true := by simpa using h6
    clear he0 h6
    go_enter Try.func62, Try.ntmps62
    go_wp2_with (go_at_call 22; refine (KS.out _).mono ?_; rintro e w1 ⟨rfl, rfl⟩)
    try (rw [← HWE.out]; go_wp2)
    go_ret
    exact GoodQ.no (by first | exact HGW.out | exact (Grow.refl w).alloc _)
  obtain rfl : ens = [] := List.eq_nil_of_length_eq_zero he0
  simp only [List.length_nil] at *
  clear he0 r2 HENS R5 R7
  by_cases h1 : k' = 1
  case pos =>
    subst h1
    clear H7 e7 h6
    go_enter Try.func62, Try.ntmps62
    go_wp2_with (go_at_call 22; refine (KS.out _).mono ?_; rintro e w1 ⟨rfl, rfl⟩)
    all_goals
      go_ret
      refine ⟨_, rfl, by first | exact HGW.out | exact (Grow.refl w).alloc _, fun hh => ?_⟩
      first
        | (exfalso; simp at hh; done)
        | (have h3 : (fl.length : Int) ≤ s := by first | assumption | exact of_decide_eq_true hh | (simp at hh; omega)
           exact .plain (by decide) HL1.out (by rw [← HS.out]; exact HM.out) (.inl ⟨rfl, len0 (by first | rfl | assumption | simpa using ‹en = []›), rfl, by rw [← HS.out]; exact h3⟩))
  by_cases h28 : k' = 2 ∨ k' = 8
  case pos =>
    have HE := Lib.hid (show ∀ r : Bool, r = ((en.length : Int) == 0) → r = true → en = [] from fun r h1 h2 => len0 (by rw [← h1]; exact h2))
    rcases h28 with rfl | rfl
    all_goals
      have H28 := Lib.hid HL1.out
      clear H7 e7 h6 h1
      go_enter Try.func62, Try.ntmps62
      go_wp2_with (go_at_call 22; refine (KS.out _).mono ?_; rintro e w1 ⟨rfl, rfl⟩)
    all_goals
      go_ret
      refine ⟨_, rfl, by first | exact HGW.out | exact (Grow.refl w).alloc _, fun hh => ?_⟩
      refine .plain (by decide) HL1.out (by rw [← HS.out]; exact HM.out) (.inr (.inl ⟨by decide, ?_, rfl⟩))
      first | exact len0 hh | (simp at hh; first | exact hh | exact List.eq_nil_of_length_eq_zero hh)
  by_cases h345 : k' = 3 ∨ k' = 4 ∨ k' = 5
  case pos =>
    rcases h345 with rfl | rfl | rfl
    all_goals
      clear H7 e7 h6 h1 h28
    case inl =>
      have HE := Lib.hid (fun w' (hg : Grow w w') => goodEnds_calls _ en 0 s false w' (ISl.up _ _ HEN.out hg) r1 R6.out (by omega) hs1)
      go_enter Try.func62, Try.ntmps62
      go_wp2_with (first
        | (go_at_call 22; refine (KS.out _).mono ?_; rintro e w1 ⟨rfl, rfl⟩)
        | (go_at_call 84; refine (HE.out _ (by first | exact HGW.out | exact (Grow.refl w).alloc _)).mono ?_; rintro e w5 ⟨to, ok, rfl, rfl, hto, hok⟩; have HOK := Lib.hid hok; clear hok))
      all_goals
        go_ret
        refine ⟨_, rfl, by first | exact HGW.out | exact (Grow.refl w).alloc _, fun hh => ?_⟩
        first
          | (exfalso; simp at hh; done)
          | (have hk : ok = true := by first | rfl | assumption | (simp at hh; exact hh.1)
             have ht : to = (fl.length : Int) := by first | assumption | (simp at hh; omega)
             obtain ⟨h3, h4⟩ := HOK.out hk
             exact .plain (by decide) HL1.out (by rw [← HS.out]; exact HM.out) (.inr (.inr (.inl ⟨by decide, rfl, by rw [← HS.out]; exact h3, by rw [← h4]; exact ht⟩))))
    case inr.inl =>
      have HE := Lib.hid (fun w' (hg : Grow w w') => goodEnds_calls _ en 0 s true w' (ISl.up _ _ HEN.out hg) r1 R6.out (by omega) hs1)
      go_enter Try.func62, Try.ntmps62
      go_wp2_with (first
        | (go_at_call 22; refine (KS.out _).mono ?_; rintro e w1 ⟨rfl, rfl⟩)
        | (go_at_call 84; refine (HE.out _ (by first | exact HGW.out | exact (Grow.refl w).alloc _)).mono ?_; rintro e w5 ⟨to, ok, rfl, rfl, hto, hok⟩; have HOK := Lib.hid hok; clear hok))
      all_goals
        go_ret
        refine ⟨_, rfl, by first | exact HGW.out | exact (Grow.refl w).alloc _, fun hh => ?_⟩
        first
          | (exfalso; simp at hh; done)
          | (have hk : ok = true := by first | rfl | assumption | (simp at hh; exact hh.1)
             have ht : to = (fl.length : Int) := by first | assumption | (simp at hh; omega)
             obtain ⟨h3, h4⟩ := HOK.out hk
             exact .plain (by decide) HL1.out (by rw [← HS.out]; exact HM.out) (.inr (.inr (.inl ⟨by decide, rfl, by rw [← HS.out]; exact h3, by rw [← h4]; exact ht⟩))))
    case inr.inr =>
      have HE := Lib.hid (fun w' (hg : Grow w w') => goodEnds_calls _ en 0 s false w' (ISl.up _ _ HEN.out hg) r1 R6.out (by omega) hs1)
      go_enter Try.func62, Try.ntmps62
      go_wp2_with (first
        | (go_at_call 22; refine (KS.out _).mono ?_; rintro e w1 ⟨rfl, rfl⟩)
        | (go_at_call 84; refine (HE.out _ (by first | exact HGW.out | exact (Grow.refl w).alloc _)).mono ?_; rintro e w5 ⟨to, ok, rfl, rfl, hto, hok⟩; have HOK := Lib.hid hok; clear hok))
      all_goals
        go_ret
        refine ⟨_, rfl, by first | exact HGW.out | exact (Grow.refl w).alloc _, fun hh => ?_⟩
        first
          | (exfalso; simp at hh; done)
          | (have hk : ok = true := by first | rfl | assumption | (simp at hh; exact hh.1)
             have ht : to = (fl.length : Int) := by first | assumption | (simp at hh; omega)
             obtain ⟨h3, h4⟩ := HOK.out hk
             exact .plain (by decide) HL1.out (by rw [← HS.out]; exact HM.out) (.inr (.inr (.inl ⟨by decide, rfl, by rw [← HS.out]; exact h3, by rw [← h4]; exact ht⟩))))
  case neg =>
    simp only [not_or] at h28 h345
    obtain ⟨x2, x8⟩ := h28
    obtain ⟨x3, x4, x5⟩ := h345
    have e1 : (k' == 1) = false := by rw [beq_eq_false_iff_ne]; exact h1
    have e2 : (k' == 2) = false := by rw [beq_eq_false_iff_ne]; exact x2
    have e3 : (k' == 3) = false := by rw [beq_eq_false_iff_ne]; exact x3
    have e4 : (k' == 4) = false := by rw [beq_eq_false_iff_ne]; exact x4
    have e5 : (k' == 5) = false := by rw [beq_eq_false_iff_ne]; exact x5
    have e6 : (k' == 6) = false := by rw [beq_eq_false_iff_ne]; exact h6
    have e8 : (k' == 8) = false := by rw [beq_eq_false_iff_ne]; exact x8
    clear H7 h6 h1 x2 x3 x4 x5 x8
    go_enter Try.func62, Try.ntmps62
    go_wp2_with (go_at_call 22; refine (KS.out _).mono ?_; rintro e w1 ⟨rfl, rfl⟩)
    go_ret
    exact GoodQ.no (by first | exact HGW.out | exact (Grow.refl w).alloc _)
end Go.Proofs.Ytegknlnkkoeahaa
