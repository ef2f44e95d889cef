import Derived.Test.YtlkoaanagbgpkaaDeflate1
namespace Go.Proofs.Ytlkoaanagbgpkaa
open Go.ChangeShapes Go.WideShapes Go.ChangeAt Go.RowKit Go.GrowR
set_option linter.unusedVariables false
set_option linter.unusedSimpArgs false
theorem fStride_in (n : Int) (w : World) (h1 : 2 ≤ n) (h2 : n ≤ 9) : Calls Try.prog 22 #[.int .i64 n] w fun e w' => e = .returned (.bool true) ∧ w' = w := by
  go_enter Try.func22, Try.ntmps22
  go_wp2
  go_ret
  exact ⟨rfl, rfl⟩
theorem fStride_out (n : Int) (w : World) (h : ¬ (2 ≤ n ∧ n ≤ 9)) : Calls Try.prog 22 #[.int .i64 n] w fun e w' => e = .returned (.bool false) ∧ w' = w := by
  by_cases h1 : 2 ≤ n
  · have h2 : ¬ n ≤ 9 := fun h2 => h ⟨h1, h2⟩
    clear h
    go_enter Try.func22, Try.ntmps22
    go_wp2
    go_ret
    exact ⟨rfl, rfl⟩
  · clear h
    go_enter Try.func22, Try.ntmps22
    go_wp2
    go_ret
    exact ⟨rfl, rfl⟩
def layN (n : Int) : Int := if n = 2 then 1 else if n = 3 then 2 else n
theorem stride_lay (n : Int) (h1 : 2 ≤ n) : strideN (layN n) = n := by
  unfold layN strideN
  repeat' split
  all_goals omega
theorem fLayout_calls (n : Int) (w : World) (h1 : 2 ≤ n) : Calls Try.prog 25 #[.int .i64 n] w fun e w' => e = .returned (.int .i64 (layN n)) ∧ w' = w := by
  by_cases h2 : n = 2
  · subst h2
    go_enter Try.func25, Try.ntmps25
    go_wp2
    go_ret
    exact ⟨rfl, rfl⟩
  by_cases h3 : n = 3
  · subst h3
    go_enter Try.func25, Try.ntmps25
    go_wp2
    go_ret
    exact ⟨rfl, rfl⟩
  have R : Hid (layN n = n) := by show _ = _; simp [layN, h2, h3]
  have e2 : (n == 2) = false := by rw [beq_eq_false_iff_ne]; exact h2
  have e3 : (n == 3) = false := by rw [beq_eq_false_iff_ne]; exact h3
  clear h2 h3
  go_enter Try.func25, Try.ntmps25
  go_wp2
  go_ret
  exact ⟨by rw [R.out]; rfl, rfl⟩
/-- so many numbers in the first lists -/
def cnt (xss : List (List Nat)) (k : Nat) : Nat := (xss.take k).flatten.length
theorem cnt_succ {xss : List (List Nat)} {k : Nat} {p : List Nat} (hp : xss[k]? = some p) : cnt xss (k + 1) = cnt xss k + p.length := by
  unfold cnt; rw [flatten_take_succ hp, List.length_append]
theorem cnt_le {xss : List (List Nat)} (h : ∀ (i : Nat) (xs : List Nat), xss[i]? = some xs → xs.length ≤ 2147483647) : ∀ k, cnt xss k ≤ k * 2147483647
  | 0 => by simp [cnt]
  | k + 1 => by
    have ih := cnt_le h k
    cases hp : xss[k]? with
    | none =>
      have : cnt xss (k + 1) = cnt xss k := by unfold cnt; rw [List.take_add_one, hp]; simp
      omega
    | some p => rw [cnt_succ hp]; have := h k p hp; omega
def tot (xss : List (List Nat)) : Nat := xss.flatten.length
theorem cnt_all (xss : List (List Nat)) : cnt xss xss.length = tot xss := by unfold cnt tot; rw [List.take_length]
set_option maxHeartbeats 2000000 in
theorem gCount_calls (b1 b2 c1 c2 : Nat) (u : Value) (xss : List (List Nat)) (w : World) (h1 : w.cell? ⟨b1, 0, none⟩ = some (.slice (some ⟨b2, 0, none⟩) 1 c2)) (h2 : w.cell? ⟨b2, 0, none⟩ = some u) (hu : FSSl u xss w)
    (hm : xss.length ≤ 2147483647) (hm2 : ∀ (i : Nat) (xs : List Nat), xss[i]? = some xs → xs.length ≤ 2147483647) :
    Calls Try.prog 66 #[.slice (some ⟨b1, 0, none⟩) 1 c1] w fun e w' => e = .returned (.int .i64 ((2 + xss.length + tot xss : Nat) : Int)) ∧ w' = w := by
  obtain ⟨A, c, rfl, -, hA⟩ := hu
  have HA := Lib.hid hA; clear hA
  have hcnt := cnt_le hm2
  have HC := Lib.hid hcnt; clear hcnt
  have HM2 := Lib.hid hm2; clear hm2
  have HALL := Lib.hid (cnt_all xss)
  go_enter Try.func66, Try.ntmps66
  go_wp2
  go_loop [3, 14] (fun n i => (i = .int .i64 0 ∧ n = .int .i64 1) ∨ (i = .int .i64 1 ∧ n = .int .i64 ((2 + xss.length + tot xss : Nat) : Int))) (fun _ i => 1 - (intOf i).toNat)
  case atStart => exact .inl ⟨rfl, rfl⟩
  case round =>
    rcases hrel with ⟨rfl, rfl⟩ | ⟨rfl, rfl⟩
    · go_wp2
      go_loop [3, 24] (fun n i => (i = .int .i64 0 ∧ n = .int .i64 2) ∨ (i = .int .i64 1 ∧ n = .int .i64 ((2 + xss.length + tot xss : Nat) : Int))) (fun _ i => 1 - (intOf i).toNat)
      case atStart => exact .inl ⟨rfl, rfl⟩
      case round =>
        rcases hrel with ⟨rfl, rfl⟩ | ⟨rfl, rfl⟩
        · go_wp2
          go_loop [3, 34] (fun n i => ∃ k : Nat, k ≤ xss.length ∧ i = .int .i64 k ∧ n = .int .i64 ((2 + xss.length + cnt xss k : Nat) : Int)) (fun _ i => xss.length - (intOf i).toNat)
          case atStart => exact ⟨0, Nat.zero_le _, rfl, by simp [cnt]⟩
          case round =>
            obtain ⟨k, hk, rfl, rfl⟩ := hrel
            by_cases hlt : k < xss.length
            · obtain ⟨p, hp⟩ : ∃ p, xss[k]? = some p := ⟨xss[k], by simp [hlt]⟩
              rcases HA.out with h0 | ⟨b, o, rfl, hcell⟩
              · exfalso; subst h0; simp at hlt
              obtain ⟨z, hz, A1, c1', rfl, -, -⟩ := hcell k p hp
              have hpl := HM2.out k p hp
              have hck := HC.out k
              have HS := Lib.hid (cnt_succ hp)
              clear hcell hp
              go_wp2
              go_round
              case rel => exact ⟨k + 1, by omega, by go_num, by rw [HS.out]; go_num⟩
              case measure => simp [intOf]; omega
            · have hke : k = xss.length := by omega
              have HKE := Lib.hid hke; clear hke
              go_wp2
              go_round
              case rel => exact .inr ⟨rfl, by rw [HKE.out, HALL.out]⟩
              case measure => simp [intOf]
        · go_wp2
          go_round
          case rel => exact .inr ⟨rfl, rfl⟩
          case measure => simp [intOf]
    · go_wp2
      go_ret
      exact ⟨rfl, rfl⟩
def CoP (xss : List (List Nat)) (w : World) (e : Ending) (w' : World) : Prop := ∃ r, e = .returned (.bool r) ∧ w' = w ∧ (r = true → 2 + xss.length + tot xss ≤ 2000)
set_option maxHeartbeats 2000000 in
theorem fCoords_calls (b1 b2 c1 c2 : Nat) (u : Value) (xss : List (List Nat)) (w : World) (h1 : w.cell? ⟨b1, 0, none⟩ = some (.slice (some ⟨b2, 0, none⟩) 1 c2)) (h2 : w.cell? ⟨b2, 0, none⟩ = some u) (hu : FSSl u xss w)
    (hm : xss.length ≤ 2147483647) (hm2 : ∀ (i : Nat) (xs : List Nat), xss[i]? = some xs → xs.length ≤ 2147483647) :
    Calls Try.prog 23 #[.slice (some ⟨b1, 0, none⟩) 1 c1] w (CoP xss w) := by
  have HK := Lib.hid (gCount_calls b1 b2 c1 c2 u xss w h1 h2 hu hm hm2)
  have HM2 := Lib.hid hm2; clear hm2
  obtain ⟨A, c, rfl, -, hA⟩ := hu
  have HA := Lib.hid hA; clear hA
  go_enter Try.func23, Try.ntmps23
  go_wp2
  go_loop [11] (fun i => i = .int .i64 0 ∨ i = .int .i64 1) (fun i => 1 - (intOf i).toNat)
  case atStart => exact .inl rfl
  case round =>
    rcases hrel with rfl | rfl
    · go_wp2
      go_loop [17] (fun i => i = .int .i64 0 ∨ i = .int .i64 1) (fun i => 1 - (intOf i).toNat)
      case atStart => exact .inl rfl
      case round =>
        rcases hrel with rfl | rfl
        · go_wp2
          go_loop [23] (fun i => ∃ k : Nat, k ≤ xss.length ∧ i = .int .i64 k) (fun i => xss.length - (intOf i).toNat)
          case atStart => exact ⟨0, Nat.zero_le _, rfl⟩
          case round =>
            obtain ⟨k, hk, rfl⟩ := hrel
            by_cases hlt : k < xss.length
            · obtain ⟨p, hp⟩ : ∃ p, xss[k]? = some p := ⟨xss[k], by simp [hlt]⟩
              rcases HA.out with h0 | ⟨b, o, rfl, hcell⟩
              · exfalso; subst h0; simp at hlt
              obtain ⟨z, hz, A1, c1', rfl, -, -⟩ := hcell k p hp
              clear hcell hp
              by_cases hp0 : p = []
              · subst hp0
                go_wp2
                go_ret
                exact ⟨_, rfl, rfl, by intro h; cases h⟩
              · have hp1 : ((p.length : Int) == 0) = false := by simpa using hp0
                clear hp0
                go_wp2
                go_round
                case rel => exact ⟨k + 1, by omega, by go_num⟩
                case measure => simp [intOf]; omega
            · go_wp2
              go_round
              case rel => exact .inr rfl
              case measure => simp [intOf]
        · go_wp2
          go_round
          case rel => exact .inr rfl
          case measure => simp [intOf]
    · go_wp2_with (go_at_call 66; refine HK.out.mono ?_; rintro e w' ⟨rfl, rfl⟩)
      go_ret
      exact ⟨_, rfl, rfl, by intro h; have := of_decide_eq_true h; omega⟩
def allN (xss : List (List Nat)) (n : Int) : Bool := xss.all fun xs => (xs.length : Int) == n
theorem allN_iff (xss : List (List Nat)) (n : Int) : allN xss n = true ↔ ∀ (i : Nat) (xs : List Nat), xss[i]? = some xs → (xs.length : Int) = n := by
  unfold allN
  rw [List.all_eq_true]
  constructor
  · intro h i xs hi
    have := h xs (List.mem_of_getElem? hi)
    simpa using this
  · intro h xs hx
    obtain ⟨i, hi⟩ := List.mem_iff_getElem?.1 hx
    simpa using h i xs hi
theorem allN_take {xss : List (List Nat)} {n : Int} {k : Nat} {p : List Nat} (hp : xss[k]? = some p) : allN (xss.take (k + 1)) n = (allN (xss.take k) n && ((p.length : Int) == n)) := by
  unfold allN
  rw [List.take_add_one, hp, List.all_append]; simp
def FlatPost (xss : List (List Nat)) (n : Int) (w : World) (e : Ending) (w' : World) : Prop := Grow w w' ∧ ∃ F, e = .returned (.tuple #[F, .slice none 0 0, .bool (allN xss n)]) ∧ FSl F xss.flatten w'
set_option maxRecDepth 100000 in
set_option maxHeartbeats 4000000 in
theorem gFlat_calls (lay : Int) (v : Value) (xss : List (List Nat)) (w : World) (hv : FSSl v xss w) (hm : xss.length ≤ 2147483647) (hl : xss.flatten.length ≤ 549755813888) :
    Calls Try.prog 24 #[.int .i64 lay, .bool false, v] w (FlatPost xss (strideN lay) w) := by
  obtain ⟨i0, hi, hz0, hz1, hz2⟩ := info_parts infoF
  have HI := Lib.hid hi; have HZ0 := Lib.hid hz0; have HZ1 := Lib.hid hz1; have HZ2 := Lib.hid hz2; clear hi hz0 hz1 hz2
  obtain ⟨A, c, rfl, -, hA⟩ := hv
  have HA := Lib.hid hA; clear hA
  go_enter Try.func24, Try.ntmps24
  go_wp2
  go_loopw [6, 7, 8, 13] (fun F E ok i wr => ∃ k : Nat, k ≤ xss.length ∧ i = .int .i64 k ∧ E = .slice none 0 0 ∧ ok = .bool (allN (xss.take k) (strideN lay)) ∧ Grow w wr ∧ FOwn 33 w.heap.size F (xss.take k).flatten wr) (fun _ _ _ i _ => xss.length - (intOf i).toNat)
  case atStart => exact ⟨0, Nat.zero_le _, rfl, rfl, rfl, Grow.refl w, VOwn.nil⟩
  case round =>
    obtain ⟨k, hk, rfl, rfl, rfl, hg, hown⟩ := hrel
    have HG := Lib.hid hg; have HO := Lib.hid hown; clear hg
    obtain ⟨A2, n2, c2, rfl⟩ := VOwn.isSl hown
    clear hown
    by_cases hlt : k < xss.length
    case neg =>
      have hke : k = xss.length := by omega
      have HKE := Lib.hid hke; clear hke
      go_wp2
      refine bodyPost_ret (v := .tuple #[.slice A2 n2 c2, .slice none 0 0, .bool (allN (xss.take k) (strideN lay))]) (by simp [results, Try.results24, go_sem]) rfl ?_
      have ht : xss.take k = xss := List.take_of_length_le (by have := HKE.out; omega)
      have := VOwn.sl HO.out
      rw [ht] at this ⊢
      exact ⟨HG.out, _, rfl, this.f⟩
    case pos =>
      obtain ⟨p, hp⟩ : ∃ p, xss[k]? = some p := ⟨xss[k], by simp [hlt]⟩
      rcases HA.out with h0 | ⟨b, o, rfl, hcell⟩
      · exfalso; subst h0; simp at hlt
      obtain ⟨u, hu, hf⟩ := hcell k p hp
      have hc1 := up_cell hu HG.out
      have HF := Lib.hid (FSl.up _ _ hf HG.out)
      obtain ⟨A1, c1, rfl, -, -⟩ := hf
      have hpl : ((xss.take k).flatten.map (Value.float .f64)).length + (p.map (Value.float .f64)).length ≤ 1099511627776 := by
        have h1 := flatten_take_le xss (k + 1)
        rw [flatten_take_succ hp, List.length_append] at h1
        simp only [List.length_map]; omega
      have HPL := Lib.hid hpl; clear hpl
      have HT := Lib.hid (allN_take (n := strideN lay) hp)
      have HFT := Lib.hid (flatten_take_succ hp)
      clear hcell hp hu
      cases hb : allN (xss.take k) (strideN lay) <;> cases hq : ((p.length : Int) == strideN lay)
      all_goals
        have HB := Lib.hid hb; clear hb
        have HQ := Lib.hid hq
        try clear hq0
        go_wp2_with (first
          | (go_at_call 35; refine (stride_calls _ _).mono ?_; rintro e w1 ⟨rfl, rfl⟩)
          | (at_builtin; refine wpList_append_vsl rfl _ _ 22 rfl w.heap.size 33 i0 (.float .f64 0) 8 undF HI.out HZ0.out HZ1.out HZ2.out rfl rfl HO.out rfl HF.out.v (fl_one _) (by have := HPL.out; simp only [maxLen] at *; omega) (by have := HPL.out; omega) HG.out.size ?_; intro v' w' hown hgrow hwhere; have HO' := Lib.hid hown; have HGR := Lib.hid hgrow; clear hown hgrow hwhere))
        go_roundw
        case rel =>
          refine ⟨k + 1, by omega, by go_num, rfl, ?_, Below.grown HG.out HGR.out HG.out.size (VOwn.lt HO.out), ?_⟩
          · rw [HT.out, HB.out, HQ.out]; rfl
          · show VOwn _ _ _ _ _
            rw [HFT.out, List.map_append]; exact HO'.out
        case measure => simp [intOf]; omega
theorem same_refl (u v : Value) (xs : List Nat) (w : World) (hu : FSl u xs w) (hv : FSl v xs w) (hl : xs.length ≤ 1099511627776) : Calls Try.prog 14 #[u, v] w fun e w' => e = .returned (.bool true) ∧ Grow w w' :=
  (same_calls u v xs xs w hu hv hl hl).mono fun e w' h => by simpa using h
def LitP (W : World) (e : Ending) (w' : World) : Prop := Grow W w' ∧ ∃ r, e = .returned (.tuple #[r, .bool true])
theorem lit_calls (x y : Nat) (w : World) : Calls Try.prog 26 #[.slice (some ⟨w.heap.size + 1, 0, none⟩) 1 1, .int .i64 2]
    ((w.alloc (Obj.cells #[.float .f64 x, .float .f64 y] 33)).alloc (Obj.cells #[.slice (some ⟨w.heap.size, 0, none⟩) 2 2] 22))
    (LitP w) := by
  have hf : FSSl (.slice (some ⟨w.heap.size + 1, 0, none⟩) 1 1) [[x, y]] ((w.alloc (Obj.cells #[.float .f64 x, .float .f64 y] 33)).alloc (Obj.cells #[.slice (some ⟨w.heap.size, 0, none⟩) 2 2] 22)) := by
    refine ⟨_, _, rfl, Nat.le_refl _, .inr ⟨_, _, rfl, fun i xs hi => ?_⟩⟩
    match i, hi with
    | 0, hi =>
      cases hi
      refine ⟨.slice (some ⟨w.heap.size, 0, none⟩) 2 2, by go_simp, _, _, rfl, Nat.le_refl _, .inr ⟨_, _, rfl, fun j z hj => ?_⟩⟩
      match j, hj with
      | 0, hj => cases hj; go_simp
      | 1, hj => cases hj; go_simp
      | j + 2, hj => simp at hj
    | i + 1, hi => simp at hi
  refine (implDeflate1_calls _ _ 2 _ hf (by simp) (fun i xs hi => ?_) (by simp)).mono ?_
  · match i, hi with
    | 0, hi => cases hi; simp
    | i + 1, hi => simp at hi
  · rintro e w' ⟨hg, ⟨_, r, rfl, _⟩ | ⟨⟨i, xs, hi, hne⟩, _⟩⟩
    · exact ⟨(((Grow.refl w).alloc _).alloc _).trans hg, r, rfl⟩
    · exfalso
      match i, hi with
      | 0, hi => cases hi; simp at hne
      | i + 1, hi => simp at hi
set_option maxRecDepth 100000 in
set_option maxHeartbeats 1000000 in
theorem law_calls (v : Value) (xss : List (List Nat)) (n : Int) (w : World) (hv : FSSl v xss w) (hm : xss.length ≤ maxLen) :
    Calls Try.prog 6 #[v, .int .i64 n] w fun e w' => e = .returned (.bool true) ∧ Grow w w' := by
  have HV := Lib.hid hv
  have HF := Lib.hid (fits4_calls v xss w hv hm)
  clear hm
  obtain ⟨A, c, rfl, -, -⟩ := hv
  go_enter Try.func6, Try.ntmps6
  go_wp2_with fail
  refine HF.out.mono ?_
  rintro e w1 ⟨r, rfl, rfl, hr⟩
  cases r with
  | false =>
    go_wp2
    go_ret
    exact ⟨rfl, Grow.refl _⟩
  | true =>
    obtain ⟨hm, hm2⟩ := hr rfl
    have HM2 := Lib.hid hm2; clear hm2 hr
    by_cases hn : 2 ≤ n ∧ n ≤ 9
    case neg =>
      have HN := Lib.hid hn; clear hn
      go_wp2_with (go_at_call 22; refine (fStride_out _ _ HN.out).mono ?_; rintro e w1 ⟨rfl, rfl⟩)
      go_ret
      exact ⟨rfl, Grow.refl _⟩
    case pos =>
      obtain ⟨hn1, hn2⟩ := hn
      go_wp2_with fail
      refine (fStride_in _ _ hn1 hn2).mono ?_
      rintro e w2 ⟨rfl, rfl⟩
      go_wp2_with fail
      refine (fCoords_calls (w2.heap.size + 1) w2.heap.size 1 1 (.slice A xss.length c) xss _ (by go_simp) (by go_simp) (FSSl.up _ _ HV.out (((Grow.refl _).alloc _).alloc _)) hm HM2.out).mono ?_
      rintro e w3 ⟨r, rfl, rfl, hr⟩
      cases r with
      | false =>
        go_wp2
        go_ret
        exact ⟨rfl, ((Grow.refl _).alloc _).alloc _⟩
      | true =>
        have hcn := hr rfl; clear hr
        have HTOT := Lib.hid (show xss.flatten.length ≤ 2000 by unfold tot at hcn; omega)
        clear hcn
        have HG3 := Lib.hid (((Grow.refl w2).alloc (Obj.cells #[.slice A xss.length c] 37)).alloc (Obj.cells #[.slice (some ⟨w2.heap.size, 0, none⟩) 1 1] 41))
        have HK3 := Lib.hid (gFlat_calls (layN n) _ xss _ (FSSl.up _ _ HV.out HG3.out) hm (by have := HTOT.out; omega))
        have HSL := Lib.hid (stride_lay n hn1)
        cases hb : allN xss n
        all_goals
          have HB := Lib.hid hb; clear hb
          go_wp2_with (first
            | (go_at_call 25; refine (fLayout_calls _ _ hn1).mono ?_; rintro e w4 ⟨rfl, rfl⟩)
            | (go_at_call 24; refine HK3.out.mono ?_; rw [HSL.out]; rintro e w5 ⟨hg5, F, rfl, hF⟩; rw [HB.out]; have HG5 := Lib.hid (HG3.out.trans hg5); have HFF := Lib.hid hF; obtain ⟨A5, c5, rfl, -, -⟩ := hF; have HK5 := Lib.hid (implDeflate1_calls _ xss n w5 (FSSl.up _ _ HV.out HG5.out) (by omega) HM2.out (by have := HTOT.out; omega)); clear hg5))
          refine HK5.out.mono ?_
          rintro e w6 ⟨hg6, hcase⟩
          have HG6 := Lib.hid (HG5.out.trans hg6)
          have HFF6 := Lib.hid (FSl.up _ _ HFF.out hg6)
          clear hg6
          rcases hcase with ⟨h1, r, rfl, hr⟩ | ⟨h1, r, rfl⟩
        · exfalso; have := (allN_iff xss n).2 h1; rw [HB.out] at this; cases this
        · clear h1
          go_wp2_with (go_at_call 26; refine (lit_calls 4607182418800017408 4611686018427387904 w6).mono ?_; rintro e w7 ⟨hg7, r7, rfl⟩; have HG7 := Lib.hid (HG6.out.trans hg7); clear hg7)
          go_ret
          exact ⟨rfl, HG7.out⟩
        · have HR := Lib.hid hr
          obtain ⟨A6, c6, rfl, -, -⟩ := hr
          clear h1
          go_wp2_with (first
            | (go_at_call 26; refine (lit_calls 4607182418800017408 4611686018427387904 w6).mono ?_; rintro e w7 ⟨hg7, r7, rfl⟩; have HG7' := Lib.hid hg7; have HG7 := Lib.hid (HG6.out.trans HG7'.out); have hs := same_refl _ _ _ w7 (FSl.up _ _ HR.out HG7'.out) (FSl.up _ _ HFF6.out HG7'.out) (by have := HTOT.out; omega); rw [List.length_flatten] at hs; have HS := Lib.hid hs; clear hg7 hs)
            | (go_at_call 14; refine HS.out.mono ?_; rintro e w8 ⟨rfl, hg8⟩; have HG8 := Lib.hid (HG7.out.trans hg8); clear hg8))
          go_ret
          exact ⟨rfl, HG8.out⟩
        · exfalso
          obtain ⟨i, xs, hi, hne⟩ := h1
          exact hne ((allN_iff xss n).1 HB.out i xs hi)
end Go.Proofs.Ytlkoaanagbgpkaa
