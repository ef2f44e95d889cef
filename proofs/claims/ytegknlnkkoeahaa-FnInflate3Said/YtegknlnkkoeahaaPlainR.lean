import Derived.Test.YtegknlnkkoeahaaInfl
namespace Go.Proofs.Ytegknlnkkoeahaa
open Go.ChangeShapes Go.WideShapes Go.ChangeAt Go.RowKit Go.GrowR
set_option linter.unusedVariables false
set_option linter.unusedSimpArgs false

theorem infoP1 : (Try.prog.info? 22).map (fun i => (i.zero, i.size, i.bytes)) = some (some (.slice none 0 0), 1, 24) := by kernel_rfl
theorem undP1 : Try.prog.underlying 73 = some (.slice 22) := by kernel_rfl
set_option maxRecDepth 100000 in
set_option maxHeartbeats 4000000 in
theorem plain1_calls (v : Value) (xs : List (List Nat)) (w : World) (hv : L1 xs v w) (hl : xs.length ≤ 10000000000) (hx : ∀ r ∈ xs, r.length ≤ 10000000000) :
    Calls Try.prog 85 #[v] w (MQ (L1 xs) w) := by
  obtain ⟨i0, hi, hz0, hz1, hz2⟩ := info_parts infoP1
  have HI := Lib.hid hi; have HZ0 := Lib.hid hz0; have HZ1 := Lib.hid hz1; have HZ2 := Lib.hid hz2; clear hi hz0 hz1 hz2
  have HX := Lib.hid hx
  obtain ⟨A, c, rfl, -, hA⟩ := SlE.form hv
  have HA := Lib.hid hA; clear hA hv hx
  go_enter Try.func85, Try.ntmps85
  go_wp2
  go_loopw [3, 5, 8] (fun O _ i wr => ∃ us : List Value, us.length ≤ xs.length ∧ i = .int .i64 us.length ∧ AppI 22 w O us (fun i u w' => ∀ x, xs[i]? = some x → FSl u x w') wr) (fun _ _ i _ => xs.length - (intOf i).toNat)
  case atStart => exact ⟨[], Nat.zero_le _, rfl, AppI.start _ _ _⟩
  case round =>
    obtain ⟨us, hk, rfl, hap⟩ := hrel
    have HAP := Lib.hid hap
    have HG := Lib.hid hap.g
    clear hap
    by_cases hlt : us.length < xs.length
    case neg =>
      go_wp2
      go_ret
      exact ⟨_, rfl, HG.out, HAP.out.fin (by omega) (fun i x u w' hx h => h x hx)⟩
    case pos =>
      obtain ⟨x, hp⟩ : ∃ p, xs[us.length]? = some p := ⟨xs[us.length], by simp [hlt]⟩
      rcases HA.out with h0 | ⟨b, o, rfl, hcell⟩
      · exfalso; subst h0; simp at hlt
      obtain ⟨u, hu, hf⟩ := hcell _ x hp
      have hu1 := up_cell hu HG.out
      have HF := Lib.hid (FSl.up _ _ hf HG.out)
      have HP := Lib.hid hp
      have hq1 : IntKind.i64.wrap ((us.length : Int) + 1) = (us.length : Int) + 1 := IntWalk.i64_in _ (by omega)
      have hbs := HG.out.size
      have HST := Lib.hid (fun (w3 w4 w5 : World) (V' u' : Value) (h3 : Grow wr w3) (hs : Stab wr.heap.size w3.heap.size (fun w' => FSl u' x w') w3) h4 ho hg hv => HAP.out.step (w2 := wr) (w3 := w3) (w4 := w4) (w5 := w5) (V' := V') (u := u') (Grow.refl _) h3 (hs.imp fun w' h z hz => by rw [HP.out] at hz; cases hz; exact h) h4 ho hg hv)
      clear hcell hp hu hf
      go_wp2_with (first
        | (go_at_call 52; refine (floats_calls44 _ x _ HF.out (by have := HX.out x (List.mem_of_getElem? HP.out); omega)).mono ?_; rintro e w1 ⟨V, rfl, hg1, hown1⟩; have hst1 : Stab wr.heap.size w1.heap.size (fun w' => FSl V x w') w1 := (Stab.own hown1 (Nat.le_refl _) (Nat.le_refl _)).imp (fun w' h => (VOwn.sl h).f); have hone : V.oneCell' = true := VOwn.one hown1; obtain ⟨A1, n1, c1, rfl⟩ := VOwn.isSl hown1; clear hown1; have HG1 := Lib.hid hg1; have HS1 := Lib.hid hst1; clear hg1 hst1)
        | (at_builtin; refine wpList_append_vsl rfl _ _ 73 rfl w.heap.size 22 i0 (.slice none 0 0) 24 undP1 HI.out HZ0.out HZ1.out HZ2.out rfl rfl (VOwn.up _ _ (VOwn.up _ _ HAP.out.o HG1.out) ((Grow.refl w1).alloc _)) rfl (VSl.one (u := .slice A1 n1 c1) (by go_simp)) (by intro x hx; simp at hx; subst hx; rfl) (by simp [maxLen] at *; omega) (by simp at *; omega) (by have := HG1.out.size; simp; omega) ?_; intro O5 w5 hown5 hgrow5 hwh5; have H5 := Lib.hid (HST.out _ _ _ _ _ HG1.out HS1.out ((Grow.refl _).alloc _) hown5 hgrow5 hwh5); clear hown5 hgrow5 hwh5))
      go_roundw
      case rel => exact ⟨us ++ [.slice A1 n1 c1], by simp; omega, by first | go_num | (simp <;> omega), H5.out⟩
      case measure => simp [intOf]; omega

theorem infoP2 : (Try.prog.info? 73).map (fun i => (i.zero, i.size, i.bytes)) = some (some (.slice none 0 0), 1, 24) := by kernel_rfl
theorem undP2 : Try.prog.underlying 68 = some (.slice 73) := by kernel_rfl
set_option maxRecDepth 100000 in
set_option maxHeartbeats 4000000 in
theorem plain2_calls (v : Value) (xs : List (List (List Nat))) (w : World) (hv : L2 xs v w) (hl : xs.length ≤ 10000000000) (hx : ∀ r ∈ xs, r.length ≤ 10000000000 ∧ ∀ q ∈ r, q.length ≤ 10000000000) :
    Calls Try.prog 63 #[v] w (MQ (L2 xs) w) := by
  obtain ⟨i0, hi, hz0, hz1, hz2⟩ := info_parts infoP2
  have HI := Lib.hid hi; have HZ0 := Lib.hid hz0; have HZ1 := Lib.hid hz1; have HZ2 := Lib.hid hz2; clear hi hz0 hz1 hz2
  have HX := Lib.hid hx
  obtain ⟨A, c, rfl, -, hA⟩ := SlE.form hv
  have HA := Lib.hid hA; clear hA hv hx
  go_enter Try.func63, Try.ntmps63
  go_wp2
  go_loopw [3, 5, 8] (fun O _ i wr => ∃ us : List Value, us.length ≤ xs.length ∧ i = .int .i64 us.length ∧ AppI 73 w O us (fun i u w' => ∀ x, xs[i]? = some x → L1 x u w') wr) (fun _ _ i _ => xs.length - (intOf i).toNat)
  case atStart => exact ⟨[], Nat.zero_le _, rfl, AppI.start _ _ _⟩
  case round =>
    obtain ⟨us, hk, rfl, hap⟩ := hrel
    have HAP := Lib.hid hap
    have HG := Lib.hid hap.g
    clear hap
    by_cases hlt : us.length < xs.length
    case neg =>
      go_wp2
      go_ret
      exact ⟨_, rfl, HG.out, HAP.out.fin (by omega) (fun i x u w' hx h => h x hx)⟩
    case pos =>
      obtain ⟨x, hp⟩ : ∃ p, xs[us.length]? = some p := ⟨xs[us.length], by simp [hlt]⟩
      rcases HA.out with h0 | ⟨b, o, rfl, hcell⟩
      · exfalso; subst h0; simp at hlt
      obtain ⟨u, hu, hf⟩ := hcell _ x hp
      have hu1 := up_cell hu HG.out
      have HF := Lib.hid (SlE.up (fun _ _ => FSl.up) _ _ hf HG.out)
      have HP := Lib.hid hp
      have hq1 : IntKind.i64.wrap ((us.length : Int) + 1) = (us.length : Int) + 1 := IntWalk.i64_in _ (by omega)
      have hbs := HG.out.size
      have HST := Lib.hid (fun (w3 w4 w5 : World) (V' u' : Value) (h3 : Grow wr w3) (hs : Stab wr.heap.size w3.heap.size (fun w' => L1 x u' w') w3) h4 ho hg hv => HAP.out.step (w2 := wr) (w3 := w3) (w4 := w4) (w5 := w5) (V' := V') (u := u') (Grow.refl _) h3 (hs.imp fun w' h z hz => by rw [HP.out] at hz; cases hz; exact h) h4 ho hg hv)
      clear hcell hp hu hf
      go_wp2_with (first
        | (go_at_call 85; refine (plain1_calls _ x _ HF.out (HX.out x (List.mem_of_getElem? HP.out)).1 (HX.out x (List.mem_of_getElem? HP.out)).2).mono ?_; rintro e w1 ⟨V, rfl, hg1, hst1⟩; obtain ⟨A1, c1, h2⟩ := hst1.now.form; subst h2; have HG1 := Lib.hid hg1; have HS1 := Lib.hid hst1; clear hg1 hst1)
        | (at_builtin; refine wpList_append_vsl rfl _ _ 68 rfl w.heap.size 73 i0 (.slice none 0 0) 24 undP2 HI.out HZ0.out HZ1.out HZ2.out rfl rfl (VOwn.up _ _ (VOwn.up _ _ HAP.out.o HG1.out) ((Grow.refl w1).alloc _)) rfl (VSl.one (u := .slice A1 x.length c1) (by go_simp)) (by intro x hx; simp at hx; subst hx; rfl) (by simp [maxLen] at *; omega) (by simp at *; omega) (by have := HG1.out.size; simp; omega) ?_; intro O5 w5 hown5 hgrow5 hwh5; have H5 := Lib.hid (HST.out _ _ _ _ _ HG1.out HS1.out ((Grow.refl _).alloc _) hown5 hgrow5 hwh5); clear hown5 hgrow5 hwh5))
      go_roundw
      case rel => exact ⟨us ++ [.slice A1 x.length c1], by simp; omega, by first | go_num | (simp <;> omega), H5.out⟩
      case measure => simp [intOf]; omega

theorem infoP3 : (Try.prog.info? 68).map (fun i => (i.zero, i.size, i.bytes)) = some (some (.slice none 0 0), 1, 24) := by kernel_rfl
theorem undP3 : Try.prog.underlying 31 = some (.slice 68) := by kernel_rfl
set_option maxRecDepth 100000 in
set_option maxHeartbeats 4000000 in
theorem plain3_calls (v : Value) (xs : List (List (List (List Nat)))) (w : World) (hv : L3 xs v w) (hl : xs.length ≤ 10000000000) (hx : ∀ r ∈ xs, r.length ≤ 10000000000 ∧ ∀ q ∈ r, q.length ≤ 10000000000 ∧ ∀ z ∈ q, z.length ≤ 10000000000) :
    Calls Try.prog 34 #[v] w (MQ (L3 xs) w) := by
  obtain ⟨i0, hi, hz0, hz1, hz2⟩ := info_parts infoP3
  have HI := Lib.hid hi; have HZ0 := Lib.hid hz0; have HZ1 := Lib.hid hz1; have HZ2 := Lib.hid hz2; clear hi hz0 hz1 hz2
  have HX := Lib.hid hx
  obtain ⟨A, c, rfl, -, hA⟩ := SlE.form hv
  have HA := Lib.hid hA; clear hA hv hx
  go_enter Try.func34, Try.ntmps34
  go_wp2
  go_loopw [3, 5, 8] (fun O _ i wr => ∃ us : List Value, us.length ≤ xs.length ∧ i = .int .i64 us.length ∧ AppI 68 w O us (fun i u w' => ∀ x, xs[i]? = some x → L2 x u w') wr) (fun _ _ i _ => xs.length - (intOf i).toNat)
  case atStart => exact ⟨[], Nat.zero_le _, rfl, AppI.start _ _ _⟩
  case round =>
    obtain ⟨us, hk, rfl, hap⟩ := hrel
    have HAP := Lib.hid hap
    have HG := Lib.hid hap.g
    clear hap
    by_cases hlt : us.length < xs.length
    case neg =>
      go_wp2
      go_ret
      exact ⟨_, rfl, HG.out, HAP.out.fin (by omega) (fun i x u w' hx h => h x hx)⟩
    case pos =>
      obtain ⟨x, hp⟩ : ∃ p, xs[us.length]? = some p := ⟨xs[us.length], by simp [hlt]⟩
      rcases HA.out with h0 | ⟨b, o, rfl, hcell⟩
      · exfalso; subst h0; simp at hlt
      obtain ⟨u, hu, hf⟩ := hcell _ x hp
      have hu1 := up_cell hu HG.out
      have HF := Lib.hid (SlE.up (fun _ _ => SlE.up fun _ _ => FSl.up) _ _ hf HG.out)
      have HP := Lib.hid hp
      have hq1 : IntKind.i64.wrap ((us.length : Int) + 1) = (us.length : Int) + 1 := IntWalk.i64_in _ (by omega)
      have hbs := HG.out.size
      have HST := Lib.hid (fun (w3 w4 w5 : World) (V' u' : Value) (h3 : Grow wr w3) (hs : Stab wr.heap.size w3.heap.size (fun w' => L2 x u' w') w3) h4 ho hg hv => HAP.out.step (w2 := wr) (w3 := w3) (w4 := w4) (w5 := w5) (V' := V') (u := u') (Grow.refl _) h3 (hs.imp fun w' h z hz => by rw [HP.out] at hz; cases hz; exact h) h4 ho hg hv)
      clear hcell hp hu hf
      go_wp2_with (first
        | (go_at_call 63; refine (plain2_calls _ x _ HF.out (HX.out x (List.mem_of_getElem? HP.out)).1 (HX.out x (List.mem_of_getElem? HP.out)).2).mono ?_; rintro e w1 ⟨V, rfl, hg1, hst1⟩; obtain ⟨A1, c1, h2⟩ := hst1.now.form; subst h2; have HG1 := Lib.hid hg1; have HS1 := Lib.hid hst1; clear hg1 hst1)
        | (at_builtin; refine wpList_append_vsl rfl _ _ 31 rfl w.heap.size 68 i0 (.slice none 0 0) 24 undP3 HI.out HZ0.out HZ1.out HZ2.out rfl rfl (VOwn.up _ _ (VOwn.up _ _ HAP.out.o HG1.out) ((Grow.refl w1).alloc _)) rfl (VSl.one (u := .slice A1 x.length c1) (by go_simp)) (by intro x hx; simp at hx; subst hx; rfl) (by simp [maxLen] at *; omega) (by simp at *; omega) (by have := HG1.out.size; simp; omega) ?_; intro O5 w5 hown5 hgrow5 hwh5; have H5 := Lib.hid (HST.out _ _ _ _ _ HG1.out HS1.out ((Grow.refl _).alloc _) hown5 hgrow5 hwh5); clear hown5 hgrow5 hwh5))
      go_roundw
      case rel => exact ⟨us ++ [.slice A1 x.length c1], by simp; omega, by first | go_num | (simp <;> omega), H5.out⟩
      case measure => simp [intOf]; omega
end Go.Proofs.Ytegknlnkkoeahaa
