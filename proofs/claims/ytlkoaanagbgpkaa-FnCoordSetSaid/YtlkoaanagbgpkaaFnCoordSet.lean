import Derived.Test.YtlkoaanagbgpkaaFloats
namespace Go.Proofs.Ytlkoaanagbgpkaa
open Go.ChangeShapes Go.WideShapes Go.ChangeAt Go.RowKit Go.GrowR
set_option linter.unusedVariables false
set_option linter.unusedSimpArgs false
set_option maxHeartbeats 1000000 in
set_option maxRecDepth 100000 in
theorem set_calls (v u : Value) (B : Nat) (xs : List Value) (ys : List Nat) (w : World) (hv : VOwn 33 B v xs w) (hu : FSl u ys w) (hl : xs.length = ys.length) (h0 : 0 < xs.length) :
    Calls Try.prog 56 #[v, u] w fun e w' => (∃ r, e = .returned r) ∧ Below B w w' ∧ VOwn 33 B v (ys.map (.float .f64)) w' := by
  rcases hv.2 with ⟨rfl, h⟩ | ⟨g, cap, cur, rfl, hB, hh, hn, hm, hs, ht⟩
  · omega
  obtain ⟨A, c, rfl, hc, hA⟩ := hu
  rcases hA with h | ⟨b, o, rfl, hcell⟩
  · rw [h] at hl; rw [hl] at h0; exact absurd h0 (by simp)
  have hh' : w.heap[g]? = some (.cells cur.toList.toArray 33 (0, 0)) := by simpa using hh
  have HC : Hid (∀ j v, (ys.map (Value.float .f64))[j]? = some v → w.cell? (Addr.add ⟨b, o, none⟩ j) = some v) := by
    intro j v hj
    rw [List.getElem?_map] at hj
    cases hx : ys[j]? with
    | none => rw [hx] at hj; cases hj
    | some n => rw [hx] at hj; cases hj; rw [addr_add]; exact hcell j n hx
  have hund : Hid (Try.prog.underlying 93 = some (.slice 33)) := by show _ = _; kernel_rfl
  have hsz : Hid ((Try.prog.info? 33).map (·.size) = some 1) := by show _ = _; kernel_rfl
  have HL := Lib.hid hl; clear hl
  have HS := Lib.hid hs; clear hs
  have HH := Lib.hid hh'; clear hh hh' hcell
  have HT := Lib.hid ht; clear ht
  go_enter Try.func56, Try.ntmps56
  go_wp2_with (with_reducible refine wpList_copy_splice rfl (.tmp 4) (.tmp 5) 93 93 rfl 33 hund.out hsz.out (some ⟨g, 0, none⟩) (some ⟨b, o, none⟩) xs.length cap ys.length c rfl rfl g 0 cur.toList 33 HH.out (ys.map (.float .f64)) (by rw [List.length_map, HL.out]; exact (Nat.min_self _).symm) (fun _ => ⟨rfl, _, rfl, HC.out⟩) (by have := HL.out; have := HS.out; simp; omega) (fl_one _) B w (Below.refl _ _) hB ?_; intro w' hg' hb')
  (try simp only [Exit.inBlock, Exit.then]); refine bodyPost_end (results_none rfl _ _ _) rfl ?_
  clear HC hund hsz
  have hl := HL.out; have hs := HS.out
  refine ⟨⟨_, rfl⟩, hb', by simp, .inr ⟨g, cap, _, by rw [List.length_map, ← hl], hB, hg'.out, by simp; omega, hm, ?_, ?_⟩⟩
  · rw [List.size_toArray, length_splice _ _ _ (by simp; omega)]; simpa using hs
  · simp [splice]
set_option maxHeartbeats 1000000 in
theorem coordSet_calls (v u : Value) (xs ys : List Nat) (w : World) (hv : FSl v xs w) (hu : FSl u ys w) (hl : xs.length = ys.length) (h0 : 0 < xs.length) (h1 : xs.length ≤ 1099511627776) :
    Calls Try.prog 15 #[v, u] w fun e w' => ∃ r, e = .returned r ∧ Grow w w' ∧ FSl r ys w' := by
  have HV := Lib.hid hv; clear hv
  have HU := Lib.hid hu; clear hu
  go_enter Try.func15, Try.ntmps15
  go_wp2_with (go_at_call 55; refine (floats_calls _ xs _ HV.out h1).mono ?_; rintro e w1 ⟨c, rfl, hg1, hown1⟩; have HG1 := Lib.hid hg1; have HO1 := Lib.hid hown1; clear hg1 hown1)
  go_wp2_with (go_at_call 56; refine (set_calls _ _ _ _ ys _ HO1.out (FSl.up _ _ HU.out HG1.out) (by simpa using hl) (by simpa using h0)).mono ?_; rintro e w2 ⟨⟨r, rfl⟩, hb2, hown2⟩; have HG2 := Lib.hid (hb2.trans' HG1.out); have HO2 := Lib.hid hown2; clear hb2 hown2)
  go_wp2_with (go_at_call 55; refine (floats_calls _ ys _ HO2.out.sl.f (by omega)).mono ?_; rintro e w3 ⟨d, rfl, hg3, hown3⟩; have HG3 := Lib.hid hg3; have HO3 := Lib.hid hown3; clear hg3 hown3)
  go_ret
  exact ⟨_, rfl, HG2.out.trans HG3.out, HO3.out.sl.f⟩
set_option maxHeartbeats 1000000 in
theorem law_small (u v : Value) (xs ys : List Nat) (w : World) (hu : FSl u xs w) (hv : FSl v ys w) (hl1 : xs.length ≤ 2147483647) (hl2 : ys.length ≤ 2147483647) :
    Calls Try.prog 3 #[u, v] w fun e w' => e = .returned (.bool true) ∧ Grow w w' := by
  have HU := Lib.hid hu
  have HV := Lib.hid hv
  obtain ⟨A, c, rfl, hc, hA⟩ := hu
  obtain ⟨B, d, rfl, hd, hB⟩ := hv
  clear hA hB
  by_cases h1 : xs.length = ys.length
  case neg =>
    have h1' : ((xs.length : Int) != (ys.length : Int)) = true := by simp; omega
    go_enter Try.func3, Try.ntmps3
    go_wp2
    go_ret
    exact ⟨rfl, Grow.refl _⟩
  rw [← h1] at HV ⊢
  have HL := Lib.hid h1; clear h1
  by_cases h2 : xs.length = 0
  case pos =>
    have h2' : ((xs.length : Int) == 0) = true := by rw [h2]; rfl
    clear h2
    go_enter Try.func3, Try.ntmps3
    go_wp2
    go_ret
    exact ⟨rfl, Grow.refl _⟩
  have h2' : ((xs.length : Int) == 0) = false := by
    have h : (xs.length : Int) ≠ 0 := by omega
    rw [beq_eq_false_iff_ne]; exact h
  by_cases h3 : 100 < xs.length
  case pos =>
    go_enter Try.func3, Try.ntmps3
    go_wp2
    go_ret
    exact ⟨rfl, Grow.refl _⟩
  have H2 := Lib.hid h2; clear h2
  go_enter Try.func3, Try.ntmps3
  go_wp2_with (first
    | (go_at_call 15; refine (coordSet_calls _ _ xs ys _ HU.out HV.out HL.out (by have := H2.out; omega) (by omega)).mono ?_; rintro e w1 ⟨r, rfl, hg, hr⟩; have HG := Lib.hid hg; have HR := Lib.hid hr; clear hg hr)
    | (go_at_call 14; refine (same_calls _ _ ys ys _ HR.out (FSl.up _ _ HV.out HG.out) (by omega) (by omega)).mono ?_; rintro e w2 ⟨rfl, hg2⟩; have HG2 := Lib.hid hg2; clear hg2))
  go_ret
  exact ⟨by simp, HG.out.trans HG2.out⟩
set_option maxHeartbeats 1000000 in
theorem law_calls (u v : Value) (xs ys : List Nat) (w : World) (hu : FSl u xs w) (hv : FSl v ys w) :
    Calls Try.prog 3 #[u, v] w fun e w' => e = .returned (.bool true) ∧ Grow w w' := by
  by_cases h1 : xs.length ≤ 2147483647
  case pos =>
    by_cases h2 : ys.length ≤ 2147483647
    case pos => exact law_small u v xs ys w hu hv h1 h2
    obtain ⟨A, c, rfl, hc, hA⟩ := hu
    obtain ⟨B, d, rfl, hd, hB⟩ := hv
    clear hA hB
    have h2' : 2147483647 < ys.length := by omega
    go_enter Try.func3, Try.ntmps3
    go_wp2
    go_ret
    exact ⟨rfl, Grow.refl _⟩
  obtain ⟨A, c, rfl, hc, hA⟩ := hu
  obtain ⟨B, d, rfl, hd, hB⟩ := hv
  clear hA hB
  have h1' : 2147483647 < xs.length := by omega
  go_enter Try.func3, Try.ntmps3
  go_wp2
  go_ret
  exact ⟨rfl, Grow.refl _⟩
end Go.Proofs.Ytlkoaanagbgpkaa
