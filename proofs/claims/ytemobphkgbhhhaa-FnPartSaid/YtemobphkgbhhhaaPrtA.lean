import Derived.Test.YtemobphkgbhhhaaPlParts
import Derived.Test.YtemobphkgbhhhaaGeoP
import Derived.Test.YtemobphkgbhhhaaAppF
import Derived.Test.YtemobphkgbhhhaaOuts
import Derived.Test.YtemobphkgbhhhaaSegC
import Derived.BigQuiet
import Derived.Deep.QuietTactic
namespace Go.Proofs.Ytemobphkgbhhhaa
open Go.ChangeShapes Go.WideShapes Go.ChangeAt Go.RowKit Go.GrowR
set_option linter.unusedVariables false
set_option linter.unusedSimpArgs false

/-- an object of places in a row *)-/
def RowObj (l : Int) (s : Nat) (rows : List (List Nat)) (w : World) (e : Ending) (w' : World) : Prop := ∃ b A m c, e = .returned (.pointer (some ⟨b, 0, none⟩)) ∧ Obj4 b l s 0 (.slice A m c) w' ∧ FSl (.slice A m c) rows.flatten w' ∧ Grow w w'
/-- what is known of an object with ends *)-/
structure ObE (b : Nat) (l : Int) (s : Nat) (r : Int) (A : Option Addr) (n c : Nat) (E : Option Addr) (ce : Nat) (segs : List (List (List Nat))) (w : World) : Prop where
  o : Obj4 b l s r (.slice A n c) w
  f : FSl (.slice A n c) (fwd segs) w
  e : w.cell? ⟨b, 4, none⟩ = some (.slice E segs.length ce)
  en : EndR E (cum s 0 segs) w
  rw : ∀ rows ∈ segs, ∀ r ∈ rows, r.length = s
  st : strideN l = s
  l1 : 1 ≤ l
  l9 : l ≤ 9
  n1 : (fwd segs).length ≤ 17592186044416
  n2 : segs.length ≤ 17592186044416
theorem ObE.up {b : Nat} {l : Int} {s : Nat} {r : Int} {A : Option Addr} {n c : Nat} {E : Option Addr} {ce : Nat} {segs : List (List (List Nat))} : Up (ObE b l s r A n c E ce segs) := fun _ _ h hg => ⟨Obj4.up _ _ h.o hg, FSl.up _ _ h.f hg, up_cell h.e hg, EndR.up _ _ h.en hg, h.rw, h.st, h.l1, h.l9, h.n1, h.n2⟩
/-- what is read at an index *)-/
structure CutE (b : Nat) (l : Int) (A : Option Addr) (n c : Nat) (E : Option Addr) (ce m i X Y : Nat) (rows : List (List Nat)) (A' : Option Addr) (c' : Nat) (w : World) : Prop where
  c0 : w.cell? ⟨b, 0, none⟩ = some (.int .i64 l)
  c2 : w.cell? ⟨b, 2, none⟩ = some (.slice A n c)
  c4 : w.cell? ⟨b, 4, none⟩ = some (.slice E m ce)
  hE : ∃ be oe, E = some ⟨be, oe, none⟩ ∧ w.cell? ⟨be, oe + i, none⟩ = some (.int .i64 (Y : Int)) ∧ (0 < i → w.cell? ⟨be, oe + (i - 1), none⟩ = some (.int .i64 (X : Int)))
  x0 : i = 0 → X = 0
  im : i < m
  yx : Y = X + rows.flatten.length
  yb : Y ≤ 17592186044416
  mb : m ≤ 17592186044416
  f : FSl (.slice A' rows.flatten.length c') rows.flatten w
  cut : ∀ (w' : World), (Instr.slice 22 (.slice A n c) (some (.int .i64 (X : Int))) (some (.int .i64 (Y : Int))) none).run Try.prog w' = .ok (.slice A' rows.flatten.length c') w'
theorem ObE.at {b : Nat} {l : Int} {s : Nat} {r : Int} {A : Option Addr} {n c : Nat} {E : Option Addr} {ce : Nat} {segs : List (List (List Nat))} {w : World} (h : ObE b l s r A n c E ce segs w) {i : Nat} {rows : List (List Nat)} (hi : segs[i]? = some rows) : ∃ X Y A' c', CutE b l A n c E ce segs.length i X Y rows A' c' w := by
  obtain ⟨i0, hi0, hz0, hz1, hz2⟩ := info_parts infoR0
  have hil : i < segs.length := (List.getElem?_eq_some_iff.1 hi).1
  have hu := h.f
  rw [seg_flat hi] at hu
  obtain ⟨A', c', hM, hcut⟩ := fcut (P := Try.prog) undR0 hi0 hz1 hu
  obtain ⟨X, hX⟩ : ∃ X, X = (fwd (segs.take i)).length := ⟨_, rfl⟩
  obtain ⟨Y, hY⟩ : ∃ Y, Y = X + rows.flatten.length := ⟨_, rfl⟩
  have hend := cum_at (o := 0) h.rw hi
  rw [Nat.zero_add, ← flat_len (h.rw rows (List.mem_of_getElem? hi)), ← hX, ← hY] at hend
  have hprev : 0 < i → (cum s 0 segs)[i - 1]? = some X := fun h0 => by
    obtain ⟨rows', hi'⟩ : ∃ p, segs[i - 1]? = some p := ⟨segs[i - 1]'(by omega), by simp [show i - 1 < segs.length by omega]⟩
    rw [cum_at (o := 0) h.rw hi', Nat.zero_add, ← flat_len (h.rw rows' (List.mem_of_getElem? hi')), ← List.length_append, ← fwd_snoc hi', show i - 1 + 1 = i by omega, hX]
  have hYn : Y ≤ (fwd segs).length := by
    have h1 := congrArg List.length (seg_flat hi)
    simp only [List.length_append] at h1
    omega
  obtain ⟨x0, -, x2, -, -⟩ := h.o
  refine ⟨X, Y, A', c', ⟨x0, x2, h.e, ?_, fun h0 => by rw [hX, h0]; rfl, hil, hY, by have := h.n1; omega, h.n2, hM, fun w' => by rw [hX]; exact hcut w' .i64 .i64 Y (by rw [hY, hX]; omega)⟩⟩
  rcases h.en with h0 | ⟨be, oe, rfl, hce⟩
  · exfalso; have := congrArg List.length h0; rw [cum_len, List.length_nil] at this; omega
  · exact ⟨be, oe, rfl, hce i Y hend, fun h0 => hce (i - 1) X (hprev h0)⟩
set_option maxRecDepth 100000 in
set_option maxHeartbeats 4000000 in
theorem ringIn (b : Nat) (l : Int) (s : Nat) (r : Int) (A : Option Addr) (n c : Nat) (E : Option Addr) (ce i : Nat) (segs : List (List (List Nat))) (rows : List (List Nat)) (w : World) (hO : ObE b l s r A n c E ce segs w) (hi : segs[i]? = some rows) :
    Calls Try.prog 38 #[.pointer (some ⟨b, 0, none⟩), .int .i64 i] w (RowObj l s rows w) := by
  obtain ⟨X, Y, A', c', ⟨c0, c2, c4, ⟨be, oe, rfl, hcy, hcx⟩, hx0, him, hyx, hyb, hmb, hf, hcut⟩⟩ := hO.at hi
  have hst := hO.st; have h1 := hO.l1; have h9 := hO.l9
  have HF := Lib.hid hf
  have hb := cell_ltH c0; have hbe := cell_ltH hcy
  have HXY := Lib.hid hyx
  have hXY : X ≤ Y := by omega
  have b0 : (0 : Int) ≤ (i : Int) := by omega
  have b1 : (i : Int) < (segs.length : Int) := by omega
  have HN := Lib.hid (fun w' (hw : Grow w w') => newLinearRing w.heap.size l s A' rows.flatten.length c' w' h1 h9 hst hw.size)
  clear hO hi hf hyx h1 h9 hst
  generalize hfle : rows.flatten.length = fl at *
  have HFE := Lib.hid hfle
  clear hfle
  by_cases hi0 : i = 0
  · have hcut0 : ∀ (w' : World), (Instr.slice 22 (.slice A n c) (some (.int .i64 0)) (some (.int .i64 (Y : Int))) none).run Try.prog w' = .ok (.slice A' fl c') w' := fun w' => by have := hcut w'; rw [hx0 hi0] at this; exact this
    have hgt : decide ((0 : Int) < (i : Int)) = false := by simp; omega
    have hgt2 : decide (0 < i) = false := by simp; omega
    have hX0 := hx0 hi0
    have HX0 := Lib.hid hX0
    clear hcx hx0 hcut hi0 hX0
    go_enter Try.func38, Try.ntmps38
    go_wp2
    refine wp_region_grow_tail 24 (fun i => none) (by kernel_rfl) (by kernel_rfl) ?_ ?_
    · intro i Φ h lo hi v
      cases h
    simp only [List.take_succ_cons, List.take_zero, List.drop_succ_cons, List.drop_zero]
    repeat (first
      | (refine wpGrow_skip (by rfl) ?_; simp only [Act.put, List.setIfInBounds_toArray, List.set_cons_zero, List.set_cons_succ, Nat.reduceAdd])
      | (refine wpGrow_det' (by rfl) (by rfl) ?_; apply Exists.intro; refine ⟨fun w' hc hh => ?_, ?_⟩; (have hcell := grow_cell hc; clear hc hh; go_simp; rfl); simp only [Act.put, List.setIfInBounds_toArray, List.set_cons_zero, List.set_cons_succ, Nat.reduceAdd]))
    refine wpGrow_nil ?_
    intro w1 hg hh
    have HG := Lib.hid hg
    clear hh hg
    go_wp2_with (go_at_call 64; refine (HN.out _ HG.out).mono ?_; rintro e w2 ⟨V, rfl, hg2, b2, rfl, -, ho2⟩; have HG2 := Lib.hid (HG.out.trans hg2); have HO2 := Lib.hid ho2; clear hg2 ho2)
    go_ret
    exact ⟨b2, A', fl, c', rfl, HO2.out, FSl.up _ _ HF.out HG2.out, HG2.out⟩
  · have hcx := hcx (by omega)
    have hgt : decide ((0 : Int) < (i : Int)) = true := by simp; omega
    have hgt2 : 0 < i := by omega
    clear hx0 hi0
    go_enter Try.func38, Try.ntmps38
    go_wp2
    refine wp_region_grow_tail 24 (fun i => none) (by kernel_rfl) (by kernel_rfl) ?_ ?_
    · intro i Φ h lo hi v
      cases h
    simp only [List.take_succ_cons, List.take_zero, List.drop_succ_cons, List.drop_zero]
    repeat (first
      | (refine wpGrow_skip (by rfl) ?_; simp only [Act.put, List.setIfInBounds_toArray, List.set_cons_zero, List.set_cons_succ, Nat.reduceAdd])
      | (refine wpGrow_det' (by rfl) (by rfl) ?_; apply Exists.intro; refine ⟨fun w' hc hh => ?_, ?_⟩; (have hcell := grow_cell hc; clear hc hh; go_simp; rfl); simp only [Act.put, List.setIfInBounds_toArray, List.set_cons_zero, List.set_cons_succ, Nat.reduceAdd]))
    refine wpGrow_nil ?_
    intro w1 hg hh
    have HG := Lib.hid hg
    clear hh hg
    go_wp2_with (go_at_call 64; refine (HN.out _ HG.out).mono ?_; rintro e w2 ⟨V, rfl, hg2, b2, rfl, -, ho2⟩; have HG2 := Lib.hid (HG.out.trans hg2); have HO2 := Lib.hid ho2; clear hg2 ho2)
    go_ret
    exact ⟨b2, A', fl, c', rfl, HO2.out, FSl.up _ _ HF.out HG2.out, HG2.out⟩

theorem emptyNewLineString (l : Int) (s : Nat) (w : World) (h1 : 1 ≤ l) (h9 : l ≤ 9) (hs : strideN l = s) : Calls Try.prog 85 #[.int .i64 l] w (RowObj l s [] w) := by
  have HN := Lib.hid (fun w' (hw : Grow w w') => newLineString w.heap.size l s none 0 0 w' h1 h9 hs hw.size)
  clear h1 h9 hs
  go_enter Try.func85, Try.ntmps85
  go_wp2_with (go_at_call 62; refine (HN.out _ (Grow.refl w)).mono ?_; rintro e w2 ⟨V, rfl, hg2, b2, rfl, -, ho2⟩; have HG2 := Lib.hid hg2; have HO2 := Lib.hid ho2; clear hg2 ho2)
  go_ret
  exact ⟨b2, none, 0, 0, rfl, HO2.out, ⟨none, 0, rfl, Nat.le_refl _, .inl rfl⟩, HG2.out⟩

theorem emptyNewPointEmpty (l : Int) (s : Nat) (w : World) (h1 : 1 ≤ l) (h9 : l ≤ 9) (hs : strideN l = s) : Calls Try.prog 84 #[.int .i64 l] w (RowObj l s [] w) := by
  have HN := Lib.hid (fun w' (hw : Grow w w') => newPoint w.heap.size l s none 0 0 w' h1 h9 hs hw.size)
  clear h1 h9 hs
  go_enter Try.func84, Try.ntmps84
  go_wp2_with (go_at_call 60; refine (HN.out _ (Grow.refl w)).mono ?_; rintro e w2 ⟨V, rfl, hg2, b2, rfl, -, ho2⟩; have HG2 := Lib.hid hg2; have HO2 := Lib.hid ho2; clear hg2 ho2)
  go_ret
  exact ⟨b2, none, 0, 0, rfl, HO2.out, ⟨none, 0, rfl, Nat.le_refl _, .inl rfl⟩, HG2.out⟩

theorem RowObj.nil {l : Int} {s : Nat} {rows : List (List Nat)} {w : World} {e : Ending} {w' : World} (h : RowObj l s [] w e w') (hr : rows.flatten.length = 0) : RowObj l s rows w e w' := by
  unfold RowObj at *
  rw [List.eq_nil_of_length_eq_zero hr]
  exact h
set_option maxRecDepth 100000 in
set_option maxHeartbeats 4000000 in
theorem lineIn (b : Nat) (l : Int) (s : Nat) (r : Int) (A : Option Addr) (n c : Nat) (E : Option Addr) (ce i : Nat) (segs : List (List (List Nat))) (rows : List (List Nat)) (w : World) (hO : ObE b l s r A n c E ce segs w) (hi : segs[i]? = some rows) :
    Calls Try.prog 40 #[.pointer (some ⟨b, 0, none⟩), .int .i64 i] w (RowObj l s rows w) := by
  obtain ⟨X, Y, A', c', ⟨c0, c2, c4, ⟨be, oe, rfl, hcy, hcx⟩, hx0, him, hyx, hyb, hmb, hf, hcut⟩⟩ := hO.at hi
  have hst := hO.st; have h1 := hO.l1; have h9 := hO.l9
  have HF := Lib.hid hf
  have hb := cell_ltH c0; have hbe := cell_ltH hcy
  have HXY := Lib.hid hyx
  have hXY : X ≤ Y := by omega
  have b0 : (0 : Int) ≤ (i : Int) := by omega
  have b1 : (i : Int) < (segs.length : Int) := by omega
  have HN := Lib.hid (fun w' (hw : Grow w w') => newLineString w.heap.size l s A' rows.flatten.length c' w' h1 h9 hst hw.size)
  have HEM := Lib.hid (fun w' (hw : Grow w w') => emptyNewLineString l s w' h1 h9 hst)
  clear hO hi hf hyx h1 h9 hst
  generalize hfle : rows.flatten.length = fl at *
  have HFE := Lib.hid hfle
  clear hfle
  by_cases hi0 : i = 0
  · have hcut0 : ∀ (w' : World), (Instr.slice 22 (.slice A n c) (some (.int .i64 0)) (some (.int .i64 (Y : Int))) none).run Try.prog w' = .ok (.slice A' fl c') w' := fun w' => by have := hcut w'; rw [hx0 hi0] at this; exact this
    have hgt : decide ((0 : Int) < (i : Int)) = false := by simp; omega
    have hgt2 : decide (0 < i) = false := by simp; omega
    have hX0 := hx0 hi0
    have HX0 := Lib.hid hX0
    clear hcx hx0 hcut hi0 hX0
    by_cases hfl0 : fl = 0
    · have HFL := Lib.hid hfl0
      have hfl1 : fl = 0 := hfl0
      have e0 : ((0 : Int) == (Y : Int)) = true := by have h1 := HXY.out; have h2 := HX0.out; simp; omega
      have e1 : ((Y : Int) == (0 : Int)) = true := by have h1 := HXY.out; have h2 := HX0.out; simp; omega
      have e2 : (0 == Y) = true := by have h1 := HXY.out; have h2 := HX0.out; simp; omega
      have e3 : (Y == 0) = true := by have h1 := HXY.out; have h2 := HX0.out; simp; omega
      clear hfl0 hfl1
      go_enter Try.func40, Try.ntmps40
      go_wp2_with (go_at_call 85; refine (HEM.out _ (Grow.refl _)).mono ?_; rintro e w2 hq; have HQ := Lib.hid hq; obtain ⟨b2, A2, m2, c2, rfl, -⟩ := hq)
      go_ret
      exact RowObj.nil HQ.out (HFE.out.trans HFL.out)
    · have HFL := Lib.hid hfl0
      have hfl1 : 0 < fl := by omega
      have e0 : ((0 : Int) == (Y : Int)) = false := by have h1 := HXY.out; have h2 := HX0.out; simp; omega
      have e1 : ((Y : Int) == (0 : Int)) = false := by have h1 := HXY.out; have h2 := HX0.out; simp; omega
      have e2 : (0 == Y) = false := by have h1 := HXY.out; have h2 := HX0.out; simp; omega
      have e3 : (Y == 0) = false := by have h1 := HXY.out; have h2 := HX0.out; simp; omega
      clear hfl0 hfl1
      go_enter Try.func40, Try.ntmps40
      go_wp2
      refine wp_region_grow_tail 24 (fun i => none) (by kernel_rfl) (by kernel_rfl) ?_ ?_
      · intro i Φ h lo hi v
        cases h
      simp only [List.take_succ_cons, List.take_zero, List.drop_succ_cons, List.drop_zero]
      repeat (first
        | (refine wpGrow_skip (by rfl) ?_; simp only [Act.put, List.setIfInBounds_toArray, List.set_cons_zero, List.set_cons_succ, Nat.reduceAdd])
        | (refine wpGrow_det' (by rfl) (by rfl) ?_; apply Exists.intro; refine ⟨fun w' hc hh => ?_, ?_⟩; (have hcell := grow_cell hc; clear hc hh; go_simp; rfl); simp only [Act.put, List.setIfInBounds_toArray, List.set_cons_zero, List.set_cons_succ, Nat.reduceAdd]))
      refine wpGrow_nil ?_
      intro w1 hg hh
      have HG := Lib.hid hg
      clear hh hg
      go_wp2_with (go_at_call 62; refine (HN.out _ HG.out).mono ?_; rintro e w2 ⟨V, rfl, hg2, b2, rfl, -, ho2⟩; have HG2 := Lib.hid (HG.out.trans hg2); have HO2 := Lib.hid ho2; clear hg2 ho2)
      go_ret
      exact ⟨b2, A', fl, c', rfl, HO2.out, FSl.up _ _ HF.out HG2.out, HG2.out⟩
  · have hcx := hcx (by omega)
    have hgt : decide ((0 : Int) < (i : Int)) = true := by simp; omega
    have hgt2 : 0 < i := by omega
    clear hx0 hi0
    by_cases hfl0 : fl = 0
    · have HFL := Lib.hid hfl0
      have hfl1 : fl = 0 := hfl0
      have e0 : (((X : Int) : Int) == (Y : Int)) = true := by have h1 := HXY.out; skip; simp; omega
      have e1 : ((Y : Int) == ((X : Int) : Int)) = true := by have h1 := HXY.out; skip; simp; omega
      have e2 : (X == Y) = true := by have h1 := HXY.out; skip; simp; omega
      have e3 : (Y == X) = true := by have h1 := HXY.out; skip; simp; omega
      clear hfl0 hfl1
      go_enter Try.func40, Try.ntmps40
      go_wp2_with (go_at_call 85; refine (HEM.out _ (Grow.refl _)).mono ?_; rintro e w2 hq; have HQ := Lib.hid hq; obtain ⟨b2, A2, m2, c2, rfl, -⟩ := hq)
      go_ret
      exact RowObj.nil HQ.out (HFE.out.trans HFL.out)
    · have HFL := Lib.hid hfl0
      have hfl1 : 0 < fl := by omega
      have e0 : (((X : Int) : Int) == (Y : Int)) = false := by have h1 := HXY.out; skip; simp; omega
      have e1 : ((Y : Int) == ((X : Int) : Int)) = false := by have h1 := HXY.out; skip; simp; omega
      have e2 : (X == Y) = false := by have h1 := HXY.out; skip; simp; omega
      have e3 : (Y == X) = false := by have h1 := HXY.out; skip; simp; omega
      clear hfl0 hfl1
      go_enter Try.func40, Try.ntmps40
      go_wp2
      refine wp_region_grow_tail 24 (fun i => none) (by kernel_rfl) (by kernel_rfl) ?_ ?_
      · intro i Φ h lo hi v
        cases h
      simp only [List.take_succ_cons, List.take_zero, List.drop_succ_cons, List.drop_zero]
      repeat (first
        | (refine wpGrow_skip (by rfl) ?_; simp only [Act.put, List.setIfInBounds_toArray, List.set_cons_zero, List.set_cons_succ, Nat.reduceAdd])
        | (refine wpGrow_det' (by rfl) (by rfl) ?_; apply Exists.intro; refine ⟨fun w' hc hh => ?_, ?_⟩; (have hcell := grow_cell hc; clear hc hh; go_simp; rfl); simp only [Act.put, List.setIfInBounds_toArray, List.set_cons_zero, List.set_cons_succ, Nat.reduceAdd]))
      refine wpGrow_nil ?_
      intro w1 hg hh
      have HG := Lib.hid hg
      clear hh hg
      go_wp2_with (go_at_call 62; refine (HN.out _ HG.out).mono ?_; rintro e w2 ⟨V, rfl, hg2, b2, rfl, -, ho2⟩; have HG2 := Lib.hid (HG.out.trans hg2); have HO2 := Lib.hid ho2; clear hg2 ho2)
      go_ret
      exact ⟨b2, A', fl, c', rfl, HO2.out, FSl.up _ _ HF.out HG2.out, HG2.out⟩

/-- the numbers of a point: none at all, or a row of them *)-/
def CoordQ (rows : List (List Nat)) (w : World) (e : Ending) (w' : World) : Prop := ∃ V, e = .returned V ∧ Grow w w' ∧ (rows.flatten.length = 0 ∧ V = .slice none 0 0 ∨ ∃ b o m c, V = .slice (some ⟨b, o, none⟩) m c ∧ FSl (.slice (some ⟨b, o, none⟩) m c) rows.flatten w)
theorem fsl_some {A : Option Addr} {m c : Nat} {xs : List Nat} {w : World} (h : FSl (.slice A m c) xs w) (hx : 0 < xs.length) : ∃ b o, A = some ⟨b, o, none⟩ := by
  obtain ⟨A', c', he, -, h1⟩ := h
  simp only [Value.slice.injEq] at he
  obtain ⟨rfl, rfl, rfl⟩ := he
  rcases h1 with rfl | ⟨b, o, rfl, -⟩
  · simp at hx
  · exact ⟨b, o, rfl⟩
set_option maxRecDepth 100000 in
set_option maxHeartbeats 4000000 in
theorem coordIn (b : Nat) (l : Int) (s : Nat) (r : Int) (A : Option Addr) (n c : Nat) (E : Option Addr) (ce i : Nat) (segs : List (List (List Nat))) (rows : List (List Nat)) (w : World) (hO : ObE b l s r A n c E ce segs w) (hi : segs[i]? = some rows) :
    Calls Try.prog 83 #[.pointer (some ⟨b, 0, none⟩), .int .i64 i] w (CoordQ rows w) := by
  obtain ⟨X, Y, A', c', ⟨c0, c2, c4, ⟨be, oe, rfl, hcy, hcx⟩, hx0, him, hyx, hyb, hmb, hf, hcut⟩⟩ := hO.at hi
  have hst := hO.st; have h1 := hO.l1; have h9 := hO.l9
  have HF := Lib.hid hf
  have hb := cell_ltH c0; have hbe := cell_ltH hcy
  have HXY := Lib.hid hyx
  have hXY : X ≤ Y := by omega
  have b0 : (0 : Int) ≤ (i : Int) := by omega
  have b1 : (i : Int) < (segs.length : Int) := by omega
  clear hO hi hf hyx h1 h9 hst
  generalize hfle : rows.flatten.length = fl at *
  have HFE := Lib.hid hfle
  clear hfle
  by_cases hi0 : i = 0
  · have hcut0 : ∀ (w' : World), (Instr.slice 22 (.slice A n c) (some (.int .i64 0)) (some (.int .i64 (Y : Int))) none).run Try.prog w' = .ok (.slice A' fl c') w' := fun w' => by have := hcut w'; rw [hx0 hi0] at this; exact this
    have hgt : decide ((0 : Int) < (i : Int)) = false := by simp; omega
    have hgt2 : decide (0 < i) = false := by simp; omega
    have hX0 := hx0 hi0
    have HX0 := Lib.hid hX0
    clear hcx hx0 hcut hi0 hX0
    by_cases hfl0 : fl = 0
    · have HFL := Lib.hid hfl0
      have hfl1 : fl = 0 := hfl0
      have e0 : ((0 : Int) == (Y : Int)) = true := by have h1 := HXY.out; have h2 := HX0.out; simp; omega
      have e1 : ((Y : Int) == (0 : Int)) = true := by have h1 := HXY.out; have h2 := HX0.out; simp; omega
      have e2 : (0 == Y) = true := by have h1 := HXY.out; have h2 := HX0.out; simp; omega
      have e3 : (Y == 0) = true := by have h1 := HXY.out; have h2 := HX0.out; simp; omega
      clear hfl0 hfl1
      go_enter Try.func83, Try.ntmps83
      go_wp2
      go_ret
      exact ⟨_, rfl, Grow.refl _, .inl ⟨HFE.out.trans HFL.out, rfl⟩⟩
    · have HFL := Lib.hid hfl0
      have hfl1 : 0 < fl := by omega
      have e0 : ((0 : Int) == (Y : Int)) = false := by have h1 := HXY.out; have h2 := HX0.out; simp; omega
      have e1 : ((Y : Int) == (0 : Int)) = false := by have h1 := HXY.out; have h2 := HX0.out; simp; omega
      have e2 : (0 == Y) = false := by have h1 := HXY.out; have h2 := HX0.out; simp; omega
      have e3 : (Y == 0) = false := by have h1 := HXY.out; have h2 := HX0.out; simp; omega
      clear hfl0 hfl1
      go_enter Try.func83, Try.ntmps83
      go_wp2
      refine wp_region_grow_tail 16 (fun i => none) (by kernel_rfl) (by kernel_rfl) ?_ ?_
      · intro i Φ h lo hi v
        cases h
      simp only [List.take_succ_cons, List.take_zero, List.drop_succ_cons, List.drop_zero]
      repeat (first
        | (refine wpGrow_skip (by rfl) ?_; simp only [Act.put, List.setIfInBounds_toArray, List.set_cons_zero, List.set_cons_succ, Nat.reduceAdd])
        | (refine wpGrow_det' (by rfl) (by rfl) ?_; apply Exists.intro; refine ⟨fun w' hc hh => ?_, ?_⟩; (have hcell := grow_cell hc; clear hc hh; go_simp; rfl); simp only [Act.put, List.setIfInBounds_toArray, List.set_cons_zero, List.set_cons_succ, Nat.reduceAdd]))
      refine wpGrow_nil ?_
      intro w1 hg hh
      have HG := Lib.hid hg
      clear hh hg
      go_wp2
      go_ret
      have hfs := HF.out
      obtain ⟨bA, oA, rfl⟩ := fsl_some hfs (by rw [HFE.out]; have := HFL.out; omega)
      exact ⟨_, rfl, HG.out, .inr ⟨bA, oA, fl, c', rfl, hfs⟩⟩
  · have hcx := hcx (by omega)
    have hgt : decide ((0 : Int) < (i : Int)) = true := by simp; omega
    have hgt2 : 0 < i := by omega
    clear hx0 hi0
    by_cases hfl0 : fl = 0
    · have HFL := Lib.hid hfl0
      have hfl1 : fl = 0 := hfl0
      have e0 : (((X : Int) : Int) == (Y : Int)) = true := by have h1 := HXY.out; skip; simp; omega
      have e1 : ((Y : Int) == ((X : Int) : Int)) = true := by have h1 := HXY.out; skip; simp; omega
      have e2 : (X == Y) = true := by have h1 := HXY.out; skip; simp; omega
      have e3 : (Y == X) = true := by have h1 := HXY.out; skip; simp; omega
      clear hfl0 hfl1
      go_enter Try.func83, Try.ntmps83
      go_wp2
      go_ret
      exact ⟨_, rfl, Grow.refl _, .inl ⟨HFE.out.trans HFL.out, rfl⟩⟩
    · have HFL := Lib.hid hfl0
      have hfl1 : 0 < fl := by omega
      have e0 : (((X : Int) : Int) == (Y : Int)) = false := by have h1 := HXY.out; skip; simp; omega
      have e1 : ((Y : Int) == ((X : Int) : Int)) = false := by have h1 := HXY.out; skip; simp; omega
      have e2 : (X == Y) = false := by have h1 := HXY.out; skip; simp; omega
      have e3 : (Y == X) = false := by have h1 := HXY.out; skip; simp; omega
      clear hfl0 hfl1
      go_enter Try.func83, Try.ntmps83
      go_wp2
      refine wp_region_grow_tail 16 (fun i => none) (by kernel_rfl) (by kernel_rfl) ?_ ?_
      · intro i Φ h lo hi v
        cases h
      simp only [List.take_succ_cons, List.take_zero, List.drop_succ_cons, List.drop_zero]
      repeat (first
        | (refine wpGrow_skip (by rfl) ?_; simp only [Act.put, List.setIfInBounds_toArray, List.set_cons_zero, List.set_cons_succ, Nat.reduceAdd])
        | (refine wpGrow_det' (by rfl) (by rfl) ?_; apply Exists.intro; refine ⟨fun w' hc hh => ?_, ?_⟩; (have hcell := grow_cell hc; clear hc hh; go_simp; rfl); simp only [Act.put, List.setIfInBounds_toArray, List.set_cons_zero, List.set_cons_succ, Nat.reduceAdd]))
      refine wpGrow_nil ?_
      intro w1 hg hh
      have HG := Lib.hid hg
      clear hh hg
      go_wp2
      go_ret
      have hfs := HF.out
      obtain ⟨bA, oA, rfl⟩ := fsl_some hfs (by rw [HFE.out]; have := HFL.out; omega)
      exact ⟨_, rfl, HG.out, .inr ⟨bA, oA, fl, c', rfl, hfs⟩⟩

theorem eqNil1 (w : World) : (binOp .eql 88 (.slice none 0 0) (.slice none 0 0)).run Try.prog w = .ok (.bool true) w := by kernel_rfl
theorem undCoP : Try.prog.underlying 88 = some (.slice 36) := by kernel_rfl
theorem eqNil2 (b o m c : Nat) (w : World) : (binOp .eql 88 (.slice (some ⟨b, o, none⟩) m c) (.slice none 0 0)).run Try.prog w = .ok (.bool false) w := by
  simp only [binOp]
  simp [run_equal_slice_nil (P := Try.prog) w 88 36 (some ⟨b, o, none⟩) m c undCoP]
set_option maxRecDepth 100000 in
set_option maxHeartbeats 4000000 in
theorem pointIn (b : Nat) (l : Int) (s : Nat) (r : Int) (A : Option Addr) (n c : Nat) (E : Option Addr) (ce i : Nat) (segs : List (List (List Nat))) (rows : List (List Nat)) (w : World) (hO : ObE b l s r A n c E ce segs w) (hi : segs[i]? = some rows) :
    Calls Try.prog 39 #[.pointer (some ⟨b, 0, none⟩), .int .i64 i] w (RowObj l s rows w) := by
  have HC := Lib.hid (coordIn b l s r A n c E ce i segs rows w hO hi)
  have HEM := Lib.hid (fun w' (hw : Grow w w') => emptyNewPointEmpty l s w' hO.l1 hO.l9 hO.st)
  have HN := Lib.hid (fun A' m c' w' (hw : Grow w w') => newPoint w.heap.size l s A' m c' w' hO.l1 hO.l9 hO.st hw.size)
  obtain ⟨c0, -⟩ := hO.o
  have hb := cell_ltH c0
  have C0 := Lib.hid c0
  have e1 := eqNil1
  clear hO hi c0
  go_enter Try.func39, Try.ntmps39
  go_wp2_with fail
  refine (HC.out).mono ?_
  rintro e w1 ⟨V, rfl, hg1, hv⟩
  have HG1 := Lib.hid hg1
  have c0 := up_cell C0.out hg1
  have hb1 := cell_ltH c0
  clear hg1
  rcases hv with ⟨h0, rfl⟩ | ⟨bA, oA, m, c', rfl, hf⟩
  · have H0 := Lib.hid h0
    clear h0
    go_wp2_with (go_at_call 84; refine (HEM.out _ HG1.out).mono ?_; rintro e w2 hq; have HQ := Lib.hid hq; obtain ⟨b2, A2, m2, c2, rfl, -⟩ := hq)
    go_ret
    obtain ⟨b3, A3, m3, c3, h3, h4, h5, h6⟩ := RowObj.nil HQ.out H0.out
    exact ⟨b3, A3, m3, c3, h3, h4, h5, HG1.out.trans h6⟩
  · have HF := Lib.hid hf
    have e2 := eqNil2 bA oA m c'
    clear hf
    go_wp2_with (go_at_call 60; refine (HN.out _ _ _ _ HG1.out).mono ?_; rintro e w2 ⟨V, rfl, hg2, b2, rfl, -, ho2⟩; have HG2 := Lib.hid (HG1.out.trans hg2); have HO2 := Lib.hid ho2; clear hg2 ho2)
    go_ret
    exact ⟨b2, _, m, c', rfl, HO2.out, FSl.up _ _ HF.out HG2.out, HG2.out⟩
end Go.Proofs.Ytemobphkgbhhhaa
