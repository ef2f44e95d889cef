import Derived.Test.YtemobphkgbhhhaaStabB
namespace Go.Proofs.Ytemobphkgbhhhaa
open Go.ChangeShapes Go.WideShapes Go.ChangeAt Go.RowKit Go.GrowR
set_option linter.unusedVariables false
set_option linter.unusedSimpArgs false

theorem seg_len_le {segs : List (List (List Nat))} {rows : List (List Nat)} (h : rows ∈ segs) : rows.flatten.length ≤ (fwd segs).length := by
  obtain ⟨i, hi⟩ := List.mem_iff_getElem?.1 h
  rw [seg_flat hi]; simp only [List.length_append]; omega
theorem segs_len_le {segss : List (List (List (List Nat)))} {segs : List (List (List Nat))} (h : segs ∈ segss) : (fwd segs).length ≤ (fwd segss.flatten).length := by
  obtain ⟨i, hi⟩ := List.mem_iff_getElem?.1 h
  have hdr : segss.drop i = segs :: segss.drop (i + 1) := by
    obtain ⟨hq', rfl⟩ := List.getElem?_eq_some_iff.1 hi
    exact List.drop_eq_getElem_cons hq'
  have hfl : fwd segss.flatten = fwd (segss.take i).flatten ++ fwd segs ++ fwd (segss.drop (i + 1)).flatten := by
    conv => lhs; rw [← List.take_append_drop i segss, hdr]
    simp [fwd_append, List.append_assoc]
  rw [hfl]; simp only [List.length_append]; omega
/-- the parts of a polygon *)-/
theorem polyParts {l r : Int} {s : Nat} {segs : List (List (List Nat))} {v : Value} {w : World} (hgv : GV (.mk 3 l r (fwd segs) ((cum s 0 segs).map Int.ofNat) [] []) v w) (hr : ∀ rows ∈ segs, ∀ r ∈ rows, r.length = s) (hf : (fwd segs).length ≤ 2147483647) (hsl : segs.length ≤ 1000000000) :
    ∃ A1 n1 c1 A2 n2 c2 A3 n3 c3 A4 n4 c4, v = Geo7 3 l r A1 n1 c1 A2 n2 c2 A3 n3 c3 A4 n4 c4 ∧ ∀ w', Grow w w' → Calls Try.prog 57 #[v] w' (MQB (PartsV (segs.map fun rows => GT.mk 8 l 0 rows.flatten [] [] [])) w') := by
  unfold GV at hgv
  obtain ⟨u, e1, e2, A4, c4, rfl, -, hfl, he1, he2, -⟩ := hgv
  have hen := he1
  obtain ⟨A2, c2, rfl, -, -⟩ := SlE.form he1
  obtain ⟨A3, c3, rfl, -, -⟩ := SlE.form he2
  obtain ⟨hn2, hE⟩ := EndR.of hen
  have hfl2 := hfl
  obtain ⟨A1, c1, rfl, -, -⟩ := hfl2
  rw [cum_len] at hn2
  refine ⟨_, _, _, _, _, _, _, _, _, _, _, _, rfl, fun w' hw => ?_⟩
  refine parts_calls 3 l r A1 A2 A3 A4 _ c1 _ c2 _ c3 _ c4 _ w' (by rw [List.length_map]; exact hsl) (fun w2 hw2 => ?_) (fun i g w2 hi hw2 => ?_)
  · refine (numParts3 l r A1 A2 A3 A4 _ c1 _ c2 _ c3 _ c4 w2).mono ?_
    rintro e w3 ⟨rfl, h⟩
    exact ⟨by rw [hn2, List.length_map], h⟩
  · rw [List.getElem?_map] at hi
    obtain ⟨rows, hrows, rfl⟩ := Option.map_eq_some_iff.1 hi
    exact part2_calls 3 l r 8 A1 A2 A3 A4 _ c1 _ c2 _ c3 _ c4 s i i rfl segs rows w2 (.inl rfl) rfl (FSl.up _ _ hfl (hw.trans hw2)) (EndR.up _ _ hE (hw.trans hw2)) hn2 hr hrows (by omega) (by omega)
/-- the parts of a kind 5 *)-/
theorem multiParts {l r : Int} {s : Nat} {segs : List (List (List Nat))} {v : Value} {w : World} (hgv : GV (.mk 5 l r (fwd segs) ((cum s 0 segs).map Int.ofNat) [] []) v w) (hr : ∀ rows ∈ segs, ∀ r ∈ rows, r.length = s) (hf : (fwd segs).length ≤ 2147483647) (hsl : segs.length ≤ 1000000000) :
    ∃ A1 n1 c1 A2 n2 c2 A3 n3 c3 A4 n4 c4, v = Geo7 5 l r A1 n1 c1 A2 n2 c2 A3 n3 c3 A4 n4 c4 ∧ ∀ w', Grow w w' → Calls Try.prog 57 #[v] w' (MQB (PartsV (segs.map fun rows => GT.mk 2 l 0 rows.flatten [] [] [])) w') := by
  unfold GV at hgv
  obtain ⟨u, e1, e2, A4, c4, rfl, -, hfl, he1, he2, -⟩ := hgv
  have hen := he1
  obtain ⟨A2, c2, rfl, -, -⟩ := SlE.form he1
  obtain ⟨A3, c3, rfl, -, -⟩ := SlE.form he2
  obtain ⟨hn2, hE⟩ := EndR.of hen
  have hfl2 := hfl
  obtain ⟨A1, c1, rfl, -, -⟩ := hfl2
  rw [cum_len] at hn2
  refine ⟨_, _, _, _, _, _, _, _, _, _, _, _, rfl, fun w' hw => ?_⟩
  refine parts_calls 5 l r A1 A2 A3 A4 _ c1 _ c2 _ c3 _ c4 _ w' (by rw [List.length_map]; exact hsl) (fun w2 hw2 => ?_) (fun i g w2 hi hw2 => ?_)
  · refine (numParts5 l r A1 A2 A3 A4 _ c1 _ c2 _ c3 _ c4 w2).mono ?_
    rintro e w3 ⟨rfl, h⟩
    exact ⟨by rw [hn2, List.length_map], h⟩
  · rw [List.getElem?_map] at hi
    obtain ⟨rows, hrows, rfl⟩ := Option.map_eq_some_iff.1 hi
    exact part2_calls 5 l r 2 A1 A2 A3 A4 _ c1 _ c2 _ c3 _ c4 s i i rfl segs rows w2 (.inr (.inr rfl)) rfl (FSl.up _ _ hfl (hw.trans hw2)) (EndR.up _ _ hE (hw.trans hw2)) hn2 hr hrows (by omega) (by omega)
/-- the parts of a kind 4 *)-/
theorem pointParts {l r : Int} {s : Nat} {segs : List (List (List Nat))} {v : Value} {w : World} (hgv : GV (.mk 4 l r (fwd segs) ((cum s 0 segs).map Int.ofNat) [] []) v w) (hr : ∀ rows ∈ segs, ∀ r ∈ rows, r.length = s) (hf : (fwd segs).length ≤ 2147483647) (hsl : segs.length ≤ 1000000000) :
    ∃ A1 n1 c1 A2 n2 c2 A3 n3 c3 A4 n4 c4, v = Geo7 4 l r A1 n1 c1 A2 n2 c2 A3 n3 c3 A4 n4 c4 ∧ ∀ w', Grow w w' → Calls Try.prog 57 #[v] w' (MQB (PartsV (segs.map fun rows => GT.mk 1 l 0 rows.flatten [] [] [])) w') := by
  unfold GV at hgv
  obtain ⟨u, e1, e2, A4, c4, rfl, -, hfl, he1, he2, -⟩ := hgv
  have hen := he1
  obtain ⟨A2, c2, rfl, -, -⟩ := SlE.form he1
  obtain ⟨A3, c3, rfl, -, -⟩ := SlE.form he2
  obtain ⟨hn2, hE⟩ := EndR.of hen
  have hfl2 := hfl
  obtain ⟨A1, c1, rfl, -, -⟩ := hfl2
  rw [cum_len] at hn2
  refine ⟨_, _, _, _, _, _, _, _, _, _, _, _, rfl, fun w' hw => ?_⟩
  refine parts_calls 4 l r A1 A2 A3 A4 _ c1 _ c2 _ c3 _ c4 _ w' (by rw [List.length_map]; exact hsl) (fun w2 hw2 => ?_) (fun i g w2 hi hw2 => ?_)
  · refine (numParts4 l r A1 A2 A3 A4 _ c1 _ c2 _ c3 _ c4 w2).mono ?_
    rintro e w3 ⟨rfl, h⟩
    exact ⟨by rw [hn2, List.length_map], h⟩
  · rw [List.getElem?_map] at hi
    obtain ⟨rows, hrows, rfl⟩ := Option.map_eq_some_iff.1 hi
    exact part2_calls 4 l r 1 A1 A2 A3 A4 _ c1 _ c2 _ c3 _ c4 s i i rfl segs rows w2 (.inr (.inl rfl)) rfl (FSl.up _ _ hfl (hw.trans hw2)) (EndR.up _ _ hE (hw.trans hw2)) hn2 hr hrows (by omega) (by omega)
/-- the parts of a multi polygon *)-/
theorem areaParts {l r : Int} {s : Nat} {segss : List (List (List (List Nat)))} {v : Value} {w : World} (hgv : GV (.mk 6 l r (fwd segss.flatten) [] ((cums s 0 segss).map (·.map Int.ofNat)) []) v w) (hr : ∀ segs ∈ segss, ∀ rows ∈ segs, ∀ r ∈ rows, r.length = s) (hf : (fwd segss.flatten).length ≤ 2147483647) (hsl : segss.length ≤ 1000000000) (hsl2 : ∀ segs ∈ segss, segs.length ≤ 1000000000) :
    ∃ A1 n1 c1 A2 n2 c2 A3 n3 c3 A4 n4 c4, v = Geo7 6 l r A1 n1 c1 A2 n2 c2 A3 n3 c3 A4 n4 c4 ∧ ∀ w', Grow w w' → Calls Try.prog 57 #[v] w' (MQB (PartsV (segss.map fun segs => GT.mk 3 l 0 (fwd segs) ((cum s 0 segs).map Int.ofNat) [] [])) w') := by
  unfold GV at hgv
  obtain ⟨u, e1, e2, A4, c4, rfl, -, hfl, he1, he2, -⟩ := hgv
  have hens := he2
  obtain ⟨A2, c2, rfl, -, -⟩ := SlE.form he1
  obtain ⟨A3, c3, rfl, hc3, -⟩ := SlE.form he2
  obtain ⟨hn3, hE⟩ := EndRR.of hens
  have hfl2 := hfl
  obtain ⟨A1, c1, rfl, -, -⟩ := hfl2
  rw [cums_len] at hn3
  refine ⟨_, _, _, _, _, _, _, _, _, _, _, _, rfl, fun w' hw => ?_⟩
  refine parts_calls 6 l r A1 A2 A3 A4 _ c1 _ c2 _ c3 _ c4 _ w' (by rw [List.length_map]; exact hsl) (fun w2 hw2 => ?_) (fun i g w2 hi hw2 => ?_)
  · refine (numParts6 l r A1 A2 A3 A4 _ c1 _ c2 _ c3 _ c4 w2).mono ?_
    rintro e w3 ⟨rfl, h⟩
    exact ⟨by rw [hn3, List.length_map], h⟩
  · rw [List.getElem?_map] at hi
    obtain ⟨segs, hsegs, rfl⟩ := Option.map_eq_some_iff.1 hi
    exact part3_calls l r A1 A2 A3 A4 _ c1 _ c2 _ c3 _ c4 s i i rfl segss segs w2 (FSl.up _ _ hfl (hw.trans hw2)) (EndRR.up _ _ hE (hw.trans hw2)) hn3 hc3 hr hsegs (by omega) (by omega) (fun q hq => by have := hsl2 q hq; omega)
end Go.Proofs.Ytemobphkgbhhhaa
