import Derived.Test.YtkcpjndelcfmhaaDoorHbA
namespace Go.Proofs.YtkcpjndelcfmhaaDoor
open Go.ChangeShapes Go.WideShapes Go.ChangeAt Go.RowKit Go.GrowR
set_option linter.unusedVariables false
set_option linter.unusedSimpArgs false
set_option maxRecDepth 100000 in
set_option maxHeartbeats 4000000 in
theorem flip_any (i j : Int) (g m c : Nat) (xs : List Int) (w : World) (hx : IB g xs w) (hl : xs.length = m) (h0 : 0 ≤ i) (him : i < m) (j0 : 0 ≤ j) (hjm : j < m) (hij : i ≠ j)  :
    Calls Tryd.prog 24 #[.agg #[.int .i64 i, .int .i64 j], .int .i64 1, .slice (some ⟨g, 0, none⟩) m c] w (TuQ g m false w) := by
  obtain ⟨x, hxi⟩ : ∃ x, xs[i.toNat]? = some x := ⟨xs[i.toNat]'(by omega), by simp⟩
  obtain ⟨y, hyj⟩ : ∃ y, xs[j.toNat]? = some y := ⟨xs[j.toNat]'(by omega), by simp⟩
  have ne : i.toNat ≠ j.toNat := by omega
  obtain ⟨c0, f0⟩ := hx.2 _ _ hxi
  obtain ⟨c1, f1⟩ := hx.2 _ _ hyj
  have hg := hx.1
  have HX := Lib.hid hx; have HL := Lib.hid hl
  clear hxi hyj hx hl 
  have hw2 : IntKind.i64.wrap 2 = 2 := by kernel_rfl
  have hw1 : IntKind.i64.wrap 1 = 1 := by kernel_rfl
  have hw0 : IntKind.i64.wrap 0 = 0 := by kernel_rfl
  obtain ⟨zx, hzx⟩ : ∃ z, bits BinOp.xor IntKind.i64 x 1 = z := ⟨_, rfl⟩
  obtain ⟨zy, hzy⟩ : ∃ z, bits BinOp.xor IntKind.i64 y 1 = z := ⟨_, rfl⟩
  go_enter Tryd.func24, Tryd.ntmps24
  go_wp2
  have hgr := (Grow.refl w).alloc (.cells #[.int .i64 i, .int .i64 j] 51)
  have k0 : (w.alloc (.cells #[.int .i64 i, .int .i64 j] 51)).cell? ⟨w.heap.size, 0, none⟩ = some (.int .i64 i) := by go_simp
  have k1 : (w.alloc (.cells #[.int .i64 i, .int .i64 j] 51)).cell? ⟨w.heap.size, 1, none⟩ = some (.int .i64 j) := by go_simp
  replace c0 := up_cell c0 hgr; replace c1 := up_cell c1 hgr
  have f0' := (frozUp (o := i.toNat) hg hgr).trans f0; have f1' := (frozUp (o := j.toNat) hg hgr).trans f1
  have HX1 := Lib.hid (IB.up _ _ HX.out hgr)
  have HG1 := Lib.hid hgr
  have hq : g ≠ w.heap.size := by omega
  have hq' : w.heap.size ≠ g := by omega
  clear hgr f0 f1 hg
  generalize w.alloc (.cells #[.int .i64 i, .int .i64 j] 51) = W at *
  generalize w.heap.size = q at *
  refine wp_region_G (fun w' => w'.cell? ⟨q, 0, none⟩ = some (.int .i64 i) ∧ w'.cell? ⟨q, 1, none⟩ = some (.int .i64 j)) 26 (by kernel_rfl) ?_
  refine wpAnyG_take (i := 0) (v := ?_) rfl (by kernel_rfl) (fun _ _ _ h => h) (by rfl) (fun ws hS => ?_) (⟨k0, k1⟩) ?_
  rotate_left
  · (obtain ⟨s0, s1⟩ := hS; (go_simp <;> rfl))
  simp only [Act.put, List.setIfInBounds_toArray, List.set_cons_zero, List.set_cons_succ, Nat.reduceAdd]
  refine wpAnyG_take (i := 1) (v := ?_) rfl (by kernel_rfl) (fun _ _ _ h => h) (by rfl) (fun ws hS => ?_) (⟨k0, k1⟩) ?_
  rotate_left
  · (obtain ⟨s0, s1⟩ := hS; (go_simp <;> rfl))
  simp only [Act.put, List.setIfInBounds_toArray, List.set_cons_zero, List.set_cons_succ, Nat.reduceAdd]
  refine wpAnyG_take (i := 2) (v := ?_) rfl (by kernel_rfl) (fun _ _ _ h => h) (by rfl) (fun ws hS => ?_) (⟨k0, k1⟩) ?_
  rotate_left
  · (obtain ⟨s0, s1⟩ := hS; (go_simp <;> rfl))
  simp only [Act.put, List.setIfInBounds_toArray, List.set_cons_zero, List.set_cons_succ, Nat.reduceAdd]
  refine wpAnyG_take (i := 3) (v := ?_) rfl (by kernel_rfl) (fun _ _ _ h => h) (by rfl) (fun ws hS => ?_) (⟨k0, k1⟩) ?_
  rotate_left
  · (obtain ⟨s0, s1⟩ := hS; (go_simp <;> rfl))
  simp only [Act.put, List.setIfInBounds_toArray, List.set_cons_zero, List.set_cons_succ, Nat.reduceAdd]
  refine wpAnyG_take (i := 4) (v := ?_) rfl (by kernel_rfl) (fun _ _ _ h => h) (by rfl) (fun ws hS => ?_) (⟨k0, k1⟩) ?_
  rotate_left
  · (obtain ⟨s0, s1⟩ := hS; (go_simp <;> rfl))
  simp only [Act.put, List.setIfInBounds_toArray, List.set_cons_zero, List.set_cons_succ, Nat.reduceAdd]
  refine wpAnyG_take (i := 5) (v := ?_) rfl (by kernel_rfl) (fun _ _ _ h => h) (by rfl) (fun ws hS => ?_) (⟨k0, k1⟩) ?_
  rotate_left
  · (obtain ⟨s0, s1⟩ := hS; (go_simp <;> rfl))
  simp only [Act.put, List.setIfInBounds_toArray, List.set_cons_zero, List.set_cons_succ, Nat.reduceAdd]
  refine wpAnyG_take (i := 6) (v := ?_) rfl (by kernel_rfl) (fun _ _ _ h => h) (by rfl) (fun ws hS => ?_) (⟨k0, k1⟩) ?_
  rotate_left
  · (obtain ⟨s0, s1⟩ := hS; (go_simp <;> rfl))
  simp only [Act.put, List.setIfInBounds_toArray, List.set_cons_zero, List.set_cons_succ, Nat.reduceAdd]
  refine wpAnyG_take (i := 7) (v := ?_) rfl (by kernel_rfl) (fun _ _ _ h => h) (by rfl) (fun ws hS => ?_) (⟨k0, k1⟩) ?_
  rotate_left
  · (obtain ⟨s0, s1⟩ := hS; (go_simp <;> rfl))
  simp only [Act.put, List.setIfInBounds_toArray, List.set_cons_zero, List.set_cons_succ, Nat.reduceAdd]
  refine wpAnyG_take (i := 8) (v := ?_) rfl (by kernel_rfl) (fun _ _ _ h => h) (by rfl) (fun ws hS => ?_) (⟨k0, k1⟩) ?_
  rotate_left
  · (obtain ⟨s0, s1⟩ := hS; (go_simp <;> rfl))
  simp only [Act.put, List.setIfInBounds_toArray, List.set_cons_zero, List.set_cons_succ, Nat.reduceAdd]
  refine wpAnyG_take (i := 9) (v := ?_) rfl (by kernel_rfl) (fun _ _ _ h => h) (by rfl) (fun ws hS => ?_) (⟨k0, k1⟩) ?_
  rotate_left
  · (obtain ⟨s0, s1⟩ := hS; (go_simp <;> rfl))
  simp only [Act.put, List.setIfInBounds_toArray, List.set_cons_zero, List.set_cons_succ, Nat.reduceAdd]
  refine wpAnyG_take (i := 11) (v := ?_) rfl (by kernel_rfl) (fun _ _ _ h => h) (by rfl) (fun ws hS => ?_) (⟨k0, k1⟩) ?_
  rotate_left
  · (obtain ⟨s0, s1⟩ := hS; (go_simp <;> rfl))
  simp only [Act.put, List.setIfInBounds_toArray, List.set_cons_zero, List.set_cons_succ, Nat.reduceAdd]
  refine wpAnyG_take (i := 12) (v := ?_) rfl (by kernel_rfl) (fun _ _ _ h => h) (by rfl) (fun ws hS => ?_) (⟨k0, k1⟩) ?_
  rotate_left
  · (obtain ⟨s0, s1⟩ := hS; (go_simp <;> rfl))
  simp only [Act.put, List.setIfInBounds_toArray, List.set_cons_zero, List.set_cons_succ, Nat.reduceAdd]
  refine wpAnyG_take (i := 13) (v := ?_) rfl (by kernel_rfl) (fun _ _ _ h => h) (by rfl) (fun ws hS => ?_) (⟨k0, k1⟩) ?_
  rotate_left
  · (obtain ⟨s0, s1⟩ := hS; (go_simp <;> rfl))
  simp only [Act.put, List.setIfInBounds_toArray, List.set_cons_zero, List.set_cons_succ, Nat.reduceAdd]
  refine wpAnyG_take (i := 15) (v := ?_) rfl (by kernel_rfl) (fun _ _ _ h => h) (by rfl) (fun ws hS => ?_) (⟨k0, k1⟩) ?_
  rotate_left
  · (obtain ⟨s0, s1⟩ := hS; (go_simp <;> rfl))
  simp only [Act.put, List.setIfInBounds_toArray, List.set_cons_zero, List.set_cons_succ, Nat.reduceAdd]
  refine wpAnyG_take (i := 16) (v := ?_) rfl (by kernel_rfl) (fun _ _ _ h => h) (by rfl) (fun ws hS => ?_) (⟨k0, k1⟩) ?_
  rotate_left
  · (obtain ⟨s0, s1⟩ := hS; (go_simp <;> rfl))
  simp only [Act.put, List.setIfInBounds_toArray, List.set_cons_zero, List.set_cons_succ, Nat.reduceAdd]
  refine wpAnyG_take (i := 17) (v := ?_) rfl (by kernel_rfl) (fun _ _ _ h => h) (by rfl) (fun ws hS => ?_) (⟨k0, k1⟩) ?_
  rotate_left
  · (obtain ⟨s0, s1⟩ := hS; (go_simp <;> rfl))
  simp only [Act.put, List.setIfInBounds_toArray, List.set_cons_zero, List.set_cons_succ, Nat.reduceAdd]
  refine wpAnyG_take (i := 18) (v := ?_) rfl (by kernel_rfl) (fun _ _ _ h => h) (by rfl) (fun ws hS => ?_) (⟨k0, k1⟩) ?_
  rotate_left
  · (obtain ⟨s0, s1⟩ := hS; (go_simp <;> rfl))
  simp only [Act.put, List.setIfInBounds_toArray, List.set_cons_zero, List.set_cons_succ, Nat.reduceAdd]
  refine wpAnyG_take (i := 20) (v := ?_) rfl (by kernel_rfl) (fun _ _ _ h => h) (by rfl) (fun ws hS => ?_) (⟨k0, k1⟩) ?_
  rotate_left
  · (obtain ⟨s0, s1⟩ := hS; (go_simp <;> rfl))
  simp only [Act.put, List.setIfInBounds_toArray, List.set_cons_zero, List.set_cons_succ, Nat.reduceAdd]
  refine wpAnyG_take (i := 21) (v := ?_) rfl (by kernel_rfl) (fun _ _ _ h => h) (by rfl) (fun ws hS => ?_) (⟨k0, k1⟩) ?_
  rotate_left
  · (obtain ⟨s0, s1⟩ := hS; (go_simp <;> rfl))
  simp only [Act.put, List.setIfInBounds_toArray, List.set_cons_zero, List.set_cons_succ, Nat.reduceAdd]
  refine wpAnyG_take (i := 22) (v := ?_) rfl (by kernel_rfl) (fun _ _ _ h => h) (by rfl) (fun ws hS => ?_) (⟨k0, k1⟩) ?_
  rotate_left
  · (obtain ⟨s0, s1⟩ := hS; (go_simp <;> rfl))
  simp only [Act.put, List.setIfInBounds_toArray, List.set_cons_zero, List.set_cons_succ, Nat.reduceAdd]
  refine wpAnyG_ready (rs := [10, 19]) (by kernel_rfl) (by rfl) ?_
  refine AllReadyG.cons rfl (fun K hK => ?_) ?_
  · go_simp
    refine hK.out _ _ (fun _ => ⟨k0, k1⟩) ?_
    clear hK K
    try simp only [Act.put, List.setIfInBounds_toArray, List.set_cons_zero, List.set_cons_succ, Nat.reduceAdd]
    refine wpAnyG_take (i := 14) (v := ?_) rfl (by kernel_rfl) (fun _ _ _ h => h) (by rfl) (fun ws hS => ?_) (⟨k0, k1⟩) ?_
    rotate_left
    · (obtain ⟨s0, s1⟩ := hS; (go_simp <;> rfl))
    simp only [Act.put, List.setIfInBounds_toArray, List.set_cons_zero, List.set_cons_succ, Nat.reduceAdd]
    refine wpAnyG_ready (rs := [19]) (by kernel_rfl) (by rfl) ?_
    refine AllReadyG.cons rfl (fun K hK => ?_) ?_
    · go_simp
      refine hK.out _ _ (fun _ => ⟨k0, k1⟩) ?_
      clear hK K
      try simp only [Act.put, List.setIfInBounds_toArray, List.set_cons_zero, List.set_cons_succ, Nat.reduceAdd]
      refine wpAnyG_take (i := 23) (v := ?_) rfl (by kernel_rfl) (fun _ _ _ h => h) (by rfl) (fun ws hS => ?_) (⟨k0, k1⟩) ?_
      rotate_left
      · (obtain ⟨s0, s1⟩ := hS; (go_simp <;> rfl))
      simp only [Act.put, List.setIfInBounds_toArray, List.set_cons_zero, List.set_cons_succ, Nat.reduceAdd]
      refine wpAnyG_take (i := 24) (v := ?_) rfl (by kernel_rfl) (fun _ _ _ h => h) (by rfl) (fun ws hS => ?_) (⟨k0, k1⟩) ?_
      rotate_left
      · (obtain ⟨s0, s1⟩ := hS; (go_simp <;> rfl))
      simp only [Act.put, List.setIfInBounds_toArray, List.set_cons_zero, List.set_cons_succ, Nat.reduceAdd]
      refine wpAnyG_ready (rs := [25]) (by kernel_rfl) (by rfl) ?_
      refine AllReadyG.cons rfl (fun K hK => ?_) ?_
      · go_simp
        refine hK.out _ _ (fun _ => ⟨by go_simp, by go_simp⟩) ?_
        clear hK K
        try simp only [Act.put, List.setIfInBounds_toArray, List.set_cons_zero, List.set_cons_succ, Nat.reduceAdd]
        refine wpAnyG_ready (rs := [26]) (by kernel_rfl) (by rfl) ?_
        refine AllReadyG.cons rfl (fun K hK => ?_) ?_
        · go_simp
          refine hK.out _ _ (fun h => absurd h (by decide)) ?_
          clear hK K
          try simp only [Act.put, List.setIfInBounds_toArray, List.set_cons_zero, List.set_cons_succ, Nat.reduceAdd]
          refine wpAnyG_ready (rs := [27]) (by kernel_rfl) (by rfl) ?_
          refine AllReadyG.cons rfl (fun K hK => ?_) ?_
          · go_simp
            refine hK.out _ _ (fun h => absurd h (by decide)) ?_
            clear hK K
            try simp only [Act.put, List.setIfInBounds_toArray, List.set_cons_zero, List.set_cons_succ, Nat.reduceAdd]
            refine wpAnyG_done (by kernel_rfl) ?_ _
            go_wp2
            refine bodyPost_end (results_none rfl _ _ _) rfl ⟨rfl, G1.set (p := ⟨g, j.toNat, none⟩) (G1.set (p := ⟨g, i.toNat, none⟩) ((G1.of HG1.out).trans (G1.of (Grow.refl _).drew)) rfl _) rfl _, _, ?_, ((IB.up _ _ HX1.out (Grow.refl _).drew).set (j := i.toNat) _).set (j := j.toNat) _, ?_⟩
            · simp [HL.out]
            · intro h; cases h
          exact AllReadyG.nil
        exact AllReadyG.nil
      exact AllReadyG.nil
    exact AllReadyG.nil
  refine AllReadyG.cons rfl (fun K hK => ?_) ?_
  · go_simp
    refine hK.out _ _ (fun _ => ⟨k0, k1⟩) ?_
    clear hK K
    try simp only [Act.put, List.setIfInBounds_toArray, List.set_cons_zero, List.set_cons_succ, Nat.reduceAdd]
    refine wpAnyG_take (i := 23) (v := ?_) rfl (by kernel_rfl) (fun _ _ _ h => h) (by rfl) (fun ws hS => ?_) (⟨k0, k1⟩) ?_
    rotate_left
    · (obtain ⟨s0, s1⟩ := hS; (go_simp <;> rfl))
    simp only [Act.put, List.setIfInBounds_toArray, List.set_cons_zero, List.set_cons_succ, Nat.reduceAdd]
    refine wpAnyG_ready (rs := [10]) (by kernel_rfl) (by rfl) ?_
    refine AllReadyG.cons rfl (fun K hK => ?_) ?_
    · go_simp
      refine hK.out _ _ (fun _ => ⟨k0, k1⟩) ?_
      clear hK K
      try simp only [Act.put, List.setIfInBounds_toArray, List.set_cons_zero, List.set_cons_succ, Nat.reduceAdd]
      refine wpAnyG_take (i := 14) (v := ?_) rfl (by kernel_rfl) (fun _ _ _ h => h) (by rfl) (fun ws hS => ?_) (⟨k0, k1⟩) ?_
      rotate_left
      · (obtain ⟨s0, s1⟩ := hS; (go_simp <;> rfl))
      simp only [Act.put, List.setIfInBounds_toArray, List.set_cons_zero, List.set_cons_succ, Nat.reduceAdd]
      refine wpAnyG_take (i := 24) (v := ?_) rfl (by kernel_rfl) (fun _ _ _ h => h) (by rfl) (fun ws hS => ?_) (⟨k0, k1⟩) ?_
      rotate_left
      · (obtain ⟨s0, s1⟩ := hS; (go_simp <;> rfl))
      simp only [Act.put, List.setIfInBounds_toArray, List.set_cons_zero, List.set_cons_succ, Nat.reduceAdd]
      refine wpAnyG_ready (rs := [25]) (by kernel_rfl) (by rfl) ?_
      refine AllReadyG.cons rfl (fun K hK => ?_) ?_
      · go_simp
        refine hK.out _ _ (fun _ => ⟨by go_simp, by go_simp⟩) ?_
        clear hK K
        try simp only [Act.put, List.setIfInBounds_toArray, List.set_cons_zero, List.set_cons_succ, Nat.reduceAdd]
        refine wpAnyG_ready (rs := [26]) (by kernel_rfl) (by rfl) ?_
        refine AllReadyG.cons rfl (fun K hK => ?_) ?_
        · go_simp
          refine hK.out _ _ (fun h => absurd h (by decide)) ?_
          clear hK K
          try simp only [Act.put, List.setIfInBounds_toArray, List.set_cons_zero, List.set_cons_succ, Nat.reduceAdd]
          refine wpAnyG_ready (rs := [27]) (by kernel_rfl) (by rfl) ?_
          refine AllReadyG.cons rfl (fun K hK => ?_) ?_
          · go_simp
            refine hK.out _ _ (fun h => absurd h (by decide)) ?_
            clear hK K
            try simp only [Act.put, List.setIfInBounds_toArray, List.set_cons_zero, List.set_cons_succ, Nat.reduceAdd]
            refine wpAnyG_done (by kernel_rfl) ?_ _
            go_wp2
            refine bodyPost_end (results_none rfl _ _ _) rfl ⟨rfl, G1.set (p := ⟨g, j.toNat, none⟩) (G1.set (p := ⟨g, i.toNat, none⟩) ((G1.of HG1.out).trans (G1.of (Grow.refl _).drew)) rfl _) rfl _, _, ?_, ((IB.up _ _ HX1.out (Grow.refl _).drew).set (j := i.toNat) _).set (j := j.toNat) _, ?_⟩
            · simp [HL.out]
            · intro h; cases h
          exact AllReadyG.nil
        exact AllReadyG.nil
      exact AllReadyG.nil
    exact AllReadyG.nil
  exact AllReadyG.nil
set_option maxRecDepth 100000 in
set_option maxHeartbeats 4000000 in
theorem flip_zero (i j : Int) (g m c : Nat) (xs : List Int) (w : World) (hx : IB g xs w) (hl : xs.length = m) (h0 : 0 ≤ i) (him : i < m) (j0 : 0 ≤ j) (hjm : j < m) (hij : i ≠ j) (hz : ∀ x ∈ xs, x = 0) :
    Calls Tryd.prog 24 #[.agg #[.int .i64 i, .int .i64 j], .int .i64 0, .slice (some ⟨g, 0, none⟩) m c] w (TuQ g m true w) := by
  obtain ⟨x, hxi⟩ : ∃ x, xs[i.toNat]? = some x := ⟨xs[i.toNat]'(by omega), by simp⟩
  obtain ⟨y, hyj⟩ : ∃ y, xs[j.toNat]? = some y := ⟨xs[j.toNat]'(by omega), by simp⟩
  have ex := hz x (List.mem_of_getElem? hxi); have ey := hz y (List.mem_of_getElem? hyj)
  subst ex; subst ey
  have HZZ := Lib.hid hz
  have ne : i.toNat ≠ j.toNat := by omega
  obtain ⟨c0, f0⟩ := hx.2 _ _ hxi
  obtain ⟨c1, f1⟩ := hx.2 _ _ hyj
  have hg := hx.1
  have HX := Lib.hid hx; have HL := Lib.hid hl
  clear hxi hyj hx hl hz
  have hw2 : IntKind.i64.wrap 2 = 2 := by kernel_rfl
  have hw1 : IntKind.i64.wrap 1 = 1 := by kernel_rfl
  have hw0 : IntKind.i64.wrap 0 = 0 := by kernel_rfl
  have hzx : ∀ (t : TypeId) (w : World), (binOp .xor t (.int .i64 0) (.int .i64 0)).run Tryd.prog w = .ok (.int .i64 0) w := fun t w => by kernel_rfl
  go_enter Tryd.func24, Tryd.ntmps24
  go_wp2
  have hgr := (Grow.refl w).alloc (.cells #[.int .i64 i, .int .i64 j] 51)
  have k0 : (w.alloc (.cells #[.int .i64 i, .int .i64 j] 51)).cell? ⟨w.heap.size, 0, none⟩ = some (.int .i64 i) := by go_simp
  have k1 : (w.alloc (.cells #[.int .i64 i, .int .i64 j] 51)).cell? ⟨w.heap.size, 1, none⟩ = some (.int .i64 j) := by go_simp
  replace c0 := up_cell c0 hgr; replace c1 := up_cell c1 hgr
  have f0' := (frozUp (o := i.toNat) hg hgr).trans f0; have f1' := (frozUp (o := j.toNat) hg hgr).trans f1
  have HX1 := Lib.hid (IB.up _ _ HX.out hgr)
  have HG1 := Lib.hid hgr
  have hq : g ≠ w.heap.size := by omega
  have hq' : w.heap.size ≠ g := by omega
  clear hgr f0 f1 hg
  generalize w.alloc (.cells #[.int .i64 i, .int .i64 j] 51) = W at *
  generalize w.heap.size = q at *
  refine wp_region_G (fun w' => w'.cell? ⟨q, 0, none⟩ = some (.int .i64 i) ∧ w'.cell? ⟨q, 1, none⟩ = some (.int .i64 j)) 26 (by kernel_rfl) ?_
  refine wpAnyG_take (i := 0) (v := ?_) rfl (by kernel_rfl) (fun _ _ _ h => h) (by rfl) (fun ws hS => ?_) (⟨k0, k1⟩) ?_
  rotate_left
  · (obtain ⟨s0, s1⟩ := hS; (go_simp <;> rfl))
  simp only [Act.put, List.setIfInBounds_toArray, List.set_cons_zero, List.set_cons_succ, Nat.reduceAdd]
  refine wpAnyG_take (i := 1) (v := ?_) rfl (by kernel_rfl) (fun _ _ _ h => h) (by rfl) (fun ws hS => ?_) (⟨k0, k1⟩) ?_
  rotate_left
  · (obtain ⟨s0, s1⟩ := hS; (go_simp <;> rfl))
  simp only [Act.put, List.setIfInBounds_toArray, List.set_cons_zero, List.set_cons_succ, Nat.reduceAdd]
  refine wpAnyG_take (i := 2) (v := ?_) rfl (by kernel_rfl) (fun _ _ _ h => h) (by rfl) (fun ws hS => ?_) (⟨k0, k1⟩) ?_
  rotate_left
  · (obtain ⟨s0, s1⟩ := hS; (go_simp <;> rfl))
  simp only [Act.put, List.setIfInBounds_toArray, List.set_cons_zero, List.set_cons_succ, Nat.reduceAdd]
  refine wpAnyG_take (i := 3) (v := ?_) rfl (by kernel_rfl) (fun _ _ _ h => h) (by rfl) (fun ws hS => ?_) (⟨k0, k1⟩) ?_
  rotate_left
  · (obtain ⟨s0, s1⟩ := hS; (go_simp <;> rfl))
  simp only [Act.put, List.setIfInBounds_toArray, List.set_cons_zero, List.set_cons_succ, Nat.reduceAdd]
  refine wpAnyG_take (i := 4) (v := ?_) rfl (by kernel_rfl) (fun _ _ _ h => h) (by rfl) (fun ws hS => ?_) (⟨k0, k1⟩) ?_
  rotate_left
  · (obtain ⟨s0, s1⟩ := hS; (go_simp <;> rfl))
  simp only [Act.put, List.setIfInBounds_toArray, List.set_cons_zero, List.set_cons_succ, Nat.reduceAdd]
  refine wpAnyG_take (i := 5) (v := ?_) rfl (by kernel_rfl) (fun _ _ _ h => h) (by rfl) (fun ws hS => ?_) (⟨k0, k1⟩) ?_
  rotate_left
  · (obtain ⟨s0, s1⟩ := hS; (go_simp <;> rfl))
  simp only [Act.put, List.setIfInBounds_toArray, List.set_cons_zero, List.set_cons_succ, Nat.reduceAdd]
  refine wpAnyG_take (i := 6) (v := ?_) rfl (by kernel_rfl) (fun _ _ _ h => h) (by rfl) (fun ws hS => ?_) (⟨k0, k1⟩) ?_
  rotate_left
  · (obtain ⟨s0, s1⟩ := hS; (go_simp <;> rfl))
  simp only [Act.put, List.setIfInBounds_toArray, List.set_cons_zero, List.set_cons_succ, Nat.reduceAdd]
  refine wpAnyG_take (i := 7) (v := ?_) rfl (by kernel_rfl) (fun _ _ _ h => h) (by rfl) (fun ws hS => ?_) (⟨k0, k1⟩) ?_
  rotate_left
  · (obtain ⟨s0, s1⟩ := hS; (go_simp <;> rfl))
  simp only [Act.put, List.setIfInBounds_toArray, List.set_cons_zero, List.set_cons_succ, Nat.reduceAdd]
  refine wpAnyG_take (i := 8) (v := ?_) rfl (by kernel_rfl) (fun _ _ _ h => h) (by rfl) (fun ws hS => ?_) (⟨k0, k1⟩) ?_
  rotate_left
  · (obtain ⟨s0, s1⟩ := hS; (go_simp <;> rfl))
  simp only [Act.put, List.setIfInBounds_toArray, List.set_cons_zero, List.set_cons_succ, Nat.reduceAdd]
  refine wpAnyG_take (i := 9) (v := ?_) rfl (by kernel_rfl) (fun _ _ _ h => h) (by rfl) (fun ws hS => ?_) (⟨k0, k1⟩) ?_
  rotate_left
  · (obtain ⟨s0, s1⟩ := hS; (go_simp <;> rfl))
  simp only [Act.put, List.setIfInBounds_toArray, List.set_cons_zero, List.set_cons_succ, Nat.reduceAdd]
  refine wpAnyG_take (i := 11) (v := ?_) rfl (by kernel_rfl) (fun _ _ _ h => h) (by rfl) (fun ws hS => ?_) (⟨k0, k1⟩) ?_
  rotate_left
  · (obtain ⟨s0, s1⟩ := hS; (go_simp <;> rfl))
  simp only [Act.put, List.setIfInBounds_toArray, List.set_cons_zero, List.set_cons_succ, Nat.reduceAdd]
  refine wpAnyG_take (i := 12) (v := ?_) rfl (by kernel_rfl) (fun _ _ _ h => h) (by rfl) (fun ws hS => ?_) (⟨k0, k1⟩) ?_
  rotate_left
  · (obtain ⟨s0, s1⟩ := hS; (go_simp <;> rfl))
  simp only [Act.put, List.setIfInBounds_toArray, List.set_cons_zero, List.set_cons_succ, Nat.reduceAdd]
  refine wpAnyG_take (i := 13) (v := ?_) rfl (by kernel_rfl) (fun _ _ _ h => h) (by rfl) (fun ws hS => ?_) (⟨k0, k1⟩) ?_
  rotate_left
  · (obtain ⟨s0, s1⟩ := hS; (go_simp <;> rfl))
  simp only [Act.put, List.setIfInBounds_toArray, List.set_cons_zero, List.set_cons_succ, Nat.reduceAdd]
  refine wpAnyG_take (i := 15) (v := ?_) rfl (by kernel_rfl) (fun _ _ _ h => h) (by rfl) (fun ws hS => ?_) (⟨k0, k1⟩) ?_
  rotate_left
  · (obtain ⟨s0, s1⟩ := hS; (go_simp <;> rfl))
  simp only [Act.put, List.setIfInBounds_toArray, List.set_cons_zero, List.set_cons_succ, Nat.reduceAdd]
  refine wpAnyG_take (i := 16) (v := ?_) rfl (by kernel_rfl) (fun _ _ _ h => h) (by rfl) (fun ws hS => ?_) (⟨k0, k1⟩) ?_
  rotate_left
  · (obtain ⟨s0, s1⟩ := hS; (go_simp <;> rfl))
  simp only [Act.put, List.setIfInBounds_toArray, List.set_cons_zero, List.set_cons_succ, Nat.reduceAdd]
  refine wpAnyG_take (i := 17) (v := ?_) rfl (by kernel_rfl) (fun _ _ _ h => h) (by rfl) (fun ws hS => ?_) (⟨k0, k1⟩) ?_
  rotate_left
  · (obtain ⟨s0, s1⟩ := hS; (go_simp <;> rfl))
  simp only [Act.put, List.setIfInBounds_toArray, List.set_cons_zero, List.set_cons_succ, Nat.reduceAdd]
  refine wpAnyG_take (i := 18) (v := ?_) rfl (by kernel_rfl) (fun _ _ _ h => h) (by rfl) (fun ws hS => ?_) (⟨k0, k1⟩) ?_
  rotate_left
  · (obtain ⟨s0, s1⟩ := hS; (go_simp <;> rfl))
  simp only [Act.put, List.setIfInBounds_toArray, List.set_cons_zero, List.set_cons_succ, Nat.reduceAdd]
  refine wpAnyG_take (i := 20) (v := ?_) rfl (by kernel_rfl) (fun _ _ _ h => h) (by rfl) (fun ws hS => ?_) (⟨k0, k1⟩) ?_
  rotate_left
  · (obtain ⟨s0, s1⟩ := hS; (go_simp <;> rfl))
  simp only [Act.put, List.setIfInBounds_toArray, List.set_cons_zero, List.set_cons_succ, Nat.reduceAdd]
  refine wpAnyG_take (i := 21) (v := ?_) rfl (by kernel_rfl) (fun _ _ _ h => h) (by rfl) (fun ws hS => ?_) (⟨k0, k1⟩) ?_
  rotate_left
  · (obtain ⟨s0, s1⟩ := hS; (go_simp <;> rfl))
  simp only [Act.put, List.setIfInBounds_toArray, List.set_cons_zero, List.set_cons_succ, Nat.reduceAdd]
  refine wpAnyG_take (i := 22) (v := ?_) rfl (by kernel_rfl) (fun _ _ _ h => h) (by rfl) (fun ws hS => ?_) (⟨k0, k1⟩) ?_
  rotate_left
  · (obtain ⟨s0, s1⟩ := hS; (go_simp <;> rfl))
  simp only [Act.put, List.setIfInBounds_toArray, List.set_cons_zero, List.set_cons_succ, Nat.reduceAdd]
  refine wpAnyG_ready (rs := [10, 19]) (by kernel_rfl) (by rfl) ?_
  refine AllReadyG.cons rfl (fun K hK => ?_) ?_
  · go_simp
    refine hK.out _ _ (fun _ => ⟨k0, k1⟩) ?_
    clear hK K
    try simp only [Act.put, List.setIfInBounds_toArray, List.set_cons_zero, List.set_cons_succ, Nat.reduceAdd]
    refine wpAnyG_take (i := 14) (v := ?_) rfl (by kernel_rfl) (fun _ _ _ h => h) (by rfl) (fun ws hS => ?_) (⟨k0, k1⟩) ?_
    rotate_left
    · (obtain ⟨s0, s1⟩ := hS; (go_simp <;> rfl))
    simp only [Act.put, List.setIfInBounds_toArray, List.set_cons_zero, List.set_cons_succ, Nat.reduceAdd]
    refine wpAnyG_ready (rs := [19]) (by kernel_rfl) (by rfl) ?_
    refine AllReadyG.cons rfl (fun K hK => ?_) ?_
    · go_simp
      refine hK.out _ _ (fun _ => ⟨k0, k1⟩) ?_
      clear hK K
      try simp only [Act.put, List.setIfInBounds_toArray, List.set_cons_zero, List.set_cons_succ, Nat.reduceAdd]
      refine wpAnyG_take (i := 23) (v := ?_) rfl (by kernel_rfl) (fun _ _ _ h => h) (by rfl) (fun ws hS => ?_) (⟨k0, k1⟩) ?_
      rotate_left
      · (obtain ⟨s0, s1⟩ := hS; (go_simp <;> rfl))
      simp only [Act.put, List.setIfInBounds_toArray, List.set_cons_zero, List.set_cons_succ, Nat.reduceAdd]
      refine wpAnyG_take (i := 24) (v := ?_) rfl (by kernel_rfl) (fun _ _ _ h => h) (by rfl) (fun ws hS => ?_) (⟨k0, k1⟩) ?_
      rotate_left
      · (obtain ⟨s0, s1⟩ := hS; (go_simp <;> rfl))
      simp only [Act.put, List.setIfInBounds_toArray, List.set_cons_zero, List.set_cons_succ, Nat.reduceAdd]
      refine wpAnyG_ready (rs := [25]) (by kernel_rfl) (by rfl) ?_
      refine AllReadyG.cons rfl (fun K hK => ?_) ?_
      · go_simp
        refine hK.out _ _ (fun _ => ⟨by go_simp, by go_simp⟩) ?_
        clear hK K
        try simp only [Act.put, List.setIfInBounds_toArray, List.set_cons_zero, List.set_cons_succ, Nat.reduceAdd]
        refine wpAnyG_ready (rs := [26]) (by kernel_rfl) (by rfl) ?_
        refine AllReadyG.cons rfl (fun K hK => ?_) ?_
        · go_simp
          refine hK.out _ _ (fun h => absurd h (by decide)) ?_
          clear hK K
          try simp only [Act.put, List.setIfInBounds_toArray, List.set_cons_zero, List.set_cons_succ, Nat.reduceAdd]
          refine wpAnyG_ready (rs := [27]) (by kernel_rfl) (by rfl) ?_
          refine AllReadyG.cons rfl (fun K hK => ?_) ?_
          · go_simp
            refine hK.out _ _ (fun h => absurd h (by decide)) ?_
            clear hK K
            try simp only [Act.put, List.setIfInBounds_toArray, List.set_cons_zero, List.set_cons_succ, Nat.reduceAdd]
            refine wpAnyG_done (by kernel_rfl) ?_ _
            go_wp2
            refine bodyPost_end (results_none rfl _ _ _) rfl ⟨rfl, G1.set (p := ⟨g, j.toNat, none⟩) (G1.set (p := ⟨g, i.toNat, none⟩) ((G1.of HG1.out).trans (G1.of (Grow.refl _).drew)) rfl _) rfl _, _, ?_, ((IB.up _ _ HX1.out (Grow.refl _).drew).set (j := i.toNat) _).set (j := j.toNat) _, ?_⟩
            · simp [HL.out]
            · intro _; exact zero_set HL.out HZZ.out _ _
          exact AllReadyG.nil
        exact AllReadyG.nil
      exact AllReadyG.nil
    exact AllReadyG.nil
  refine AllReadyG.cons rfl (fun K hK => ?_) ?_
  · go_simp
    refine hK.out _ _ (fun _ => ⟨k0, k1⟩) ?_
    clear hK K
    try simp only [Act.put, List.setIfInBounds_toArray, List.set_cons_zero, List.set_cons_succ, Nat.reduceAdd]
    refine wpAnyG_take (i := 23) (v := ?_) rfl (by kernel_rfl) (fun _ _ _ h => h) (by rfl) (fun ws hS => ?_) (⟨k0, k1⟩) ?_
    rotate_left
    · (obtain ⟨s0, s1⟩ := hS; (go_simp <;> rfl))
    simp only [Act.put, List.setIfInBounds_toArray, List.set_cons_zero, List.set_cons_succ, Nat.reduceAdd]
    refine wpAnyG_ready (rs := [10]) (by kernel_rfl) (by rfl) ?_
    refine AllReadyG.cons rfl (fun K hK => ?_) ?_
    · go_simp
      refine hK.out _ _ (fun _ => ⟨k0, k1⟩) ?_
      clear hK K
      try simp only [Act.put, List.setIfInBounds_toArray, List.set_cons_zero, List.set_cons_succ, Nat.reduceAdd]
      refine wpAnyG_take (i := 14) (v := ?_) rfl (by kernel_rfl) (fun _ _ _ h => h) (by rfl) (fun ws hS => ?_) (⟨k0, k1⟩) ?_
      rotate_left
      · (obtain ⟨s0, s1⟩ := hS; (go_simp <;> rfl))
      simp only [Act.put, List.setIfInBounds_toArray, List.set_cons_zero, List.set_cons_succ, Nat.reduceAdd]
      refine wpAnyG_take (i := 24) (v := ?_) rfl (by kernel_rfl) (fun _ _ _ h => h) (by rfl) (fun ws hS => ?_) (⟨k0, k1⟩) ?_
      rotate_left
      · (obtain ⟨s0, s1⟩ := hS; (go_simp <;> rfl))
      simp only [Act.put, List.setIfInBounds_toArray, List.set_cons_zero, List.set_cons_succ, Nat.reduceAdd]
      refine wpAnyG_ready (rs := [25]) (by kernel_rfl) (by rfl) ?_
      refine AllReadyG.cons rfl (fun K hK => ?_) ?_
      · go_simp
        refine hK.out _ _ (fun _ => ⟨by go_simp, by go_simp⟩) ?_
        clear hK K
        try simp only [Act.put, List.setIfInBounds_toArray, List.set_cons_zero, List.set_cons_succ, Nat.reduceAdd]
        refine wpAnyG_ready (rs := [26]) (by kernel_rfl) (by rfl) ?_
        refine AllReadyG.cons rfl (fun K hK => ?_) ?_
        · go_simp
          refine hK.out _ _ (fun h => absurd h (by decide)) ?_
          clear hK K
          try simp only [Act.put, List.setIfInBounds_toArray, List.set_cons_zero, List.set_cons_succ, Nat.reduceAdd]
          refine wpAnyG_ready (rs := [27]) (by kernel_rfl) (by rfl) ?_
          refine AllReadyG.cons rfl (fun K hK => ?_) ?_
          · go_simp
            refine hK.out _ _ (fun h => absurd h (by decide)) ?_
            clear hK K
            try simp only [Act.put, List.setIfInBounds_toArray, List.set_cons_zero, List.set_cons_succ, Nat.reduceAdd]
            refine wpAnyG_done (by kernel_rfl) ?_ _
            go_wp2
            refine bodyPost_end (results_none rfl _ _ _) rfl ⟨rfl, G1.set (p := ⟨g, j.toNat, none⟩) (G1.set (p := ⟨g, i.toNat, none⟩) ((G1.of HG1.out).trans (G1.of (Grow.refl _).drew)) rfl _) rfl _, _, ?_, ((IB.up _ _ HX1.out (Grow.refl _).drew).set (j := i.toNat) _).set (j := j.toNat) _, ?_⟩
            · simp [HL.out]
            · intro _; exact zero_set HL.out HZZ.out _ _
          exact AllReadyG.nil
        exact AllReadyG.nil
      exact AllReadyG.nil
    exact AllReadyG.nil
  exact AllReadyG.nil
end Go.Proofs.YtkcpjndelcfmhaaDoor
