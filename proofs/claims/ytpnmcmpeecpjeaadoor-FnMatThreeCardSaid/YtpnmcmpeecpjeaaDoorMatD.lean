import Derived.Test.YtpnmcmpeecpjeaaDoorMatC
import Derived.Laws.CopyOwn
import Derived.OwnWalk
import Derived.ArgAppend
namespace Go.Proofs.YtpnmcmpeecpjeaaDoor
open Go.ChangeShapes Go.WideShapes Go.ChangeAt Go.RowKit Go.GrowR
set_option linter.unusedVariables false
set_option linter.unusedSimpArgs false

theorem info_parts {t : TypeId} {z : Value} {n m : Nat} (h : (Tryd.prog.info? t).map (fun i => (i.zero, i.size, i.bytes)) = some (some z, n, m)) : ∃ i, Tryd.prog.info? t = some i ∧ i.zero = some z ∧ i.size = n ∧ i.bytes = m := by
  cases hq : Tryd.prog.info? t with
  | none => rw [hq] at h; cases h
  | some i => rw [hq] at h; simp only [Option.map_some, Option.some.injEq, Prod.mk.injEq] at h; exact ⟨i, rfl, h.1, h.2.1, h.2.2⟩
theorem infoF_ : (Tryd.prog.info? 22).map (fun i => (i.zero, i.size, i.bytes)) = some (some (.float .f64 0), 1, 8) := by kernel_rfl
theorem undF_ : Tryd.prog.underlying 29 = some (.slice 22) := by kernel_rfl
set_option maxHeartbeats 1000000 in
/-- a copy of a slice of floats -/
theorem floats_calls (u : Value) (xs : List Nat) (w : World) (hu : FSl u xs w) (hl : xs.length ≤ 1099511627776) :
    Calls Tryd.prog 28 #[u] w fun e w' => ∃ v, e = .returned v ∧ Grow w w' ∧ VOwn 22 w.heap.size v (xs.map (.float .f64)) w' := by
  obtain ⟨i0, hi, hz0, hz1, hz2⟩ := info_parts infoF_
  have HU := Lib.hid hu; clear hu
  go_enter Tryd.func28, Tryd.ntmps28
  go_wp2_with (at_builtin; refine wpList_append_vsl rfl _ _ 29 rfl w.heap.size 22 i0 (.float .f64 0) 8 undF_ hi hz0 hz1 hz2 rfl rfl VOwn.nil rfl HU.out.v (fl_one _) (by simp [maxLen]; omega) (by simp; omega) (Nat.le_refl _) ?_; intro v' w' hown hgrow hwhere)
  go_ret
  exact ⟨_, rfl, grow_of_grown hgrow, by simpa using hown⟩

abbrev L9 (ds : Nat → Nat) : List Nat := [ds 0, ds 1, ds 2, ds 3, ds 4, ds 5, ds 6, ds 7, ds 8]
noncomputable def m9B (ds : Nat → Nat) : Bool := (L9 ds).all (Fl.wholeB 1024)
theorem lit9 {k : Nat} (h : k < 9) : k = 0 ∨ k = 1 ∨ k = 2 ∨ k = 3 ∨ k = 4 ∨ k = 5 ∨ k = 6 ∨ k = 7 ∨ k = 8 := by omega
theorem fsl9 {w : World} {b : Nat} {ds : Nat → Nat} (h : ∀ k, k < 9 → w.cell? ⟨b, k, none⟩ = some (.float .f64 (ds k))) : FSl (.slice (some ⟨b, 0, none⟩) 9 9) (L9 ds) w := by
  refine ⟨_, _, rfl, Nat.le_refl _, .inr ⟨b, 0, rfl, fun i u hi => ?_⟩⟩
  have hl : i < 9 := by
    rcases Nat.lt_or_ge i 9 with h1 | h1
    · exact h1
    · rw [List.getElem?_eq_none (by simpa using h1)] at hi; cases hi
  have hc := h i hl
  rcases lit9 hl with rfl | rfl | rfl | rfl | rfl | rfl | rfl | rfl | rfl <;> (cases hi; exact hc)
/-- a slice of matrices -/
def P9l (v : Value) (ms : List (Nat → Nat)) (w : World) : Prop := ∃ b, v = .slice (some ⟨b, 0, none⟩) ms.length ms.length ∧ ∀ (i : Nat) ds, ms[i]? = some ds → ∀ t, t < 9 → w.cell? ⟨b, i * 9 + t, none⟩ = some (.float .f64 (ds t))
theorem grid_nine (ds : Nat → Nat) : gridB 1024 9 [L9 ds] = m9B ds := by unfold gridB rowB m9B; simp
set_option maxRecDepth 100000 in
set_option maxHeartbeats 4000000 in
theorem entries_calls (u : Value) (ps : List (Nat → Nat)) (w : World) (hu : P9l u ps w) (hl : ps.length ≤ 1099511627776) :
    Calls Tryd.prog 9 #[u] w (AllP (ps.all m9B) w) := by
  obtain ⟨b, rfl, hA⟩ := hu
  have HA := Lib.hid hA; clear hA
  go_enter Tryd.func9, Tryd.ntmps9
  go_wp2
  go_loopw [7] (fun i wr => ∃ k : Nat, i = .int .i64 k ∧ k ≤ ps.length ∧ Grow w wr ∧ (ps.take k).all m9B = true) (fun i _ => ps.length - (intOf i).toNat)
  case atStart => exact ⟨0, rfl, Nat.zero_le _, Grow.refl _, rfl⟩
  case round =>
    obtain ⟨k, rfl, hk, hg, hall⟩ := hrel
    have HALL := Lib.hid hall; clear hall
    have HG := Lib.hid hg; clear hg
    by_cases hlt : k < ps.length
    case neg =>
      have HB : Hid (ps.all m9B = true) := by
        have := HALL.out
        rw [List.take_of_length_le (by omega)] at this
        exact this
      go_wp2
      go_ret
      exact ⟨by rw [HB.out]; rfl, HG.out⟩
    case pos =>
      obtain ⟨ds, hx⟩ : ∃ p, ps[k]? = some p := ⟨ps[k], by simp [hlt]⟩
      have HX := Lib.hid hx
      have c0 : wr.cell? ⟨b, k * 9, none⟩ = some (.float .f64 (ds 0)) := up_cell (HA.out k _ hx 0 (by decide)) HG.out
      have c1 : wr.cell? ⟨b, k * 9 + 1, none⟩ = some (.float .f64 (ds 1)) := up_cell (HA.out k _ hx 1 (by decide)) HG.out
      have c2 : wr.cell? ⟨b, k * 9 + 2, none⟩ = some (.float .f64 (ds 2)) := up_cell (HA.out k _ hx 2 (by decide)) HG.out
      have c3 : wr.cell? ⟨b, k * 9 + 3, none⟩ = some (.float .f64 (ds 3)) := up_cell (HA.out k _ hx 3 (by decide)) HG.out
      have c4 : wr.cell? ⟨b, k * 9 + 4, none⟩ = some (.float .f64 (ds 4)) := up_cell (HA.out k _ hx 4 (by decide)) HG.out
      have c5 : wr.cell? ⟨b, k * 9 + 5, none⟩ = some (.float .f64 (ds 5)) := up_cell (HA.out k _ hx 5 (by decide)) HG.out
      have c6 : wr.cell? ⟨b, k * 9 + 6, none⟩ = some (.float .f64 (ds 6)) := up_cell (HA.out k _ hx 6 (by decide)) HG.out
      have c7 : wr.cell? ⟨b, k * 9 + 7, none⟩ = some (.float .f64 (ds 7)) := up_cell (HA.out k _ hx 7 (by decide)) HG.out
      have c8 : wr.cell? ⟨b, k * 9 + 8, none⟩ = some (.float .f64 (ds 8)) := up_cell (HA.out k _ hx 8 (by decide)) HG.out
      have lb := cell_lt c0
      dsimp only at lb
      clear hx
      have HGR := Lib.hid (fun v w' (h : FSSl v [L9 ds] w') => grid_calls v [L9 ds] 9 4652218415073722368 1024 w' h isI_10 (by decide) (by decide) (by simp) (by simp) (by decide))
      have HE := Lib.hid (grid_nine ds)
      obtain ⟨bb, hbb⟩ : ∃ bb, bb = m9B ds := ⟨_, rfl⟩
      have HBB := Lib.hid hbb; clear hbb
      cases bb with
      | true =>
        go_wp2_with (go_at_call 11; refine (HGR.out _ _ (fssl_one (by go_simp) (fsl9 (b := wr.heap.size) (ds := ds) (fun t ht => by rcases lit9 ht with rfl | rfl | rfl | rfl | rfl | rfl | rfl | rfl | rfl <;> go_simp)))).mono ?_; rw [HE.out, ← HBB.out]; rintro e w2 ⟨rfl, rfl⟩)
        exact ⟨⟨k + 1, by go_num, by omega, (HG.out.alloc _).alloc _, by rw [all_take_succ _ _ _ _ HX.out, HALL.out, ← HBB.out]; rfl⟩, by simp [intOf]; omega⟩
      | false =>
        go_wp2_with (go_at_call 11; refine (HGR.out _ _ (fssl_one (by go_simp) (fsl9 (b := wr.heap.size) (ds := ds) (fun t ht => by rcases lit9 ht with rfl | rfl | rfl | rfl | rfl | rfl | rfl | rfl | rfl <;> go_simp)))).mono ?_; rw [HE.out, ← HBB.out]; rintro e w2 ⟨rfl, rfl⟩)
        go_ret
        exact ⟨by rw [all_false_of _ _ _ _ HX.out HBB.out.symm]; rfl, (HG.out.alloc _).alloc _⟩
/-- a matrix that is read alone -/
def MR (mb db : Nat) (ds : Nat → Nat) (w : World) : Prop := w.cell? ⟨mb, 0, none⟩ = some (.pointer (some ⟨db, 0, none⟩)) ∧ ∀ k, k < 9 → w.cell? ⟨db, k, none⟩ = some (.float .f64 (ds k))
theorem MR.up {mb db : Nat} {ds : Nat → Nat} : Up (MR mb db ds) := fun _ _ ⟨h0, h1⟩ hg => ⟨up_cell h0 hg, fun k hk => up_cell (h1 k hk) hg⟩
theorem MR.other {mb db : Nat} {ds : Nat → Nat} {w : World} (h : MR mb db ds w) {p : Addr} (h1 : p.block ≠ mb) (h2 : p.block ≠ db) (v : Value) : MR mb db ds (w.setCell p v) :=
  ⟨by rw [World.cell?_setCell_other _ _ _ _ (by intro hc; apply h1; rw [hc])]; exact h.1, fun k hk => by rw [World.cell?_setCell_other _ _ _ _ (by intro hc; apply h2; rw [hc])]; exact h.2 k hk⟩
set_option maxRecDepth 100000 in
set_option maxHeartbeats 2000000 in
theorem atR_calls (mb db i j : Nat) (ds : Nat → Nat) (w : World) (h : MR mb db ds w) (hi : i < 3) (hj : j < 3) :
    Calls Tryd.prog 26 #[.pointer (some ⟨mb, 0, none⟩), .int .i64 i, .int .i64 j] w (AtP (ds (3 * i + j)) w) := by
  obtain ⟨h0, h1⟩ := h
  have c0 := h1 (3 * i + j) (by omega)
  generalize ds (3 * i + j) = old at c0 ⊢
  clear h1
  rcases lit3 hi with rfl | rfl | rfl <;> rcases lit3 hj with rfl | rfl | rfl
  all_goals
    simp only [Nat.mul_zero, Nat.mul_one, Nat.reduceMul, Nat.reduceAdd, Nat.zero_add, Nat.add_zero] at c0 ⊢
    go_enter Tryd.func26, Tryd.ntmps26
    go_wp2
    go_ret
    exact ⟨rfl, rfl⟩
def MatP (ds : Nat → Nat) (w : World) (e : Ending) (w' : World) : Prop := ∃ mb db, e = .returned (.pointer (some ⟨mb, 0, none⟩)) ∧ w.heap.size ≤ mb ∧ w.heap.size ≤ db ∧ MR mb db ds w' ∧ Grow w w'
theorem newMat_calls (g cap : Nat) (ds : Nat → Nat) (w : World) (h : ∀ k, k < 9 → w.cell? ⟨g, k, none⟩ = some (.float .f64 (ds k))) (hc : 9 ≤ cap) :
    Calls Tryd.prog 27 #[.slice (some ⟨g, 0, none⟩) 9 cap] w fun e w' => e = .returned (.pointer (some ⟨w.heap.size, 0, none⟩)) ∧ MR w.heap.size g ds w' ∧ Grow w w' := by
  have HA : Hid (∀ w : World, Calls Tryd.prog 31 #[.slice (some ⟨g, 0, none⟩) 9 cap] w fun e w' => e = .returned (.pointer (some ⟨g, 0, none⟩)) ∧ w' = w) := by
    intro w
    have hsp : ∀ w : World, (Instr.arrayAt 64 (.slice (some ⟨g, 0, none⟩) 9 cap)).run Tryd.prog w = .ok (.pointer (some ⟨g, 0, none⟩)) w := fun w => by kernel_rfl
    go_enter Tryd.func31, Tryd.ntmps31
    go_wp2
    go_ret
    exact ⟨rfl, rfl⟩
  have HH := Lib.hid h; clear h
  go_enter Tryd.func27, Tryd.ntmps27
  go_wp2_with (go_at_call 31; refine (HA.out _).mono ?_; rintro e w' ⟨rfl, rfl⟩)
  go_ret
  exact ⟨rfl, ⟨by go_simp, fun k hk => up_cell (HH.out k hk) ((Grow.refl _).alloc _)⟩, (Grow.refl _).alloc _⟩
set_option maxRecDepth 100000 in
set_option maxHeartbeats 2000000 in
theorem mat_calls (ds : Nat → Nat) (w : World) : Calls Tryd.prog 19 #[MatV ds] w (MatP ds w) := by
  have HF := Lib.hid (fun u w' (h : FSl u (L9 ds) w') => floats_calls u (L9 ds) w' h (by simp))
  go_enter Tryd.func19, Tryd.ntmps19
  go_wp2_with fail
  refine (HF.out _ _ (fsl9 (fun t ht => by rcases lit9 ht with rfl | rfl | rfl | rfl | rfl | rfl | rfl | rfl | rfl <;> go_simp))).mono ?_
  rintro e w1 ⟨V, rfl, hg, hown⟩
  have hB := hown
  obtain ⟨A, c, rfl, hc, hA⟩ := hown.sl.f
  obtain ⟨b, o, rfl, hx⟩ : ∃ b o, A = some ⟨b, o, none⟩ ∧ FCells w1 b o (L9 ds) := by
    rcases hA with h | h
    · cases h
    · exact h
  have hbo : (w.heap.size + 1 ≤ b) ∧ o = 0 := by
    rcases hB.2 with ⟨h1, h2⟩ | ⟨g, cap, cur, h1, h2, -⟩
    · cases h2
    · cases h1; exact ⟨by simpa [heap_size_alloc_] using h2, rfl⟩
  obtain ⟨hb, rfl⟩ := hbo
  have hcell : ∀ k, k < 9 → w1.cell? ⟨b, k, none⟩ = some (.float .f64 (ds k)) := fun k hk => by
    have h := fun x hi => hx k x hi
    rw [Nat.zero_add] at h
    rcases lit9 hk with rfl | rfl | rfl | rfl | rfl | rfl | rfl | rfl | rfl <;> exact h _ rfl
  have HN := Lib.hid (newMat_calls b c ds w1 hcell (by simpa using hc))
  have HG := Lib.hid (((Grow.refl w).alloc _).trans hg)
  have HSZ := Lib.hid hg.size
  have HBS := Lib.hid hb
  clear hg hB hown hc hA hx hb hcell
  go_wp2_with fail
  refine HN.out.mono ?_
  rintro e w2 ⟨rfl, hm, hg⟩
  go_wp2
  go_ret
  exact ⟨_, _, rfl, by have := HSZ.out; rw [heap_size_alloc_] at this; omega, by have := HBS.out; omega, hm, HG.out.trans hg⟩
end Go.Proofs.YtpnmcmpeecpjeaaDoor
