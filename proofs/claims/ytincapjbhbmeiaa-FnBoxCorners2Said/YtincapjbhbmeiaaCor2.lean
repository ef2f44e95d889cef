import Derived.Test.YtincapjbhbmeiaaBox2
import Derived.Test.YtincapjbhbmeiaaOwn
import Derived.Test.YtincapjbhbmeiaaEqS
namespace Go.Proofs.Ytincapjbhbmeiaa
open Go.ChangeShapes Go.WideShapes Go.ChangeAt Go.RowKit Go.GrowR
set_option linter.unusedVariables false
set_option linter.unusedSimpArgs false
theorem infoP2 : (Try.prog.info? 24).map (fun i => (i.zero, i.size, i.bytes)) = some (some (.agg #[.float .f64 0, .float .f64 0]), 2, 16) := by kernel_rfl
theorem undSP2 : Try.prog.underlying 35 = some (.slice 24) := by kernel_rfl
abbrev cor2 (x y u v : Nat) : List Value := [Value.float FloatKind.f64 x, Value.float FloatKind.f64 y, Value.float FloatKind.f64 u, Value.float FloatKind.f64 y, Value.float FloatKind.f64 u, Value.float FloatKind.f64 v, Value.float FloatKind.f64 x, Value.float FloatKind.f64 v]
theorem up_heap2 {w w' : World} {b : Nat} {o : Obj} (h : w.heap[b]? = some o) (hg : Grow w w') : w'.heap[b]? = some o := by
  rw [hg.block b]; exact h
  rcases Nat.lt_or_ge b w.heap.size with h' | h'
  · exact h'
  · rw [Array.getElem?_eq_none h'] at h; cases h
theorem heap_two2 (w : World) (o1 o2 : Obj) : ((w.alloc o1).alloc o2).heap[w.heap.size + 1]? = some o2 := by
  have h := heap_alloc_new (w.alloc o1) o2
  rwa [show (w.alloc o1).heap.size = w.heap.size + 1 from by simp] at h
set_option maxHeartbeats 1000000 in
theorem rvert2_calls (x y u v : Nat) (w : World) : Calls Try.prog 41 #[B2V x y u v] w (EffPost (fun lo _ V w => ∃ b, V = .slice (some ⟨b, 0, none⟩) 4 4 ∧ lo ≤ b ∧ w.heap[b]? = some (.cells (cor2 x y u v).toArray 61 (0, 0))) w) := by
  go_enter Try.func41, Try.ntmps41
  go_wp2
  go_ret
  exact EffPost.mk (((Grow.refl w).alloc _).alloc _) ⟨_, rfl, by simp, heap_two2 w _ _⟩
theorem ownsRow_up2 {w w' : World} {B : Nat} {e : TypeId} {q : Nat} {v : Value} {n : Nat} {xs : List Value} (h : w.ownsRow B e q v n xs) (hg : Grow w w') : w'.ownsRow B e q v n xs := by
  refine ⟨h.1, ?_⟩
  rcases h.2 with h | ⟨g, cap, cur, rfl, hb, hh, hr⟩
  · exact .inl h
  · exact .inr ⟨g, cap, cur, rfl, hb, up_heap2 hh hg, hr⟩
theorem own_ne2 {w : World} {B b : Nat} {e t : TypeId} {q : Nat} {v : Value} {n : Nat} {xs : List Value} {cs : Array Value} {f : Nat × Nat} (h : w.ownsRow B e q v n xs) (hb : w.heap[b]? = some (.cells cs t f)) (hne : e ≠ t) : some b ≠ v.ownBlock := by
  rcases h.2 with ⟨rfl, _⟩ | ⟨g, cap, cur, rfl, _, hh, _⟩
  · simp [Value.ownBlock]
  · intro he
    have : b = g := by simpa [Value.ownBlock] using he
    subst this
    rw [hh] at hb
    injection hb with hb
    injection hb with _ ht
    exact hne ht
theorem new_cells2 (w : World) (l : List Value) (t : TypeId) : ∀ j u, l[j]? = some u → (w.alloc (.cells l.toArray t)).cell? (Addr.add ⟨w.heap.size, 0, none⟩ j) = some u := by
  intro j u hj
  rw [addr_add, Nat.zero_add, cell_of_row _ _ _ _ _ _ (heap_alloc_new w (.cells l.toArray t))]
  simpa using hj
set_option maxHeartbeats 4000000 in
theorem vert2_calls (x y u v : Nat) (w : World) : Calls Try.prog 18 #[B2V x y u v] w fun e w' => ∃ O, e = .returned O ∧ Grow w w' ∧ w'.ownsRow w.heap.size 24 2 O 4 (cor2 x y u v) := by
  obtain ⟨i0, hi, hz0, hz1, hz2⟩ := info_parts infoP2
  have HI := Lib.hid hi; have HZ0 := Lib.hid hz0; have HZ1 := Lib.hid hz1; have HZ2 := Lib.hid hz2; clear hi hz0 hz1 hz2
  go_enter Try.func18, Try.ntmps18
  go_wp2
  refine wp_region_grow (fun i => if i = 2 then some (fun _ _ => (fun V _ => V = P2V x y)) else if i = 5 then some (fun _ _ => (fun V _ => V = P2V u v)) else if i = 7 then some (fun lo _ V w => ∃ b, V = .slice (some ⟨b, 0, none⟩) 4 4 ∧ lo ≤ b ∧ w.heap[b]? = some (.cells (cor2 x y u v).toArray 61 (0, 0))) else none) (by kernel_rfl) (by kernel_rfl) ?_ ?_
  · intro i Φ h lo hi v
    (repeat' split at h) <;> cases h
    · exact fun _ _ h _ => h
    · exact fun _ _ h _ => h
    · exact fun _ _ ⟨b, h0, h1, h2⟩ hg => ⟨b, h0, h1, up_heap2 h2 hg⟩
  repeat (first
    | (refine wpGrow_skip (by rfl) ?_; simp only [Act.put, List.setIfInBounds_toArray, List.set_cons_zero, List.set_cons_succ, Nat.reduceAdd])
    | (refine wpGrow_det' (by rfl) (by rfl) ?_; apply Exists.intro; refine ⟨fun w' hc hh => ?_, ?_⟩; (have hcell := grow_cell hc; clear hc hh; go_simp; rfl); simp only [Act.put, List.setIfInBounds_toArray, List.set_cons_zero, List.set_cons_succ, Nat.reduceAdd]))
  refine wpGrow_eff' (by rfl) (by rfl) (fun w' hc hh => ?_) (fun v lo hi w' hap hc hh hv => ?_)
  · clear hc hh
    go_simp
    go_at_call 36
    refine (vec2_calls _ _ _).mono ?_
    rintro e w2 ⟨rfl, hg⟩
    exact EffPost.mk hg rfl
  obtain rfl := hv
  clear hc hh hap w'
  simp only [Act.put, List.setIfInBounds_toArray, List.set_cons_zero, List.set_cons_succ, Nat.reduceAdd]
  repeat (first
    | (refine wpGrow_skip (by rfl) ?_; simp only [Act.put, List.setIfInBounds_toArray, List.set_cons_zero, List.set_cons_succ, Nat.reduceAdd])
    | (refine wpGrow_det' (by rfl) (by rfl) ?_; apply Exists.intro; refine ⟨fun w' hc hh => ?_, ?_⟩; (have hcell := grow_cell hc; clear hc hh; go_simp; rfl); simp only [Act.put, List.setIfInBounds_toArray, List.set_cons_zero, List.set_cons_succ, Nat.reduceAdd]))
  refine wpGrow_eff' (by rfl) (by rfl) (fun w' hc hh => ?_) (fun v lo hi w' hap hc hh hv => ?_)
  · clear hc hh
    go_simp
    go_at_call 36
    refine (vec2_calls _ _ _).mono ?_
    rintro e w2 ⟨rfl, hg⟩
    exact EffPost.mk hg rfl
  obtain rfl := hv
  clear hc hh hap w'
  simp only [Act.put, List.setIfInBounds_toArray, List.set_cons_zero, List.set_cons_succ, Nat.reduceAdd]
  repeat (first
    | (refine wpGrow_skip (by rfl) ?_; simp only [Act.put, List.setIfInBounds_toArray, List.set_cons_zero, List.set_cons_succ, Nat.reduceAdd])
    | (refine wpGrow_det' (by rfl) (by rfl) ?_; apply Exists.intro; refine ⟨fun w' hc hh => ?_, ?_⟩; (have hcell := grow_cell hc; clear hc hh; go_simp; rfl); simp only [Act.put, List.setIfInBounds_toArray, List.set_cons_zero, List.set_cons_succ, Nat.reduceAdd]))
  refine wpGrow_eff' (by rfl) (by rfl) (fun w' hc hh => ?_) (fun v lo hi w' hap hc hh hv => ?_)
  · clear hc hh
    go_simp
    go_at_call 41
    exact rvert2_calls _ _ _ _ _
  obtain ⟨b0, rfl, -, -⟩ := hv
  clear hc hh hap w'
  simp only [Act.put, List.setIfInBounds_toArray, List.set_cons_zero, List.set_cons_succ, Nat.reduceAdd]
  repeat (first
    | (refine wpGrow_skip (by rfl) ?_; simp only [Act.put, List.setIfInBounds_toArray, List.set_cons_zero, List.set_cons_succ, Nat.reduceAdd])
    | (refine wpGrow_det' (by rfl) (by rfl) ?_; apply Exists.intro; refine ⟨fun w' hc hh => ?_, ?_⟩; (have hcell := grow_cell hc; clear hc hh; go_simp; rfl); simp only [Act.put, List.setIfInBounds_toArray, List.set_cons_zero, List.set_cons_succ, Nat.reduceAdd]))
  refine wpGrow_nil ?_
  intro w1 hg hh
  obtain ⟨b1, q1, -, hb1⟩ := (hh 7).1
  cases q1
  have HB := Lib.hid hb1
  have HG := Lib.hid (((Grow.refl w).alloc _).trans hg)
  clear hh hb1 hg
  go_wp2
  go_loopw [3, 15] (fun O i wr => ∃ k : Nat, i = .int .i64 k ∧ k ≤ 4 ∧ Grow w wr ∧ wr.heap[b0]? = some (.cells (cor2 x y u v).toArray 61 (0, 0)) ∧ wr.ownsRow w.heap.size 24 2 O k ((cor2 x y u v).take (k * 2))) (fun _ i _ => 4 - (intOf i).toNat)
  case atStart => exact ⟨0, rfl, Nat.zero_le _, HG.out, HB.out, World.ownsRow_nil _ _ _ _⟩
  case round =>
    clear HB HG
    obtain ⟨k, rfl, hk, hg, hb, hown⟩ := hrel
    have HG := Lib.hid hg; have HB := Lib.hid hb; have HO := Lib.hid hown
    have hcl := cell_of_row _ b0 0 _ _ _ hb
    have cc0 := cell_of_row _ b0 0 _ _ _ hb
    have cc1 := cell_of_row _ b0 1 _ _ _ hb
    have cc2 := cell_of_row _ b0 2 _ _ _ hb
    have cc3 := cell_of_row _ b0 3 _ _ _ hb
    have cc4 := cell_of_row _ b0 4 _ _ _ hb
    have cc5 := cell_of_row _ b0 5 _ _ _ hb
    have cc6 := cell_of_row _ b0 6 _ _ _ hb
    have cc7 := cell_of_row _ b0 7 _ _ _ hb
    clear hg hown hcl
    simp only [cor2, List.getElem?_toArray, List.getElem?_cons_zero, List.getElem?_cons_succ] at cc0 cc1 cc2 cc3 cc4 cc5 cc6 cc7
    clear hb
    obtain rfl | rfl | rfl | rfl | rfl : k = 0 ∨ k = 1 ∨ k = 2 ∨ k = 3 ∨ k = 4 := by omega
    · clear hk
      have hlt : b0 < wr.heap.size := by
        rcases Nat.lt_or_ge b0 wr.heap.size with h | h
        · exact h
        · have := HB.out; rw [Array.getElem?_eq_none h] at this; cases this
      go_wp2_with fail
      refine (plainP2_calls _ _ _).mono ?_
      rintro e w2 ⟨rfl, hg2⟩
      have GG := ((Grow.refl wr).alloc _).trans hg2
      have H2 := Lib.hid (HG.out.trans GG)
      have HB2 := Lib.hid (up_heap2 HB.out GG)
      have HO2 := Lib.hid (ownsRow_up2 HO.out GG)
      clear GG hg2 cc0 cc1 cc2 cc3 cc4 cc5 cc6 cc7
      go_wp2_with (at_builtin; refine wpList_append_own_at _ rfl _ _ 35 rfl w.heap.size 24 i0 (.agg #[.float .f64 0, .float .f64 0]) 2 16 undSP2 HI.out HZ0.out HZ1.out HZ2.out rfl (by decide) _ _ _ rfl (ownsRow_up2 HO2.out ((Grow.refl w2).alloc _)) ⟨w2.heap.size, 0, none⟩ 1 1 [Value.float FloatKind.f64 x, Value.float FloatKind.f64 y] rfl rfl (new_cells2 w2 [Value.float FloatKind.f64 x, Value.float FloatKind.f64 y] 24) (by simp [Value.oneCell']) (by decide) (by decide) (by have := H2.out.size; simp; omega) ?_; intro O5 w5 hown5 hgrow5 hnil5 hwh5)
      have HO5 := Lib.hid hown5
      have H5 := Lib.hid (Below.grown (H2.out.alloc _) hgrow5 (by have := H2.out.size; simp; omega) (fun k e => (HO2.out.lt k e).1))
      have HB5 := Lib.hid ((hgrow5.block b0 (by have := ((Grow.refl w2).alloc (Obj.cells [Value.float FloatKind.f64 x, Value.float FloatKind.f64 y].toArray 24)).size; have h3 : b0 < w2.heap.size := by
                                                  rcases Nat.lt_or_ge b0 w2.heap.size with h | h
                                                  · exact h
                                                  · have := HB2.out; rw [Array.getElem?_eq_none h] at this; cases this
                                                simp; omega) (own_ne2 HO2.out HB2.out (by decide))).trans (up_heap2 HB2.out ((Grow.refl w2).alloc _)))
      clear hown5 hgrow5 hnil5 hwh5
      go_wp2
      go_roundw
      case rel => exact ⟨1, by go_num, by omega, H5.out, HB5.out, HO5.out⟩
      case measure => simp [intOf]
    · clear hk
      have hlt : b0 < wr.heap.size := by
        rcases Nat.lt_or_ge b0 wr.heap.size with h | h
        · exact h
        · have := HB.out; rw [Array.getElem?_eq_none h] at this; cases this
      go_wp2_with fail
      refine (plainP2_calls _ _ _).mono ?_
      rintro e w2 ⟨rfl, hg2⟩
      have GG := ((Grow.refl wr).alloc _).trans hg2
      have H2 := Lib.hid (HG.out.trans GG)
      have HB2 := Lib.hid (up_heap2 HB.out GG)
      have HO2 := Lib.hid (ownsRow_up2 HO.out GG)
      clear GG hg2 cc0 cc1 cc2 cc3 cc4 cc5 cc6 cc7
      go_wp2_with (at_builtin; refine wpList_append_own_at _ rfl _ _ 35 rfl w.heap.size 24 i0 (.agg #[.float .f64 0, .float .f64 0]) 2 16 undSP2 HI.out HZ0.out HZ1.out HZ2.out rfl (by decide) _ _ _ rfl (ownsRow_up2 HO2.out ((Grow.refl w2).alloc _)) ⟨w2.heap.size, 0, none⟩ 1 1 [Value.float FloatKind.f64 u, Value.float FloatKind.f64 y] rfl rfl (new_cells2 w2 [Value.float FloatKind.f64 u, Value.float FloatKind.f64 y] 24) (by simp [Value.oneCell']) (by decide) (by decide) (by have := H2.out.size; simp; omega) ?_; intro O5 w5 hown5 hgrow5 hnil5 hwh5)
      have HO5 := Lib.hid hown5
      have H5 := Lib.hid (Below.grown (H2.out.alloc _) hgrow5 (by have := H2.out.size; simp; omega) (fun k e => (HO2.out.lt k e).1))
      have HB5 := Lib.hid ((hgrow5.block b0 (by have := ((Grow.refl w2).alloc (Obj.cells [Value.float FloatKind.f64 u, Value.float FloatKind.f64 y].toArray 24)).size; have h3 : b0 < w2.heap.size := by
                                                  rcases Nat.lt_or_ge b0 w2.heap.size with h | h
                                                  · exact h
                                                  · have := HB2.out; rw [Array.getElem?_eq_none h] at this; cases this
                                                simp; omega) (own_ne2 HO2.out HB2.out (by decide))).trans (up_heap2 HB2.out ((Grow.refl w2).alloc _)))
      clear hown5 hgrow5 hnil5 hwh5
      go_wp2
      go_roundw
      case rel => exact ⟨2, by go_num, by omega, H5.out, HB5.out, HO5.out⟩
      case measure => simp [intOf]
    · clear hk
      have hlt : b0 < wr.heap.size := by
        rcases Nat.lt_or_ge b0 wr.heap.size with h | h
        · exact h
        · have := HB.out; rw [Array.getElem?_eq_none h] at this; cases this
      go_wp2_with fail
      refine (plainP2_calls _ _ _).mono ?_
      rintro e w2 ⟨rfl, hg2⟩
      have GG := ((Grow.refl wr).alloc _).trans hg2
      have H2 := Lib.hid (HG.out.trans GG)
      have HB2 := Lib.hid (up_heap2 HB.out GG)
      have HO2 := Lib.hid (ownsRow_up2 HO.out GG)
      clear GG hg2 cc0 cc1 cc2 cc3 cc4 cc5 cc6 cc7
      go_wp2_with (at_builtin; refine wpList_append_own_at _ rfl _ _ 35 rfl w.heap.size 24 i0 (.agg #[.float .f64 0, .float .f64 0]) 2 16 undSP2 HI.out HZ0.out HZ1.out HZ2.out rfl (by decide) _ _ _ rfl (ownsRow_up2 HO2.out ((Grow.refl w2).alloc _)) ⟨w2.heap.size, 0, none⟩ 1 1 [Value.float FloatKind.f64 u, Value.float FloatKind.f64 v] rfl rfl (new_cells2 w2 [Value.float FloatKind.f64 u, Value.float FloatKind.f64 v] 24) (by simp [Value.oneCell']) (by decide) (by decide) (by have := H2.out.size; simp; omega) ?_; intro O5 w5 hown5 hgrow5 hnil5 hwh5)
      have HO5 := Lib.hid hown5
      have H5 := Lib.hid (Below.grown (H2.out.alloc _) hgrow5 (by have := H2.out.size; simp; omega) (fun k e => (HO2.out.lt k e).1))
      have HB5 := Lib.hid ((hgrow5.block b0 (by have := ((Grow.refl w2).alloc (Obj.cells [Value.float FloatKind.f64 u, Value.float FloatKind.f64 v].toArray 24)).size; have h3 : b0 < w2.heap.size := by
                                                  rcases Nat.lt_or_ge b0 w2.heap.size with h | h
                                                  · exact h
                                                  · have := HB2.out; rw [Array.getElem?_eq_none h] at this; cases this
                                                simp; omega) (own_ne2 HO2.out HB2.out (by decide))).trans (up_heap2 HB2.out ((Grow.refl w2).alloc _)))
      clear hown5 hgrow5 hnil5 hwh5
      go_wp2
      go_roundw
      case rel => exact ⟨3, by go_num, by omega, H5.out, HB5.out, HO5.out⟩
      case measure => simp [intOf]
    · clear hk
      have hlt : b0 < wr.heap.size := by
        rcases Nat.lt_or_ge b0 wr.heap.size with h | h
        · exact h
        · have := HB.out; rw [Array.getElem?_eq_none h] at this; cases this
      go_wp2_with fail
      refine (plainP2_calls _ _ _).mono ?_
      rintro e w2 ⟨rfl, hg2⟩
      have GG := ((Grow.refl wr).alloc _).trans hg2
      have H2 := Lib.hid (HG.out.trans GG)
      have HB2 := Lib.hid (up_heap2 HB.out GG)
      have HO2 := Lib.hid (ownsRow_up2 HO.out GG)
      clear GG hg2 cc0 cc1 cc2 cc3 cc4 cc5 cc6 cc7
      go_wp2_with (at_builtin; refine wpList_append_own_at _ rfl _ _ 35 rfl w.heap.size 24 i0 (.agg #[.float .f64 0, .float .f64 0]) 2 16 undSP2 HI.out HZ0.out HZ1.out HZ2.out rfl (by decide) _ _ _ rfl (ownsRow_up2 HO2.out ((Grow.refl w2).alloc _)) ⟨w2.heap.size, 0, none⟩ 1 1 [Value.float FloatKind.f64 x, Value.float FloatKind.f64 v] rfl rfl (new_cells2 w2 [Value.float FloatKind.f64 x, Value.float FloatKind.f64 v] 24) (by simp [Value.oneCell']) (by decide) (by decide) (by have := H2.out.size; simp; omega) ?_; intro O5 w5 hown5 hgrow5 hnil5 hwh5)
      have HO5 := Lib.hid hown5
      have H5 := Lib.hid (Below.grown (H2.out.alloc _) hgrow5 (by have := H2.out.size; simp; omega) (fun k e => (HO2.out.lt k e).1))
      have HB5 := Lib.hid ((hgrow5.block b0 (by have := ((Grow.refl w2).alloc (Obj.cells [Value.float FloatKind.f64 x, Value.float FloatKind.f64 v].toArray 24)).size; have h3 : b0 < w2.heap.size := by
                                                  rcases Nat.lt_or_ge b0 w2.heap.size with h | h
                                                  · exact h
                                                  · have := HB2.out; rw [Array.getElem?_eq_none h] at this; cases this
                                                simp; omega) (own_ne2 HO2.out HB2.out (by decide))).trans (up_heap2 HB2.out ((Grow.refl w2).alloc _)))
      clear hown5 hgrow5 hnil5 hwh5
      go_wp2
      go_roundw
      case rel => exact ⟨4, by go_num, by omega, H5.out, HB5.out, HO5.out⟩
      case measure => simp [intOf]
    · go_wp2
      go_ret
      exact ⟨_, rfl, HG.out, HO.out⟩
end Go.Proofs.Ytincapjbhbmeiaa
