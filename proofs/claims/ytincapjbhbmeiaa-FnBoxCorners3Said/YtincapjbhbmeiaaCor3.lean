import Derived.Test.YtincapjbhbmeiaaBox3
import Derived.Test.YtincapjbhbmeiaaOwn
import Derived.Test.YtincapjbhbmeiaaEqS
namespace Go.Proofs.Ytincapjbhbmeiaa
open Go.ChangeShapes Go.WideShapes Go.ChangeAt Go.RowKit Go.GrowR
set_option linter.unusedVariables false
set_option linter.unusedSimpArgs false
theorem infoP3 : (Try.prog.info? 30).map (fun i => (i.zero, i.size, i.bytes)) = some (some (.agg #[.float .f64 0, .float .f64 0, .float .f64 0]), 3, 24) := by kernel_rfl
theorem undSP3 : Try.prog.underlying 40 = some (.slice 30) := by kernel_rfl
abbrev cor3 (x y z u v t : Nat) : List Value := [Value.float FloatKind.f64 x, Value.float FloatKind.f64 y, Value.float FloatKind.f64 z, Value.float FloatKind.f64 u, Value.float FloatKind.f64 y, Value.float FloatKind.f64 z, Value.float FloatKind.f64 u, Value.float FloatKind.f64 v, Value.float FloatKind.f64 z, Value.float FloatKind.f64 x, Value.float FloatKind.f64 v, Value.float FloatKind.f64 z, Value.float FloatKind.f64 x, Value.float FloatKind.f64 y, Value.float FloatKind.f64 t, Value.float FloatKind.f64 u, Value.float FloatKind.f64 y, Value.float FloatKind.f64 t, Value.float FloatKind.f64 u, Value.float FloatKind.f64 v, Value.float FloatKind.f64 t, Value.float FloatKind.f64 x, Value.float FloatKind.f64 v, Value.float FloatKind.f64 t]
theorem up_heap3 {w w' : World} {b : Nat} {o : Obj} (h : w.heap[b]? = some o) (hg : Grow w w') : w'.heap[b]? = some o := by
  rw [hg.block b]; exact h
  rcases Nat.lt_or_ge b w.heap.size with h' | h'
  · exact h'
  · rw [Array.getElem?_eq_none h'] at h; cases h
theorem heap_two3 (w : World) (o1 o2 : Obj) : ((w.alloc o1).alloc o2).heap[w.heap.size + 1]? = some o2 := by
  have h := heap_alloc_new (w.alloc o1) o2
  rwa [show (w.alloc o1).heap.size = w.heap.size + 1 from by simp] at h
set_option maxHeartbeats 1000000 in
theorem rvert3_calls (x y z u v t : Nat) (w : World) : Calls Try.prog 43 #[B3V x y z u v t] w (EffPost (fun lo _ V w => ∃ b, V = .slice (some ⟨b, 0, none⟩) 8 8 ∧ lo ≤ b ∧ w.heap[b]? = some (.cells (cor3 x y z u v t).toArray 65 (0, 0))) w) := by
  go_enter Try.func43, Try.ntmps43
  go_wp2
  go_ret
  exact EffPost.mk (((Grow.refl w).alloc _).alloc _) ⟨_, rfl, by simp, heap_two3 w _ _⟩
theorem ownsRow_up3 {w w' : World} {B : Nat} {e : TypeId} {q : Nat} {v : Value} {n : Nat} {xs : List Value} (h : w.ownsRow B e q v n xs) (hg : Grow w w') : w'.ownsRow B e q v n xs := by
  refine ⟨h.1, ?_⟩
  rcases h.2 with h | ⟨g, cap, cur, rfl, hb, hh, hr⟩
  · exact .inl h
  · exact .inr ⟨g, cap, cur, rfl, hb, up_heap3 hh hg, hr⟩
theorem own_ne3 {w : World} {B b : Nat} {e t : TypeId} {q : Nat} {v : Value} {n : Nat} {xs : List Value} {cs : Array Value} {f : Nat × Nat} (h : w.ownsRow B e q v n xs) (hb : w.heap[b]? = some (.cells cs t f)) (hne : e ≠ t) : some b ≠ v.ownBlock := by
  rcases h.2 with ⟨rfl, _⟩ | ⟨g, cap, cur, rfl, _, hh, _⟩
  · simp [Value.ownBlock]
  · intro he
    have : b = g := by simpa [Value.ownBlock] using he
    subst this
    rw [hh] at hb
    injection hb with hb
    injection hb with _ ht
    exact hne ht
theorem new_cells3 (w : World) (l : List Value) (t : TypeId) : ∀ j u, l[j]? = some u → (w.alloc (.cells l.toArray t)).cell? (Addr.add ⟨w.heap.size, 0, none⟩ j) = some u := by
  intro j u hj
  rw [addr_add, Nat.zero_add, cell_of_row _ _ _ _ _ _ (heap_alloc_new w (.cells l.toArray t))]
  simpa using hj
set_option maxHeartbeats 4000000 in
theorem vert3_calls (x y z u v t : Nat) (w : World) : Calls Try.prog 20 #[B3V x y z u v t] w fun e w' => ∃ O, e = .returned O ∧ Grow w w' ∧ w'.ownsRow w.heap.size 30 3 O 8 (cor3 x y z u v t) := by
  obtain ⟨i0, hi, hz0, hz1, hz2⟩ := info_parts infoP3
  have HI := Lib.hid hi; have HZ0 := Lib.hid hz0; have HZ1 := Lib.hid hz1; have HZ2 := Lib.hid hz2; clear hi hz0 hz1 hz2
  go_enter Try.func20, Try.ntmps20
  go_wp2
  refine wp_region_grow (fun i => if i = 2 then some (fun _ _ => (fun V _ => V = P3V x y z)) else if i = 5 then some (fun _ _ => (fun V _ => V = P3V u v t)) else if i = 7 then some (fun lo _ V w => ∃ b, V = .slice (some ⟨b, 0, none⟩) 8 8 ∧ lo ≤ b ∧ w.heap[b]? = some (.cells (cor3 x y z u v t).toArray 65 (0, 0))) else none) (by kernel_rfl) (by kernel_rfl) ?_ ?_
  · intro i Φ h lo hi v
    (repeat' split at h) <;> cases h
    · exact fun _ _ h _ => h
    · exact fun _ _ h _ => h
    · exact fun _ _ ⟨b, h0, h1, h2⟩ hg => ⟨b, h0, h1, up_heap3 h2 hg⟩
  repeat (first
    | (refine wpGrow_skip (by rfl) ?_; simp only [Act.put, List.setIfInBounds_toArray, List.set_cons_zero, List.set_cons_succ, Nat.reduceAdd])
    | (refine wpGrow_det' (by rfl) (by rfl) ?_; apply Exists.intro; refine ⟨fun w' hc hh => ?_, ?_⟩; (have hcell := grow_cell hc; clear hc hh; go_simp; rfl); simp only [Act.put, List.setIfInBounds_toArray, List.set_cons_zero, List.set_cons_succ, Nat.reduceAdd]))
  refine wpGrow_eff' (by rfl) (by rfl) (fun w' hc hh => ?_) (fun v lo hi w' hap hc hh hv => ?_)
  · clear hc hh
    go_simp
    go_at_call 39
    refine (vec3_calls _ _ _ _).mono ?_
    rintro e w2 ⟨rfl, hg⟩
    exact EffPost.mk hg rfl
  obtain rfl := hv
  clear hc hh hap w'
  simp only [Act.put, List.setIfInBounds_toArray, List.set_cons_zero, List.set_cons_succ, Nat.reduceAdd]
  repeat (first
    | (refine wpGrow_skip (by rfl) ?_; simp only [Act.put, List.setIfInBounds_toArray, List.set_cons_zero, List.set_cons_succ, Nat.reduceAdd])
    | (refine wpGrow_det' (by rfl) (by rfl) ?_; apply Exists.intro; refine ⟨fun w' hc hh => ?_, ?_⟩; (have hcell := grow_cell hc; clear hc hh; go_simp; rfl); simp only [Act.put, List.setIfInBounds_toArray, List.set_cons_zero, List.set_cons_succ, Nat.reduceAdd]))
  refine wpGrow_eff' (by rfl) (by rfl) (fun w' hc hh => ?_) (fun v lo hi w' hap hc hh hv => ?_)
  · clear hc hh
    go_simp
    go_at_call 39
    refine (vec3_calls _ _ _ _).mono ?_
    rintro e w2 ⟨rfl, hg⟩
    exact EffPost.mk hg rfl
  obtain rfl := hv
  clear hc hh hap w'
  simp only [Act.put, List.setIfInBounds_toArray, List.set_cons_zero, List.set_cons_succ, Nat.reduceAdd]
  repeat (first
    | (refine wpGrow_skip (by rfl) ?_; simp only [Act.put, List.setIfInBounds_toArray, List.set_cons_zero, List.set_cons_succ, Nat.reduceAdd])
    | (refine wpGrow_det' (by rfl) (by rfl) ?_; apply Exists.intro; refine ⟨fun w' hc hh => ?_, ?_⟩; (have hcell := grow_cell hc; clear hc hh; go_simp; rfl); simp only [Act.put, List.setIfInBounds_toArray, List.set_cons_zero, List.set_cons_succ, Nat.reduceAdd]))
  refine wpGrow_eff' (by rfl) (by rfl) (fun w' hc hh => ?_) (fun v lo hi w' hap hc hh hv => ?_)
  · clear hc hh
    go_simp
    go_at_call 43
    exact rvert3_calls _ _ _ _ _ _ _
  obtain ⟨b0, rfl, -, -⟩ := hv
  clear hc hh hap w'
  simp only [Act.put, List.setIfInBounds_toArray, List.set_cons_zero, List.set_cons_succ, Nat.reduceAdd]
  repeat (first
    | (refine wpGrow_skip (by rfl) ?_; simp only [Act.put, List.setIfInBounds_toArray, List.set_cons_zero, List.set_cons_succ, Nat.reduceAdd])
    | (refine wpGrow_det' (by rfl) (by rfl) ?_; apply Exists.intro; refine ⟨fun w' hc hh => ?_, ?_⟩; (have hcell := grow_cell hc; clear hc hh; go_simp; rfl); simp only [Act.put, List.setIfInBounds_toArray, List.set_cons_zero, List.set_cons_succ, Nat.reduceAdd]))
  refine wpGrow_nil ?_
  intro w1 hg hh
  obtain ⟨b1, q1, -, hb1⟩ := (hh 7).1
  cases q1
  have HB := Lib.hid hb1
  have HG := Lib.hid (((Grow.refl w).alloc _).trans hg)
  clear hh hb1 hg
  go_wp2
  go_loopw [3, 15] (fun O i wr => ∃ k : Nat, i = .int .i64 k ∧ k ≤ 8 ∧ Grow w wr ∧ wr.heap[b0]? = some (.cells (cor3 x y z u v t).toArray 65 (0, 0)) ∧ wr.ownsRow w.heap.size 30 3 O k ((cor3 x y z u v t).take (k * 3))) (fun _ i _ => 8 - (intOf i).toNat)
  case atStart => exact ⟨0, rfl, Nat.zero_le _, HG.out, HB.out, World.ownsRow_nil _ _ _ _⟩
  case round =>
    clear HB HG
    obtain ⟨k, rfl, hk, hg, hb, hown⟩ := hrel
    have HG := Lib.hid hg; have HB := Lib.hid hb; have HO := Lib.hid hown
    have hcl := cell_of_row _ b0 0 _ _ _ hb
    have cc0 := cell_of_row _ b0 0 _ _ _ hb
    have cc1 := cell_of_row _ b0 1 _ _ _ hb
    have cc2 := cell_of_row _ b0 2 _ _ _ hb
    have cc3 := cell_of_row _ b0 3 _ _ _ hb
    have cc4 := cell_of_row _ b0 4 _ _ _ hb
    have cc5 := cell_of_row _ b0 5 _ _ _ hb
    have cc6 := cell_of_row _ b0 6 _ _ _ hb
    have cc7 := cell_of_row _ b0 7 _ _ _ hb
    have cc8 := cell_of_row _ b0 8 _ _ _ hb
    have cc9 := cell_of_row _ b0 9 _ _ _ hb
    have cc10 := cell_of_row _ b0 10 _ _ _ hb
    have cc11 := cell_of_row _ b0 11 _ _ _ hb
    have cc12 := cell_of_row _ b0 12 _ _ _ hb
    have cc13 := cell_of_row _ b0 13 _ _ _ hb
    have cc14 := cell_of_row _ b0 14 _ _ _ hb
    have cc15 := cell_of_row _ b0 15 _ _ _ hb
    have cc16 := cell_of_row _ b0 16 _ _ _ hb
    have cc17 := cell_of_row _ b0 17 _ _ _ hb
    have cc18 := cell_of_row _ b0 18 _ _ _ hb
    have cc19 := cell_of_row _ b0 19 _ _ _ hb
    have cc20 := cell_of_row _ b0 20 _ _ _ hb
    have cc21 := cell_of_row _ b0 21 _ _ _ hb
    have cc22 := cell_of_row _ b0 22 _ _ _ hb
    have cc23 := cell_of_row _ b0 23 _ _ _ hb
    clear hg hown hcl
    simp only [cor3, List.getElem?_toArray, List.getElem?_cons_zero, List.getElem?_cons_succ] at cc0 cc1 cc2 cc3 cc4 cc5 cc6 cc7 cc8 cc9 cc10 cc11 cc12 cc13 cc14 cc15 cc16 cc17 cc18 cc19 cc20 cc21 cc22 cc23
    clear hb
    obtain rfl | rfl | rfl | rfl | rfl | rfl | rfl | rfl | rfl : k = 0 ∨ k = 1 ∨ k = 2 ∨ k = 3 ∨ k = 4 ∨ k = 5 ∨ k = 6 ∨ k = 7 ∨ k = 8 := by omega
    · clear hk
      have hlt : b0 < wr.heap.size := by
        rcases Nat.lt_or_ge b0 wr.heap.size with h | h
        · exact h
        · have := HB.out; rw [Array.getElem?_eq_none h] at this; cases this
      go_wp2_with fail
      refine (plainP3_calls _ _ _ _).mono ?_
      rintro e w2 ⟨rfl, hg2⟩
      have GG := ((Grow.refl wr).alloc _).trans hg2
      have H2 := Lib.hid (HG.out.trans GG)
      have HB2 := Lib.hid (up_heap3 HB.out GG)
      have HO2 := Lib.hid (ownsRow_up3 HO.out GG)
      clear GG hg2 cc0 cc1 cc2 cc3 cc4 cc5 cc6 cc7 cc8 cc9 cc10 cc11 cc12 cc13 cc14 cc15 cc16 cc17 cc18 cc19 cc20 cc21 cc22 cc23
      go_wp2_with (at_builtin; refine wpList_append_own_at _ rfl _ _ 40 rfl w.heap.size 30 i0 (.agg #[.float .f64 0, .float .f64 0, .float .f64 0]) 3 24 undSP3 HI.out HZ0.out HZ1.out HZ2.out rfl (by decide) _ _ _ rfl (ownsRow_up3 HO2.out ((Grow.refl w2).alloc _)) ⟨w2.heap.size, 0, none⟩ 1 1 [Value.float FloatKind.f64 x, Value.float FloatKind.f64 y, Value.float FloatKind.f64 z] rfl rfl (new_cells3 w2 [Value.float FloatKind.f64 x, Value.float FloatKind.f64 y, Value.float FloatKind.f64 z] 30) (by simp [Value.oneCell']) (by decide) (by decide) (by have := H2.out.size; simp; omega) ?_; intro O5 w5 hown5 hgrow5 hnil5 hwh5)
      have HO5 := Lib.hid hown5
      have H5 := Lib.hid (Below.grown (H2.out.alloc _) hgrow5 (by have := H2.out.size; simp; omega) (fun k e => (HO2.out.lt k e).1))
      have HB5 := Lib.hid ((hgrow5.block b0 (by have := ((Grow.refl w2).alloc (Obj.cells [Value.float FloatKind.f64 x, Value.float FloatKind.f64 y, Value.float FloatKind.f64 z].toArray 30)).size; have h3 : b0 < w2.heap.size := by
                                                  rcases Nat.lt_or_ge b0 w2.heap.size with h | h
                                                  · exact h
                                                  · have := HB2.out; rw [Array.getElem?_eq_none h] at this; cases this
                                                simp; omega) (own_ne3 HO2.out HB2.out (by decide))).trans (up_heap3 HB2.out ((Grow.refl w2).alloc _)))
      clear hown5 hgrow5 hnil5 hwh5
      go_wp2
      go_roundw
      case rel => exact ⟨1, by go_num, by omega, H5.out, HB5.out, HO5.out⟩
      case measure => simp [intOf]
    · clear hk
      have hlt : b0 < wr.heap.size := by
        rcases Nat.lt_or_ge b0 wr.heap.size with h | h
        · exact h
        · have := HB.out; rw [Array.getElem?_eq_none h] at this; cases this
      go_wp2_with fail
      refine (plainP3_calls _ _ _ _).mono ?_
      rintro e w2 ⟨rfl, hg2⟩
      have GG := ((Grow.refl wr).alloc _).trans hg2
      have H2 := Lib.hid (HG.out.trans GG)
      have HB2 := Lib.hid (up_heap3 HB.out GG)
      have HO2 := Lib.hid (ownsRow_up3 HO.out GG)
      clear GG hg2 cc0 cc1 cc2 cc3 cc4 cc5 cc6 cc7 cc8 cc9 cc10 cc11 cc12 cc13 cc14 cc15 cc16 cc17 cc18 cc19 cc20 cc21 cc22 cc23
      go_wp2_with (at_builtin; refine wpList_append_own_at _ rfl _ _ 40 rfl w.heap.size 30 i0 (.agg #[.float .f64 0, .float .f64 0, .float .f64 0]) 3 24 undSP3 HI.out HZ0.out HZ1.out HZ2.out rfl (by decide) _ _ _ rfl (ownsRow_up3 HO2.out ((Grow.refl w2).alloc _)) ⟨w2.heap.size, 0, none⟩ 1 1 [Value.float FloatKind.f64 u, Value.float FloatKind.f64 y, Value.float FloatKind.f64 z] rfl rfl (new_cells3 w2 [Value.float FloatKind.f64 u, Value.float FloatKind.f64 y, Value.float FloatKind.f64 z] 30) (by simp [Value.oneCell']) (by decide) (by decide) (by have := H2.out.size; simp; omega) ?_; intro O5 w5 hown5 hgrow5 hnil5 hwh5)
      have HO5 := Lib.hid hown5
      have H5 := Lib.hid (Below.grown (H2.out.alloc _) hgrow5 (by have := H2.out.size; simp; omega) (fun k e => (HO2.out.lt k e).1))
      have HB5 := Lib.hid ((hgrow5.block b0 (by have := ((Grow.refl w2).alloc (Obj.cells [Value.float FloatKind.f64 u, Value.float FloatKind.f64 y, Value.float FloatKind.f64 z].toArray 30)).size; have h3 : b0 < w2.heap.size := by
                                                  rcases Nat.lt_or_ge b0 w2.heap.size with h | h
                                                  · exact h
                                                  · have := HB2.out; rw [Array.getElem?_eq_none h] at this; cases this
                                                simp; omega) (own_ne3 HO2.out HB2.out (by decide))).trans (up_heap3 HB2.out ((Grow.refl w2).alloc _)))
      clear hown5 hgrow5 hnil5 hwh5
      go_wp2
      go_roundw
      case rel => exact ⟨2, by go_num, by omega, H5.out, HB5.out, HO5.out⟩
      case measure => simp [intOf]
    · clear hk
      have hlt : b0 < wr.heap.size := by
        rcases Nat.lt_or_ge b0 wr.heap.size with h | h
        · exact h
        · have := HB.out; rw [Array.getElem?_eq_none h] at this; cases this
      go_wp2_with fail
      refine (plainP3_calls _ _ _ _).mono ?_
      rintro e w2 ⟨rfl, hg2⟩
      have GG := ((Grow.refl wr).alloc _).trans hg2
      have H2 := Lib.hid (HG.out.trans GG)
      have HB2 := Lib.hid (up_heap3 HB.out GG)
      have HO2 := Lib.hid (ownsRow_up3 HO.out GG)
      clear GG hg2 cc0 cc1 cc2 cc3 cc4 cc5 cc6 cc7 cc8 cc9 cc10 cc11 cc12 cc13 cc14 cc15 cc16 cc17 cc18 cc19 cc20 cc21 cc22 cc23
      go_wp2_with (at_builtin; refine wpList_append_own_at _ rfl _ _ 40 rfl w.heap.size 30 i0 (.agg #[.float .f64 0, .float .f64 0, .float .f64 0]) 3 24 undSP3 HI.out HZ0.out HZ1.out HZ2.out rfl (by decide) _ _ _ rfl (ownsRow_up3 HO2.out ((Grow.refl w2).alloc _)) ⟨w2.heap.size, 0, none⟩ 1 1 [Value.float FloatKind.f64 u, Value.float FloatKind.f64 v, Value.float FloatKind.f64 z] rfl rfl (new_cells3 w2 [Value.float FloatKind.f64 u, Value.float FloatKind.f64 v, Value.float FloatKind.f64 z] 30) (by simp [Value.oneCell']) (by decide) (by decide) (by have := H2.out.size; simp; omega) ?_; intro O5 w5 hown5 hgrow5 hnil5 hwh5)
      have HO5 := Lib.hid hown5
      have H5 := Lib.hid (Below.grown (H2.out.alloc _) hgrow5 (by have := H2.out.size; simp; omega) (fun k e => (HO2.out.lt k e).1))
      have HB5 := Lib.hid ((hgrow5.block b0 (by have := ((Grow.refl w2).alloc (Obj.cells [Value.float FloatKind.f64 u, Value.float FloatKind.f64 v, Value.float FloatKind.f64 z].toArray 30)).size; have h3 : b0 < w2.heap.size := by
                                                  rcases Nat.lt_or_ge b0 w2.heap.size with h | h
                                                  · exact h
                                                  · have := HB2.out; rw [Array.getElem?_eq_none h] at this; cases this
                                                simp; omega) (own_ne3 HO2.out HB2.out (by decide))).trans (up_heap3 HB2.out ((Grow.refl w2).alloc _)))
      clear hown5 hgrow5 hnil5 hwh5
      go_wp2
      go_roundw
      case rel => exact ⟨3, by go_num, by omega, H5.out, HB5.out, HO5.out⟩
      case measure => simp [intOf]
    · clear hk
      have hlt : b0 < wr.heap.size := by
        rcases Nat.lt_or_ge b0 wr.heap.size with h | h
        · exact h
        · have := HB.out; rw [Array.getElem?_eq_none h] at this; cases this
      go_wp2_with fail
      refine (plainP3_calls _ _ _ _).mono ?_
      rintro e w2 ⟨rfl, hg2⟩
      have GG := ((Grow.refl wr).alloc _).trans hg2
      have H2 := Lib.hid (HG.out.trans GG)
      have HB2 := Lib.hid (up_heap3 HB.out GG)
      have HO2 := Lib.hid (ownsRow_up3 HO.out GG)
      clear GG hg2 cc0 cc1 cc2 cc3 cc4 cc5 cc6 cc7 cc8 cc9 cc10 cc11 cc12 cc13 cc14 cc15 cc16 cc17 cc18 cc19 cc20 cc21 cc22 cc23
      go_wp2_with (at_builtin; refine wpList_append_own_at _ rfl _ _ 40 rfl w.heap.size 30 i0 (.agg #[.float .f64 0, .float .f64 0, .float .f64 0]) 3 24 undSP3 HI.out HZ0.out HZ1.out HZ2.out rfl (by decide) _ _ _ rfl (ownsRow_up3 HO2.out ((Grow.refl w2).alloc _)) ⟨w2.heap.size, 0, none⟩ 1 1 [Value.float FloatKind.f64 x, Value.float FloatKind.f64 v, Value.float FloatKind.f64 z] rfl rfl (new_cells3 w2 [Value.float FloatKind.f64 x, Value.float FloatKind.f64 v, Value.float FloatKind.f64 z] 30) (by simp [Value.oneCell']) (by decide) (by decide) (by have := H2.out.size; simp; omega) ?_; intro O5 w5 hown5 hgrow5 hnil5 hwh5)
      have HO5 := Lib.hid hown5
      have H5 := Lib.hid (Below.grown (H2.out.alloc _) hgrow5 (by have := H2.out.size; simp; omega) (fun k e => (HO2.out.lt k e).1))
      have HB5 := Lib.hid ((hgrow5.block b0 (by have := ((Grow.refl w2).alloc (Obj.cells [Value.float FloatKind.f64 x, Value.float FloatKind.f64 v, Value.float FloatKind.f64 z].toArray 30)).size; have h3 : b0 < w2.heap.size := by
                                                  rcases Nat.lt_or_ge b0 w2.heap.size with h | h
                                                  · exact h
                                                  · have := HB2.out; rw [Array.getElem?_eq_none h] at this; cases this
                                                simp; omega) (own_ne3 HO2.out HB2.out (by decide))).trans (up_heap3 HB2.out ((Grow.refl w2).alloc _)))
      clear hown5 hgrow5 hnil5 hwh5
      go_wp2
      go_roundw
      case rel => exact ⟨4, by go_num, by omega, H5.out, HB5.out, HO5.out⟩
      case measure => simp [intOf]
    · clear hk
      have hlt : b0 < wr.heap.size := by
        rcases Nat.lt_or_ge b0 wr.heap.size with h | h
        · exact h
        · have := HB.out; rw [Array.getElem?_eq_none h] at this; cases this
      go_wp2_with fail
      refine (plainP3_calls _ _ _ _).mono ?_
      rintro e w2 ⟨rfl, hg2⟩
      have GG := ((Grow.refl wr).alloc _).trans hg2
      have H2 := Lib.hid (HG.out.trans GG)
      have HB2 := Lib.hid (up_heap3 HB.out GG)
      have HO2 := Lib.hid (ownsRow_up3 HO.out GG)
      clear GG hg2 cc0 cc1 cc2 cc3 cc4 cc5 cc6 cc7 cc8 cc9 cc10 cc11 cc12 cc13 cc14 cc15 cc16 cc17 cc18 cc19 cc20 cc21 cc22 cc23
      go_wp2_with (at_builtin; refine wpList_append_own_at _ rfl _ _ 40 rfl w.heap.size 30 i0 (.agg #[.float .f64 0, .float .f64 0, .float .f64 0]) 3 24 undSP3 HI.out HZ0.out HZ1.out HZ2.out rfl (by decide) _ _ _ rfl (ownsRow_up3 HO2.out ((Grow.refl w2).alloc _)) ⟨w2.heap.size, 0, none⟩ 1 1 [Value.float FloatKind.f64 x, Value.float FloatKind.f64 y, Value.float FloatKind.f64 t] rfl rfl (new_cells3 w2 [Value.float FloatKind.f64 x, Value.float FloatKind.f64 y, Value.float FloatKind.f64 t] 30) (by simp [Value.oneCell']) (by decide) (by decide) (by have := H2.out.size; simp; omega) ?_; intro O5 w5 hown5 hgrow5 hnil5 hwh5)
      have HO5 := Lib.hid hown5
      have H5 := Lib.hid (Below.grown (H2.out.alloc _) hgrow5 (by have := H2.out.size; simp; omega) (fun k e => (HO2.out.lt k e).1))
      have HB5 := Lib.hid ((hgrow5.block b0 (by have := ((Grow.refl w2).alloc (Obj.cells [Value.float FloatKind.f64 x, Value.float FloatKind.f64 y, Value.float FloatKind.f64 t].toArray 30)).size; have h3 : b0 < w2.heap.size := by
                                                  rcases Nat.lt_or_ge b0 w2.heap.size with h | h
                                                  · exact h
                                                  · have := HB2.out; rw [Array.getElem?_eq_none h] at this; cases this
                                                simp; omega) (own_ne3 HO2.out HB2.out (by decide))).trans (up_heap3 HB2.out ((Grow.refl w2).alloc _)))
      clear hown5 hgrow5 hnil5 hwh5
      go_wp2
      go_roundw
      case rel => exact ⟨5, by go_num, by omega, H5.out, HB5.out, HO5.out⟩
      case measure => simp [intOf]
    · clear hk
      have hlt : b0 < wr.heap.size := by
        rcases Nat.lt_or_ge b0 wr.heap.size with h | h
        · exact h
        · have := HB.out; rw [Array.getElem?_eq_none h] at this; cases this
      go_wp2_with fail
      refine (plainP3_calls _ _ _ _).mono ?_
      rintro e w2 ⟨rfl, hg2⟩
      have GG := ((Grow.refl wr).alloc _).trans hg2
      have H2 := Lib.hid (HG.out.trans GG)
      have HB2 := Lib.hid (up_heap3 HB.out GG)
      have HO2 := Lib.hid (ownsRow_up3 HO.out GG)
      clear GG hg2 cc0 cc1 cc2 cc3 cc4 cc5 cc6 cc7 cc8 cc9 cc10 cc11 cc12 cc13 cc14 cc15 cc16 cc17 cc18 cc19 cc20 cc21 cc22 cc23
      go_wp2_with (at_builtin; refine wpList_append_own_at _ rfl _ _ 40 rfl w.heap.size 30 i0 (.agg #[.float .f64 0, .float .f64 0, .float .f64 0]) 3 24 undSP3 HI.out HZ0.out HZ1.out HZ2.out rfl (by decide) _ _ _ rfl (ownsRow_up3 HO2.out ((Grow.refl w2).alloc _)) ⟨w2.heap.size, 0, none⟩ 1 1 [Value.float FloatKind.f64 u, Value.float FloatKind.f64 y, Value.float FloatKind.f64 t] rfl rfl (new_cells3 w2 [Value.float FloatKind.f64 u, Value.float FloatKind.f64 y, Value.float FloatKind.f64 t] 30) (by simp [Value.oneCell']) (by decide) (by decide) (by have := H2.out.size; simp; omega) ?_; intro O5 w5 hown5 hgrow5 hnil5 hwh5)
      have HO5 := Lib.hid hown5
      have H5 := Lib.hid (Below.grown (H2.out.alloc _) hgrow5 (by have := H2.out.size; simp; omega) (fun k e => (HO2.out.lt k e).1))
      have HB5 := Lib.hid ((hgrow5.block b0 (by have := ((Grow.refl w2).alloc (Obj.cells [Value.float FloatKind.f64 u, Value.float FloatKind.f64 y, Value.float FloatKind.f64 t].toArray 30)).size; have h3 : b0 < w2.heap.size := by
                                                  rcases Nat.lt_or_ge b0 w2.heap.size with h | h
                                                  · exact h
                                                  · have := HB2.out; rw [Array.getElem?_eq_none h] at this; cases this
                                                simp; omega) (own_ne3 HO2.out HB2.out (by decide))).trans (up_heap3 HB2.out ((Grow.refl w2).alloc _)))
      clear hown5 hgrow5 hnil5 hwh5
      go_wp2
      go_roundw
      case rel => exact ⟨6, by go_num, by omega, H5.out, HB5.out, HO5.out⟩
      case measure => simp [intOf]
    · clear hk
      have hlt : b0 < wr.heap.size := by
        rcases Nat.lt_or_ge b0 wr.heap.size with h | h
        · exact h
        · have := HB.out; rw [Array.getElem?_eq_none h] at this; cases this
      go_wp2_with fail
      refine (plainP3_calls _ _ _ _).mono ?_
      rintro e w2 ⟨rfl, hg2⟩
      have GG := ((Grow.refl wr).alloc _).trans hg2
      have H2 := Lib.hid (HG.out.trans GG)
      have HB2 := Lib.hid (up_heap3 HB.out GG)
      have HO2 := Lib.hid (ownsRow_up3 HO.out GG)
      clear GG hg2 cc0 cc1 cc2 cc3 cc4 cc5 cc6 cc7 cc8 cc9 cc10 cc11 cc12 cc13 cc14 cc15 cc16 cc17 cc18 cc19 cc20 cc21 cc22 cc23
      go_wp2_with (at_builtin; refine wpList_append_own_at _ rfl _ _ 40 rfl w.heap.size 30 i0 (.agg #[.float .f64 0, .float .f64 0, .float .f64 0]) 3 24 undSP3 HI.out HZ0.out HZ1.out HZ2.out rfl (by decide) _ _ _ rfl (ownsRow_up3 HO2.out ((Grow.refl w2).alloc _)) ⟨w2.heap.size, 0, none⟩ 1 1 [Value.float FloatKind.f64 u, Value.float FloatKind.f64 v, Value.float FloatKind.f64 t] rfl rfl (new_cells3 w2 [Value.float FloatKind.f64 u, Value.float FloatKind.f64 v, Value.float FloatKind.f64 t] 30) (by simp [Value.oneCell']) (by decide) (by decide) (by have := H2.out.size; simp; omega) ?_; intro O5 w5 hown5 hgrow5 hnil5 hwh5)
      have HO5 := Lib.hid hown5
      have H5 := Lib.hid (Below.grown (H2.out.alloc _) hgrow5 (by have := H2.out.size; simp; omega) (fun k e => (HO2.out.lt k e).1))
      have HB5 := Lib.hid ((hgrow5.block b0 (by have := ((Grow.refl w2).alloc (Obj.cells [Value.float FloatKind.f64 u, Value.float FloatKind.f64 v, Value.float FloatKind.f64 t].toArray 30)).size; have h3 : b0 < w2.heap.size := by
                                                  rcases Nat.lt_or_ge b0 w2.heap.size with h | h
                                                  · exact h
                                                  · have := HB2.out; rw [Array.getElem?_eq_none h] at this; cases this
                                                simp; omega) (own_ne3 HO2.out HB2.out (by decide))).trans (up_heap3 HB2.out ((Grow.refl w2).alloc _)))
      clear hown5 hgrow5 hnil5 hwh5
      go_wp2
      go_roundw
      case rel => exact ⟨7, by go_num, by omega, H5.out, HB5.out, HO5.out⟩
      case measure => simp [intOf]
    · clear hk
      have hlt : b0 < wr.heap.size := by
        rcases Nat.lt_or_ge b0 wr.heap.size with h | h
        · exact h
        · have := HB.out; rw [Array.getElem?_eq_none h] at this; cases this
      go_wp2_with fail
      refine (plainP3_calls _ _ _ _).mono ?_
      rintro e w2 ⟨rfl, hg2⟩
      have GG := ((Grow.refl wr).alloc _).trans hg2
      have H2 := Lib.hid (HG.out.trans GG)
      have HB2 := Lib.hid (up_heap3 HB.out GG)
      have HO2 := Lib.hid (ownsRow_up3 HO.out GG)
      clear GG hg2 cc0 cc1 cc2 cc3 cc4 cc5 cc6 cc7 cc8 cc9 cc10 cc11 cc12 cc13 cc14 cc15 cc16 cc17 cc18 cc19 cc20 cc21 cc22 cc23
      go_wp2_with (at_builtin; refine wpList_append_own_at _ rfl _ _ 40 rfl w.heap.size 30 i0 (.agg #[.float .f64 0, .float .f64 0, .float .f64 0]) 3 24 undSP3 HI.out HZ0.out HZ1.out HZ2.out rfl (by decide) _ _ _ rfl (ownsRow_up3 HO2.out ((Grow.refl w2).alloc _)) ⟨w2.heap.size, 0, none⟩ 1 1 [Value.float FloatKind.f64 x, Value.float FloatKind.f64 v, Value.float FloatKind.f64 t] rfl rfl (new_cells3 w2 [Value.float FloatKind.f64 x, Value.float FloatKind.f64 v, Value.float FloatKind.f64 t] 30) (by simp [Value.oneCell']) (by decide) (by decide) (by have := H2.out.size; simp; omega) ?_; intro O5 w5 hown5 hgrow5 hnil5 hwh5)
      have HO5 := Lib.hid hown5
      have H5 := Lib.hid (Below.grown (H2.out.alloc _) hgrow5 (by have := H2.out.size; simp; omega) (fun k e => (HO2.out.lt k e).1))
      have HB5 := Lib.hid ((hgrow5.block b0 (by have := ((Grow.refl w2).alloc (Obj.cells [Value.float FloatKind.f64 x, Value.float FloatKind.f64 v, Value.float FloatKind.f64 t].toArray 30)).size; have h3 : b0 < w2.heap.size := by
                                                  rcases Nat.lt_or_ge b0 w2.heap.size with h | h
                                                  · exact h
                                                  · have := HB2.out; rw [Array.getElem?_eq_none h] at this; cases this
                                                simp; omega) (own_ne3 HO2.out HB2.out (by decide))).trans (up_heap3 HB2.out ((Grow.refl w2).alloc _)))
      clear hown5 hgrow5 hnil5 hwh5
      go_wp2
      go_roundw
      case rel => exact ⟨8, by go_num, by omega, H5.out, HB5.out, HO5.out⟩
      case measure => simp [intOf]
    · go_wp2
      go_ret
      exact ⟨_, rfl, HG.out, HO.out⟩
end Go.Proofs.Ytincapjbhbmeiaa
