import Derived.Test.YtegknlnkkoeahaaKParts
import Derived.Test.YtegknlnkkoeahaaRowsC
import Derived.BigQuiet
import Derived.Deep.QuietTactic
namespace Go.Proofs.Ytegknlnkkoeahaa
open Go.ChangeShapes Go.WideShapes Go.ChangeAt Go.RowKit Go.GrowR
set_option linter.unusedVariables false
set_option linter.unusedSimpArgs false

/-- a fact that hangs on two ranges of blocks *)-/
def Stab2 (a b lo hi : Nat) (X : World → Prop) (w : World) : Prop := ∀ w' : World, (∀ k, (a ≤ k ∧ k < b) ∨ (lo ≤ k ∧ k < hi) → w'.heap[k]? = w.heap[k]?) → X w'
theorem Stab2.move {a b lo hi : Nat} {X : World → Prop} {w w' : World} (h : Stab2 a b lo hi X w) (hw : ∀ k, (a ≤ k ∧ k < b) ∨ (lo ≤ k ∧ k < hi) → w'.heap[k]? = w.heap[k]?) : Stab2 a b lo hi X w' := fun w2 h2 => h w2 fun k h3 => (h2 k h3).trans (hw k h3)
/-- a row under way whose elements hang on blocks ahead of it, too *)-/
structure AppJ (e : TypeId) (a : Nat) (w : World) (V : Value) (us : List Value) (F : Nat → Value → World → Prop) (wr : World) : Prop where
  o : VOwn e w.heap.size V us wr
  g : Grow w wr
  s : ∀ (i : Nat) (u : Value), us[i]? = some u → ∃ lo hi, w.heap.size ≤ lo ∧ hi ≤ wr.heap.size ∧ (∀ g, V.ownBlock = some g → ¬ (lo ≤ g ∧ g < hi)) ∧ Stab2 a w.heap.size lo hi (F i u) wr
theorem AppJ.start (e : TypeId) (a : Nat) (w : World) (F : Nat → Value → World → Prop) : AppJ e a w (.slice none 0 0) [] F w := ⟨VOwn.nil, Grow.refl w, fun i u h => by simp at h⟩
theorem AppJ.step {e : TypeId} {a : Nat} {w : World} {V V' : Value} {us : List Value} {F : Nat → Value → World → Prop} {wr w2 w3 w4 w5 : World} {u : Value} (h : AppJ e a w V us F wr) (h2 : Grow wr w2) (h3 : Grow w2 w3) (hs : Stab2 a w.heap.size w2.heap.size w3.heap.size (F us.length u) w3) (h4 : Grow w3 w4)
    (ho : VOwn e w.heap.size V' (us ++ [u]) w5) (hg : w4.grownBy w5 V.ownBlock) (hv : V'.ownBlock = V.ownBlock ∨ V'.ownBlock = some w4.heap.size) : AppJ e a w V' (us ++ [u]) F w5 := by
  have s2 := h2.size; have s3 := h3.size; have s4 := h4.size; have s5 := hg.size
  have hVo : ∀ g, V.ownBlock = some g → w.heap.size ≤ g := h.o.lt
  have hVh : ∀ g, V.ownBlock = some g → g < wr.heap.size := own_ltH h.o
  have hg24 := (h2.trans h3).trans h4
  have hw := h.g.size
  refine ⟨ho, Below.grown (h.g.trans hg24) hg (by omega) hVo, fun i u' hi => ?_⟩
  rw [List.getElem?_append] at hi
  split at hi
  · obtain ⟨lo, hi', a1, a2, a3, a4⟩ := h.s i u' hi
    refine ⟨lo, hi', a1, by omega, fun g hg' => ?_, a4.move fun k hk => by rw [hg.block k (by omega) (fun e => by have := hVo k e.symm; rcases hk with hk | hk; omega; exact a3 k e.symm hk), hg24.block k (by omega)]⟩
    rcases hv with e | e
    · exact a3 g (e ▸ hg')
    · rw [e] at hg'; cases hg'; omega
  · next hlt =>
    rw [List.getElem?_singleton] at hi
    split at hi
    · next h0 =>
      cases hi
      obtain rfl : i = us.length := by omega
      refine ⟨w2.heap.size, w3.heap.size, by omega, by omega, fun g hg' => ?_, hs.move fun k hk => by rw [hg.block k (by omega) (fun e => by have := hVh k e.symm; have := hVo k e.symm; omega), h4.block k (by omega)]⟩
      rcases hv with e | e
      · have := hVh g (e ▸ hg'); omega
      · rw [e] at hg'; cases hg'; omega
    · cases hi
theorem AppJ.fin {α : Type} {E : α → Value → World → Prop} {xs : List α} {e : TypeId} {a : Nat} {w : World} {V : Value} {us : List Value} {F : Nat → Value → World → Prop} {wr : World} (h : AppJ e a w V us F wr) (ha : a ≤ w.heap.size) (hl : us.length = xs.length) (hF : ∀ (i : Nat) (x : α) (u : Value) (w' : World), xs[i]? = some x → F i u w' → E x u w') : Stab a wr.heap.size (SlE E V xs) wr := fun w2 hw =>
  ⟨us, VOwn.sl (Stab.own h.o (lo := w.heap.size) (Nat.le_refl _) (Nat.le_refl _) w2 (fun k k1 k2 => hw k (by omega) k2)), hl, fun i u x hu hx => by
    obtain ⟨lo, hi, a1, a2, a3, a4⟩ := h.s i u hu
    have := h.g.size
    exact hF i x u w2 hx (a4 w2 fun k hk => hw k (by omega) (by omega))⟩
def RowsF (b o c s K B : Nat) (lo hi : Nat) (V : Value) (w : World) : Prop := B ≤ lo ∧ hi ≤ w.heap.size ∧ Stab lo hi (VSl V (rowsV b o c s K)) w
theorem RowsF.up {b o c s K B lo hi : Nat} {V : Value} : Up (RowsF b o c s K B lo hi V) := fun _ _ ⟨h1, h2, h3⟩ hg => ⟨h1, Nat.le_trans h2 hg.size, h3.grow hg h2⟩
theorem rows_none (A : Option Addr) (c s : Nat) (w : World) (hs : 1 ≤ s) (hs9 : s ≤ 9) : Calls Try.prog 41 #[.slice A 0 c, .int .i64 s] w fun e w' => e = .returned (.slice none 0 0) ∧ w' = w := by
  have h1 : ¬ ((s : Int) ≤ 0) := by omega
  have h2 : (0 : Int) < (s : Int) := by omega
  have h3 : decide ((s : Int) ≤ 0) = false := by simp; omega
  have h4 : decide (s = 0) = false := by simp; omega
  have h5 : ¬ s = 0 := by omega
  go_enter Try.func41, Try.ntmps41
  go_wp2
  go_loop [5, 6] (fun O i => O = .slice none 0 0 ∧ i = .int .i64 0) (fun _ _ => 0)
  case atStart => exact ⟨rfl, rfl⟩
  case round =>
    obtain ⟨rfl, rfl⟩ := hrel
    go_wp2
    go_ret
    exact ⟨rfl, rfl⟩
def PlaceQ (a a1 : Nat) (rows : List (List Nat)) (w : World) (e : Ending) (w' : World) : Prop := ∃ V, e = .returned V ∧ Grow w w' ∧ Stab2 a a1 w.heap.size w'.heap.size (L1 rows V) w'
theorem l1_of {b o c s : Nat} {rows : List (List Nat)} {V : Value} {w : World} (hv : VSl V (rowsV b o c s rows.length) w) (hr : ∀ r ∈ rows, r.length = s) (hc : rows.length * s ≤ c) (hcell : ∀ (i x : Nat), rows.flatten[i]? = some x → w.cell? ⟨b, o + i, none⟩ = some (.float .f64 x)) : L1 rows V w := by
  refine ⟨_, hv, by rw [rowsV_len], fun i u x hu hx => ?_⟩
  have hil : i < rows.length := (List.getElem?_eq_some_iff.1 hx).1
  have hu' : u = .slice (some ⟨b, o + i * s, none⟩) s (c - i * s) := by
    unfold rowsV at hu
    rw [List.getElem?_map, List.getElem?_range hil] at hu
    cases hu; rfl
  have hxl := hr x (List.mem_of_getElem? hx)
  have hle : (i + 1) * s ≤ rows.length * s := Nat.mul_le_mul_right s hil
  rw [Nat.add_mul, Nat.one_mul] at hle
  rw [hu']
  refine ⟨some ⟨b, o + i * s, none⟩, c - i * s, by rw [hxl], by omega, .inr ⟨b, o + i * s, rfl, fun j y hj => ?_⟩⟩
  have hjl : j < s := by have := (List.getElem?_eq_some_iff.1 hj).1; omega
  have hsp : rows.flatten = (rows.take i).flatten ++ x ++ (rows.drop (i + 1)).flatten := by
    have h1 : rows.drop i = x :: rows.drop (i + 1) := by
      obtain ⟨hq', rfl⟩ := List.getElem?_eq_some_iff.1 hx
      exact List.drop_eq_getElem_cons hq'
    conv => lhs; rw [← List.take_append_drop i rows, h1]
    simp [List.append_assoc]
  have htl : (rows.take i).flatten.length = i * s := by
    rw [flat_len (s := s) (fun r h => hr r (List.mem_of_mem_take h)), List.length_take, Nat.min_eq_left (by omega)]
  have := hcell (i * s + j) y (by rw [hsp, List.append_assoc, List.getElem?_append_right (by omega), htl, List.getElem?_append_left (by have := (List.getElem?_eq_some_iff.1 hj).1; omega), ← hj]; congr 1; omega)
  rwa [← Nat.add_assoc] at this

set_option maxRecDepth 100000 in
set_option maxHeartbeats 8000000 in
theorem gPlaces_some (k l r : Int) (b o n c : Nat) (A2 A3 A4 : Option Addr) (n2 c2 n3 c3 n4 c4 : Nat) (s a a1 : Nat) (rows : List (List Nat)) (w : World) (hk4 : k ≠ 4) (hls : strideN l = s) (hs : 1 ≤ s) (hs9 : s ≤ 9) (hr : ∀ r ∈ rows, r.length = s) (hnn : n = rows.length * s) (hn : n ≤ 2147483647) (hc0 : n ≤ c)
    (ha1 : a1 ≤ w.heap.size) (hst : Stab a a1 (fun w' => ∀ (i x : Nat), rows.flatten[i]? = some x → w'.cell? ⟨b, o + i, none⟩ = some (.float .f64 x)) w) :
    Calls Try.prog 68 #[Geo7 k l r (some ⟨b, o, none⟩) n c A2 n2 c2 A3 n3 c3 A4 n4 c4] w (PlaceQ a a1 rows w) := by
  have HLS := Lib.hid hls; have HR := Lib.hid hr; have HST := Lib.hid hst; have HN := Lib.hid hnn
  clear hls hr hst hnn
  have ek : (k != 4) = true := by simpa using hk4
  clear hk4
  go_enter Try.func68, Try.ntmps68
  go_wp2
  refine wp_region_grow (fun i => if i = 4 then some (fun _ _ => (fun V _ => V = .int .i64 s)) else if i = 5 then some (fun lo hi V ww => RowsF b o c s rows.length (w.heap.size + 1) lo hi V ww) else none) (by kernel_rfl) (by kernel_rfl) ?_ ?_
  · intro i Φ h lo hi v
    (repeat' split at h) <;> cases h
    · exact fun _ _ h _ => h
    · exact RowsF.up
  repeat (first
    | (refine wpGrow_skip (by rfl) ?_; simp only [Act.put, List.setIfInBounds_toArray, List.set_cons_zero, List.set_cons_succ, Nat.reduceAdd])
    | (refine wpGrow_det' (by rfl) (by rfl) ?_; apply Exists.intro; refine ⟨fun w' hc hh => ?_, ?_⟩; (have hcell := grow_cell hc; clear hc hh; go_simp; rfl); simp only [Act.put, List.setIfInBounds_toArray, List.set_cons_zero, List.set_cons_succ, Nat.reduceAdd]))
  refine wpGrow_eff' (by rfl) (by rfl) (fun w' hc hh => ?_) (fun v lo hi w' hap hc hh hv => ?_)
  · clear hc hh
    go_simp
    go_at_call 22
    refine (strideS l s _ HLS.out).mono ?_
    rintro e w2 ⟨rfl, rfl⟩
    exact EffPost.mk (Grow.refl _) rfl
  obtain rfl := hv
  clear hc hh hap w'
  simp only [Act.put, List.setIfInBounds_toArray, List.set_cons_zero, List.set_cons_succ, Nat.reduceAdd]
  repeat (first
    | (refine wpGrow_skip (by rfl) ?_; simp only [Act.put, List.setIfInBounds_toArray, List.set_cons_zero, List.set_cons_succ, Nat.reduceAdd])
    | (refine wpGrow_det' (by rfl) (by rfl) ?_; apply Exists.intro; refine ⟨fun w' hc hh => ?_, ?_⟩; (have hcell := grow_cell hc; clear hc hh; go_simp; rfl); simp only [Act.put, List.setIfInBounds_toArray, List.set_cons_zero, List.set_cons_succ, Nat.reduceAdd]))
  refine wpGrow_eff' (by rfl) (by rfl) (fun w' hc hh => ?_) (fun v lo hi w' hap hc hh hv => ?_)
  · have HSZ := Lib.hid hc.size
    clear hc hh
    go_simp
    go_at_call 41
    refine (rows_calls b o c _ s rows.length _ (by omega) hs9 HN.out hn hc0).mono ?_
    rintro e w2 ⟨V, rfl, hg, hown⟩
    exact EffPost.mk hg ⟨by simpa using HSZ.out, Nat.le_refl _, (Stab.own hown (Nat.le_refl _) (Nat.le_refl _)).imp fun w' h => VOwn.sl h⟩
  clear hv
  clear hc hh hap w'
  simp only [Act.put, List.setIfInBounds_toArray, List.set_cons_zero, List.set_cons_succ, Nat.reduceAdd]
  repeat (first
    | (refine wpGrow_skip (by rfl) ?_; simp only [Act.put, List.setIfInBounds_toArray, List.set_cons_zero, List.set_cons_succ, Nat.reduceAdd])
    | (refine wpGrow_det' (by rfl) (by rfl) ?_; apply Exists.intro; refine ⟨fun w' hc hh => ?_, ?_⟩; (have hcell := grow_cell hc; clear hc hh; go_simp; rfl); simp only [Act.put, List.setIfInBounds_toArray, List.set_cons_zero, List.set_cons_succ, Nat.reduceAdd]))
  refine wpGrow_nil ?_
  intro w1 hg hh
  obtain ⟨lo9, hi9, hf9⟩ : ∃ lo hi, RowsF b o c s rows.length (w.heap.size + 1) lo hi _ w1 := ⟨_, _, (hh 5).1⟩
  have HF := Lib.hid hf9
  have HG := Lib.hid (((Grow.refl w).alloc _).trans hg)
  clear hh hg hf9
  go_wp2
  go_ret
  refine ⟨_, rfl, HG.out, fun w2 hw => ?_⟩
  obtain ⟨f1, f2, f3⟩ := HF.out
  refine l1_of (b := b) (o := o) (c := c) (s := s) (f3 w2 fun k k1 k2 => hw k (.inr ⟨by omega, by omega⟩)) HR.out (by rw [← HN.out]; exact hc0) (HST.out w2 fun k k1 k2 => ?_)
  rw [hw k (.inl ⟨k1, k2⟩)]
  exact HG.out.block k (by omega)

set_option maxRecDepth 100000 in
set_option maxHeartbeats 8000000 in
theorem gPlaces_none (k l r : Int) (A1 : Option Addr) (c : Nat) (A2 A3 A4 : Option Addr) (n2 c2 n3 c3 n4 c4 : Nat) (s a a1 : Nat) (w : World) (hk4 : k ≠ 4) (hls : strideN l = s) (hs : 1 ≤ s) (hs9 : s ≤ 9) :
    Calls Try.prog 68 #[Geo7 k l r A1 0 c A2 n2 c2 A3 n3 c3 A4 n4 c4] w (PlaceQ a a1 [] w) := by
  have HLS := Lib.hid hls
  clear hls
  have ek : (k != 4) = true := by simpa using hk4
  clear hk4
  go_enter Try.func68, Try.ntmps68
  go_wp2
  refine wp_region_grow (fun i => if i = 4 then some (fun _ _ => (fun V _ => V = .int .i64 s)) else if i = 5 then some (fun _ _ => (fun V _ => V = .slice none 0 0)) else none) (by kernel_rfl) (by kernel_rfl) ?_ ?_
  · intro i Φ h lo hi v
    (repeat' split at h) <;> cases h
    · exact fun _ _ h _ => h
    · exact fun _ _ h _ => h
  repeat (first
    | (refine wpGrow_skip (by rfl) ?_; simp only [Act.put, List.setIfInBounds_toArray, List.set_cons_zero, List.set_cons_succ, Nat.reduceAdd])
    | (refine wpGrow_det' (by rfl) (by rfl) ?_; apply Exists.intro; refine ⟨fun w' hc hh => ?_, ?_⟩; (have hcell := grow_cell hc; clear hc hh; go_simp; rfl); simp only [Act.put, List.setIfInBounds_toArray, List.set_cons_zero, List.set_cons_succ, Nat.reduceAdd]))
  refine wpGrow_eff' (by rfl) (by rfl) (fun w' hc hh => ?_) (fun v lo hi w' hap hc hh hv => ?_)
  · clear hc hh
    go_simp
    go_at_call 22
    refine (strideS l s _ HLS.out).mono ?_
    rintro e w2 ⟨rfl, rfl⟩
    exact EffPost.mk (Grow.refl _) rfl
  obtain rfl := hv
  clear hc hh hap w'
  simp only [Act.put, List.setIfInBounds_toArray, List.set_cons_zero, List.set_cons_succ, Nat.reduceAdd]
  repeat (first
    | (refine wpGrow_skip (by rfl) ?_; simp only [Act.put, List.setIfInBounds_toArray, List.set_cons_zero, List.set_cons_succ, Nat.reduceAdd])
    | (refine wpGrow_det' (by rfl) (by rfl) ?_; apply Exists.intro; refine ⟨fun w' hc hh => ?_, ?_⟩; (have hcell := grow_cell hc; clear hc hh; go_simp; rfl); simp only [Act.put, List.setIfInBounds_toArray, List.set_cons_zero, List.set_cons_succ, Nat.reduceAdd]))
  refine wpGrow_eff' (by rfl) (by rfl) (fun w' hc hh => ?_) (fun v lo hi w' hap hc hh hv => ?_)
  · clear hc hh
    go_simp
    go_at_call 41
    refine (rows_none A1 c s _ (by omega) hs9).mono ?_
    rintro e w2 ⟨rfl, rfl⟩
    exact EffPost.mk (Grow.refl _) rfl
  obtain rfl := hv
  clear hc hh hap w'
  simp only [Act.put, List.setIfInBounds_toArray, List.set_cons_zero, List.set_cons_succ, Nat.reduceAdd]
  repeat (first
    | (refine wpGrow_skip (by rfl) ?_; simp only [Act.put, List.setIfInBounds_toArray, List.set_cons_zero, List.set_cons_succ, Nat.reduceAdd])
    | (refine wpGrow_det' (by rfl) (by rfl) ?_; apply Exists.intro; refine ⟨fun w' hc hh => ?_, ?_⟩; (have hcell := grow_cell hc; clear hc hh; go_simp; rfl); simp only [Act.put, List.setIfInBounds_toArray, List.set_cons_zero, List.set_cons_succ, Nat.reduceAdd]))
  refine wpGrow_nil ?_
  intro w1 hg hh
  have HG := Lib.hid (((Grow.refl w).alloc _).trans hg)
  clear hh hg
  go_wp2
  go_ret
  exact ⟨_, rfl, HG.out, fun w2 hw => ⟨[], ⟨none, 0, rfl, Nat.le_refl _, .inl rfl⟩, All2.nil⟩⟩

theorem gPlaces_ring (k l r : Int) (rows : List (List Nat)) (v : Value) (s a a1 : Nat) (w : World) (ha1 : a1 ≤ w.heap.size) (hst : Stab a a1 (GV (.mk k l r rows.flatten [] [] []) v) w) (hk4 : k ≠ 4) (hls : strideN l = s) (hs : 1 ≤ s) (hs9 : s ≤ 9) (hr : ∀ r ∈ rows, r.length = s) (hn : rows.flatten.length ≤ 2147483647) :
    Calls Try.prog 68 #[v] w (PlaceQ a a1 rows w) := by
  have hgv := hst.now
  unfold GV at hgv
  obtain ⟨u, e1, e2, A4, c4, rfl, -, hf, he1, he2, -⟩ := hgv
  obtain ⟨A2, c2, rfl, -, -⟩ := SlE.form he1
  obtain ⟨A3, c3, rfl, -, -⟩ := SlE.form he2
  obtain ⟨A1, c1, rfl, hc1, hA⟩ := hf
  have hfl := flat_len hr
  by_cases h0 : rows = []
  · subst h0
    exact gPlaces_none k l r A1 c1 A2 A3 A4 _ c2 _ c3 _ c4 s a a1 w hk4 hls hs hs9
  · have hpos : 0 < rows.length := List.length_pos_iff.2 h0
    have hms : 1 * 1 ≤ rows.length * s := Nat.mul_le_mul hpos hs
    rcases hA with hA | ⟨b, o, rfl, hcell⟩
    · rw [hA] at hfl; simp at hfl; omega
    refine gPlaces_some k l r b o _ c1 A2 A3 A4 _ c2 _ c3 _ c4 s a a1 rows w hk4 hls hs hs9 hr hfl hn hc1 ha1 fun w2 hw => ?_
    have h2 := hst w2 hw
    unfold GV at h2
    obtain ⟨u, e1, e2, A4', c4', he, -, hf2, -⟩ := h2
    simp only [Value.agg.injEq, Array.mk.injEq, List.cons.injEq] at he
    obtain ⟨-, -, -, rfl, -⟩ := he
    obtain ⟨A9, c9, he9, -, h9⟩ := hf2
    simp only [Value.slice.injEq] at he9
    obtain ⟨rfl, -, rfl⟩ := he9
    rcases h9 with h9 | ⟨b9, o9, h9, h10⟩
    · rw [h9] at hfl; simp at hfl; omega
    · cases h9; exact h10

theorem infoPs2 : (Try.prog.info? 73).map (fun i => (i.zero, i.size, i.bytes)) = some (some (.slice none 0 0), 1, 24) := by kernel_rfl
theorem undPs2 : Try.prog.underlying 68 = some (.slice 73) := by kernel_rfl
theorem infoPs3 : (Try.prog.info? 68).map (fun i => (i.zero, i.size, i.bytes)) = some (some (.slice none 0 0), 1, 24) := by kernel_rfl
theorem undPs3 : Try.prog.underlying 31 = some (.slice 68) := by kernel_rfl
set_option maxRecDepth 100000 in
set_option maxHeartbeats 8000000 in
theorem gPlacess_calls (k l r : Int) (A1 A2 A3 A4 : Option Addr) (n1 c1 n2 c2 n3 c3 n4 c4 : Nat) (s : Nat) (segs : List (List (List Nat))) (w : World) (hls : strideN l = s) (hs : 1 ≤ s) (hs9 : s ≤ 9) (hr : ∀ rows ∈ segs, ∀ r ∈ rows, r.length = s) (hsl : segs.length ≤ 1000000000) (hrl : ∀ rows ∈ segs, rows.flatten.length ≤ 2147483647)
    (hparts : ∀ w', Grow w w' → Calls Try.prog 37 #[Geo7 k l r A1 n1 c1 A2 n2 c2 A3 n3 c3 A4 n4 c4] w' (MQB (PartsV (segs.map fun rows => GT.mk 8 l 0 rows.flatten [] [] [])) w')) :
    Calls Try.prog 38 #[Geo7 k l r A1 n1 c1 A2 n2 c2 A3 n3 c3 A4 n4 c4] w (MQ (L2 segs) w) := by
  obtain ⟨i0, hi, hz0, hz1, hz2⟩ := info_parts infoPs2
  have HI := Lib.hid hi; have HZ0 := Lib.hid hz0; have HZ1 := Lib.hid hz1; have HZ2 := Lib.hid hz2; clear hi hz0 hz1 hz2
  have HP := Lib.hid hparts; have HR := Lib.hid hr; have HRL := Lib.hid hrl; have HLS := Lib.hid hls
  clear hparts hr hrl hls
  go_enter Try.func38, Try.ntmps38
  go_wp2_with fail
  refine (HP.out _ ((Grow.refl w).alloc _)).mono ?_
  rintro e W ⟨V, rfl, hgW, hstW, hbW⟩
  have hpv := hstW.now
  obtain ⟨AV, cV, rfl, hcV, hAV⟩ := hpv
  have HGW := Lib.hid hgW; have HST := Lib.hid hstW; have HBW := Lib.hid hbW; have HAV := Lib.hid hAV
  have hwsz : w.heap.size ≤ W.heap.size := by have := hgW.size; simp at this; omega
  have hml : (segs.map fun rows => GT.mk 8 l 0 rows.flatten [] [] []).length = segs.length := List.length_map _
  rw [hml] at HST hcV
  have HML := Lib.hid hml
  clear hgW hstW hbW hAV hml
  simp only [List.length_map]
  go_wp2
  go_loopw [3, 5, 9] (fun O _ vi wr => ∃ us : List Value, us.length ≤ segs.length ∧ vi = .int .i64 us.length ∧ AppJ 73 w.heap.size W O us (fun i u w' => ∀ rows, segs[i]? = some rows → L1 rows u w') wr) (fun _ _ vi _ => (segs.length - intOf vi).toNat)
  case atStart => exact ⟨[], Nat.zero_le _, rfl, AppJ.start _ _ _ _⟩
  case round =>
    obtain ⟨us, hk, rfl, hap⟩ := hrel
    have HAP := Lib.hid hap; have HG := Lib.hid hap.g
    clear hap
    by_cases hlt : us.length < segs.length
    · obtain ⟨rows, hrows⟩ : ∃ p, segs[us.length]? = some p := ⟨segs[us.length], by simp [hlt]⟩
      have hgi : (segs.map fun rows => GT.mk 8 l 0 rows.flatten [] [] [])[us.length]? = some (GT.mk 8 l 0 rows.flatten [] [] []) := by rw [List.getElem?_map, hrows]; rfl
      rcases HAV.out with h0 | ⟨b, o, rfl, -⟩
      · exfalso; have := congrArg List.length h0; rw [HML.out] at this; simp at this; rw [this] at hlt; simp at hlt
      obtain ⟨hb1, hb2⟩ := HBW.out b rfl
      have hst := HST.out
      rw [← HML.out] at hst
      obtain ⟨k', l', r', B1, m1, d1, B2, m2, d2, B3, m3, d3, B4, m4, d4, h7, hgv⟩ := part_stab hst hb1 hb2 hgi
      obtain ⟨k0, k1, k2, k3, k4, k5, k6⟩ := Seven.up _ _ h7 HG.out
      have hrw := HR.out rows (List.mem_of_getElem? hrows)
      have HC := Lib.hid (fun w' (hw : Grow wr w') => gPlaces_ring 8 l 0 rows _ s w.heap.size W.heap.size w' (by have := HG.out.size; have := hw.size; omega) (((hgv.wide (by simp) (Nat.le_refl _)).grow HG.out (Nat.le_refl _)).grow hw HG.out.size) (by decide) HLS.out hs hs9 hrw (HRL.out rows (List.mem_of_getElem? hrows)))
      have HRW := Lib.hid hrows
      have hsw := HG.out.size
      have hq1 : IntKind.i64.wrap ((us.length : Int) + 1) = (us.length : Int) + 1 := IntWalk.i64_in _ (by omega)
      have HSTP := Lib.hid (fun (w2 w3 w4 w5 : World) (V' u' : Value) (h2 : Grow wr w2) (h3 : Grow w2 w3) (hs : Stab2 w.heap.size W.heap.size w2.heap.size w3.heap.size (L1 rows u') w3) h4 ho hg hv => HAP.out.step (w2 := w2) (w3 := w3) (w4 := w4) (w5 := w5) (V' := V') (u := u') h2 h3 (fun w6 hw6 z hz => by rw [HRW.out] at hz; cases hz; exact hs w6 hw6) h4 ho hg hv)
      clear hrows hgi hst h7 hgv hrw
      go_wp2_with (first
        | (go_at_call 68; refine (HC.out _ ((Grow.refl wr).alloc _)).mono ?_; rintro e w2 ⟨V2, rfl, hg2, hst2⟩; obtain ⟨A9, c9, h9⟩ := (hst2 _ (fun _ _ => rfl)).form; subst h9; have HG2 := Lib.hid hg2; have HS2 := Lib.hid hst2; clear hg2 hst2)
        | (at_builtin; refine wpList_append_vsl rfl _ _ 68 rfl W.heap.size 73 i0 (.slice none 0 0) 24 undPs2 HI.out HZ0.out HZ1.out HZ2.out rfl rfl (VOwn.up _ _ (VOwn.up _ _ HAP.out.o (((Grow.refl wr).alloc _).trans HG2.out)) ((Grow.refl w2).alloc _)) rfl (VSl.one (u := .slice A9 rows.length c9) (by go_simp)) (by intro x hx; simp at hx; subst hx; rfl) (by simp [maxLen] at *; omega) (by simp at *; omega) (by have := HG2.out.size; simp at *; omega) ?_; intro O5 w5 hown5 hgrow5 hwh5; have H5 := Lib.hid (HSTP.out _ _ _ _ _ _ ((Grow.refl _).alloc _) HG2.out HS2.out ((Grow.refl _).alloc _) hown5 hgrow5 hwh5); clear hown5 hgrow5 hwh5))
      go_roundw
      case rel => exact ⟨us ++ [.slice A9 rows.length c9], by simp; omega, by first | go_num | (simp <;> omega), H5.out⟩
      case measure => simp [intOf]; omega
    · go_wp2
      go_ret
      exact ⟨_, rfl, ((Grow.refl w).alloc _).trans (HGW.out.trans HG.out), HAP.out.fin hwsz (by omega) (fun i x u w' hx h => h x hx)⟩
set_option maxRecDepth 100000 in
set_option maxHeartbeats 8000000 in
theorem gPlacesss_calls (k l r : Int) (A1 A2 A3 A4 : Option Addr) (n1 c1 n2 c2 n3 c3 n4 c4 : Nat) (gs : List GT) (segss : List (List (List (List Nat)))) (w : World) (hgl : gs.length = segss.length) (hsl : segss.length ≤ 1000000000)
    (hparts : ∀ w', Grow w w' → Calls Try.prog 37 #[Geo7 k l r A1 n1 c1 A2 n2 c2 A3 n3 c3 A4 n4 c4] w' (MQB (PartsV gs) w'))
    (hpl : ∀ (i : Nat) (g : GT) (segs : List (List (List Nat))) (v : Value) w', gs[i]? = some g → segss[i]? = some segs → GV g v w' → Calls Try.prog 38 #[v] w' (MQ (L2 segs) w')) :
    Calls Try.prog 11 #[Geo7 k l r A1 n1 c1 A2 n2 c2 A3 n3 c3 A4 n4 c4] w (MQ (L3 segss) w) := by
  obtain ⟨i0, hi, hz0, hz1, hz2⟩ := info_parts infoPs3
  have HI := Lib.hid hi; have HZ0 := Lib.hid hz0; have HZ1 := Lib.hid hz1; have HZ2 := Lib.hid hz2; clear hi hz0 hz1 hz2
  have HP := Lib.hid hparts; have HPL := Lib.hid hpl; have HGL := Lib.hid hgl
  clear hparts hpl hgl
  go_enter Try.func11, Try.ntmps11
  go_wp2_with fail
  refine (HP.out _ ((Grow.refl w).alloc _)).mono ?_
  rintro e W ⟨V, rfl, hgW, hstW, -⟩
  obtain ⟨AV, cV, rfl, hcV, hAV⟩ := hstW.now
  have HGW := Lib.hid hgW; have HAV := Lib.hid hAV
  have hwsz : w.heap.size ≤ W.heap.size := by have := hgW.size; simp at this; omega
  rw [HGL.out] at hcV ⊢
  clear hgW hstW hAV
  go_wp2
  go_loopw [3, 5, 9] (fun O _ vi wr => ∃ us : List Value, us.length ≤ segss.length ∧ vi = .int .i64 us.length ∧ AppI 68 W O us (fun i u w' => ∀ segs, segss[i]? = some segs → L2 segs u w') wr) (fun _ _ vi _ => (segss.length - intOf vi).toNat)
  case atStart => exact ⟨[], Nat.zero_le _, rfl, AppI.start _ _ _⟩
  case round =>
    obtain ⟨us, hk, rfl, hap⟩ := hrel
    have HAP := Lib.hid hap; have HG := Lib.hid hap.g
    clear hap
    by_cases hlt : us.length < segss.length
    · obtain ⟨segs, hsegs⟩ : ∃ p, segss[us.length]? = some p := ⟨segss[us.length], by simp [hlt]⟩
      obtain ⟨g, hg0⟩ : ∃ p, gs[us.length]? = some p := ⟨gs[us.length]'(by have := HGL.out; omega), by have := HGL.out; simp [show us.length < gs.length by omega]⟩
      rcases HAV.out with h0 | ⟨b, o, rfl, hgk⟩
      · exfalso; have := HGL.out; rw [h0] at this; simp at this; omega
      obtain ⟨k', l', r', B1, m1, d1, B2, m2, d2, B3, m3, d3, B4, m4, d4, h7, hgv⟩ := kid_at hgk hg0
      obtain ⟨k0, k1, k2, k3, k4, k5, k6⟩ := Seven.up _ _ h7 HG.out
      have HC := Lib.hid (fun w' (hw : Grow wr w') => HPL.out _ g segs _ w' hg0 hsegs (GV.up _ _ _ _ hgv (HG.out.trans hw)))
      have HRW := Lib.hid hsegs
      have hsw := HG.out.size
      have hq1 : IntKind.i64.wrap ((us.length : Int) + 1) = (us.length : Int) + 1 := IntWalk.i64_in _ (by omega)
      have HSTP := Lib.hid (fun (w2 w3 w4 w5 : World) (V' u' : Value) (h2 : Grow wr w2) (h3 : Grow w2 w3) (hs : Stab w2.heap.size w3.heap.size (L2 segs u') w3) h4 ho hg hv => HAP.out.step (w2 := w2) (w3 := w3) (w4 := w4) (w5 := w5) (V' := V') (u := u') h2 h3 (hs.imp fun w' h z hz => by rw [HRW.out] at hz; cases hz; exact h) h4 ho hg hv)
      clear hsegs hg0 hgk h7 hgv
      go_wp2_with (first
        | (go_at_call 38; refine (HC.out _ ((Grow.refl wr).alloc _)).mono ?_; rintro e w2 ⟨V2, rfl, hg2, hst2⟩; obtain ⟨A9, c9, h9⟩ := hst2.now.form; subst h9; have HG2 := Lib.hid hg2; have HS2 := Lib.hid hst2; clear hg2 hst2)
        | (at_builtin; refine wpList_append_vsl rfl _ _ 31 rfl W.heap.size 68 i0 (.slice none 0 0) 24 undPs3 HI.out HZ0.out HZ1.out HZ2.out rfl rfl (VOwn.up _ _ (VOwn.up _ _ HAP.out.o (((Grow.refl wr).alloc _).trans HG2.out)) ((Grow.refl w2).alloc _)) rfl (VSl.one (u := .slice A9 segs.length c9) (by go_simp)) (by intro x hx; simp at hx; subst hx; rfl) (by simp [maxLen] at *; omega) (by simp at *; omega) (by have := HG2.out.size; simp at *; omega) ?_; intro O5 w5 hown5 hgrow5 hwh5; have H5 := Lib.hid (HSTP.out _ _ _ _ _ _ ((Grow.refl _).alloc _) HG2.out HS2.out ((Grow.refl _).alloc _) hown5 hgrow5 hwh5); clear hown5 hgrow5 hwh5))
      go_roundw
      case rel => exact ⟨us ++ [.slice A9 segs.length c9], by simp; omega, by first | go_num | (simp <;> omega), H5.out⟩
      case measure => simp [intOf]; omega
    · go_wp2
      go_ret
      exact ⟨_, rfl, ((Grow.refl w).alloc _).trans (HGW.out.trans HG.out), (HAP.out.fin (by omega) (fun i x u w' hx h => h x hx)).wide hwsz (Nat.le_refl _)⟩
end Go.Proofs.Ytegknlnkkoeahaa
