import Derived.Test.YtdcchejehomicaaTsA
import Derived.Test.YtdcchejehomicaaFrf
namespace Go.Proofs.Ytdcchejehomicaa
open Go.ChangeShapes Go.WideShapes Go.ChangeAt Go.RowKit Go.GrowR
set_option linter.unusedVariables false
set_option linter.unusedSimpArgs false

/-- a place that is read: it hangs on the blocks from lo up to hi -/
def VS (lo hi n : Nat) (V : Value) (r : List Nat) (w : World) : Prop := ∃ A c, V = .slice A n c ∧ n = r.length ∧ Stab lo hi (FSl (.slice A n c) r) w
theorem VS.move {lo hi n : Nat} {V : Value} {r : List Nat} {w w' : World} (h : VS lo hi n V r w) (hw : ∀ k, lo ≤ k → k < hi → w'.heap[k]? = w.heap[k]?) : VS lo hi n V r w' := by
  obtain ⟨A, c, h1, h2, h3⟩ := h; exact ⟨A, c, h1, h2, h3.move hw⟩
structure NC (b : Nat) (lv V rv : Value) (w : World) : Prop where
  c0 : w.cell? ⟨b, 0, none⟩ = some lv
  c1 : w.cell? ⟨b, 1, none⟩ = some V
  c2 : w.cell? ⟨b, 2, none⟩ = some rv
  fz : ∀ o, w.frozen? ⟨b, o, none⟩ = false
theorem NC.move {b : Nat} {lv V rv : Value} {w w' : World} (h : NC b lv V rv w) (hb : w'.heap[b]? = w.heap[b]?) : NC b lv V rv w' :=
  ⟨(World.cell?_of_block hb).trans h.c0, (World.cell?_of_block hb).trans h.c1, (World.cell?_of_block hb).trans h.c2, fun o => (World.frozen?_of_block hb).trans (h.fz o)⟩
/-- a tree, its nodes on the blocks F, each met once -/
def NT (lo hi n : Nat) : BT → Value → List Nat → World → Prop
  | .leaf, v, F, _ => v = .pointer none ∧ F = []
  | .node l r t, v, F, w => ∃ b V lv rv Fl Fr, v = .pointer (some ⟨b, 0, none⟩) ∧ F = b :: (Fl ++ Fr) ∧ F.Nodup ∧ NC b lv V rv w ∧ VS lo hi n V r w ∧ ¬ (lo ≤ b ∧ b < hi) ∧ NT lo hi n l lv Fl w ∧ NT lo hi n t rv Fr w
namespace NT
variable {lo hi n : Nat}
theorem move : ∀ {t : BT} {v : Value} {F : List Nat} {w w' : World}, NT lo hi n t v F w → (∀ k ∈ F, w'.heap[k]? = w.heap[k]?) → (∀ k, lo ≤ k → k < hi → w'.heap[k]? = w.heap[k]?) → NT lo hi n t v F w'
  | .leaf, _, _, _, _, h, _, _ => h
  | .node l r t, v, F, w, w', ⟨b, V, lv, rv, Fl, Fr, h1, h2, h3, h4, h5, h6, h7, h8⟩, hF, hV => by
    subst h2
    exact ⟨b, V, lv, rv, Fl, Fr, h1, rfl, h3, h4.move (hF b (by simp)), h5.move hV, h6, move h7 (fun k hk => hF k (by simp [hk])) hV, move h8 (fun k hk => hF k (by simp [hk])) hV⟩
theorem lt : ∀ {t : BT} {v : Value} {F : List Nat} {w : World}, NT lo hi n t v F w → ∀ k ∈ F, k < w.heap.size
  | .leaf, _, _, _, h, k, hk => by rw [h.2] at hk; cases hk
  | .node l r t, v, F, w, ⟨b, V, lv, rv, Fl, Fr, h1, h2, h3, h4, h5, h6, h7, h8⟩, k, hk => by
    subst h2
    simp only [List.mem_cons, List.mem_append] at hk
    rcases hk with rfl | hk | hk
    · exact cell_ltH h4.c0
    · exact lt h7 k hk
    · exact lt h8 k hk
theorem out : ∀ {t : BT} {v : Value} {F : List Nat} {w : World}, NT lo hi n t v F w → ∀ k ∈ F, ¬ (lo ≤ k ∧ k < hi)
  | .leaf, _, _, _, h, k, hk => by rw [h.2] at hk; cases hk
  | .node l r t, v, F, w, ⟨b, V, lv, rv, Fl, Fr, h1, h2, h3, h4, h5, h6, h7, h8⟩, k, hk => by
    subst h2
    simp only [List.mem_cons, List.mem_append] at hk
    rcases hk with rfl | hk | hk
    · exact h6
    · exact out h7 k hk
    · exact out h8 k hk
theorem nodup {t : BT} {v : Value} {F : List Nat} {w : World} (h : NT lo hi n t v F w) : F.Nodup := by
  cases t with
  | leaf => rw [h.2]; exact .nil
  | node l r t => obtain ⟨b, V, lv, rv, Fl, Fr, h1, h2, h3, -⟩ := h; exact h3
theorem isP {t : BT} {v : Value} {F : List Nat} {w : World} (h : NT lo hi n t v F w) : ∃ a, v = .pointer a := by
  cases t with
  | leaf => exact ⟨none, h.1⟩
  | node l r t => obtain ⟨b, V, lv, rv, Fl, Fr, h1, -⟩ := h; exact ⟨_, h1⟩
theorem grow {t : BT} {v : Value} {F : List Nat} {w w' : World} (h : NT lo hi n t v F w) (hg : Grow w w') (hh : hi ≤ w.heap.size) : NT lo hi n t v F w' := h.move (fun k hk => hg.block k (h.lt k hk)) fun k _ h2 => hg.block k (by omega)
theorem fr {t : BT} {v : Value} {F F' : List Nat} {w w' : World} (h : NT lo hi n t v F w) (hf : FrF F' w w') (hd : ∀ k ∈ F, k ∉ F') (hv : ∀ k ∈ F', ¬ (lo ≤ k ∧ k < hi)) (hh : hi ≤ w.heap.size) : NT lo hi n t v F w' := h.move (fun k hk => hf.block k (h.lt k hk) (hd k hk)) fun k h1 h2 => hf.block k (by omega) fun hm => hv k hm ⟨h1, h2⟩
end NT
theorem nd_parts {b : Nat} {L R : List Nat} (h : (b :: (L ++ R)).Nodup) : b ∉ L ∧ b ∉ R ∧ (∀ k ∈ L, k ∉ R) ∧ ∀ k ∈ R, k ∉ L := by
  simp only [List.nodup_cons, List.nodup_append, List.mem_append, not_or] at h
  grind
theorem nd_left {b : Nat} {L R F : List Nat} (h : (b :: (L ++ R)).Nodup) (hF : F.Nodup) (hd : ∀ k ∈ F, k ∈ L ∨ k ∉ (b :: (L ++ R))) : (b :: (F ++ R)).Nodup := by
  simp only [List.nodup_cons, List.nodup_append, List.mem_append, List.mem_cons, not_or] at h hd ⊢
  grind
theorem nd_right {b : Nat} {L R F : List Nat} (h : (b :: (L ++ R)).Nodup) (hF : F.Nodup) (hd : ∀ k ∈ F, k ∈ R ∨ k ∉ (b :: (L ++ R))) : (b :: (L ++ F)).Nodup := by
  simp only [List.nodup_cons, List.nodup_append, List.mem_append, List.mem_cons, not_or] at h hd ⊢
  grind
theorem NC.set0 {b : Nat} {lv V rv : Value} {w : World} (h : NC b lv V rv w) (u : Value) : NC b u V rv (w.setCell ⟨b, 0, none⟩ u) :=
  ⟨World.cell?_setCell_same _ _ _ h.c0, far_cell h.c1 (by simp), far_cell h.c2 (by simp), fun o => by rw [World.frozen?_setCell]; exact h.fz o⟩
theorem NC.set2 {b : Nat} {lv V rv : Value} {w : World} (h : NC b lv V rv w) (u : Value) : NC b lv V u (w.setCell ⟨b, 2, none⟩ u) :=
  ⟨far_cell h.c0 (by simp), far_cell h.c1 (by simp), World.cell?_setCell_same _ _ _ h.c2, fun o => by rw [World.frozen?_setCell]; exact h.fz o⟩
/-- the left tree put anew -/
theorem NT.left {lo hi n b : Nat} {V lv rv u : Value} {l l' t : BT} {r : List Nat} {Fl Fr F : List Nat} {w w2 : World} (hh : hi ≤ w.heap.size) (hnd : (b :: (Fl ++ Fr)).Nodup) (hc : NC b lv V rv w) (hV : VS lo hi n V r w) (ho : ¬ (lo ≤ b ∧ b < hi)) (hL : NT lo hi n l lv Fl w) (hR : NT lo hi n t rv Fr w)
    (hf : FrF Fl w w2) (hn : NT lo hi n l' u F w2) (hF : ∀ k ∈ F, k ∈ Fl ∨ w.heap.size ≤ k) :
    NT lo hi n (.node l' r t) (.pointer (some ⟨b, 0, none⟩)) (b :: (F ++ Fr)) (w2.setCell ⟨b, 0, none⟩ u) ∧ FrF (b :: (Fl ++ Fr)) w (w2.setCell ⟨b, 0, none⟩ u) ∧ ∀ k ∈ b :: (F ++ Fr), k ∈ b :: (Fl ++ Fr) ∨ w.heap.size ≤ k := by
  obtain ⟨d1, d2, d3, d4⟩ := nd_parts hnd
  have hbl : b < w.heap.size := cell_ltH hc.c0
  have hs : ∀ x, x ≠ b → (w2.setCell ⟨b, 0, none⟩ u).heap[x]? = w2.heap[x]? := fun x hx => set_far hx
  have hbF : b ∉ F := fun hm => by rcases hF b hm with h | h; exact d1 h; omega
  have hv : ∀ k, lo ≤ k → k < hi → (w2.setCell ⟨b, 0, none⟩ u).heap[k]? = w2.heap[k]? := fun k h1 h2 => hs k fun e => ho (e ▸ ⟨h1, h2⟩)
  have hv2 : ∀ k, lo ≤ k → k < hi → w2.heap[k]? = w.heap[k]? := fun k h1 h2 => hf.block k (by omega) fun hm => hL.out k hm ⟨h1, h2⟩
  refine ⟨⟨b, V, u, rv, F, Fr, rfl, rfl, nd_left hnd hn.nodup fun k hk => ?_, (hc.move (hf.block b hbl d1)).set0 u, (hV.move hv2).move hv, ho, hn.move (fun k hk => hs k fun e => hbF (e ▸ hk)) hv, (hR.fr hf d4 hL.out hh).move (fun k hk => hs k fun e => d2 (e ▸ hk)) hv⟩, (hf.mono fun k hk => .inl (by simp [hk])).set (.inl (by simp)) _, fun k hk => ?_⟩
  · rcases hF k hk with h | h
    · exact .inl h
    · refine .inr fun hm => ?_
      simp only [List.mem_cons, List.mem_append] at hm
      rcases hm with rfl | hm | hm
      · omega
      · have := hL.lt k hm; omega
      · have := hR.lt k hm; omega
  · simp only [List.mem_cons, List.mem_append] at hk ⊢
    rcases hk with rfl | hk | hk
    · exact .inl (.inl rfl)
    · rcases hF k hk with h | h
      · exact .inl (.inr (.inl h))
      · exact .inr h
    · exact .inl (.inr (.inr hk))
theorem NT.right {lo hi n b : Nat} {V lv rv u : Value} {l t t' : BT} {r : List Nat} {Fl Fr F : List Nat} {w w2 : World} (hh : hi ≤ w.heap.size) (hnd : (b :: (Fl ++ Fr)).Nodup) (hc : NC b lv V rv w) (hV : VS lo hi n V r w) (ho : ¬ (lo ≤ b ∧ b < hi)) (hL : NT lo hi n l lv Fl w) (hR : NT lo hi n t rv Fr w)
    (hf : FrF Fr w w2) (hn : NT lo hi n t' u F w2) (hF : ∀ k ∈ F, k ∈ Fr ∨ w.heap.size ≤ k) :
    NT lo hi n (.node l r t') (.pointer (some ⟨b, 0, none⟩)) (b :: (Fl ++ F)) (w2.setCell ⟨b, 2, none⟩ u) ∧ FrF (b :: (Fl ++ Fr)) w (w2.setCell ⟨b, 2, none⟩ u) ∧ ∀ k ∈ b :: (Fl ++ F), k ∈ b :: (Fl ++ Fr) ∨ w.heap.size ≤ k := by
  obtain ⟨d1, d2, d3, d4⟩ := nd_parts hnd
  have hbl : b < w.heap.size := cell_ltH hc.c0
  have hs : ∀ x, x ≠ b → (w2.setCell ⟨b, 2, none⟩ u).heap[x]? = w2.heap[x]? := fun x hx => set_far hx
  have hbF : b ∉ F := fun hm => by rcases hF b hm with h | h; exact d2 h; omega
  have hv : ∀ k, lo ≤ k → k < hi → (w2.setCell ⟨b, 2, none⟩ u).heap[k]? = w2.heap[k]? := fun k h1 h2 => hs k fun e => ho (e ▸ ⟨h1, h2⟩)
  have hv2 : ∀ k, lo ≤ k → k < hi → w2.heap[k]? = w.heap[k]? := fun k h1 h2 => hf.block k (by omega) fun hm => hR.out k hm ⟨h1, h2⟩
  refine ⟨⟨b, V, lv, u, Fl, F, rfl, rfl, nd_right hnd hn.nodup fun k hk => ?_, (hc.move (hf.block b hbl d2)).set2 u, (hV.move hv2).move hv, ho, (hL.fr hf d3 hR.out hh).move (fun k hk => hs k fun e => d1 (e ▸ hk)) hv, hn.move (fun k hk => hs k fun e => hbF (e ▸ hk)) hv⟩, (hf.mono fun k hk => .inl (by simp [hk])).set (.inl (by simp)) _, fun k hk => ?_⟩
  · rcases hF k hk with h | h
    · exact .inl h
    · refine .inr fun hm => ?_
      simp only [List.mem_cons, List.mem_append] at hm
      rcases hm with rfl | hm | hm
      · omega
      · have := hL.lt k hm; omega
      · have := hR.lt k hm; omega
  · simp only [List.mem_cons, List.mem_append] at hk ⊢
    rcases hk with rfl | hk | hk
    · exact .inl (.inl rfl)
    · exact .inl (.inr (.inl hk))
    · rcases hF k hk with h | h
      · exact .inl (.inr (.inr h))
      · exact .inr h
end Go.Proofs.Ytdcchejehomicaa
