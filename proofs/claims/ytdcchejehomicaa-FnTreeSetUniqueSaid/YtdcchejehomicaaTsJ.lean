import Derived.Test.YtdcchejehomicaaTsI
import Derived.Test.YtdcchejehomicaaAppStep
namespace Go.Proofs.Ytdcchejehomicaa
open Go.ChangeShapes Go.WideShapes Go.ChangeAt Go.RowKit Go.GrowR
set_option linter.unusedVariables false
set_option linter.unusedSimpArgs false

theorem doorInflate_calls (A : Option Addr) (n cap s : Nat) (rows : List (List Nat)) (w : World) (hf : FSl (.slice A n cap) rows.flatten w) (hl : ∀ r ∈ rows, r.length = s) (hs : 0 < s) (s9 : s ≤ 9) (hn : n = rows.length * s) (hnl : n ≤ 1000) :
    Calls Try.prog 17 #[.slice A n cap, .int .i64 s] w (MQ (L1 rows) w) := by
  have hrl : rows.length ≤ n := by rw [hn]; exact Nat.le_mul_of_pos_right _ hs
  have HC := Lib.hid (inflate1_calls A n cap s n [] rows [] w (by simpa using hf) hl hs s9 (by omega) (by simpa using hn) (by omega))
  clear hf hl hn
  go_enter Try.func17, Try.ntmps17
  go_wp2_with fail
  refine HC.out.mono ?_
  rintro e w2 ⟨V, rfl, h2, h3⟩
  go_wp2
  go_ret
  exact ⟨_, rfl, h2, h3⟩
/-- an element of a row of rows hangs on the row's own blocks -/
theorem stab_elem {lo hi : Nat} {V : Value} {rows : List (List Nat)} {r : List Nat} {k n : Nat} {w : World} (h : Stab lo hi (L1 rows V) w) (hk : rows[k]? = some r) (hr : n = r.length) : ∃ b o c u, V = .slice (some ⟨b, o, none⟩) rows.length c ∧ lo ≤ b ∧ b < hi ∧ w.cell? ⟨b, o + k, none⟩ = some u ∧ VS lo hi n u r w := by
  obtain ⟨A, c, rfl, hc, hx⟩ := SlE.form h.now
  rcases hx with h0 | ⟨b, o, rfl, hx⟩
  · subst h0; simp at hk
  obtain ⟨u, hu, hfu⟩ := hx k r hk
  have hin : lo ≤ b ∧ b < hi := by
    refine Classical.byContradiction fun hno => ?_
    have h2 := h (w.setCell ⟨b, o + k, none⟩ (.bool true)) fun j h1 h2 => set_far (p := ⟨b, o + k, none⟩) (fun e => hno (by simp at e; subst e; exact ⟨h1, h2⟩))
    obtain ⟨A2, c2, e, -, hx2⟩ := SlE.form h2
    cases e
    rcases hx2 with h0 | ⟨b2, o2, e2, hx2⟩
    · subst h0; simp at hk
    cases e2
    obtain ⟨u2, hu2, A3, c3, e3, -⟩ := hx2 k r hk
    rw [World.cell?_setCell_same _ _ _ hu] at hu2
    cases hu2; cases e3
  obtain ⟨A4, c4, rfl, -, -⟩ := id hfu
  refine ⟨b, o, c, _, rfl, hin.1, hin.2, hu, A4, c4, by rw [hr], hr, fun w2 hw => ?_⟩
  obtain ⟨A2, c2, e, -, hx2⟩ := SlE.form (h w2 hw)
  cases e
  rcases hx2 with h0 | ⟨b2, o2, e2, hx2⟩
  · subst h0; simp at hk
  cases e2
  obtain ⟨u2, hu2, hf2⟩ := hx2 k r hk
  rw [World.cell?_of_block (w := w) (hw b hin.1 hin.2), hu] at hu2
  cases hu2
  rw [hr]; exact hf2
structure RC3 (b : Nat) (v0 v1 v2 : Value) (w : World) : Prop where
  c0 : w.cell? ⟨b, 0, none⟩ = some v0
  c1 : w.cell? ⟨b + 1, 0, none⟩ = some v1
  c2 : w.cell? ⟨b + 2, 0, none⟩ = some v2
  f0 : w.frozen? ⟨b, 0, none⟩ = false
  f1 : w.frozen? ⟨b + 1, 0, none⟩ = false
  f2 : w.frozen? ⟨b + 2, 0, none⟩ = false
theorem RC3.move {b : Nat} {v0 v1 v2 : Value} {w w' : World} (h : RC3 b v0 v1 v2 w) (hb : ∀ k, b ≤ k → k ≤ b + 2 → w'.heap[k]? = w.heap[k]?) : RC3 b v0 v1 v2 w' :=
  have x0 := hb b (by omega) (by omega); have x1 := hb (b + 1) (by omega) (by omega); have x2 := hb (b + 2) (by omega) (by omega)
  ⟨(World.cell?_of_block x0).trans h.c0, (World.cell?_of_block x1).trans h.c1, (World.cell?_of_block x2).trans h.c2, (World.frozen?_of_block (a := ⟨b, 0, none⟩) x0).trans h.f0, (World.frozen?_of_block (a := ⟨b + 1, 0, none⟩) x1).trans h.f1, (World.frozen?_of_block (a := ⟨b + 2, 0, none⟩) x2).trans h.f2⟩
theorem RC3.lt {b : Nat} {v0 v1 v2 : Value} {w : World} (h : RC3 b v0 v1 v2 w) : b + 2 < w.heap.size := cell_ltH h.c2
theorem RC3.up {b : Nat} {v0 v1 v2 : Value} : Up (RC3 b v0 v1 v2) := fun w w' h hg => h.move fun k _ h2 => hg.block k (by have := h.lt; omega)
theorem RC3.start (w : World) (v0 v1 v2 : Value) (t0 t1 t2 : TypeId) : RC3 w.heap.size v0 v1 v2 (((w.alloc (.cells #[v0] t0)).alloc (.cells #[v1] t1)).alloc (.cells #[v2] t2)) := ⟨by go_simp, by go_simp, by go_simp, by go_simp, by go_simp, by go_simp⟩
theorem RC3.set0 {b : Nat} {v0 v1 v2 : Value} {w : World} (h : RC3 b v0 v1 v2 w) (u : Value) : RC3 b u v1 v2 (w.setCell ⟨b, 0, none⟩ u) :=
  ⟨World.cell?_setCell_same _ _ _ h.c0, far_cell h.c1 (by simp), far_cell h.c2 (by simp), by rw [World.frozen?_setCell]; exact h.f0, by rw [World.frozen?_setCell]; exact h.f1, by rw [World.frozen?_setCell]; exact h.f2⟩
/-- the set and the row of what was new, while places are put in -/
structure TQ (w0 : World) (lo hi n s : Nat) (lay c : Int) (S : TsS) (F : List Nat) (V : Value) (w : World) : Prop where
  gr : Grow w0 w
  rc : RC3 w0.heap.size V (.slice none 0 0) (.bool false) w
  st : SetS lo hi n s lay c S.t F w
  ow : VOwn 4 (w0.heap.size + 3) V (S.ad.map .bool) w
  ne : ∀ g, V.ownBlock = some g → g ≠ s ∧ g ∉ F ∧ ¬ (lo ≤ g ∧ g < hi)
  fb : ∀ k ∈ s :: F, w0.heap.size + 3 ≤ k
  lb : w0.heap.size + 3 ≤ lo ∨ hi = lo
/-- behind Insert -/
structure TI (w0 : World) (lo hi n s : Nat) (lay c : Int) (S : TsS) (x : List Nat) (F' : List Nat) (V : Value) (w : World) : Prop where
  gr : Grow w0 w
  rc : RC3 w0.heap.size V (.slice none 0 0) (.bool false) w
  st : SetS lo hi n s lay c (S.t.ins c x).1 F' w
  ow : VOwn 4 (w0.heap.size + 3) V (S.ad.map .bool) w
  ne : ∀ g, V.ownBlock = some g → g ≠ s ∧ g ∉ F' ∧ ¬ (lo ≤ g ∧ g < hi)
  fb : ∀ k ∈ s :: F', w0.heap.size + 3 ≤ k
  lb : w0.heap.size + 3 ≤ lo ∨ hi = lo
theorem TQ.ins {w0 : World} {lo hi n s : Nat} {lay c : Int} {S : TsS} {F F' : List Nat} {V : Value} {x : List Nat} {w w' : World} (h : TQ w0 lo hi n s lay c S F V w) (hf : FrF (s :: F) w w') (hs : SetS lo hi n s lay c (S.t.ins c x).1 F' w') (hF : ∀ k ∈ F', k ∈ F ∨ w.heap.size ≤ k) : TI w0 lo hi n s lay c S x F' V w' := by
  have hrl := h.rc.lt
  refine ⟨hf.grow h.gr fun k hk => by have := h.fb k hk; omega, h.rc.move fun k h1 h2 => hf.block k (by omega) fun hm => by have := h.fb k hm; omega, hs, own_move h.ow fun g hgo => ?_, fun g hgo => ?_, fun k hk => ?_, h.lb⟩
  · obtain ⟨n1, n2, n3⟩ := h.ne g hgo
    exact hf.block g (own_block_lt h.ow g hgo).2 (by simp only [List.mem_cons, not_or]; exact ⟨n1, n2⟩)
  · obtain ⟨n1, n2, n3⟩ := h.ne g hgo
    exact ⟨n1, (fun hm => by
      have := (own_block_lt h.ow g hgo).2
      rcases hF g hm with h | h
      · exact n2 h
      · omega), n3⟩
  · rcases List.mem_cons.1 hk with rfl | hk
    · exact h.fb _ (by simp)
    · rcases hF k hk with h1 | h1
      · exact h.fb k (by simp [h1])
      · omega
theorem TQ.keep {w0 : World} {lo hi n s : Nat} {lay c : Int} {S : TsS} {F : List Nat} {V : Value} {w w' : World} (h : TQ w0 lo hi n s lay c S F V w) (hf : FrF (s :: F) w w') : ∀ j, lo ≤ j → j < hi → w'.heap[j]? = w.heap[j]? := fun j h1 h2 => hf.block j (by have := h.st.hh; omega) fun hm => by
  rcases List.mem_cons.1 hm with rfl | hm
  · exact h.st.ho ⟨h1, h2⟩
  · obtain ⟨v, -, hn⟩ := h.st.ex
    exact hn.out j hm ⟨h1, h2⟩
theorem TQ.up {w0 : World} {lo hi n s : Nat} {lay c : Int} {S : TsS} {F : List Nat} {V : Value} : Up (TQ w0 lo hi n s lay c S F V) := fun w w' h hg => ⟨h.gr.trans hg, RC3.up _ _ h.rc hg, SetS.up _ _ h.st hg, VOwn.up _ _ h.ow hg, h.ne, h.fb, h.lb⟩
theorem TI.step {w0 : World} {lo hi n s : Nat} {lay c : Int} {S : TsS} {F' : List Nat} {V V' : Value} {x : List Nat} {b : Bool} {w' W w5 : World} (h : TI w0 lo hi n s lay c S x F' V w') (hb : (S.t.ins c x).2 = b) (hW : Grow w' W) (ho : VOwn 4 (w0.heap.size + 3) V' (S.ad.map .bool ++ [.bool b]) w5) (hg : W.grownBy w5 V.ownBlock) (hv : V'.ownBlock = V.ownBlock ∨ V'.ownBlock = some W.heap.size) :
    RC3 w0.heap.size V (.slice none 0 0) (.bool false) w5 ∧ TQ w0 lo hi n s lay c (S.step c x) F' V' (w5.setCell ⟨w0.heap.size, 0, none⟩ V') ∧ ∀ j, lo ≤ j → j < hi → (w5.setCell ⟨w0.heap.size, 0, none⟩ V').heap[j]? = w'.heap[j]? := by
  have hlt := own_block_lt h.ow
  have hws := hW.size
  have hff : FrF V.ownBlock.toList w' w5 := ⟨hg.os.trans hW.os, hg.tape.trans hW.tape, hg.output.trans hW.output, Nat.le_trans hW.size hg.size, fun k hk hm => (hg.block k (by omega) fun e => hm (by rw [← e]; simp)).trans (hW.block k hk)⟩
  have hrl := h.rc.lt
  have hrc5 : RC3 w0.heap.size V (.slice none 0 0) (.bool false) w5 := h.rc.move fun k h1 h2 => hff.block k (by omega) fun hm => by
    have := (hlt k (by simpa using hm)).1; omega
  have hst5 : SetS lo hi n s lay c (S.t.ins c x).1 F' w5 := by
    refine h.st.fr hff (fun hm => ?_) (fun k hk hm => ?_) (fun k hk => ?_)
    · exact (h.ne s (by simpa using hm)).1 rfl
    · exact (h.ne k (by simpa using hm)).2.1 hk
    · exact (h.ne k (by simpa using hk)).2.2
  have hset : FrF [w0.heap.size] w5 (w5.setCell ⟨w0.heap.size, 0, none⟩ V') := (FrF.refl w5).set (.inl (by simp)) _
  have hgr5 : Grow w0 w5 := hff.grow h.gr fun k hk => by have := (hlt k (by simpa using hk)).1; omega
  refine ⟨hrc5, ⟨hgr5.setCell (Nat.le_refl _) _, hrc5.set0 _, ?_, ?_, fun g hgo => ?_, h.fb, h.lb⟩, fun j h1 h2 => ?_⟩
  rotate_left 3
  · have hl := h.st.hh
    exact (set_far (by rcases h.lb with h3 | h3 <;> simp <;> omega)).trans (hff.block j (by omega) fun hm => (h.ne j (by simpa using hm)).2.2 ⟨h1, h2⟩)
  · refine hst5.fr hset (fun hm => ?_) (fun k hk hm => ?_) (fun k hk => ?_)
    · have := h.fb s (by simp); simp at hm; omega
    · have := h.fb k (by simp [hk]); simp at hm; omega
    · simp at hk; subst hk
      rcases h.lb with h1 | h1 <;> omega
  · unfold TsS.step
    rw [hb]
    have : VOwn 4 (w0.heap.size + 3) V' ((S.ad ++ [b]).map .bool) w5 := by simpa using ho
    exact own_move this fun g hgo => set_far (by have := (own_block_lt ho g hgo).1; simp; omega)
  · rcases hv with hv | hv
    · exact h.ne g (hv ▸ hgo)
    · rw [hv] at hgo; cases hgo
      refine ⟨fun e => ?_, fun hm => ?_, fun hx => ?_⟩
      · have := h.st.lt; omega
      · obtain ⟨v, -, hn⟩ := h.st.ex
        have := hn.lt _ hm; omega
      · have := h.st.hh; omega
end Go.Proofs.Ytdcchejehomicaa
