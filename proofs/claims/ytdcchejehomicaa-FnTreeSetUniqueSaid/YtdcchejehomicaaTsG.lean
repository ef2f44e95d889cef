import Derived.Test.YtdcchejehomicaaTsF
namespace Go.Proofs.Ytdcchejehomicaa
open Go.ChangeShapes Go.WideShapes Go.ChangeAt Go.RowKit Go.GrowR
set_option linter.unusedVariables false
set_option linter.unusedSimpArgs false

theorem rows_ex (s : Nat) : ∀ (K : Nat) (xs : List Nat), xs.length = K * s → ∃ rows : List (List Nat), xs = rows.flatten ∧ rows.length = K ∧ ∀ r ∈ rows, r.length = s
  | 0, xs, h => ⟨[], by simpa using h, rfl, fun r h => by cases h⟩
  | K + 1, xs, h => by
    rw [Nat.add_mul, Nat.one_mul] at h
    obtain ⟨rows, h1, h2, h3⟩ := rows_ex s K (xs.drop s) (by simp; omega)
    refine ⟨xs.take s :: rows, by rw [List.flatten_cons, ← h1, List.take_append_drop], by simp [h2], fun r hr => ?_⟩
    rcases List.mem_cons.1 hr with rfl | hr
    · simp; omega
    · exact h3 r hr
theorem row_get {rows : List (List Nat)} {s k : Nat} {r : List Nat} (h : ∀ r ∈ rows, r.length = s) (hk : rows[k]? = some r) (j : Nat) (hj : j < s) : rows.flatten[k * s + j]? = r[j]? := by
  have hr := h r (List.mem_of_getElem? hk)
  obtain ⟨hk', e⟩ := List.getElem?_eq_some_iff.1 hk
  have hsp : rows = rows.take k ++ r :: rows.drop (k + 1) := by rw [← e, ← List.drop_eq_getElem_cons hk', List.take_append_drop]
  have hl : (rows.take k).flatten.length = k * s := by rw [flat_len (s := s) fun r hr => h r (List.mem_of_mem_take hr), List.length_take, Nat.min_eq_left (by omega)]
  rw [hsp, List.flatten_append, List.flatten_cons, List.getElem?_append_right (by omega), hl, List.getElem?_append_left (by omega)]
  congr 1; omega
/-- row k of a slice that holds rows of s numbers -/
theorem VS.row {q o n c s k : Nat} {rows : List (List Nat)} {r : List Nat} {w : World} (hu : FSl (.slice (some ⟨q, o, none⟩) n c) rows.flatten w) (h : ∀ r ∈ rows, r.length = s) (hk : rows[k]? = some r) (hn : k * s + s ≤ n) (hs : 0 < s) (w' : World) (hb : w'.heap[q]? = w.heap[q]?) : VS q (q + 1) s (.slice (some ⟨q, o + k * s, none⟩) s (c - k * s)) r w' := by
  have hr := h r (List.mem_of_getElem? hk)
  obtain ⟨A', c', he, hc, hx⟩ := hu
  simp only [Value.slice.injEq] at he
  obtain ⟨rfl, h2, rfl⟩ := he
  rcases hx with h0 | ⟨b, o', e, hx⟩
  · rw [h0] at h2; simp at h2; omega
  cases e
  refine ⟨_, _, rfl, hr.symm, fun w2 h3 => ⟨_, _, by rw [hr], by rw [hr]; omega, .inr ⟨q, o + k * s, rfl, fun j x hj => ?_⟩⟩⟩
  have hjl : j < s := by have := (List.getElem?_eq_some_iff.1 hj).1; omega
  have := hx (k * s + j) x (by rw [row_get h hk j hjl]; exact hj)
  rw [World.cell?_of_block (w := w) ((h3 q (Nat.le_refl _) (by omega)).trans hb), Nat.add_assoc]; exact this
theorem run_row {q o n c s i : Nat} (hs : 0 < s) (h : i + s ≤ n) (hn : n ≤ c) (w' : World) : (Instr.slice 22 (.slice (some ⟨q, o, none⟩) n c) (some (.int .i64 i)) (some (.int .i64 ((i : Int) + (s : Int)))) none).run Try.prog w' = .ok (.slice (some ⟨q, o + i, none⟩) s (c - i)) w' := by
  have ht' : Try.prog.underlying 22 = some (.slice (Try.prog.elem 22)) := by kernel_rfl
  rw [run_slice_lh (P := Try.prog) w' 22 _ _ c ht' .i64 .i64 _ _ (by omega) (by omega) (by omega)]
  have hel : (Try.prog.info? (Try.prog.elem 22)).map (·.size) = some 1 := by kernel_rfl
  obtain ⟨i0, hi0, hz⟩ := Option.map_eq_some_iff.1 hel
  have h1 : ((i : Int) + (s : Int)).toNat = i + s := by omega
  have hne : ¬ c = i := by omega
  simp [sizeOf, typeInfo, hi0, hz, sliced, h1, hne, addr_add]
/-- the row of the unique places, and the set, while places are put in -/
structure UQ (w0 : World) (lo hi n s : Nat) (lay c : Int) (S : TsS) (F : List Nat) (V : Value) (w : World) : Prop where
  gr : Grow w0 w
  st : SetS lo hi n s lay c S.t F w
  ow : VOwn 52 w0.heap.size V (S.us.flatten.map (.float .f64)) w
  ne : ∀ g, V.ownBlock = some g → g ≠ s ∧ g ∉ F ∧ ¬ (lo ≤ g ∧ g < hi)
  fb : ∀ k ∈ s :: F, w0.heap.size ≤ k
theorem own_block_lt {e : TypeId} {B : Nat} {v : Value} {xs : List Value} {w : World} (h : VOwn e B v xs w) : ∀ g, v.ownBlock = some g → B ≤ g ∧ g < w.heap.size := fun g hg => World.ownsRow.lt h g hg
theorem own_move {e : TypeId} {B : Nat} {v : Value} {xs : List Value} {w w' : World} (h : VOwn e B v xs w) (hb : ∀ g, v.ownBlock = some g → w'.heap[g]? = w.heap[g]?) : VOwn e B v xs w' := by
  refine ⟨h.1, ?_⟩
  rcases h.2 with h | ⟨g, cap, cur, rfl, hB, hh, hr⟩
  · exact .inl h
  · exact .inr ⟨g, cap, cur, rfl, hB, (hb g rfl).trans hh, hr⟩
/-- behind Insert -/
theorem UQ.ins {w0 : World} {lo hi n s : Nat} {lay c : Int} {S : TsS} {F F' : List Nat} {V : Value} {x : List Nat} {w w' : World} (h : UQ w0 lo hi n s lay c S F V w) (hf : FrF (s :: F) w w') (hs : SetS lo hi n s lay c (S.t.ins c x).1 F' w') (hF : ∀ k ∈ F', k ∈ F ∨ w.heap.size ≤ k) :
    Grow w0 w' ∧ VOwn 52 w0.heap.size V (S.us.flatten.map (.float .f64)) w' ∧ (∀ g, V.ownBlock = some g → g ≠ s ∧ g ∉ F' ∧ ¬ (lo ≤ g ∧ g < hi)) ∧ ∀ k ∈ s :: F', w0.heap.size ≤ k := by
  have hg := hf.grow h.gr h.fb
  refine ⟨hg, own_move h.ow fun g hgo => ?_, fun g hgo => ?_, fun k hk => ?_⟩
  · obtain ⟨n1, n2, n3⟩ := h.ne g hgo
    exact hf.block g (own_block_lt h.ow g hgo).2 (by simp only [List.mem_cons, not_or]; exact ⟨n1, n2⟩)
  · obtain ⟨n1, n2, n3⟩ := h.ne g hgo
    exact ⟨n1, fun hm => by
      have := (own_block_lt h.ow g hgo).2
      rcases hF g hm with h | h
      · exact n2 h
      · omega, n3⟩
  · rcases List.mem_cons.1 hk with rfl | hk
    · exact h.fb _ (by simp)
    · rcases hF k hk with h1 | h1
      · exact h.fb k (by simp [h1])
      · have := h.gr.size; omega
theorem UQ.no {w0 : World} {lo hi n s : Nat} {lay c : Int} {S : TsS} {F F' : List Nat} {V : Value} {x : List Nat} {w w' : World} (h : UQ w0 lo hi n s lay c S F V w) (hf : FrF (s :: F) w w') (hs : SetS lo hi n s lay c (S.t.ins c x).1 F' w') (hF : ∀ k ∈ F', k ∈ F ∨ w.heap.size ≤ k) (ha : (S.t.ins c x).2 = false) : UQ w0 lo hi n s lay c (S.step c x) F' V w' := by
  obtain ⟨a, b, d, e⟩ := h.ins hf hs hF
  unfold TsS.step
  rw [ha]
  exact ⟨a, hs, b, d, e⟩
theorem UQ.yes {w0 : World} {lo hi n s : Nat} {lay c : Int} {S : TsS} {F F' : List Nat} {V V' : Value} {x : List Nat} {w w' w2 : World} (h : UQ w0 lo hi n s lay c S F V w) (hf : FrF (s :: F) w w') (hs : SetS lo hi n s lay c (S.t.ins c x).1 F' w') (hF : ∀ k ∈ F', k ∈ F ∨ w.heap.size ≤ k) (ha : (S.t.ins c x).2 = true)
    (ho : VOwn 52 w0.heap.size V' (S.us.flatten.map (.float .f64) ++ x.map (.float .f64)) w2) (hg : w'.grownBy w2 V.ownBlock) (hv : V'.ownBlock = V.ownBlock ∨ V'.ownBlock = some w'.heap.size) : UQ w0 lo hi n s lay c (S.step c x) F' V' w2 := by
  obtain ⟨a, b, d, e⟩ := h.ins hf hs hF
  unfold TsS.step
  rw [ha]
  have hlt := own_block_lt b
  have hff : FrF V.ownBlock.toList w' w2 := ⟨hg.os, hg.tape, hg.output, hg.size, fun k hk hm => hg.block k hk fun e => hm (by rw [← e]; simp)⟩
  refine ⟨Below.grown a hg a.size fun k hk => (hlt k hk).1, hs.fr hff (fun hm => ?_) (fun k hk hm => ?_) (fun k hk => ?_), by simpa using ho, fun g hgo => ?_, e⟩
  · exact (d s (by simpa using hm)).1 rfl
  · exact (d k (by simpa using hm)).2.1 hk
  · exact (d k (by simpa using hk)).2.2
  · rcases hv with hv | hv
    · exact d g (hv ▸ hgo)
    · rw [hv] at hgo; cases hgo
      refine ⟨fun e => ?_, fun hm => ?_, fun hx => ?_⟩
      · have := hs.lt; omega
      · obtain ⟨v, -, hn⟩ := hs.ex
        have := hn.lt _ hm; omega
      · have := hs.hh; omega
end Go.Proofs.Ytdcchejehomicaa
