import Derived.Test.YtdcchejehomicaaFB
namespace Go
set_option linter.unusedVariables false
set_option linter.unusedSimpArgs false
/-! places in a row turned about: plain lists -/
/-- the first k numbers of the rows at x and y exchanged -/
def swp (zs : List Nat) (x y : Nat) : Nat → List Nat
  | 0 => zs
  | k + 1 => ((swp zs x y k).set (x + k) (zs.getD (y + k) 0)).set (y + k) (zs.getD (x + k) 0)
theorem swp_len (zs : List Nat) (x y : Nat) : ∀ k, (swp zs x y k).length = zs.length
  | 0 => rfl
  | k + 1 => by simp [swp, swp_len zs x y k]
theorem swp_get (zs : List Nat) (x y s : Nat) (hxy : x + s ≤ y ∨ x = y) (hy : y + s ≤ zs.length) : ∀ k, k ≤ s → ∀ p, (swp zs x y k)[p]? = if x ≤ p ∧ p < x + k then zs[p - x + y]? else if y ≤ p ∧ p < y + k then zs[p - y + x]? else zs[p]?
  | 0, _, p => by
    rw [if_neg (by omega), if_neg (by omega)]; rfl
  | k + 1, hk, p => by
    have ih := swp_get zs x y s hxy hy k (by omega) p
    simp only [swp]
    rw [List.getElem?_set, List.getElem?_set, List.length_set, swp_len]
    by_cases h1 : y + k = p
    · rw [if_pos h1, if_pos (by omega)]
      have hg : some (zs.getD (x + k) 0) = zs[x + k]? := by rw [List.getD_eq_getElem?_getD, List.getElem?_eq_getElem (by omega)]; rfl
      rw [hg]
      by_cases h2 : x ≤ p ∧ p < x + (k + 1)
      · rw [if_pos h2]; congr 1; omega
      · rw [if_neg h2, if_pos (by omega)]; congr 1; omega
    · rw [if_neg h1]
      by_cases h2 : x + k = p
      · rw [if_pos h2, if_pos (by omega), if_pos (by omega)]
        have hg : some (zs.getD (y + k) 0) = zs[y + k]? := by rw [List.getD_eq_getElem?_getD, List.getElem?_eq_getElem (by omega)]; rfl
        rw [hg]; congr 1; omega
      · rw [if_neg h2, ih]
        by_cases h3 : x ≤ p ∧ p < x + k
        · rw [if_pos h3, if_pos (by omega)]
        · rw [if_neg h3, if_neg (show ¬ (x ≤ p ∧ p < x + (k + 1)) by omega)]
          by_cases h4 : y ≤ p ∧ p < y + k
          · rw [if_pos h4, if_pos (by omega)]
          · rw [if_neg h4, if_neg (by omega)]
theorem swp_same (zs : List Nat) (x s : Nat) (hx : x + s ≤ zs.length) : swp zs x x s = zs := by
  refine List.ext_getElem? fun p => ?_
  rw [swp_get zs x x s (.inr rfl) hx s (Nat.le_refl _) p]
  by_cases h : x ≤ p ∧ p < x + s
  · rw [if_pos h]; congr 1; omega
  · rw [if_neg h, if_neg h]
theorem swp_rows (P a Q b T : List Nat) (s : Nat) (ha : a.length = s) (hb : b.length = s) : swp (P ++ a ++ Q ++ b ++ T) P.length (P.length + s + Q.length) s = P ++ b ++ Q ++ a ++ T := by
  refine List.ext_getElem? fun p => ?_
  rw [swp_get _ _ _ s (.inl (by omega)) (by simp; omega) s (Nat.le_refl _) p]
  by_cases h1 : P.length ≤ p ∧ p < P.length + s
  · rw [if_pos h1]
    rw [List.getElem?_append_left (by simp; omega), List.getElem?_append_right (by simp; omega)]
    rw [List.getElem?_append_left (by simp; omega), List.getElem?_append_left (by simp; omega), List.getElem?_append_left (by simp; omega), List.getElem?_append_right (by omega)]
    congr 1; simp; omega
  · rw [if_neg h1]
    by_cases h2 : P.length + s + Q.length ≤ p ∧ p < P.length + s + Q.length + s
    · rw [if_pos h2]
      rw [List.getElem?_append_left (by simp; omega), List.getElem?_append_left (by simp; omega), List.getElem?_append_left (by simp; omega), List.getElem?_append_right (by omega)]
      rw [List.getElem?_append_left (by simp; omega), List.getElem?_append_right (by simp; omega)]
      congr 1; simp; omega
    · rw [if_neg h2]
      by_cases h3 : p < P.length
      · rw [List.getElem?_append_left (by simp; omega), List.getElem?_append_left (by simp; omega), List.getElem?_append_left (by simp; omega), List.getElem?_append_left (by omega)]
        rw [List.getElem?_append_left (by simp; omega), List.getElem?_append_left (by simp; omega), List.getElem?_append_left (by simp; omega), List.getElem?_append_left (by omega)]
      · by_cases h4 : p < P.length + s + Q.length
        · rw [List.getElem?_append_left (by simp; omega), List.getElem?_append_left (by simp; omega), List.getElem?_append_right (by simp; omega)]
          rw [List.getElem?_append_left (by simp; omega), List.getElem?_append_left (by simp; omega), List.getElem?_append_right (by simp; omega)]
          simp [ha, hb]
        · rw [List.getElem?_append_right (by simp; omega), List.getElem?_append_right (by simp; omega)]
          simp only [List.length_append, ha, hb]
theorem flat_len {rows : List (List Nat)} {s : Nat} (h : ∀ r ∈ rows, r.length = s) : rows.flatten.length = rows.length * s := by
  induction rows with
  | nil => simp
  | cons r rows ih =>
    rw [List.flatten_cons, List.length_append, h r (by simp), ih (fun q hq => h q (List.mem_cons_of_mem _ hq)), List.length_cons, Nat.add_mul, Nat.one_mul, Nat.add_comm]
/-- the loop of the outer rows: i behind the left row, j behind the right one -/
def RevI (X : List Nat) (rows : List (List Nat)) (Z : List Nat) (s i j : Nat) (cur : List Nat) : Prop :=
  (∃ L M R : List (List Nat), rows = L ++ M ++ R ∧ L.length = R.length ∧ M ≠ [] ∧ cur = X ++ R.reverse.flatten ++ M.flatten ++ L.reverse.flatten ++ Z ∧ i = X.length + L.length * s + s ∧ j = X.length + L.length * s + M.length * s) ∨
  (cur = X ++ rows.reverse.flatten ++ Z ∧ j < i)
theorem RevI.start (X : List Nat) (rows : List (List Nat)) (Z : List Nat) (s : Nat) (hs : 0 < s) : RevI X rows Z s (X.length + s) (X.length + rows.length * s) (X ++ rows.flatten ++ Z) := by
  cases rows with
  | nil => exact .inr ⟨by simp, by simp; omega⟩
  | cons r rows => exact .inl ⟨[], r :: rows, [], by simp, rfl, by simp, by simp, by simp, by simp⟩
theorem RevI.done {X : List Nat} {rows : List (List Nat)} {Z : List Nat} {s i j : Nat} {cur : List Nat} (h : RevI X rows Z s i j cur) (hij : ¬ i ≤ j) : cur = X ++ rows.reverse.flatten ++ Z := by
  rcases h with ⟨L, M, R, h1, h2, h3, h4, h5, h6⟩ | ⟨h, -⟩
  · exfalso
    have : 1 ≤ M.length := by cases M with | nil => exact absurd rfl h3 | cons a M => simp
    have := Nat.mul_le_mul_right s this
    omega
  · exact h
theorem RevI.step {X : List Nat} {rows : List (List Nat)} {Z : List Nat} {s i j : Nat} {cur : List Nat} (h : RevI X rows Z s i j cur) (hs : 0 < s) (hr : ∀ r ∈ rows, r.length = s) (hij : i ≤ j) :
    s ≤ i ∧ (i ≤ j - s ∨ i = j) ∧ j ≤ cur.length ∧ RevI X rows Z s (i + s) (j - s) (swp cur (i - s) (j - s) s) := by
  rcases h with ⟨L, M, R, rfl, h2, h3, rfl, rfl, rfl⟩ | ⟨-, h⟩
  · have hL : ∀ r ∈ L, r.length = s := fun r hx => hr r (by simp [hx])
    have hM : ∀ r ∈ M, r.length = s := fun r hx => hr r (by simp [hx])
    have hR : ∀ r ∈ R, r.length = s := fun r hx => hr r (by simp [hx])
    have lL := flat_len (rows := L.reverse) (s := s) (fun r hx => hL r (by simpa using hx))
    have lR := flat_len (rows := R.reverse) (s := s) (fun r hx => hR r (by simpa using hx))
    have lM := flat_len hM
    rw [List.length_reverse] at lL lR
    rw [← h2] at lR
    cases M with
    | nil => exact absurd rfl h3
    | cons a M =>
      have ha := hM a (by simp)
      rcases List.eq_nil_or_concat M with rfl | ⟨M', b, rfl⟩
      · simp only [List.length_cons, List.length_nil, Nat.zero_add, Nat.one_mul] at lM ⊢
        refine ⟨by omega, .inr trivial, by simp only [List.length_append]; omega, .inr ⟨?_, by omega⟩⟩
        rw [show X.length + L.length * s + s - s = X.length + L.length * s by omega, swp_same _ _ _ (by simp only [List.length_append]; omega)]
        simp
      · have hb := hM b (by simp)
        have hM' : ∀ r ∈ M', r.length = s := fun r hx => hM r (by simp [hx])
        have lM' := flat_len hM'
        have e1 : (a :: M'.concat b).length * s = s + M'.length * s + s := by simp [Nat.add_mul]; omega
        rw [e1] at lM ⊢
        have e2 : X ++ R.reverse.flatten ++ (a :: M'.concat b).flatten ++ L.reverse.flatten ++ Z = (X ++ R.reverse.flatten) ++ a ++ M'.flatten ++ b ++ (L.reverse.flatten ++ Z) := by simp
        have hsw := swp_rows (X ++ R.reverse.flatten) a M'.flatten b (L.reverse.flatten ++ Z) s ha hb
        rw [show (X ++ R.reverse.flatten).length = X.length + L.length * s by rw [List.length_append, lR], lM'] at hsw
        refine ⟨by omega, .inl (by omega), by simp only [List.length_append]; omega, ?_⟩
        rw [show X.length + L.length * s + s - s = X.length + L.length * s by omega, show X.length + L.length * s + (s + M'.length * s + s) - s = X.length + L.length * s + s + M'.length * s by omega, e2, hsw]
        by_cases hM0 : M' = []
        · subst hM0
          exact .inr ⟨by simp, by simp; omega⟩
        · refine .inl ⟨L ++ [a], M', b :: R, by simp, by simp [h2], hM0, by simp, ?_, ?_⟩
          · simp [Nat.add_mul]; omega
          · simp [Nat.add_mul]; omega
  · omega
end Go
