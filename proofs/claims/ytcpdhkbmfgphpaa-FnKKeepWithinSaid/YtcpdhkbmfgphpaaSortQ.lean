import Derived.Test.YtcpdhkbmfgphpaaFinK
namespace Go.Proofs.Ytcpdhkbmfgphpaa
/-! lists of finite floats, sorted: plain Lean -/
def vq (x : Nat) : Rat := Fl.dv (Fl.D.read x)
theorem V_vq {x : Nat} (h : finB x = true) : Fl.V x (vq x) := by
  obtain ⟨q, s, m, p, h1, h2⟩ := finB_true h
  exact ⟨s, m, p, h1, by unfold vq; rw [h1]⟩
def swp {α : Type} (f : Nat → α) (i j : Nat) : Nat → α := fun k => if k = i then f j else if k = j then f i else f k
theorem range_split {i j n : Nat} (h : i < j) (hn : j < n) : List.range n = List.range' 0 i ++ (i :: (List.range' (i + 1) (j - i - 1) ++ (j :: List.range' (j + 1) (n - j - 1)))) := by
  have e1 : (j :: List.range' (j + 1) (n - j - 1)) = List.range' j (n - j) := by
    rw [show n - j = (n - j - 1) + 1 by omega, List.range'_succ]; simp
  have e2 : List.range' (i + 1) (j - i - 1) ++ List.range' j (n - j) = List.range' (i + 1) (n - i - 1) := by
    have := List.range'_append_1 (s := i + 1) (m := j - i - 1) (n := n - j)
    rw [show i + 1 + (j - i - 1) = j by omega, show j - i - 1 + (n - j) = n - i - 1 by omega] at this
    exact this
  have e3 : (i :: List.range' (i + 1) (n - i - 1)) = List.range' i (n - i) := by
    rw [show n - i = (n - i - 1) + 1 by omega, List.range'_succ]; simp
  have e4 := List.range'_append_1 (s := 0) (m := i) (n := n - i)
  rw [show 0 + i = i by omega, show i + (n - i) = n by omega] at e4
  rw [e1, e2, e3, e4, List.range_eq_range']
theorem perm_mid {α : Type} (x y : α) (A B C : List α) : (A ++ (y :: (B ++ (x :: C)))).Perm (A ++ (x :: (B ++ (y :: C)))) := by
  refine List.Perm.append_left A ?_
  have h1 : (y :: (B ++ (x :: C))).Perm (y :: x :: (B ++ C)) := List.Perm.cons y List.perm_middle
  have h2 : (x :: (B ++ (y :: C))).Perm (x :: y :: (B ++ C)) := List.Perm.cons x List.perm_middle
  exact h1.trans ((List.Perm.swap x y (B ++ C)).trans h2.symm)
theorem swp_perm {α : Type} (f : Nat → α) {i j n : Nat} (h : i < j) (hn : j < n) : ((List.range n).map (swp f i j)).Perm ((List.range n).map f) := by
  rw [range_split h hn]
  simp only [List.map_append, List.map_cons]
  have hA : (List.range' 0 i).map (swp f i j) = (List.range' 0 i).map f := List.map_congr_left fun k hk => by
    have := List.mem_range'_1.1 hk; unfold swp; rw [if_neg (by omega), if_neg (by omega)]
  have hB : (List.range' (i + 1) (j - i - 1)).map (swp f i j) = (List.range' (i + 1) (j - i - 1)).map f := List.map_congr_left fun k hk => by
    have := List.mem_range'_1.1 hk; unfold swp; rw [if_neg (by omega), if_neg (by omega)]
  have hC : (List.range' (j + 1) (n - j - 1)).map (swp f i j) = (List.range' (j + 1) (n - j - 1)).map f := List.map_congr_left fun k hk => by
    have := List.mem_range'_1.1 hk; unfold swp; rw [if_neg (by omega), if_neg (by omega)]
  have hi : swp f i j i = f j := by unfold swp; rw [if_pos rfl]
  have hj : swp f i j j = f i := by unfold swp; rw [if_neg (by omega), if_pos rfl]
  rw [hA, hB, hC, hi, hj]
  exact perm_mid _ _ _ _ _
theorem sorted_perm : ∀ (l m : List Rat), l.Perm m → l.Pairwise (· ≤ ·) → m.Pairwise (· ≤ ·) → l = m
  | [], m, h, _, _ => by simpa using h
  | a :: l, [], h, _, _ => by simpa using h.length_eq
  | a :: l, b :: m, h, hl, hm => by
    obtain ⟨hl1, hl2⟩ := List.pairwise_cons.1 hl
    obtain ⟨hm1, hm2⟩ := List.pairwise_cons.1 hm
    have hab : a ≤ b := by
      rcases List.mem_cons.1 (h.symm.subset (List.mem_cons_self)) with e | e
      · rw [e]; exact Rat.le_refl
      · exact hl1 b e
    have hba : b ≤ a := by
      rcases List.mem_cons.1 (h.subset (List.mem_cons_self)) with e | e
      · rw [e]; exact Rat.le_refl
      · exact hm1 a e
    have e : a = b := Rat.le_antisymm hab hba
    subst e
    rw [sorted_perm l m (List.Perm.cons_inv h) hl2 hm2]
def SortedTo (f : Nat → Nat) (n : Nat) : Prop := ∀ a b, a < b → b < n → vq (f a) ≤ vq (f b)
theorem sortedTo_pw {f : Nat → Nat} {n : Nat} (h : SortedTo f n) : ((List.range n).map (fun k => vq (f k))).Pairwise (· ≤ ·) := by
  rw [List.pairwise_iff_getElem]
  intro i j hi hj hij
  simp at hi hj
  simp
  exact h i j hij hj
theorem sorted_same {f g : Nat → Nat} {n m : Nat} (h : ((List.range n).map f).Perm ((List.range m).map g)) (hf : SortedTo f n) (hg : SortedTo g m) : n = m ∧ ∀ k, k < n → vq (f k) = vq (g k) := by
  have hl : n = m := by simpa using h.length_eq
  subst hl
  refine ⟨rfl, fun k hk => ?_⟩
  have hp := h.map vq
  rw [List.map_map, List.map_map] at hp
  have e := sorted_perm _ _ hp (sortedTo_pw hf) (sortedTo_pw hg)
  have := congrArg (fun l => l[k]?) e
  simpa [hk] using this
/-- the first ones of a sorted list, up to d, are those that are at most d -/
theorem upTo_filter {f : Nat → Nat} {n m : Nat} {d : Nat} (hf : SortedTo f n) (hm : m ≤ n) (h1 : ∀ k, k < m → vq (f k) ≤ vq d) (h2 : m < n → ¬ vq (f m) ≤ vq d) :
    ((List.range n).map f).filter (fun x => decide (vq x ≤ vq d)) = (List.range m).map f := by
  have e : List.range n = List.range m ++ List.range' m (n - m) := by
    have := List.range'_append_1 (s := 0) (m := m) (n := n - m)
    rw [show 0 + m = m by omega, show m + (n - m) = n by omega] at this
    rw [List.range_eq_range', List.range_eq_range', this]
  rw [e, List.map_append, List.filter_append]
  have ha : ((List.range m).map f).filter (fun x => decide (vq x ≤ vq d)) = (List.range m).map f := by
    rw [List.filter_eq_self]; intro x hx
    obtain ⟨k, hk, rfl⟩ := List.mem_map.1 hx
    exact decide_eq_true (h1 k (List.mem_range.1 hk))
  have hb : ((List.range' m (n - m)).map f).filter (fun x => decide (vq x ≤ vq d)) = [] := by
    rw [List.filter_eq_nil_iff]; intro x hx
    obtain ⟨k, hk, rfl⟩ := List.mem_map.1 hx
    have hk := List.mem_range'_1.1 hk
    have h3 := h2 (by omega)
    simp only [decide_eq_true_eq]
    intro hle
    by_cases he : k = m
    · subst he; exact h3 hle
    · exact h3 (Rat.le_trans (hf m k (by omega) (by omega)) hle)
  rw [ha, hb, List.append_nil]
/-- one step of the insertion -/
theorem ins_step {f : Nat → Nat} {i k : Nat} (hk : 0 < k) (hki : k ≤ i) (h : ∀ a b, a < b → b ≤ i → b ≠ k → vq (f a) ≤ vq (f b)) (hgt : vq (f k) < vq (f (k - 1))) :
    ∀ a b, a < b → b ≤ i → b ≠ k - 1 → vq (swp f (k - 1) k a) ≤ vq (swp f (k - 1) k b) := by
  intro a b hab hb hne
  have hle := Rat.le_of_lt hgt
  unfold swp
  by_cases h1 : b = k
  · subst h1
    rw [if_neg (show ¬ b = b - 1 by omega), if_pos rfl]
    by_cases h2 : a = b - 1
    · rw [if_pos h2]; exact hle
    · rw [if_neg h2, if_neg (by omega)]; exact h a (b - 1) (by omega) (by omega) (by omega)
  · rw [if_neg hne, if_neg h1]
    by_cases h2 : a = k - 1
    · rw [if_pos h2]
      exact h k b (by omega) hb h1
    · rw [if_neg h2]
      by_cases h3 : a = k
      · rw [if_pos h3]; exact h (k - 1) b (by omega) hb h1
      · rw [if_neg h3]; exact h a b hab hb h1
theorem ins_done {f : Nat → Nat} {i k : Nat} (hki : k ≤ i) (h : ∀ a b, a < b → b ≤ i → b ≠ k → vq (f a) ≤ vq (f b)) (hgt : k = 0 ∨ ¬ vq (f k) < vq (f (k - 1))) : SortedTo f (i + 1) := by
  intro a b hab hb
  by_cases he : b = k
  · subst he
    rcases hgt with h0 | h0
    · omega
    · have h1 : vq (f (b - 1)) ≤ vq (f b) := Rat.not_lt.1 h0
      by_cases h2 : a = b - 1
      · subst h2; exact h1
      · exact Rat.le_trans (h a (b - 1) (by omega) (by omega) (by omega)) h1
  · exact h a b hab (by omega) he
end Go.Proofs.Ytcpdhkbmfgphpaa
