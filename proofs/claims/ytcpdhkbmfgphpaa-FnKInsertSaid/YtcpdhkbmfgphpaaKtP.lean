import Derived.Test.YtcpdhkbmfgphpaaFlAll
/-! the walk through a list of nodes whose children stand behind them, in plain Lean: what is met, in which order; a walk that goes well tells a binary tree -/
namespace Kt
inductive KT where
  | nil
  | node (i : Nat) (l r : KT)
structure St where
  seen : Nat → Bool
  ok : Bool
  ord : List Nat
  dep : List Int
/-- one call of the walk: n nodes, their sides L and R; k bounds the depth; node i below node a at depth d -/
def walk (n : Nat) (L R : Nat → Int) : Nat → Int → Int → Int → St → St
  | 0, i, _, _, s => if i = -1 ∨ s.ok = false then s else { s with ok := false }
  | k + 1, i, a, d, s =>
    if i = -1 ∨ s.ok = false then s
    else if i ≤ a ∨ (n : Int) ≤ i ∨ s.seen i.toNat = true then { s with ok := false }
    else
      let s2 := walk n L R k (L i.toNat) i (d + 1) { s with seen := fun j => if j = i.toNat then true else s.seen j }
      walk n L R k (R i.toNat) i (d + 1) { s2 with ord := s2.ord ++ [i.toNat], dep := s2.dep ++ [d] }
def KT.ins : KT → List Nat
  | .nil => []
  | .node i l r => l.ins ++ i :: r.ins
def KT.deps : KT → Int → List Int
  | .nil, _ => []
  | .node _ l r, d => l.deps (d + 1) ++ d :: r.deps (d + 1)
def Tr (n : Nat) (L R : Nat → Int) : Int → Int → KT → Prop
  | _, i, .nil => i = -1
  | a, i, .node j l r => i = (j : Int) ∧ a < i ∧ j < n ∧ Tr n L R (j : Int) (L j) l ∧ Tr n L R (j : Int) (R j) r
theorem Tr.mono {n : Nat} {L R : Nat → Int} {a b i : Int} {t : KT} (h : Tr n L R a i t) (hb : b ≤ a) : Tr n L R b i t := by
  cases t with
  | nil => exact h
  | node j l r => exact ⟨h.1, Int.lt_of_le_of_lt hb h.2.1, h.2.2⟩
theorem Tr.uniq {n : Nat} {L R : Nat → Int} : ∀ {t u : KT} {a b i : Int}, Tr n L R a i t → Tr n L R b i u → t = u
  | .nil, .nil, _, _, _, _, _ => rfl
  | .nil, .node j l r, _, _, i, h, g => by have h1 : i = -1 := h; have h2 : i = (j : Int) := g.1; omega
  | .node j l r, .nil, _, _, i, h, g => by have h1 : i = -1 := g; have h2 : i = (j : Int) := h.1; omega
  | .node j l r, .node j' l' r', _, _, i, h, g => by
    have e : j = j' := by have := h.1; have := g.1; omega
    subst e
    rw [h.2.2.2.1.uniq g.2.2.2.1, h.2.2.2.2.uniq g.2.2.2.2]
theorem Tr.above {n : Nat} {L R : Nat → Int} : ∀ {t : KT} {a i : Int}, Tr n L R a i t → ∀ j ∈ t.ins, a < (j : Int) ∧ j < n
  | .nil, _, _, _, j, hj => by cases hj
  | .node k l r, a, i, h, j, hj => by
    have h1 := h.1; have h2 := h.2.1
    simp only [KT.ins, List.mem_append, List.mem_cons] at hj
    rcases hj with hj | hj | hj
    · have := h.2.2.2.1.above j hj; exact ⟨by omega, this.2⟩
    · subst hj; exact ⟨by omega, h.2.2.1⟩
    · have := h.2.2.2.2.above j hj; exact ⟨by omega, this.2⟩
theorem walk_ok {n : Nat} {L R : Nat → Int} : ∀ (k : Nat) (i a d : Int) (s : St), (walk n L R k i a d s).ok = true → s.ok = true
  | 0, i, a, d, s, h => by
    rw [walk] at h
    split at h
    · exact h
    · exact absurd h (by simp)
  | k + 1, i, a, d, s, h => by
    rw [walk] at h
    split at h
    · exact h
    · split at h
      · exact absurd h (by simp)
      · have h' := walk_ok k _ _ _ _ h
        simp only at h'
        have h'' := walk_ok k _ _ _ _ h'
        exact h''
/-- a walk that goes well -/
theorem walk_tree {n : Nat} {L R : Nat → Int} : ∀ (k : Nat) (i a d : Int) (s : St), -1 ≤ a → (walk n L R k i a d s).ok = true →
    ∃ t : KT, Tr n L R a i t ∧ t.ins.Nodup ∧ (∀ j ∈ t.ins, s.seen j = false) ∧
      walk n L R k i a d s = { seen := fun j => decide (j ∈ t.ins) || s.seen j, ok := true, ord := s.ord ++ t.ins, dep := s.dep ++ t.deps d }
  | 0, i, a, d, s, ha, h => by
    rw [walk] at h ⊢
    by_cases h1 : i = -1 ∨ s.ok = false
    · rw [if_pos h1] at h ⊢
      refine ⟨.nil, h1.resolve_right (by simp [h]), .nil, (fun j hj => by cases hj), ?_⟩
      cases s; simp [KT.ins, KT.deps] at h ⊢; exact h
    · rw [if_neg h1] at h; exact absurd h (by simp)
  | k + 1, i, a, d, s, ha, h => by
    rw [walk] at h ⊢
    by_cases h1 : i = -1 ∨ s.ok = false
    · rw [if_pos h1] at h ⊢
      refine ⟨.nil, h1.resolve_right (by simp [h]), .nil, (fun j hj => by cases hj), ?_⟩
      cases s; simp [KT.ins, KT.deps] at h ⊢; exact h
    · rw [if_neg h1] at h ⊢
      by_cases h2 : i ≤ a ∨ (n : Int) ≤ i ∨ s.seen i.toNat = true
      · rw [if_pos h2] at h; exact absurd h (by simp)
      · rw [if_neg h2] at h ⊢
        have h2a : a < i := by omega
        have h2b : i.toNat < n := by omega
        have h2c : s.seen i.toNat = false := by
          cases e : s.seen i.toNat
          · rfl
          · exact absurd (Or.inr (Or.inr e)) h2
        have hi : ((i.toNat : Nat) : Int) = i := Int.toNat_of_nonneg (by omega)
        obtain ⟨r, hr, hrn, hrs, er⟩ := walk_tree k _ _ _ _ (by omega) h
        have h' := walk_ok k _ _ _ _ h
        simp only at h'
        obtain ⟨l, hl, hln, hls, el⟩ := walk_tree k _ _ _ _ (by omega) h'
        simp only [el] at er hrs
        simp only [el]
        refine ⟨.node i.toNat l r, ⟨hi.symm, h2a, h2b, by rw [hi]; exact hl, by rw [hi]; exact hr⟩, ?_, ?_, ?_⟩
        · have dl : ∀ j ∈ l.ins, j ≠ i.toNat := fun j hj e => by have := (hl.above j hj).1; omega
          have dr : ∀ j ∈ r.ins, j ≠ i.toNat := fun j hj e => by have := (hr.above j hj).1; omega
          simp only [KT.ins]
          refine List.nodup_append.2 ⟨hln, List.nodup_cons.2 ⟨fun hm => dr _ hm rfl, hrn⟩, fun x hx y hy e => ?_⟩
          subst e
          rcases List.mem_cons.1 hy with hy | hy
          · exact dl x hx hy
          · have := hrs x hy
            simp [hx] at this
        · intro j hj
          simp only [KT.ins, List.mem_append, List.mem_cons] at hj
          rcases hj with hj | hj | hj
          · have := hls j hj
            simp only at this
            split at this
            · exact absurd this (by simp)
            · exact this
          · rw [hj]; exact h2c
          · have := hrs j hj
            simp only [Bool.or_eq_false_iff] at this
            have := this.2
            split at this
            · exact absurd this (by simp)
            · exact this
        · rw [er]
          simp only [KT.ins, KT.deps, St.mk.injEq, List.append_assoc, List.cons_append, List.nil_append, and_self, and_true]
          funext j
          by_cases e1 : j ∈ r.ins <;> by_cases e2 : j ∈ l.ins <;> by_cases e3 : j = i.toNat <;> simp [e1, e2, e3]
/-- a tree is walked well -/
theorem tree_walk {n : Nat} {L R : Nat → Int} : ∀ (t : KT) (k : Nat) (i a d : Int) (s : St), -1 ≤ a → (n : Int) - 1 - a ≤ k → Tr n L R a i t → t.ins.Nodup → s.ok = true → (∀ j ∈ t.ins, s.seen j = false) →
      walk n L R k i a d s = { seen := fun j => decide (j ∈ t.ins) || s.seen j, ok := true, ord := s.ord ++ t.ins, dep := s.dep ++ t.deps d }
  | .nil, k, i, a, d, s, ha, hk, h, hn, hs, hu => by
    have h0 : i = -1 := h
    have : walk n L R k i a d s = s := by cases k <;> rw [walk, if_pos (Or.inl h0)]
    rw [this]
    cases s; simp [KT.ins, KT.deps] at hs ⊢; exact hs
  | .node j l r, 0, i, a, d, s, ha, hk, h, hn, hs, hu => by
    have := h.1; have := h.2.1; have := h.2.2.1
    omega
  | .node j l r, k + 1, i, a, d, s, ha, hk, h, hn, hs, hu => by
    obtain ⟨h1, h2, h3, hl, hr⟩ := h
    subst h1
    simp only [KT.ins] at hn hu
    have hn' := List.nodup_append.1 hn
    have hnr := List.nodup_cons.1 hn'.2.1
    rw [walk, if_neg (by rintro (e | e); omega; simp [hs] at e), if_neg (by
      rintro (e | e | e)
      · omega
      · omega
      · rw [Int.toNat_natCast, hu j (by simp)] at e; exact absurd e (by simp))]
    simp only [Int.toNat_natCast]
    have el := tree_walk l k (L j) (j : Int) (d + 1) { s with seen := fun x => if x = j then true else s.seen x } (by omega) (by omega) hl hn'.1 hs (fun x hx => by
      have := (hl.above x hx).1
      show (if x = j then true else s.seen x) = false
      rw [if_neg (by omega)]
      exact hu x (by simp [hx]))
    simp only [el]
    have er := tree_walk r k (R j) (j : Int) (d + 1) { seen := fun x => decide (x ∈ l.ins) || (if x = j then true else s.seen x), ok := true, ord := s.ord ++ l.ins ++ [j], dep := s.dep ++ l.deps (d + 1) ++ [d] } (by omega) (by omega) hr hnr.2 rfl (fun x hx => by
      have := (hr.above x hx).1
      have hxl : x ∉ l.ins := fun hm => hn'.2.2 x hm x (by simp [hx]) rfl
      simp only [hxl, decide_false, Bool.false_or]
      rw [if_neg (by omega)]
      exact hu x (by simp [hx]))
    simp only [er]
    simp only [KT.ins, KT.deps, St.mk.injEq, List.append_assoc, List.cons_append, List.nil_append, and_self, and_true]
    funext x
    by_cases e1 : x ∈ r.ins <;> by_cases e2 : x ∈ l.ins <;> by_cases e3 : x = j <;> simp [e1, e2, e3]
/-- what holds of each node of a tree with what hangs on its sides -/
def KT.All (P : Nat → KT → KT → Prop) : KT → Prop
  | .nil => True
  | .node i l r => P i l r ∧ l.All P ∧ r.All P
/-- the subtrees of a tree that is walked well are walked well, from the root of each on -/
theorem Tr.all {n : Nat} {L R : Nat → Int} : ∀ {t : KT} {a i : Int}, Tr n L R a i t → t.ins.Nodup →
    t.All fun j l r => j < n ∧ Tr n L R (j : Int) (L j) l ∧ Tr n L R (j : Int) (R j) r ∧ l.ins.Nodup ∧ r.ins.Nodup
  | .nil, _, _, _, _ => trivial
  | .node j l r, a, i, h, hn => by
    have hn' := List.nodup_append.1 hn
    have hnr := List.nodup_cons.1 hn'.2.1
    exact ⟨⟨h.2.2.1, h.2.2.2.1, h.2.2.2.2, hn'.1, hnr.2⟩, h.2.2.2.1.all hn'.1, h.2.2.2.2.all hnr.2⟩
theorem KT.All.mono {P Q : Nat → KT → KT → Prop} (h : ∀ i l r, P i l r → Q i l r) : ∀ {t : KT}, t.All P → t.All Q
  | .nil, _ => trivial
  | .node i l r, g => ⟨h i l r g.1, g.2.1.mono h, g.2.2.mono h⟩
theorem KT.All.and {P Q : Nat → KT → KT → Prop} : ∀ {t : KT}, t.All P → t.All Q → t.All fun i l r => P i l r ∧ Q i l r
  | .nil, _, _ => trivial
  | .node _ _ _, g, h => ⟨⟨g.1, h.1⟩, g.2.1.and h.2.1, g.2.2.and h.2.2⟩
/-- what a list of facts over all nodes tells, if each is a fact of the subtree at that node -/
theorem KT.all_of {P : Nat → KT → KT → Prop} {Q : Nat → Prop} : ∀ {t : KT}, (t.All fun i l r => Q i → P i l r) → (∀ i ∈ t.ins, Q i) → t.All P
  | .nil, _, _ => trivial
  | .node i l r, g, h => ⟨g.1 (h i (by simp [KT.ins])), KT.all_of g.2.1 (fun j hj => h j (by simp [KT.ins, hj])), KT.all_of g.2.2 (fun j hj => h j (by simp [KT.ins, hj]))⟩
theorem KT.all_ins {Q : Nat → Prop} : ∀ {t : KT}, (t.All fun i _ _ => Q i) → ∀ i ∈ t.ins, Q i
  | .nil, _, i, h => by cases h
  | .node j l r, g, i, h => by
    simp only [KT.ins, List.mem_append, List.mem_cons] at h
    rcases h with h | h | h
    · exact KT.all_ins g.2.1 i h
    · rw [h]; exact g.1
    · exact KT.all_ins g.2.2 i h
def st0 : St := ⟨fun _ => false, true, [], []⟩
/-- the whole walk from a node on -/
def walk0 (n : Nat) (L R : Nat → Int) (i : Int) : St := walk n L R n i (-1) 0 st0
theorem walk0_ok {n : Nat} {L R : Nat → Int} {i : Int} (h : (walk0 n L R i).ok = true) : ∃ t, Tr n L R (-1) i t ∧ t.ins.Nodup ∧ (walk0 n L R i).ord = t.ins ∧ (walk0 n L R i).dep = t.deps 0 := by
  obtain ⟨t, h1, h2, _, h4⟩ := walk_tree n i (-1) 0 st0 (by omega) h
  exact ⟨t, h1, h2, by rw [walk0, h4]; rfl, by rw [walk0, h4]; rfl⟩
theorem walk0_of {n : Nat} {L R : Nat → Int} {a i : Int} {t : KT} (ha : -1 ≤ a) (h : Tr n L R a i t) (hn : t.ins.Nodup) : (walk0 n L R i).ok = true ∧ (walk0 n L R i).ord = t.ins ∧ (walk0 n L R i).dep = t.deps 0 := by
  have := tree_walk t n i (-1) 0 st0 (by omega) (by omega) (h.mono ha) hn rfl (fun _ _ => rfl)
  rw [walk0, this]
  exact ⟨rfl, rfl, rfl⟩
/-- how many places are not seen yet -/
def free (n : Nat) (s : Nat → Bool) : Nat := ((List.range n).filter fun j => !s j).length
theorem count_set (s : Nat → Bool) (i : Nat) (hs : s i = false) : ∀ (l : List Nat), l.Nodup → i ∈ l →
    (l.filter fun j => !(if j = i then true else s j)).length + 1 = (l.filter fun j => !s j).length
  | [], _, h => by cases h
  | x :: t, hn, h => by
    have hn' := List.nodup_cons.1 hn
    by_cases e : x = i
    · subst e
      have : t.filter (fun j => !decide (j = x) && !s j) = t.filter fun j => !s j := by
        refine List.filter_congr fun j hj => ?_
        have hne : j ≠ x := fun (e : j = x) => hn'.1 (by rw [← e]; exact hj)
        simp [hne]
      simp [hs, this]
    · have := count_set s i hs t hn'.2 ((List.mem_cons.1 h).resolve_left (fun e' => e e'.symm))
      cases hx : s x <;> simp [e, hx] <;> simpa using this
theorem free_set {n : Nat} {s : Nat → Bool} {i : Nat} (hi : i < n) (hs : s i = false) : free n (fun j => if j = i then true else s j) + 1 = free n s :=
  count_set s i hs _ List.nodup_range (List.mem_range.2 hi)
/-- the order never gets longer than places are seen -/
theorem walk_free {n : Nat} {L R : Nat → Int} : ∀ (k : Nat) (i a d : Int) (s : St), -1 ≤ a → (walk n L R k i a d s).ord.length + free n (walk n L R k i a d s).seen ≤ s.ord.length + free n s.seen
  | 0, i, a, d, s, _ => by
    rw [walk]; split <;> exact Nat.le_refl _
  | k + 1, i, a, d, s, ha => by
    rw [walk]
    split
    · exact Nat.le_refl _
    · split
      · exact Nat.le_refl _
      · rename_i h1 h2
        have h3 : i.toNat < n := by omega
        have h4 : s.seen i.toNat = false := by
          cases e : s.seen i.toNat
          · rfl
          · exact absurd (Or.inr (Or.inr e)) h2
        have e0 := free_set h3 h4
        refine Nat.le_trans (walk_free k _ _ _ _ (by omega)) ?_
        have := walk_free k (L i.toNat) i (d + 1) { s with seen := fun j => if j = i.toNat then true else s.seen j } (n := n) (L := L) (R := R) (by omega)
        simp only [List.length_append, List.length_cons, List.length_nil] at this ⊢
        omega
theorem walk_len {n : Nat} {L R : Nat → Int} : ∀ (k : Nat) (i a d : Int) (s : St), s.dep.length = s.ord.length → (walk n L R k i a d s).dep.length = (walk n L R k i a d s).ord.length
  | 0, i, a, d, s, h => by
    rw [walk]; split <;> exact h
  | k + 1, i, a, d, s, h => by
    rw [walk]
    split
    · exact h
    · split
      · exact h
      · refine walk_len k _ _ _ _ ?_
        have := walk_len k (L i.toNat) i (d + 1) { s with seen := fun j => if j = i.toNat then true else s.seen j } (n := n) (L := L) (R := R) h
        simp only [List.length_append, List.length_cons, List.length_nil]
        omega
end Kt
