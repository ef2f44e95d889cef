import Derived.Test.YtdcchejehomicaaOwn
namespace Go.Proofs.Ytdcchejehomicaa
/-! sets of places as trees: plain Lean -/
def ordE (x y : Nat) : Bool := FloatKind.f64.format.order x y == some .eq
def ordL (x y : Nat) : Bool := FloatKind.f64.format.order x y == some .lt
/-- how many numbers of a place a comparison looks at -/
def axN (c : Int) (n : Nat) : Nat := if c = 1 then 1 else if c = 2 then n else 2
def eqR : List Nat → List Nat → Nat → Nat → Bool
  | _, _, 0, _ => true
  | x, y, k + 1, i => if ordE (x.getD i 0) (y.getD i 0) then eqR x y k (i + 1) else false
def lsR : List Nat → List Nat → Nat → Nat → Bool
  | _, _, 0, _ => false
  | x, y, k + 1, i => if ordE (x.getD i 0) (y.getD i 0) then lsR x y k (i + 1) else ordL (x.getD i 0) (y.getD i 0)
def eqC (c : Int) (x y : List Nat) : Bool := eqR x y (axN c x.length) 0
def lsC (c : Int) (x y : List Nat) : Bool := if c = 3 then lsR y x (axN c y.length) 0 else lsR x y (axN c x.length) 0
inductive BT where
  | leaf : BT
  | node (l : BT) (r : List Nat) (t : BT) : BT
namespace BT
def ins (c : Int) (x : List Nat) : BT → BT × Bool
  | leaf => (node leaf x leaf, true)
  | node l r t => if eqC c x r then (node l r t, false) else if lsC c x r then (node (ins c x l).1 r t, (ins c x l).2) else (node l r (ins c x t).1, (ins c x t).2)
def size : BT → Nat
  | leaf => 0
  | node l _ t => l.size + 1 + t.size
def rows : BT → List (List Nat)
  | leaf => []
  | node l r t => l.rows ++ r :: t.rows
theorem rows_len : ∀ t : BT, t.rows.length = t.size
  | leaf => rfl
  | node l r t => by simp only [rows, size, List.length_append, List.length_cons, rows_len l, rows_len t]; omega
theorem ins_no (c : Int) (x : List Nat) : ∀ t : BT, (ins c x t).2 = false → (ins c x t).1 = t
  | leaf, h => by simp [ins] at h
  | node l r t, h => by
    unfold ins at h ⊢
    split
    · rfl
    · next h1 =>
      rw [if_neg h1] at h
      split
      · next h2 => rw [if_pos h2] at h; rw [ins_no c x l h]
      · next h2 => rw [if_neg h2] at h; rw [ins_no c x t h]
theorem ins_size (c : Int) (x : List Nat) : ∀ t : BT, (ins c x t).1.size = t.size + (if (ins c x t).2 then 1 else 0)
  | leaf => rfl
  | node l r t => by
    unfold ins
    split
    · simp
    · split
      · have := ins_size c x l; simp only [size]; omega
      · have := ins_size c x t; simp only [size]; omega
theorem ins_rows (c : Int) (x : List Nat) : ∀ t : BT, ∀ r ∈ (ins c x t).1.rows, r = x ∨ r ∈ t.rows
  | leaf, r, h => by simp [ins, rows] at h; exact .inl h
  | node l q t, r, h => by
    unfold ins at h
    split at h
    · exact .inr h
    · split at h
      · simp only [rows, List.mem_append, List.mem_cons] at h ⊢
        rcases h with h | h | h
        · rcases ins_rows c x l r h with h | h
          · exact .inl h
          · exact .inr (.inl h)
        · exact .inr (.inr (.inl h))
        · exact .inr (.inr (.inr h))
      · simp only [rows, List.mem_append, List.mem_cons] at h ⊢
        rcases h with h | h | h
        · exact .inr (.inl h)
        · exact .inr (.inr (.inl h))
        · rcases ins_rows c x t r h with h | h
          · exact .inl h
          · exact .inr (.inr (.inr h))
end BT
/-- places put in one after another: the tree, those that were new, which were new -/
structure TsS where
  t : BT
  us : List (List Nat)
  ad : List Bool
def TsS.step (c : Int) (s : TsS) (x : List Nat) : TsS := ⟨(s.t.ins c x).1, if (s.t.ins c x).2 then s.us ++ [x] else s.us, s.ad ++ [(s.t.ins c x).2]⟩
def TsS.start : TsS := ⟨.leaf, [], []⟩
def tsAll (c : Int) (xs : List (List Nat)) : TsS := xs.foldl (TsS.step c) TsS.start
theorem tsAll_snoc (c : Int) (xs : List (List Nat)) (x : List Nat) : tsAll c (xs ++ [x]) = TsS.step c (tsAll c xs) x := by unfold tsAll; rw [List.foldl_append]; rfl
theorem tsAll_take (c : Int) (xs : List (List Nat)) (k : Nat) (x : List Nat) (h : xs[k]? = some x) : tsAll c (xs.take (k + 1)) = TsS.step c (tsAll c (xs.take k)) x := by
  rw [List.take_add_one, h]; exact tsAll_snoc c _ x
theorem snoc_ind {α : Type} {p : List α → Prop} (h0 : p []) (h1 : ∀ xs x, p xs → p (xs ++ [x])) : ∀ xs, p xs := fun xs => by
  rw [← List.reverse_reverse xs]
  induction xs.reverse with
  | nil => exact h0
  | cons x l ih => rw [List.reverse_cons]; exact h1 _ _ ih
/-- those that were new, put in alone, make the same tree -/
theorem tsAll_us (c : Int) : ∀ xs : List (List Nat), (tsAll c (tsAll c xs).us).t = (tsAll c xs).t := snoc_ind rfl fun xs x ih => by
  rw [tsAll_snoc]
  unfold TsS.step
  cases h : ((tsAll c xs).t.ins c x).2 with
  | true =>
    simp only [if_true]
    rw [tsAll_snoc]; unfold TsS.step; simp only [ih]
  | false =>
    simp only [Bool.false_eq_true, if_false]
    rw [ih, BT.ins_no c x _ h]
theorem tsAll_size (c : Int) : ∀ xs : List (List Nat), (tsAll c xs).t.size = (tsAll c xs).us.length := snoc_ind rfl fun xs x ih => by
  rw [tsAll_snoc]
  unfold TsS.step
  rw [BT.ins_size, ih]
  cases ((tsAll c xs).t.ins c x).2 <;> simp
theorem tsAll_le (c : Int) : ∀ xs : List (List Nat), (tsAll c xs).us.length ≤ xs.length := snoc_ind (Nat.le_refl _) fun xs x ih => by
  rw [tsAll_snoc]
  unfold TsS.step
  cases ((tsAll c xs).t.ins c x).2 <;> simp <;> omega
theorem tsAll_ad (c : Int) : ∀ xs : List (List Nat), (tsAll c xs).ad.length = xs.length := snoc_ind rfl fun xs x ih => by
  rw [tsAll_snoc]
  unfold TsS.step
  simp [ih]
theorem tsAll_mem (c : Int) : ∀ xs : List (List Nat), (∀ r ∈ (tsAll c xs).us, r ∈ xs) ∧ ∀ r ∈ (tsAll c xs).t.rows, r ∈ xs := snoc_ind ⟨(fun r h => by cases h), (fun r h => by cases h)⟩ fun xs x ih => by
  rw [tsAll_snoc]
  unfold TsS.step
  refine ⟨fun r h => ?_, fun r h => ?_⟩
  · revert h
    cases ((tsAll c xs).t.ins c x).2 with
    | true => intro h; simp only [if_true, List.mem_append, List.mem_cons, List.not_mem_nil, or_false] at h ⊢; exact h.imp (ih.1 r) id
    | false => intro h; simp only [Bool.false_eq_true, if_false] at h; exact List.mem_append_left _ (ih.1 r h)
  · rcases BT.ins_rows c x _ r h with h | h
    · rw [h]; simp
    · exact List.mem_append_left _ (ih.2 r h)
end Go.Proofs.Ytdcchejehomicaa
