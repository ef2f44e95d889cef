import Derived.Test.YtcpdhkbmfgphpaaKtP
namespace Kt
theorem walk_lt {n : Nat} {L R : Nat → Int} : ∀ (k : Nat) (i a d : Int) (s : St), -1 ≤ a → (∀ j ∈ s.ord, j < n) → ∀ j ∈ (walk n L R k i a d s).ord, j < n
  | 0, i, a, d, s, _, h => by
    rw [walk]; split <;> exact h
  | k + 1, i, a, d, s, ha, h => by
    rw [walk]
    split
    · exact h
    · split
      · exact h
      · rename_i h1 h2
        refine walk_lt k _ _ _ _ (by omega) ?_
        intro j hj
        simp only [List.mem_append, List.mem_singleton] at hj
        rcases hj with hj | hj
        · exact walk_lt k _ _ _ { s with seen := fun j => if j = i.toNat then true else s.seen j } (by omega) h j hj
        · omega
theorem walk0_lt {n : Nat} {L R : Nat → Int} (i : Int) : ∀ j ∈ (walk0 n L R i).ord, j < n := walk_lt n i (-1) 0 st0 (by omega) (fun j hj => by cases hj)
theorem walk0_len {n : Nat} {L R : Nat → Int} (i : Int) : (walk0 n L R i).ord.length ≤ n := by
  have h := walk_free (n := n) (L := L) (R := R) n i (-1) 0 st0 (by omega)
  have h2 : free n st0.seen ≤ n := by
    unfold free
    have := List.length_filter_le (fun j => !st0.seen j) (List.range n)
    simpa using this
  simp only [st0, List.length_nil] at h
  unfold walk0
  simp only [st0] at h2 ⊢
  omega
end Kt
