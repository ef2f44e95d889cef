import Derived.Test.YtelfjglhmccecaaSameN
import Derived.Test.YtelfjglhmccecaaEnvC
namespace Go.Proofs.Ytelfjglhmccecaa
open Go.ChangeShapes Go.WideShapes Go.ChangeAt Go.RowKit Go.GrowR
set_option linter.unusedVariables false
set_option linter.unusedSimpArgs false
/-! the first of the greatest ones of a list of scores; eight directions; eight rows in a block of the call's own -/
def argF (f : Nat → Int) : Nat → Nat
  | 0 => 0
  | k + 1 => if f (argF f k) < f k then k else argF f k
theorem argF_lt (f : Nat → Int) : ∀ k, argF f (k + 1) < k + 1
  | 0 => by unfold argF; split <;> simp [argF]
  | k + 1 => by
    have := argF_lt f k
    show (if f (argF f (k + 1)) < f (k + 1) then k + 1 else argF f (k + 1)) < k + 1 + 1
    split <;> omega
theorem argF_pos (f : Nat → Int) {k : Nat} (h : 1 ≤ k) : argF f k < k := by
  obtain ⟨m, rfl⟩ : ∃ m, k = m + 1 := ⟨k - 1, by omega⟩
  exact argF_lt f m
theorem argF_one (f : Nat → Int) : argF f 1 = 0 := by unfold argF; split <;> simp [argF]
theorem argF_ge (f : Nat → Int) : ∀ k i, i < k → f i ≤ f (argF f k)
  | 0, i, h => by omega
  | k + 1, i, h => by
    show f i ≤ f (if f (argF f k) < f k then k else argF f k)
    by_cases hi : i < k
    · have := argF_ge f k i hi
      split <;> omega
    · obtain rfl : i = k := by omega
      split <;> omega
def dA : Nat → Int
  | 0 => -1
  | 1 => -1
  | 2 => 0
  | 3 => 1
  | 4 => 1
  | 5 => 1
  | 6 => 0
  | _ => -1
def dB : Nat → Int
  | 0 => 0
  | 1 => 1
  | 2 => 1
  | 3 => 1
  | 4 => 0
  | 5 => -1
  | 6 => -1
  | _ => -1
def sc (X Y : Nat → Int) (j i : Nat) : Int := X i * dA j + Y i * dB j
/-- the first k places of xs lie at these whole numbers -/
def Ints (xs : List Nat) (s K : Nat) (X Y : Nat → Int) : Prop := ∀ i, i < K → (Fl.IsI (xs.getD (i * s) 0) (X i) ∧ -16777216 ≤ X i ∧ X i ≤ 16777216) ∧ (Fl.IsI (xs.getD (i * s + 1) 0) (Y i) ∧ -16777216 ≤ Y i ∧ Y i ≤ 16777216)
theorem ints_of {xs : List Nat} {s K : Nat} (h : (pls xs s K).all (placeB 16777216) = true) : ∃ X Y, Ints xs s K X Y := by
  have h1 : ∀ i, ∃ p : Int × Int, i < K → (Fl.IsI (xs.getD (i * s) 0) p.1 ∧ -16777216 ≤ p.1 ∧ p.1 ≤ 16777216) ∧ (Fl.IsI (xs.getD (i * s + 1) 0) p.2 ∧ -16777216 ≤ p.2 ∧ p.2 ≤ 16777216) := by
    intro i
    by_cases hi : i < K
    · have hm : (xs.getD (i * s) 0, xs.getD (i * s + 1) 0) ∈ pls xs s K := by
        unfold pls
        exact List.mem_map.2 ⟨i, List.mem_range.2 hi, rfl⟩
      have hp := List.all_eq_true.1 h _ hm
      unfold placeB at hp
      rw [Bool.and_eq_true] at hp
      obtain ⟨a, ha⟩ := Fl.wholeB_true hp.1
      obtain ⟨b, hb⟩ := Fl.wholeB_true hp.2
      exact ⟨(a, b), fun _ => ⟨ha, hb⟩⟩
    · exact ⟨(0, 0), fun h => absurd h hi⟩
  obtain ⟨F, hF⟩ := Classical.skolem.1 h1
  exact ⟨fun i => (F i).1, fun i => (F i).2, fun i hi => hF i hi⟩
/-- the numbers of place i -/
def rowN (xs : List Nat) (s i : Nat) : List Nat := (List.range s).map fun t => xs.getD (i * s + t) 0
theorem rowN_len (xs : List Nat) (s i : Nat) : (rowN xs s i).length = s := by simp [rowN]
theorem rowN_get {xs : List Nat} {s i t : Nat} (h : t < s) : (rowN xs s i)[t]? = some (xs.getD (i * s + t) 0) := by
  unfold rowN; rw [List.getElem?_map, List.getElem?_range h]; rfl
/-- eight rows one behind the other -/
def octN (xs : List Nat) (s : Nat) (a : Nat → Nat) (m : Nat) : List Nat := (List.range m).flatMap fun j => rowN xs s (a j)
theorem octN_succ (xs : List Nat) (s : Nat) (a : Nat → Nat) (m : Nat) : octN xs s a (m + 1) = octN xs s a m ++ rowN xs s (a m) := by
  unfold octN; rw [List.range_succ, List.flatMap_append]; simp
theorem octN_len (xs : List Nat) (s : Nat) (a : Nat → Nat) (m : Nat) : (octN xs s a m).length = m * s := by
  induction m with
  | zero => simp [octN]
  | succ m ih => rw [octN_succ, List.length_append, ih, rowN_len, Nat.add_mul, Nat.one_mul]
theorem octN_get {xs : List Nat} {s : Nat} {a : Nat → Nat} : ∀ {m j t : Nat}, j < m → t < s → (octN xs s a m)[j * s + t]? = some (xs.getD (a j * s + t) 0)
  | 0, j, t, hj, _ => by omega
  | m + 1, j, t, hj, ht => by
    rw [octN_succ]
    by_cases h : j < m
    · have hl : j * s + t < (octN xs s a m).length := by
        rw [octN_len]
        have : (j + 1) * s ≤ m * s := Nat.mul_le_mul_right s h
        rw [Nat.add_mul] at this; omega
      rw [List.getElem?_append_left hl]
      exact octN_get h ht
    · obtain rfl : j = m := by omega
      rw [List.getElem?_append_right (by rw [octN_len]; omega), octN_len, Nat.add_sub_cancel_left]
      exact rowN_get ht
theorem place_inj {s j u r t : Nat} (hu : u < s) (ht : t < s) (h : j * s + u = r * s + t) : j = r ∧ u = t := by
  have h1 : (j * s + u) / s = j := by rw [Nat.mul_comm, Nat.mul_add_div (by omega), Nat.div_eq_of_lt hu]; rfl
  have h2 : (r * s + t) / s = r := by rw [Nat.mul_comm, Nat.mul_add_div (by omega), Nat.div_eq_of_lt ht]; rfl
  have : j = r := by rw [← h1, ← h2, h]
  subst this
  exact ⟨rfl, by omega⟩
/-- eight rows of s numbers in block g, that may be written -/
def C8 (g s : Nat) (F : Nat → Nat → Nat) (w : World) : Prop := (∀ j u, j < 8 → u < s → w.cell? ⟨g, j * s + u, none⟩ = some (.float .f64 (F j u))) ∧ ∀ o, w.frozen? ⟨g, o, none⟩ = false
theorem C8.congr {g s : Nat} {F F' : Nat → Nat → Nat} {w : World} (h : C8 g s F w) (hF : ∀ j u, j < 8 → u < s → F j u = F' j u) : C8 g s F' w := ⟨fun j u hj hu => by rw [h.1 j u hj hu, hF j u hj hu], h.2⟩
theorem C8.set {g s : Nat} {F : Nat → Nat → Nat} {w : World} (h : C8 g s F w) {r t : Nat} (hr : r < 8) (ht : t < s) (v : Nat) (F' : Nat → Nat → Nat) (hF : ∀ j u, j < 8 → u < s → F' j u = if j = r ∧ u = t then v else F j u) :
    C8 g s F' (w.setCell ⟨g, r * s + t, none⟩ (.float .f64 v)) := by
  refine ⟨fun j u hj hu => ?_, fun o => by rw [World.frozen?_setCell]; exact h.2 o⟩
  rw [hF j u hj hu]
  by_cases he : j = r ∧ u = t
  · obtain ⟨rfl, rfl⟩ := he
    rw [if_pos ⟨rfl, rfl⟩]
    exact World.cell?_setCell_same _ _ _ (h.1 j u hj hu)
  · rw [if_neg he, World.cell?_setCell_other _ _ _ _ (by
      intro hc
      have h2 : r * s + t = j * s + u := by first | (injection hc) | (injection hc with h1 h2 h3; exact h2.symm)
      exact he (place_inj hu ht h2.symm))]
    exact h.1 j u hj hu
theorem C8.up {g s : Nat} {F : Nat → Nat → Nat} {w w' : World} (h : C8 g s F w) (hs : 0 < s) (hg : Grow w w') : C8 g s F w' := by
  have hlt : g < w.heap.size := cell_lt (h.1 0 0 (by omega) hs)
  exact ⟨fun j u hj hu => up_cell (h.1 j u hj hu) hg, fun o => (froz_up hlt hg).trans (h.2 o)⟩
theorem C8.sl {g s : Nat} {xs : List Nat} {a : Nat → Nat} {w : World} (hs : 0 < s) (h : C8 g s (fun j u => xs.getD (a j * s + u) 0) w) (c : Nat) (hc : 8 * s ≤ c) : FSl (.slice (some ⟨g, 0, none⟩) (8 * s) c) (octN xs s a 8) w := by
  refine ⟨_, c, by rw [octN_len], by rw [octN_len]; exact hc, .inr ⟨g, 0, rfl, fun i x hi => ?_⟩⟩
  have hl : i < 8 * s := by
    rcases Nat.lt_or_ge i (octN xs s a 8).length with h1 | h1
    · rwa [octN_len] at h1
    · rw [List.getElem?_eq_none h1] at hi; cases hi
  have e : i = i / s * s + i % s := by rw [Nat.mul_comm]; exact (Nat.div_add_mod i s).symm
  have hj : i / s < 8 := by rw [Nat.div_lt_iff_lt_mul hs]; exact hl
  have hu : i % s < s := Nat.mod_lt _ hs
  rw [Nat.zero_add]
  have h2 := octN_get (xs := xs) (a := a) hj hu
  have h3 := h.1 (i / s) (i % s) hj hu
  rw [← e] at h2 h3
  rw [h2] at hi
  cases hi
  exact h3
end Go.Proofs.Ytelfjglhmccecaa
