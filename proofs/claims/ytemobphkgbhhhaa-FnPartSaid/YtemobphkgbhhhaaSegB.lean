import Derived.Test.YtemobphkgbhhhaaSegA
import Derived.Test.YtemobphkgbhhhaaGoodAll
namespace Go.Proofs.Ytemobphkgbhhhaa
open Go.ChangeShapes Go.WideShapes Go.ChangeAt Go.RowKit Go.GrowR
set_option linter.unusedVariables false
set_option linter.unusedSimpArgs false
theorem lastE_ge {s : Int} {sg : Bool} : ∀ {en : List Int} {f : Int}, EndsOk s sg f en → f ≤ lastE f en
  | [], f, _ => Int.le_refl _
  | e :: en, f, ⟨h1, _, _, h4⟩ => Int.le_trans h1 (lastE_ge h4)
theorem endsOk_split {s : Int} {sg : Bool} : ∀ {a b : List Int} {f : Int}, EndsOk s sg f (a ++ b) → EndsOk s sg f a ∧ EndsOk s sg (lastE f a) b
  | [], _, _, h => ⟨trivial, h⟩
  | e :: a, b, f, ⟨h1, h2, h3, h4⟩ => ⟨⟨h1, h2, h3, (endsOk_split h4).1⟩, (endsOk_split h4).2⟩
theorem chunk {s : Nat} (hs : 0 < s) : ∀ (m : Nat) (l : List Nat), l.length = m * s → ∃ rows : List (List Nat), rows.length = m ∧ (∀ r ∈ rows, r.length = s) ∧ l = rows.flatten
  | 0, l, h => ⟨[], rfl, by simp, by simp at h; simpa using h⟩
  | m + 1, l, h => by
    rw [Nat.add_mul, Nat.one_mul] at h
    obtain ⟨rows, h1, h2, h3⟩ := chunk hs m (l.drop s) (by rw [List.length_drop]; omega)
    refine ⟨l.take s :: rows, by simp [h1], fun r hr => ?_, by rw [List.flatten_cons, ← h3, List.take_append_drop]⟩
    rcases List.mem_cons.1 hr with rfl | hr
    · rw [List.length_take]; omega
    · exact h2 r hr
theorem mod_ex {a : Nat} {s : Nat} (h : (a : Int) % (s : Int) = 0) : ∃ m, a = m * s := by
  have : a % s = 0 := by omega
  exact ⟨a / s, by have := Nat.div_add_mod a s; rw [Nat.mul_comm] at this; omega⟩
theorem segs_ex {s : Nat} (hs : 0 < s) {sg : Bool} : ∀ (en : List Int) (f : Nat) (l : List Nat), EndsOk s sg f en → lastE f en = (f + l.length : Nat) → ∃ segs : List (List (List Nat)), (∀ rows ∈ segs, ∀ r ∈ rows, r.length = s) ∧ l = fwd segs ∧ en = (cum s f segs).map Int.ofNat
  | [], f, l, _, h => by
    simp [lastE] at h
    have : l = [] := List.eq_nil_of_length_eq_zero (by omega)
    subst this
    exact ⟨[], by simp, rfl, rfl⟩
  | e :: en, f, l, h, hl => by
    obtain ⟨h1, h2, h3, h4⟩ := h
    obtain ⟨d, hd⟩ : ∃ d : Nat, e = (f + d : Nat) := ⟨(e - f).toNat, by omega⟩
    subst hd
    obtain ⟨m, rfl⟩ := mod_ex (a := d) (s := s) (by have : ((f + d : Nat) : Int) - (f : Int) = d := by omega
                                                    rwa [this] at h2)
    have hle : m * s ≤ l.length := by
      have := lastE_ge h4
      simp only [lastE] at hl
      omega
    obtain ⟨rows, r1, r2, r3⟩ := chunk hs m (l.take (m * s)) (by rw [List.length_take]; omega)
    obtain ⟨segs, g1, g2, g3⟩ := segs_ex hs en (f + m * s) (l.drop (m * s)) h4 (by simp only [lastE] at hl; rw [hl, List.length_drop]; congr 1; omega)
    refine ⟨rows :: segs, fun q hq => ?_, ?_, ?_⟩
    · rcases List.mem_cons.1 hq with rfl | hq
      · exact r2
      · exact g1 q hq
    · simp only [fwd, List.map_cons, List.flatten_cons] at g2 ⊢
      rw [← r3, ← g2, List.take_append_drop]
    · simp only [cum, List.map_cons, r1]
      rw [g3]; rfl
theorem segss_ex {s : Nat} (hs : 0 < s) {sg : Bool} : ∀ (ens : List (List Int)) (f : Nat) (l : List Nat), EndsOk s sg f ens.flatten → lastE f ens.flatten = (f + l.length : Nat) → ∃ segss : List (List (List (List Nat))), (∀ segs ∈ segss, ∀ rows ∈ segs, ∀ r ∈ rows, r.length = s) ∧ l = fwd segss.flatten ∧ ens = (cums s f segss).map (·.map Int.ofNat)
  | [], f, l, _, h => by
    simp [lastE] at h
    have : l = [] := List.eq_nil_of_length_eq_zero (by omega)
    subst this
    exact ⟨[], by simp, rfl, rfl⟩
  | e :: ens, f, l, h, hl => by
    rw [List.flatten_cons] at h hl
    obtain ⟨h1, h2⟩ := endsOk_split h
    rw [lastE_append] at hl
    have g1 := lastE_ge h1
    have g2 := lastE_ge h2
    obtain ⟨d, hd⟩ : ∃ d : Nat, lastE f e = (f + d : Nat) := ⟨(lastE f e - f).toNat, by omega⟩
    rw [hd] at h2 hl g2
    have hle : d ≤ l.length := by omega
    obtain ⟨segs, s1, s2, s3⟩ := segs_ex hs e f (l.take d) h1 (by rw [hd, List.length_take, Nat.min_eq_left hle])
    obtain ⟨segss, t1, t2, t3⟩ := segss_ex hs ens (f + d) (l.drop d) h2 (by rw [hl, List.length_drop]; congr 1; omega)
    have hlen : (fwd segs).length = d := by rw [← s2, List.length_take, Nat.min_eq_left hle]
    refine ⟨segs :: segss, fun q hq => ?_, ?_, ?_⟩
    · rcases List.mem_cons.1 hq with rfl | hq
      · exact s1
      · exact t1 q hq
    · rw [List.flatten_cons, fwd_append, ← s2, ← t2, List.take_append_drop]
    · simp only [cums, List.map_cons, hlen]
      rw [← s3, ← t3]
end Go.Proofs.Ytemobphkgbhhhaa
