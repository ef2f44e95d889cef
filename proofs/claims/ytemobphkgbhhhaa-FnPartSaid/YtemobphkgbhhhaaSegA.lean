import Derived.Test.YtemobphkgbhhhaaRevP
namespace Go.Proofs.Ytemobphkgbhhhaa
open Go.RowKit Go.GrowR
set_option linter.unusedVariables false
set_option linter.unusedSimpArgs false
/-- the numbers of parts in a row, as they are and turned about -/
def fwd (segs : List (List (List Nat))) : List Nat := (segs.map List.flatten).flatten
def bwd (segs : List (List (List Nat))) : List Nat := (segs.map fun rows => rows.reverse.flatten).flatten
/-- where parts end -/
def cum (s o : Nat) : List (List (List Nat)) → List Nat
  | [] => []
  | rows :: t => (o + rows.length * s) :: cum s (o + rows.length * s) t
theorem cum_len (s : Nat) : ∀ (segs : List (List (List Nat))) (o : Nat), (cum s o segs).length = segs.length
  | [], _ => rfl
  | rows :: t, o => by simp [cum, cum_len s t]
theorem fwd_len {s : Nat} : ∀ {segs : List (List (List Nat))}, (∀ rows ∈ segs, ∀ r ∈ rows, r.length = s) → (bwd segs).length = (fwd segs).length
  | [], _ => rfl
  | rows :: t, h => by
    have ih := fwd_len (fun q hq => h q (List.mem_cons_of_mem rows hq))
    simp only [fwd, bwd, List.map_cons, List.flatten_cons, List.length_append] at ih ⊢
    rw [ih, flat_len (h rows (by simp)), flat_len (rows := rows.reverse) (s := s) (fun r hr => h rows (by simp) r (by simpa using hr)), List.length_reverse]
theorem cum_at {s : Nat} : ∀ {segs : List (List (List Nat))} {o q : Nat} {rows : List (List Nat)}, (∀ rows ∈ segs, ∀ r ∈ rows, r.length = s) → segs[q]? = some rows → (cum s o segs)[q]? = some (o + (fwd (segs.take q)).length + rows.length * s)
  | [], _, _, _, _, h => by simp at h
  | rows0 :: t, o, 0, rows, _, h => by simp at h; subst h; simp [cum, fwd]
  | rows0 :: t, o, q + 1, rows, hl, h => by
    have h' : t[q]? = some rows := by simpa using h
    have := cum_at (s := s) (o := o + rows0.length * s) (fun q hq => hl q (List.mem_cons_of_mem _ hq)) h'
    simp only [cum, List.getElem?_cons_succ, this]
    simp only [fwd, List.take_succ_cons, List.map_cons, List.flatten_cons, List.length_append, flat_len (hl rows0 (by simp))]
    congr 1; omega
theorem seg_split {segs : List (List (List Nat))} {q : Nat} {rows : List (List Nat)} (h : segs[q]? = some rows) : segs.drop q = rows :: segs.drop (q + 1) := by
  obtain ⟨hq, rfl⟩ := List.getElem?_eq_some_iff.1 h
  exact List.drop_eq_getElem_cons hq
theorem bwd_snoc {segs : List (List (List Nat))} {q : Nat} {rows : List (List Nat)} (h : segs[q]? = some rows) : bwd (segs.take (q + 1)) = bwd (segs.take q) ++ rows.reverse.flatten := by
  rw [List.take_add_one, h]; simp [bwd]
theorem fwd_snoc {segs : List (List (List Nat))} {q : Nat} {rows : List (List Nat)} (h : segs[q]? = some rows) : fwd (segs.take (q + 1)) = fwd (segs.take q) ++ rows.flatten := by
  rw [List.take_add_one, h]; simp [fwd]
theorem take_mem {α : Type} {l : List α} {q : Nat} {x : α} (h : x ∈ l.take q) : x ∈ l := List.mem_of_mem_take h
/-- lists of parts -/
def cums (s o : Nat) : List (List (List (List Nat))) → List (List Nat)
  | [] => []
  | segs :: t => cum s o segs :: cums s (o + (fwd segs).length) t
theorem cums_len (s : Nat) : ∀ (segss : List (List (List (List Nat)))) (o : Nat), (cums s o segss).length = segss.length
  | [], _ => rfl
  | segs :: t, o => by simp [cums, cums_len s t]
theorem fwd_append (a b : List (List (List Nat))) : fwd (a ++ b) = fwd a ++ fwd b := by unfold fwd; rw [List.map_append, List.flatten_append]
theorem bwd_append (a b : List (List (List Nat))) : bwd (a ++ b) = bwd a ++ bwd b := by unfold bwd; rw [List.map_append, List.flatten_append]
theorem cums_at {s : Nat} : ∀ {segss : List (List (List (List Nat)))} {o q : Nat} {segs : List (List (List Nat))}, segss[q]? = some segs → (cums s o segss)[q]? = some (cum s (o + (fwd (segss.take q).flatten).length) segs)
  | [], _, _, _, h => by simp at h
  | segs0 :: t, o, 0, segs, h => by simp at h; subst h; simp [cums, fwd]
  | segs0 :: t, o, q + 1, segs, h => by
    have h' : t[q]? = some segs := by simpa using h
    have := cums_at (s := s) (o := o + (fwd segs0).length) h'
    simp only [cums, List.getElem?_cons_succ, this]
    simp only [List.take_succ_cons, List.flatten_cons, fwd_append, List.length_append]
    congr 2; omega
theorem cum_last {s : Nat} {segs : List (List (List Nat))} {o m : Nat} (hr : ∀ rows ∈ segs, ∀ r ∈ rows, r.length = s) (hm : segs.length = m + 1) : (cum s o segs)[m]? = some (o + (fwd segs).length) := by
  obtain ⟨rows, hrows⟩ : ∃ p, segs[m]? = some p := ⟨segs[m], by simp [hm]⟩
  rw [cum_at hr hrows]
  have h1 := fwd_snoc hrows
  rw [List.take_of_length_le (by omega)] at h1
  rw [h1, List.length_append, flat_len (hr rows (List.mem_of_getElem? hrows))]
  congr 1; omega
end Go.Proofs.Ytemobphkgbhhhaa
