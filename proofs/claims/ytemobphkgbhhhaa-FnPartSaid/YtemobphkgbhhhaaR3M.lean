import Derived.Test.YtemobphkgbhhhaaFRowss
import Derived.Test.YtemobphkgbhhhaaPlParts
namespace Go.Proofs.Ytemobphkgbhhhaa
open Go.ChangeShapes Go.WideShapes Go.ChangeAt Go.RowKit Go.GrowR
set_option linter.unusedVariables false
set_option linter.unusedSimpArgs false

theorem lens_mem {nss : List (List Int)} {l : List Int} (h : l ∈ nss) : 1 + l.length ≤ lens nss := by
  unfold lens
  induction nss with
  | nil => simp at h
  | cons q t ih =>
    simp only [List.map_cons, List.sum_cons]
    rcases List.mem_cons.1 h with rfl | h
    · omega
    · have := ih h; omega
theorem lens_len (nss : List (List Int)) : nss.length ≤ lens nss := by
  unfold lens
  induction nss with
  | nil => simp
  | cons l t ih => simp only [List.map_cons, List.sum_cons, List.length_cons]; omega
theorem flat_lens (s : Nat) : ∀ (segss : List (List (List (List Nat)))) (o : Nat), segss.flatten.length ≤ lens ((cums s o segss).map (·.map Int.ofNat))
  | [], _ => by simp
  | segs :: t, o => by
    have h := flat_lens s t (o + (fwd segs).length)
    unfold lens at h ⊢
    simp only [List.flatten_cons, List.length_append, cums, List.map_cons, List.sum_cons, List.length_map, cum_len]
    omega
/-- what good data of rows with lists of ends are *)-/
structure R3 (s : Nat) (L : Int) (fl : List Nat) (ens : List (List Int)) (segss : List (List (List (List Nat)))) : Prop where
  s2 : 2 ≤ s
  s9 : s ≤ 9
  st : strideN L = s
  rw : ∀ segs ∈ segss, ∀ rows ∈ segs, ∀ r ∈ rows, r.length = s
  efl : fl = fwd segss.flatten
  eens : ens = (cums s 0 segss).map (·.map Int.ofNat)
  n1 : fl.length ≤ 10000
  n2 : segss.length ≤ 10000
  n3 : segss.flatten.length ≤ 10000
  b2 : ∀ segs ∈ segss, segs.length ≤ 10000
  b3 : ∀ segs ∈ segss, ∀ rows ∈ segs, rows.length ≤ 10000
theorem r3_of {q : Int} {fl : List Nat} {ens : List (List Int)} (h2 : 2 ≤ q) (h9 : q ≤ 9) (hg : GGood (.mk 6 (layN q) 0 fl [] ens [])) (hf : fl.length ≤ 2147483647) (he : ens.length ≤ 2147483647) (he2 : ∀ x ∈ ens, x.length ≤ 2147483647) : ∃ (s : Nat) (segss : List (List (List (List Nat)))), q = (s : Int) ∧ R3 s (layN q) fl ens segss := by
  obtain ⟨s, hpg⟩ := plainG hg ⟨hf, by simp, he, he2, by simp⟩ (by decide)
  have hsq := stride_lay q h2
  rw [hpg.st] at hsq
  have hwl := hpg.wt
  obtain ⟨hd3, hd4⟩ : EndsOk s false 0 ens.flatten ∧ lastE 0 ens.flatten = fl.length := by
    rcases hpg.dk with ⟨h, _⟩ | ⟨h, _⟩ | ⟨h, _⟩ | ⟨_, h1, h2, h3⟩
    · omega
    · omega
    · omega
    · exact ⟨h2, h3⟩
  have hs2 := hpg.s2
  obtain ⟨segss, hrw, hfle, hense⟩ := segss_ex (by omega) ens 0 fl hd3 (by simpa using hd4)
  unfold weightD at hwl
  have hlen1 := lens_len ens
  rw [hense, List.length_map, cums_len, ← hense] at hlen1
  refine ⟨s, segss, hsq.symm, hs2, hpg.s9, hpg.st, hrw, hfle, hense, by omega, by omega, by have := flat_lens s segss 0; rw [← hense] at this; omega, fun segs h => ?_, fun segs h rows h' => ?_⟩
  · obtain ⟨i, hi⟩ := List.mem_iff_getElem?.1 h
    have h1 := lens_mem (nss := ens) (l := (cum s (0 + (fwd (segss.take i).flatten).length) segs).map Int.ofNat) (by rw [hense]; exact List.mem_map.2 ⟨_, List.mem_of_getElem? (cums_at hi), rfl⟩)
    rw [List.length_map, cum_len] at h1
    omega
  · have h1 := segs_len_le h
    rw [← hfle] at h1
    have h2 := seg_len_le h'
    rw [flat_len (hrw segs h rows h')] at h2
    have := Nat.le_mul_of_pos_right rows.length (show 0 < s by omega)
    omega
end Go.Proofs.Ytemobphkgbhhhaa
