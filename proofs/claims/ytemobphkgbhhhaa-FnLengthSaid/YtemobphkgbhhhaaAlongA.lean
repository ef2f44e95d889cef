import Derived.Test.YtemobphkgbhhhaaLinAll
import Derived.Test.YtemobphkgbhhhaaLenAll
import Derived.BigQuiet
import Derived.Deep.QuietTactic
namespace Go.Proofs.Ytemobphkgbhhhaa
open Go.ChangeShapes Go.WideShapes Go.ChangeAt Go.RowKit Go.GrowR
set_option linter.unusedVariables false
set_option linter.unusedSimpArgs false

/-- along the axes, and how long: what gAlong answers, one way *)-/
def AlQ (segs : List (List (List Nat))) (w : World) (e : Ending) (w' : World) : Prop := ∃ (n : Int) (b : Bool), e = .returned (.tuple #[.int .i64 n, .bool b]) ∧ (b = true → AlongS segs ∧ n = lenS segs) ∧ Grow w w'
theorem rowsL_calls (A : Option Addr) (n c s : Nat) (rows : List (List Nat)) (w : World) (hf : FSl (.slice A n c) rows.flatten w) (hr : ∀ r ∈ rows, r.length = s) (hs : 1 ≤ s) (hs9 : s ≤ 9) (hn : n ≤ 2147483647) : Calls Try.prog 31 #[.slice A n c, .int .i64 s] w (fun e w2 => ∃ V, e = .returned V ∧ Grow w w2 ∧ L1 rows V w2) := by
  obtain ⟨A', c', he, hc1, hA⟩ := hf
  simp only [Value.slice.injEq] at he
  obtain ⟨rfl, rfl, rfl⟩ := he
  have hfl := flat_len hr
  by_cases h0 : rows = []
  · subst h0
    refine (rows_none A c s w hs hs9).mono ?_
    rintro e w2 ⟨rfl, rfl⟩
    exact ⟨_, rfl, Grow.refl _, [], ⟨none, 0, rfl, Nat.le_refl _, .inl rfl⟩, All2.nil⟩
  · have hpos : 0 < rows.length := List.length_pos_iff.2 h0
    have hms : 1 * 1 ≤ rows.length * s := Nat.mul_le_mul hpos hs
    rcases hA with hA | ⟨b, o, rfl, hcell⟩
    · rw [hA] at hfl; simp at hfl; omega
    refine (rows_calls b o c _ s rows.length w (by omega) hs9 hfl hn hc1).mono ?_
    rintro e w2 ⟨V, rfl, hg, hown⟩
    exact ⟨V, rfl, hg, l1_of (VOwn.sl hown) hr (by omega) fun i x hi => up_cell (hcell i x hi) hg⟩
theorem row_read {rows : List (List Nat)} {A : Option Addr} {n c s : Nat} {w : World} (h : L1 rows (.slice A n c) w) (hr : ∀ r ∈ rows, r.length = s) (s2 : 2 ≤ s) : n = rows.length ∧ (rows = [] ∨ ∃ b o, A = some ⟨b, o, none⟩ ∧ ∀ k, k < rows.length → ∃ bk ok ck, w.cell? ⟨b, o + k, none⟩ = some (.slice (some ⟨bk, ok, none⟩) s ck) ∧ ∀ j, j < s → w.cell? ⟨bk, ok + j, none⟩ = some (.float .f64 ((rows.getD k []).getD j 0))) := by
  obtain ⟨A', c', he, hc, hx⟩ := SlE.form h
  simp only [Value.slice.injEq] at he
  obtain ⟨rfl, rfl, rfl⟩ := he
  refine ⟨rfl, ?_⟩
  rcases hx with h0 | ⟨b, o, rfl, hx⟩
  · exact .inl h0
  · refine .inr ⟨b, o, rfl, fun k hk => ?_⟩
    have hrow := getD_of ([] : List Nat) hk
    have hrl := hr _ (List.mem_of_getElem? hrow)
    obtain ⟨u, h1, h2⟩ := hx k _ hrow
    obtain ⟨Ak, ck, rfl, -, hA⟩ := h2
    rcases hA with h3 | ⟨bk, ok, rfl, h3⟩
    · rw [h3] at hrl; simp at hrl; omega
    · rw [hrl] at h1
      exact ⟨bk, ok, ck, h1, fun j hj => h3 j _ (getD_of 0 (by omega))⟩
end Go.Proofs.Ytemobphkgbhhhaa
