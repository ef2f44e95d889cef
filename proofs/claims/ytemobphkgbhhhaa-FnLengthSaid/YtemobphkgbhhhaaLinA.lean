import Derived.Test.YtemobphkgbhhhaaAlongB
import Derived.Test.YtemobphkgbhhhaaPlainF
import Derived.Test.YtemobphkgbhhhaaR3M
import Derived.Test.YtemobphkgbhhhaaEachW
namespace Go.Proofs.Ytemobphkgbhhhaa
open Go.ChangeShapes Go.WideShapes Go.ChangeAt Go.RowKit Go.GrowR
set_option linter.unusedVariables false
set_option linter.unusedSimpArgs false

theorem wrows_of {s : Nat} {segs : List (List (List Nat))} (hr : ∀ rows ∈ segs, ∀ r ∈ rows, r.length = s) (h : (fwd segs).all w20 = true) : ∀ rows ∈ segs, WRow s rows := fun rows hm r hr' => ⟨hr rows hm r hr', fun x hx => w20_of (List.all_eq_true.1 h x (by
  unfold fwd
  exact List.mem_flatten.2 ⟨rows.flatten, List.mem_map.2 ⟨rows, hm, rfl⟩, List.mem_flatten.2 ⟨r, hr', hx⟩⟩))⟩
/-- the lines of data of a kind *)-/
inductive LSh (s : Nat) : Int → List Nat → List Int → List (List Int) → List (List (List Nat)) → Prop
  | pt {k : Int} {fl : List Nat} {en : List Int} (hk : k = 1 ∨ k = 4) : LSh s k fl en [] []
  | line {k : Int} {rows : List (List Nat)} (hk : k = 2 ∨ k = 8) (hr : ∀ r ∈ rows, r.length = s) : LSh s k rows.flatten [] [] [rows]
  | lines {k : Int} {segs : List (List (List Nat))} (hk : k = 3 ∨ k = 5) (hr : ∀ rows ∈ segs, ∀ r ∈ rows, r.length = s) : LSh s k (fwd segs) ((cum s 0 segs).map Int.ofNat) [] segs
  | area {segss : List (List (List (List Nat)))} (hr : ∀ segs ∈ segss, ∀ rows ∈ segs, ∀ r ∈ rows, r.length = s) : LSh s 6 (fwd segss.flatten) [] ((cums s 0 segss).map (·.map Int.ofNat)) segss.flatten
theorem LSh.ex {s : Nat} {k : Int} {fl : List Nat} {en : List Int} {ens : List (List Int)} (hs : 0 < s) (h : KindOk k s fl.length en ens) (hm : (fl.length : Int) % (s : Int) = 0) : ∃ segs, LSh s k fl en ens segs := by
  rcases h with ⟨rfl, rfl, rfl, -⟩ | ⟨hk, rfl, rfl⟩ | ⟨hk, rfl, h3, h4⟩ | ⟨rfl, rfl, h3, h4⟩
  · exact ⟨_, .pt (.inl rfl)⟩
  · obtain ⟨m, hm⟩ := mod_ex hm
    obtain ⟨rows, -, r2, rfl⟩ := chunk hs m fl hm
    exact ⟨_, .line hk r2⟩
  · by_cases h4' : k = 4
    · exact ⟨_, .pt (.inr h4')⟩
    · obtain ⟨segs, g1, rfl, rfl⟩ := segs_ex hs en 0 fl h3 (by simpa using h4)
      exact ⟨_, .lines (by omega) g1⟩
  · obtain ⟨segss, g1, rfl, rfl⟩ := segss_ex hs ens 0 fl h3 (by simpa using h4)
    exact ⟨_, .area g1⟩
/-- what the lines are bounded by *)-/
structure LBd (s : Nat) (fl : List Nat) (segs : List (List (List Nat))) : Prop where
  rw : ∀ rows ∈ segs, ∀ r ∈ rows, r.length = s
  f : (fwd segs).length ≤ 2000
  n : segs.length ≤ 2000
  w : fl.all w20 = true → ∀ rows ∈ segs, WRow s rows
theorem LSh.bd {s : Nat} {k l : Int} {fl : List Nat} {en : List Int} {ens : List (List Int)} {segs : List (List (List Nat))} (h : LSh s k fl en ens segs) (hp : PlainG k l fl en ens [] s) : LBd s fl segs := by
  have hw := hp.wt
  cases h with
  | pt hk => exact ⟨by simp, by simp [fwd], by simp, by simp⟩
  | @line _ rows hk hr =>
    have hf : fwd [rows] = rows.flatten := by simp [fwd]
    refine ⟨by simpa using hr, ?_, by simp, fun h => wrows_of (by simpa using hr) (by rw [hf]; exact h)⟩
    rw [hf]; unfold weightD at hw; omega
  | lines hk hr =>
    refine ⟨hr, ?_, ?_, fun h => wrows_of hr h⟩
    · unfold weightD at hw; omega
    · unfold weightD at hw; rw [List.length_map, cum_len] at hw; omega
  | @area segss hr =>
    have hr' : ∀ rows ∈ segss.flatten, ∀ r ∈ rows, r.length = s := fun rows hm r hr2 => by
      obtain ⟨segs, h1, h2⟩ := List.mem_flatten.1 hm
      exact hr segs h1 rows h2 r hr2
    refine ⟨hr', ?_, ?_, fun h => wrows_of hr' h⟩
    · unfold weightD at hw; omega
    · unfold weightD at hw; have := flat_lens s segss 0; omega
theorem stab_line {k l r : Int} {fl : List Nat} {A1 A2 A3 A4 : Option Addr} {c1 c2 c3 c4 : Nat} {w : World} (hu : FSl (.slice A1 fl.length c1) fl w) : Stab 0 w.heap.size (GV (.mk k l r fl [] [] []) (Geo7 k l r A1 fl.length c1 A2 0 c2 A3 0 c3 A4 0 c4)) w := fun w2 hw => by
  obtain ⟨A', c', he, hc, hx⟩ := hu
  simp only [Value.slice.injEq] at he
  obtain ⟨rfl, -, rfl⟩ := he
  unfold GV
  refine ⟨_, _, _, A4, c4, rfl, Nat.zero_le _, ⟨A1, c1, rfl, hc, hx.imp id fun ⟨b, o, h1, h2⟩ => ⟨b, o, h1, fun i x hi => ?_⟩⟩, ⟨[], ⟨A2, c2, rfl, Nat.zero_le _, .inl rfl⟩, All2.nil⟩, ⟨[], ⟨A3, c3, rfl, Nat.zero_le _, .inl rfl⟩, All2.nil⟩, .inl rfl⟩
  rw [World.cell?_of_block (w := w) (hw b (Nat.zero_le _) (cell_ltH (h2 i x hi)))]
  exact h2 i x hi
theorem LSh.along {s : Nat} {k l r : Int} {fl : List Nat} {en : List Int} {ens : List (List Int)} {segs : List (List (List Nat))} (h : LSh s k fl en ens segs) (hp : PlainG k l fl en ens [] s) (hall : fl.all w20 = true) {v : Value} {w : World} (hgv : GV (.mk k l r fl en ens []) v w) :
    Calls Try.prog 12 #[v] w (AlQ segs w) := by
  have hb := h.bd hp
  have hW := hb.w hall
  have hbs := bS_le (s := s) (by have := hp.s2; omega) segs hW
  have hbf := hb.f; have hbn := hb.n
  have hrl : ∀ rows ∈ segs, rows.flatten.length ≤ 10000000 := fun rows hm => by have := seg_len_le hm; omega
  have hwt := hp.wt
  unfold weightD at hwt
  obtain ⟨k0, l0, r0, fl0, en0, ens0, kids0, A1, c1, A2, c2, A3, c3, A4, c4, he, rfl, hf, hen, hens⟩ := hgv.seven
  cases he
  cases h with
  | pt hk =>
    exact gAlong_calls k l r A1 A2 A3 A4 _ _ _ _ _ _ _ _ [] s 8 l 0 0 0 w hp.st hp.s2 hp.s9 hW (by simp) (by simp [bS]) hrl fun w' hw => gLines_none k l r A1 A2 A3 A4 _ _ _ _ _ _ _ _ 0 0 w' hk
  | @line _ rows hk hr =>
    exact gAlong_calls k l r A1 A2 A3 A4 _ _ _ _ _ _ _ _ [rows] s k l r 0 w.heap.size w hp.st hp.s2 hp.s9 hW (by simp) (by omega) hrl fun w' hw => gLines_line k l r A1 A2 A3 A4 _ _ _ _ _ _ _ _ _ 0 w.heap.size w' hk hw.size ((stab_line hf).grow hw (Nat.le_refl _))
  | lines hk hr =>
    rcases hk with rfl | rfl
    · exact gAlong_calls 3 l r A1 A2 A3 A4 _ _ _ _ _ _ _ _ segs s 8 l 0 0 0 w hp.st hp.s2 hp.s9 hW (by omega) (by omega) hrl fun w' hw => polyLines 0 0 (GV.up _ _ _ _ hgv hw) hr (by omega) (by omega)
    · exact gAlong_calls 5 l r A1 A2 A3 A4 _ _ _ _ _ _ _ _ segs s 2 l 0 0 0 w hp.st hp.s2 hp.s9 hW (by omega) (by omega) hrl fun w' hw => multiLines 0 0 (GV.up _ _ _ _ hgv hw) hr (by omega) (by omega)
  | @area segss hr =>
    have hl1 := lens_len ((cums s 0 segss).map (·.map Int.ofNat))
    rw [List.length_map, cums_len] at hl1
    exact gAlong_calls 6 l r A1 A2 A3 A4 _ _ _ _ _ _ _ _ segss.flatten s 8 l 0 0 0 w hp.st hp.s2 hp.s9 hW (by omega) (by omega) hrl fun w' hw => areaLines 0 0 (GV.up _ _ _ _ hgv hw) hr (by omega) (by omega) (by omega)
end Go.Proofs.Ytemobphkgbhhhaa
