import Derived.Test.YtemobphkgbhhhaaGoodAll
namespace Go.Proofs.Ytemobphkgbhhhaa
open Go.ChangeShapes Go.WideShapes Go.ChangeAt Go.RowKit Go.GrowR
set_option linter.unusedVariables false
set_option linter.unusedSimpArgs false
/-- what is known of small good data that are no collection -/
structure PlainG (k l : Int) (fl : List Nat) (en : List Int) (ens : List (List Int)) (kids : List GT) (s : Nat) : Prop where
  kids0 : kids = []
  l1 : 1 ≤ l
  l9 : l ≤ 9
  st : strideN l = s
  s2 : 2 ≤ s
  s9 : s ≤ 9
  wt : weightD fl.length en.length ens ≤ 2000
  md : fl.length % s = 0
  dk : KindOk k s fl.length en ens
theorem plainG {k l r : Int} {fl : List Nat} {en : List Int} {ens : List (List Int)} {kids : List GT} (h : GGood (.mk k l r fl en ens kids)) (h31 : Small31 (.mk k l r fl en ens kids)) (h7 : k ≠ 7) : ∃ s, PlainG k l fl en ens kids s := by
  obtain ⟨hg, hl, hw⟩ := h
  have hw := hw h31
  cases hg with
  | coll => exact absurd rfl h7
  | plain hk hl1 hm hd =>
    cases hl with
    | mk h0 h1 h2 =>
      obtain ⟨s, hs, s2, s9⟩ := stride_nat l hl1 h0
      rw [hs] at hm hd
      exact ⟨s, rfl, hl1, h0, hs, s2, s9, hw rfl, by omega, hd⟩
theorem PlainG.flat {k l : Int} {fl : List Nat} {en : List Int} {ens : List (List Int)} {kids : List GT} {s : Nat} (h : PlainG k l fl en ens kids s) : fl.length ≤ 2000 := by have := h.wt; unfold weightD at this; omega
theorem PlainG.div {k l : Int} {fl : List Nat} {en : List Int} {ens : List (List Int)} {kids : List GT} {s : Nat} (h : PlainG k l fl en ens kids s) : fl.length = fl.length / s * s := by
  have := Nat.div_add_mod fl.length s
  rw [h.md] at this; rw [Nat.mul_comm]; omega
theorem PlainG.line {k l : Int} {fl : List Nat} {en : List Int} {ens : List (List Int)} {kids : List GT} {s : Nat} (h : PlainG k l fl en ens kids s) (hk : k = 2 ∨ k = 8) : en = [] ∧ ens = [] := by
  rcases h.dk with ⟨h1, _⟩ | ⟨_, h1, h2⟩ | ⟨h1, _⟩ | ⟨h1, _⟩
  · omega
  · exact ⟨h1, h2⟩
  · omega
  · omega
/-- a geometry by its seven values -/
theorem GV.seven : ∀ {g : GT} {v : Value} {w : World}, GV g v w → ∃ k l r fl en ens kids A1 c1 A2 c2 A3 c3 A4 c4, g = .mk k l r fl en ens kids ∧ v = Geo7 k l r A1 fl.length c1 A2 en.length c2 A3 ens.length c3 A4 kids.length c4 ∧ FSl (.slice A1 fl.length c1) fl w ∧ ISl (.slice A2 en.length c2) en w ∧ ISSl (.slice A3 ens.length c3) ens w
  | .mk k l r fl en ens kids, v, w, h => by
    unfold GV at h
    obtain ⟨u, e1, e2, A, c, rfl, -, hfl, hen, hens, -⟩ := h
    have hfl' := hfl; have hen' := hen; have hens' := hens
    obtain ⟨Af, cf, rfl, -, -⟩ := hfl
    obtain ⟨Ae, ce, rfl, -, -⟩ := SlE.form hen
    obtain ⟨Ee, cee, rfl, -, -⟩ := SlE.form hens
    exact ⟨k, l, r, fl, en, ens, kids, Af, cf, Ae, ce, Ee, cee, A, c, rfl, rfl, hfl', hen', hens'⟩
end Go.Proofs.Ytemobphkgbhhhaa
