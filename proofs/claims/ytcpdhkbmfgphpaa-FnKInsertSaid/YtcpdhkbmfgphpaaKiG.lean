import Derived.Test.YtcpdhkbmfgphpaaKiF
import Derived.Test.YtcpdhkbmfgphpaaOwnK
namespace Go.Proofs.Ytcpdhkbmfgphpaa
open Go.ChangeShapes Go.WideShapes Go.ChangeAt Go.RowKit Go.GrowR
set_option linter.unusedVariables false
set_option linter.unusedSimpArgs false

/-- six cells of a variable -/
structure C6 (b : Nat) (v0 v1 v2 v3 v4 v5 : Value) (w : World) : Prop where
  c0 : w.cell? ⟨b, 0, none⟩ = some v0
  c1 : w.cell? ⟨b, 1, none⟩ = some v1
  c2 : w.cell? ⟨b, 2, none⟩ = some v2
  c3 : w.cell? ⟨b, 3, none⟩ = some v3
  c4 : w.cell? ⟨b, 4, none⟩ = some v4
  c5 : w.cell? ⟨b, 5, none⟩ = some v5
  fz : ∀ o, w.frozen? ⟨b, o, none⟩ = false
theorem C6.up {b : Nat} {v0 v1 v2 v3 v4 v5 : Value} : Up (C6 b v0 v1 v2 v3 v4 v5) := fun w w' h hg => ⟨up_cell h.c0 hg, up_cell h.c1 hg, up_cell h.c2 hg, up_cell h.c3 hg, up_cell h.c4 hg, up_cell h.c5 hg, fun o => (grow_frozen hg b o (cell_lt' h.c0)).trans (h.fz o)⟩
def NewV (B : Nat) (V : Value) (w : World) : Prop := ∃ b, V = .pointer (some ⟨b, 0, none⟩) ∧ B ≤ b ∧ C6 b (.slice none 0 0) (.int .i64 0) (.int .i64 0) (.int .i64 0) (.slice none 0 0) (.slice none 0 0) w
theorem NewV.up {B : Nat} {V : Value} : Up (NewV B V) := fun _ _ ⟨b, h1, h2, h3⟩ hg => ⟨b, h1, h2, C6.up _ _ h3 hg⟩
def KRc (cs : List Value) (i : Nat) (k : KN) (w : World) : Prop := ∃ P Mn Mx, cs[i * 6]? = some P ∧ cs[i * 6 + 1]? = some (.int .i64 k.pl) ∧ cs[i * 6 + 2]? = some (.int .i64 k.l) ∧ cs[i * 6 + 3]? = some (.int .i64 k.r) ∧ cs[i * 6 + 4]? = some Mn ∧ cs[i * 6 + 5]? = some Mx ∧ FOwn 34 0 P k.p w ∧ FOwn 34 0 Mn k.mn w ∧ FOwn 34 0 Mx k.mx w
/-- a row of nodes of the call's own -/
def RowI (B : Nat) (V : Value) (ks : List KN) (w : World) : Prop := ∃ cs, KOwn 27 6 B V ks.length cs w ∧ ∀ (i : Nat) (k : KN), ks[i]? = some k → KRc cs i k w
theorem RowI.nil {B : Nat} {w : World} : RowI B (.slice none 0 0) [] w := ⟨[], KOwn.nil, fun i k h => by simp at h⟩
theorem KRc.t {cs : List Value} {i : Nat} {k : KN} {B : Nat} {w w' : World} (h : KRc cs i k w) (hb : ByT [27] B w w') : KRc cs i k w' := by
  obtain ⟨P, Mn, Mx, a0, a1, a2, a3, a4, a5, o1, o2, o3⟩ := h
  exact ⟨P, Mn, Mx, a0, a1, a2, a3, a4, a5, VOwn.upT (by decide) _ _ o1 hb, VOwn.upT (by decide) _ _ o2 hb, VOwn.upT (by decide) _ _ o3 hb⟩
theorem RowI.up {B : Nat} {V : Value} {ks : List KN} : Up (RowI B V ks) := fun w w' ⟨cs, h1, h2⟩ hg => ⟨cs, KOwn.up _ _ h1 hg, fun i k hk => (h2 i k hk).t (B := 0) (ByT.of_grow hg)⟩
theorem byT_k {B : Nat} {v : Value} {n : Nat} {xs : List Value} {a b : World} (h : KOwn 27 6 B v n xs a) (hg : a.grownBy b v.ownBlock) : ByT [27] B a b :=
  ⟨hg.os, hg.tape, hg.output, hg.size, fun k hk hx => hg.block k hk fun hn => by
    rcases h.2 with ⟨rfl, _⟩ | ⟨g, cap, cur, rfl, hb, hh, hr⟩
    · simp [Value.ownBlock] at hn
    · have : k = g := by simpa [Value.ownBlock] using hn
      subst this
      rcases hx with hx | hx
      · omega
      · exact hx _ _ _ hh (by simp)⟩
theorem RowI.app {B : Nat} {V V' : Value} {ks : List KN} {k : KN} {cs : List Value} {P Mn Mx : Value} {w w' : World} (ho : KOwn 27 6 B V ks.length cs w) (h : ∀ (i : Nat) (k : KN), ks[i]? = some k → KRc cs i k w) (hp : FOwn 34 0 P k.p w) (hmn : FOwn 34 0 Mn k.mn w) (hmx : FOwn 34 0 Mx k.mx w)
    (ho' : KOwn 27 6 B V' (ks.length + 1) (cs ++ [P, .int .i64 k.pl, .int .i64 k.l, .int .i64 k.r, Mn, Mx]) w') (hg : w.grownBy w' V.ownBlock) : RowI B V' (ks ++ [k]) w' := by
  have hbt := byT_k ho hg
  have hl := ho.len
  refine ⟨_, by rw [List.length_append]; exact ho', fun i k' hk => ?_⟩
  rw [List.getElem?_append] at hk
  split at hk
  · next hi =>
    obtain ⟨P', Mn', Mx', a0, a1, a2, a3, a4, a5, o1, o2, o3⟩ := (h i k' hk).t hbt
    have ap : ∀ j, j < 6 → (cs ++ [P, .int .i64 k.pl, .int .i64 k.l, .int .i64 k.r, Mn, Mx])[i * 6 + j]? = cs[i * 6 + j]? := fun j hj => List.getElem?_append_left (by omega)
    exact ⟨P', Mn', Mx', (ap 0 (by omega)).trans a0, (ap 1 (by omega)).trans a1, (ap 2 (by omega)).trans a2, (ap 3 (by omega)).trans a3, (ap 4 (by omega)).trans a4, (ap 5 (by omega)).trans a5, o1, o2, o3⟩
  · next hi =>
    rw [List.getElem?_singleton] at hk
    split at hk
    · next h0 =>
      cases hk
      have ei : i = ks.length := by omega
      subst ei
      have ap : ∀ j, j < 6 → (cs ++ [P, .int .i64 k.pl, .int .i64 k.l, .int .i64 k.r, Mn, Mx])[ks.length * 6 + j]? = [P, .int .i64 k.pl, .int .i64 k.l, .int .i64 k.r, Mn, Mx][j]? := fun j hj => by
        rw [List.getElem?_append_right (by omega), hl]; congr 1; omega
      exact ⟨P, Mn, Mx, ap 0 (by omega), ap 1 (by omega), ap 2 (by omega), ap 3 (by omega), ap 4 (by omega), ap 5 (by omega), VOwn.upT (by decide) _ _ hp hbt, VOwn.upT (by decide) _ _ hmn hbt, VOwn.upT (by decide) _ _ hmx hbt⟩
    · cases hk
theorem RowI.at {B : Nat} {V : Value} {ks : List KN} {w : World} (h : RowI B V ks w) {i : Nat} {k : KN} (hk : ks[i]? = some k) : ∃ g cap, V = .slice (some ⟨g, 0, none⟩) ks.length cap ∧ ks.length ≤ cap ∧ B ≤ g ∧ w.cell? ⟨g, i * 6 + 2, none⟩ = some (.int .i64 k.l) ∧ w.cell? ⟨g, i * 6 + 3, none⟩ = some (.int .i64 k.r) ∧ (∀ o, w.frozen? ⟨g, o, none⟩ = false) ∧
    ∀ a b : Int, RowI B V (ks.set i { k with l := a, r := b }) ((w.setCell ⟨g, i * 6 + 2, none⟩ (.int .i64 a)).setCell ⟨g, i * 6 + 3, none⟩ (.int .i64 b)) ∧ ByT [27] B w ((w.setCell ⟨g, i * 6 + 2, none⟩ (.int .i64 a)).setCell ⟨g, i * 6 + 3, none⟩ (.int .i64 b)) := by
  obtain ⟨cs, ho, h⟩ := h
  have hi := (List.getElem?_eq_some_iff.1 hk).1
  rcases ho.2 with ⟨-, h0⟩ | ⟨g, cap, cur, rfl, hb, hh, hn, hr⟩
  · omega
  have hc := (h i k hk)
  obtain ⟨P, Mn, Mx, a0, a1, a2, a3, a4, a5, o1, o2, o3⟩ := hc
  have hfz : ∀ o, w.frozen? ⟨g, o, none⟩ = false := fun o => World.ownsRow.frozenAt ho o
  refine ⟨g, cap, rfl, hn, hb, (World.ownsRow.cellAt ho _ (by omega)).trans a2, (World.ownsRow.cellAt ho _ (by omega)).trans a3, hfz, fun a b => ?_⟩
  have s1 := World.ownsRow.stored ho (i * 6 + 2) (.int .i64 a)
  have s2 := World.ownsRow.stored s1.1 (i * 6 + 3) (.int .i64 b)
  have b1 : ByT [27] B w ((w.setCell ⟨g, i * 6 + 2, none⟩ (.int .i64 a)).setCell ⟨g, i * 6 + 3, none⟩ (.int .i64 b)) := (byT_k ho s1.2).trans (byT_k (v := .slice (some ⟨g, 0, none⟩) ks.length cap) s1.1 s2.2)
  refine ⟨⟨_, by rw [List.length_set]; exact s2.1, fun j k' hj => ?_⟩, b1⟩
  rw [List.getElem?_set] at hj
  split at hj
  · next e =>
    subst e
    cases hj
    have get : ∀ x, x ≠ i * 6 + 2 → x ≠ i * 6 + 3 → ((cs.set (i * 6 + 2) (.int .i64 a)).set (i * 6 + 3) (.int .i64 b))[x]? = cs[x]? := fun x h1 h2 => by rw [List.getElem?_set_ne (by omega), List.getElem?_set_ne (by omega)]
    have hl := ho.len
    exact ⟨P, Mn, Mx, (get _ (by omega) (by omega)).trans a0, (get _ (by omega) (by omega)).trans a1, by rw [List.getElem?_set_ne (by omega), List.getElem?_set_self (by omega)], by rw [List.getElem?_set_self (by simp; omega)], (get _ (by omega) (by omega)).trans a4, (get _ (by omega) (by omega)).trans a5, VOwn.upT (by decide) _ _ o1 b1, VOwn.upT (by decide) _ _ o2 b1, VOwn.upT (by decide) _ _ o3 b1⟩
  · next e =>
    obtain ⟨P', Mn', Mx', c0, c1, c2, c3, c4, c5, p1, p2, p3⟩ := (h j k' hj).t b1
    have get : ∀ x, x < 6 → ((cs.set (i * 6 + 2) (.int .i64 a)).set (i * 6 + 3) (.int .i64 b))[j * 6 + x]? = cs[j * 6 + x]? := fun x hx => by rw [List.getElem?_set_ne (by omega), List.getElem?_set_ne (by omega)]
    exact ⟨P', Mn', Mx', (get 0 (by omega)).trans c0, (get 1 (by omega)).trans c1, (get 2 (by omega)).trans c2, (get 3 (by omega)).trans c3, (get 4 (by omega)).trans c4, (get 5 (by omega)).trans c5, p1, p2, p3⟩
def KnQ (B : Nat) (t : PT) (ks : List KN) (w : World) (e : Ending) (w' : World) : Prop := ∃ V', e = .returned (.tuple #[V', .int .i64 (rootIx t ks.length)]) ∧ ByT [27] B w w' ∧ RowI B V' (ks ++ t.kns ks.length) w'
theorem knodesNil (B : Nat) (V : Value) (ks : List KN) (w : World) (h : RowI B V ks w) : Calls Try.prog 39 #[.pointer none, V] w (KnQ B .nil ks w) := by
  go_enter Try.func39, Try.ntmps39
  go_wp2
  go_ret2
  exact ⟨_, rfl, ByT.refl w, by simpa [PT.kns] using h⟩
end Go.Proofs.Ytcpdhkbmfgphpaa
