import Derived.Test.YtcpdhkbmfgphpaaSl
import Derived.Test.YtcpdhkbmfgphpaaRow
namespace Go.Proofs.Ytcpdhkbmfgphpaa
open Go.ChangeShapes Go.WideShapes Go.ChangeAt Go.RowKit Go.GrowR
set_option linter.unusedVariables false
set_option linter.unusedSimpArgs false
/-! a row of nodes of a k-d tree, as data -/
structure KN where
  p : List Nat
  pl : Int
  l : Int
  r : Int
  mn : List Nat
  mx : List Nat
abbrev NodeF (p : Value) (pl l r : Int) (mn mx : Value) : Value := .agg #[p, .int .i64 pl, .int .i64 l, .int .i64 r, mn, mx]
/-- six cells are a node's, whose values read as the node's data -/
def NCell (b o : Nat) (p : Value) (pl l r : Int) (mn mx : Value) (w : World) : Prop := w.cell? ⟨b, o, none⟩ = some p ∧ w.cell? ⟨b, o + 1, none⟩ = some (.int .i64 pl) ∧ w.cell? ⟨b, o + 2, none⟩ = some (.int .i64 l) ∧ w.cell? ⟨b, o + 3, none⟩ = some (.int .i64 r) ∧ w.cell? ⟨b, o + 4, none⟩ = some mn ∧ w.cell? ⟨b, o + 5, none⟩ = some mx
theorem NCell.up {b o : Nat} {p mn mx : Value} {pl l r : Int} : Up (NCell b o p pl l r mn mx) := fun _ _ ⟨h0, h1, h2, h3, h4, h5⟩ hg => ⟨up_cell h0 hg, up_cell h1 hg, up_cell h2 hg, up_cell h3 hg, up_cell h4 hg, up_cell h5 hg⟩
def NAt (b o : Nat) (k : KN) (w : World) : Prop := ∃ p mn mx, NCell b o p k.pl k.l k.r mn mx w ∧ FSl p k.p w ∧ FSl mn k.mn w ∧ FSl mx k.mx w
theorem NAt.up {b o : Nat} {k : KN} : Up (NAt b o k) := fun _ _ ⟨p, mn, mx, h0, h1, h2, h3⟩ hg => ⟨p, mn, mx, NCell.up _ _ h0 hg, FSl.up _ _ h1 hg, FSl.up _ _ h2 hg, FSl.up _ _ h3 hg⟩
def KSl (v : Value) (ns : List KN) (w : World) : Prop := ∃ A c, v = .slice A ns.length c ∧ ns.length ≤ c ∧ (ns = [] ∨ ∃ b o, A = some ⟨b, o, none⟩ ∧ ∀ i k, ns[i]? = some k → NAt b (o + i * 6) k w)
theorem KSl.up {v : Value} {ns : List KN} : Up (KSl v ns) := fun _ _ ⟨A, c, h1, h2, h3⟩ hg => ⟨A, c, h1, h2, h3.imp id fun ⟨b, o, e, h⟩ => ⟨b, o, e, fun i k hk => NAt.up _ _ (h i k hk) hg⟩⟩
/-- the numbers of a node are a machine's -/
def KN.wf (k : KN) : Prop := (Lit.int .i64 k.pl).wf = true ∧ (Lit.int .i64 k.l).wf = true ∧ (Lit.int .i64 k.r).wf = true ∧ k.p.length ≤ maxLen ∧ k.mn.length ≤ maxLen ∧ k.mx.length ≤ maxLen
section
variable {H : Type} {enc : TypeId × Value → H} {P : Program} {w : World} {base : Nat} {spare : Nat → Bool} {held : Bool}
/-- the types of a node's fields -/
structure NodeTypes (P : Program) (tg ti tf tfs tgs : TypeId) (fs : Array Field) : Prop where
  g : P.underlying tg = some (.struct fs)
  cg : P.cellsOf tg = 6
  n6 : fs.size = 6
  f : ∀ (i : Nat) (f : Field), fs[i]? = some f → f.offset = i ∧ P.cellsOf f.type = 1 ∧ f.type = ([tfs, ti, ti, ti, tfs, tfs].getD i ti)
  gs : P.underlying tgs = some (.slice tg)
  i : P.underlying ti = some (.int .i64)
  ff : P.underlying tf = some (.float .f64)
  fs' : P.underlying tfs = some (.slice tf)
  c : P.cellsOf tf = 1
theorem open_node {tg ti tf tfs tgs : TypeId} {fs : Array Field} (T : NodeTypes P tg ti tf tfs tgs fs) (n : Nat) (cs : List Value) (y : DataW H × List MemPlace) (h : DataW.trod enc P w base spare held n tg cs = some y) :
    ∃ k p mn mx, cs = [p, .int .i64 k.pl, .int .i64 k.l, .int .i64 k.r, mn, mx] ∧ FSl p k.p w ∧ FSl mn k.mn w ∧ FSl mx k.mx w ∧ KN.wf k := by
  obtain ⟨xs, n1, rfl, rfl, hl, hxl, hf⟩ := DataW.trod_struct T.g h
  rw [T.cg] at hl
  rw [T.n6] at hxl
  match xs, hxl, cs, hl with
  | [y0, y1, y2, y3, y4, y5], _, [v0, v1, v2, v3, v4, v5], _ =>
    have get : ∀ i, i < 6 → ∃ f, fs[i]? = some f := fun i hi => ⟨fs[i]'(by rw [T.n6]; exact hi), by simp⟩
    have key : ∀ i, i < 6 → DataW.trod enc P w base spare held n1 ([tfs, ti, ti, ti, tfs, tfs].getD i ti) (([v0, v1, v2, v3, v4, v5].drop i).take 1) = [y0, y1, y2, y3, y4, y5][i]? := fun i hi => by
      obtain ⟨f, hfi⟩ := get i hi
      obtain ⟨e1, e2, e3⟩ := T.f i f hfi
      have := hf i f hfi
      rw [e1, e2, e3] at this; exact this
    have k0 := key 0 (by omega); have k1 := key 1 (by omega); have k2 := key 2 (by omega); have k3 := key 3 (by omega); have k4 := key 4 (by omega); have k5 := key 5 (by omega)
    simp at k0 k1 k2 k3 k4 k5
    obtain ⟨pl, rfl, w1⟩ := cell_int T.i k1
    obtain ⟨l, rfl, w2⟩ := cell_int T.i k2
    obtain ⟨r, rfl, w3⟩ := cell_int T.i k3
    obtain ⟨p, hp, -, lp⟩ := cell_f T.fs' T.c T.ff k0
    obtain ⟨mn, hmn, -, lmn⟩ := cell_f T.fs' T.c T.ff k4
    obtain ⟨mx, hmx, -, lmx⟩ := cell_f T.fs' T.c T.ff k5
    exact ⟨⟨p, pl, l, r, mn, mx⟩, v0, v4, v5, rfl, hp, hmn, hmx, w1, w2, w3, lp, lmn, lmx⟩
theorem open_kn {tg ti tf tfs tgs : TypeId} {fs : Array Field} (T : NodeTypes P tg ti tf tfs tgs fs) {r : Reach} {b0 : Nat} {v : Value} {d : DataW H} {p : List MemPlace} (hv : Value.okWide P w r b0 tgs v) (h : DataW.Trod enc P w base spare held tgs v d p) :
    ∃ ns, KSl v ns w ∧ (∀ k ∈ ns, KN.wf k) ∧ ns.length ≤ maxLen := by
  obtain ⟨a', len, c', rfl⟩ := okWide_slice T.gs hv
  obtain ⟨n, h⟩ := h
  replace h : DataW.trod enc P w base spare held n tgs [Value.slice a' len c'] = some (d, p) := h
  rcases DataW.trod_slice T.gs h with ⟨h0, _⟩ | ⟨a, len', cap, elems, rest, q, hq, h0, hy, hb', hlc, hm, hel, hev, -, -⟩
  · cases h0
    exact ⟨[], ⟨none, 0, rfl, Nat.le_refl _, .inl rfl⟩, by simp, by simp⟩
  · cases h0
    have hkid : ∀ i, i < len → ∃ k : KN, (∃ p mn mx, (∀ j, j < 6 → ∃ x, [p, .int .i64 k.pl, .int .i64 k.l, .int .i64 k.r, mn, mx][j]? = some x ∧ w.cell? (a.add (i * 6 + j)) = some x) ∧ FSl p k.p w ∧ FSl mn k.mn w ∧ FSl mx k.mx w) ∧ KN.wf k := fun i hi => by
      have h1 := hev i hi
      rw [T.cg, List.getElem?_eq_getElem (by omega)] at h1
      obtain ⟨cs', h2, h3⟩ := Option.bind_eq_some_iff.1 h1
      obtain ⟨k, p, mn, mx, rfl, h4, h5, h6, h7⟩ := open_node T _ cs' elems[i] h3
      obtain ⟨_, hlen, hcell⟩ := World.cells?_some h2
      refine ⟨k, ⟨p, mn, mx, fun j hj => ?_, h4, h5, h6⟩, h7⟩
      have := hcell j hj
      rw [Deep.add_add] at this
      exact ⟨[p, .int .i64 k.pl, .int .i64 k.l, .int .i64 k.r, mn, mx][j]'(by simpa using hj), by simp, by rw [this]; simp⟩
    obtain ⟨ns, hkl, hks⟩ := choose_listα len hkid
    refine ⟨ns, ⟨some a, c', by rw [hkl], by omega, ?_⟩, fun k hk => ?_, by omega⟩
    · cases hk0 : ns with
      | nil => exact .inl rfl
      | cons g0 gs0 =>
        right
        obtain ⟨⟨p, mn, mx, hc, -⟩, -⟩ := hks 0 g0 (by rw [hk0]; rfl)
        obtain ⟨x, -, hx⟩ := hc 0 (by omega)
        obtain ⟨b, o, s⟩ := a
        cases s with
        | some s =>
          exfalso
          simp only [Addr.add, if_pos] at hx
          unfold World.cell? at hx
          simp at hx
          split at hx <;> simp at hx
        | none =>
          refine ⟨b, o, rfl, fun i k hi => ?_⟩
          rw [← hk0] at hi
          obtain ⟨⟨p, mn, mx, hc, h1, h2, h3⟩, -⟩ := hks i k hi
          have hj : ∀ j (hj : j < 6), w.cell? ⟨b, o + i * 6 + j, none⟩ = [p, .int .i64 k.pl, .int .i64 k.l, .int .i64 k.r, mn, mx][j]? := fun j hj => by
            obtain ⟨x, h1, h2⟩ := hc j hj
            rw [addr_add, ← Nat.add_assoc] at h2
            rw [h2, h1]
          exact ⟨p, mn, mx, ⟨hj 0 (by omega), hj 1 (by omega), hj 2 (by omega), hj 3 (by omega), hj 4 (by omega), hj 5 (by omega)⟩, h1, h2, h3⟩
    · obtain ⟨i, hi⟩ := List.mem_iff_getElem?.1 hk
      exact (hks i k hi).2
end
theorem KSl.at {v : Value} {ns : List KN} {w : World} (h : KSl v ns w) {i : Nat} {k : KN} (hk : ns[i]? = some k) : ∃ b o c p mn mx, v = .slice (some ⟨b, o, none⟩) ns.length c ∧ ns.length ≤ c ∧ NCell b (o + i * 6) p k.pl k.l k.r mn mx w ∧ FSl p k.p w ∧ FSl mn k.mn w ∧ FSl mx k.mx w := by
  obtain ⟨A, c, rfl, hc, h⟩ := h
  rcases h with rfl | ⟨b, o, rfl, h⟩
  · simp at hk
  · obtain ⟨p, mn, mx, h1, h2, h3, h4⟩ := h i k hk
    exact ⟨b, o, c, p, mn, mx, rfl, hc, h1, h2, h3, h4⟩
end Go.Proofs.Ytcpdhkbmfgphpaa
