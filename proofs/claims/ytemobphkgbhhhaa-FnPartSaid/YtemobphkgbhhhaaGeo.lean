import Derived.Test.YtemobphkgbhhhaaGoodA
import Derived.Test.YtemobphkgbhhhaaRow
namespace Go.Proofs.Ytemobphkgbhhhaa
open Go.ChangeShapes Go.WideShapes Go.ChangeAt Go.RowKit Go.GrowR
set_option linter.unusedVariables false
set_option linter.unusedSimpArgs false
/-! a geometry's data as a tree -/
inductive GT where
  | mk (k l r : Int) (fl : List Nat) (en : List Int) (ens : List (List Int)) (kids : List GT)
abbrev GeoF (k l r : Int) (u e1 e2 ks : Value) : Value := .agg #[.int .i64 k, .int .i64 l, .int .i64 r, u, e1, e2, ks]
/-- seven cells are a geometry's -/
def GCell (b o : Nat) (v : Value) (w : World) : Prop := ∃ v0 v1 v2 v3 v4 v5 v6, v = .agg #[v0, v1, v2, v3, v4, v5, v6] ∧ w.cell? ⟨b, o, none⟩ = some v0 ∧ w.cell? ⟨b, o + 1, none⟩ = some v1 ∧ w.cell? ⟨b, o + 2, none⟩ = some v2 ∧ w.cell? ⟨b, o + 3, none⟩ = some v3 ∧ w.cell? ⟨b, o + 4, none⟩ = some v4 ∧ w.cell? ⟨b, o + 5, none⟩ = some v5 ∧ w.cell? ⟨b, o + 6, none⟩ = some v6
theorem GCell.up {b o : Nat} {v : Value} : Up (GCell b o v) := fun _ _ ⟨v0, v1, v2, v3, v4, v5, v6, h, h0, h1, h2, h3, h4, h5, h6⟩ hg => ⟨v0, v1, v2, v3, v4, v5, v6, h, up_cell h0 hg, up_cell h1 hg, up_cell h2 hg, up_cell h3 hg, up_cell h4 hg, up_cell h5 hg, up_cell h6 hg⟩
mutual
/-- a value that reads as a geometry -/
def GV : GT → Value → World → Prop
  | .mk k l r fl en ens kids, v, w => ∃ u e1 e2 A c, v = GeoF k l r u e1 e2 (.slice A kids.length c) ∧ kids.length ≤ c ∧ FSl u fl w ∧ ISl e1 en w ∧ ISSl e2 ens w ∧ (kids = [] ∨ ∃ b o, A = some ⟨b, o, none⟩ ∧ GK kids b o w)
/-- .. a row of them -/
def GK : List GT → Nat → Nat → World → Prop
  | [], _, _, _ => True
  | g :: gs, b, o, w => (∃ v, GCell b o v w ∧ GV g v w) ∧ GK gs b (o + 7) w
end
theorem GK_at : ∀ {gs : List GT} {b o : Nat} {w : World}, GK gs b o w → ∀ {i : Nat} {g : GT}, gs[i]? = some g → ∃ v, GCell b (o + i * 7) v w ∧ GV g v w
  | [], _, _, _, _, i, g, h => by simp at h
  | g :: gs, b, o, w, hk, 0, g', h => by
    simp at h; subst h
    unfold GK at hk
    simpa using hk.1
  | g :: gs, b, o, w, hk, i + 1, g', h => by
    unfold GK at hk
    have := GK_at hk.2 (i := i) (g := g') (by simpa using h)
    rw [show o + 7 + i * 7 = o + (i + 1) * 7 by omega] at this
    exact this
theorem GK_mk : ∀ {gs : List GT} {b o : Nat} {w : World}, (∀ (i : Nat) (g : GT), gs[i]? = some g → ∃ v, GCell b (o + i * 7) v w ∧ GV g v w) → GK gs b o w
  | [], _, _, _, _ => by unfold GK; trivial
  | g :: gs, b, o, w, h => by
    unfold GK
    refine ⟨by simpa using h 0 g rfl, GK_mk fun i g' hi => ?_⟩
    have := h (i + 1) g' (by simpa using hi)
    rw [show o + (i + 1) * 7 = o + 7 + i * 7 by omega] at this
    exact this
theorem GT.ind {p : GT → Prop} (h : ∀ k l r fl en ens kids, (∀ g ∈ kids, p g) → p (.mk k l r fl en ens kids)) : ∀ g, p g
  | .mk k l r fl en ens kids => h k l r fl en ens kids fun g hg => GT.ind h g
theorem GV.up : ∀ g v, Up (GV g v) := by
  refine GT.ind fun k l r fl en ens kids ih v w w' hv hg => ?_
  unfold GV at hv ⊢
  obtain ⟨u, e1, e2, A, c, h0, h1, h2, h3, h4, h5⟩ := hv
  refine ⟨u, e1, e2, A, c, h0, h1, FSl.up _ _ h2 hg, ISl.up _ _ h3 hg, ISSl.up _ _ h4 hg, h5.imp id ?_⟩
  rintro ⟨b, o, h6, h7⟩
  exact ⟨b, o, h6, GK_mk fun i g hi => let ⟨v, h8, h9⟩ := GK_at h7 hi; ⟨v, GCell.up _ _ h8 hg, ih g (List.mem_of_getElem? hi) v w w' h9 hg⟩⟩
/-- the reach: no slice in it is of more bytes than a machine's memory -/
inductive Reach44 : GT → Prop
  | mk {k l r : Int} {fl : List Nat} {en : List Int} {ens : List (List Int)} {kids : List GT} (h0 : fl.length ≤ 17592186044416) (h1 : en.length ≤ 17592186044416) (h2 : ens.length ≤ 5864062014805) (h3 : kids.length ≤ 1172812402961)
    (h4 : ∀ x ∈ fl, (Lit.float .f64 x).wf = true) (h5 : ∀ l ∈ ens, l.length ≤ 17592186044416) (h6 : ∀ x ∈ en, (Lit.int .i64 x).wf = true) (h7 : ∀ l ∈ ens, ∀ x ∈ l, (Lit.int .i64 x).wf = true) (hk : (Lit.int .i64 k).wf = true ∧ (Lit.int .i64 l).wf = true ∧ (Lit.int .i64 r).wf = true) (h8 : ∀ g ∈ kids, Reach44 g) : Reach44 (.mk k l r fl en ens kids)
section
variable {H : Type} {enc : TypeId × Value → H} {P : Program} {w : World} {base : Nat} {spare : Nat → Bool} {held : Bool}
theorem vsl_of {α : Type} {E : α → Value → World → Prop} {a : Addr} {n c : Nat} {xs : List α} (hl : xs.length = n) (hc : n ≤ c) (h : ∀ i x, xs[i]? = some x → ∃ u, w.cell? (a.add i) = some u ∧ E x u w) : SlE E (.slice (some a) n c) xs w := by
  subst hl
  obtain ⟨us, hul, hus⟩ := choose_listα (p := fun i u => ∀ x, xs[i]? = some x → w.cell? (a.add i) = some u ∧ E x u w) xs.length (fun i hi => by
    obtain ⟨u, h1, h2⟩ := h i xs[i] (by simp [hi])
    exact ⟨u, fun x hx => by rw [List.getElem?_eq_getElem hi] at hx; cases hx; exact ⟨h1, h2⟩⟩)
  refine ⟨us, ⟨_, _, by rw [hul], by omega, ?_⟩, hul, fun i u x hu hx => (hus i u hu x hx).2⟩
  cases us with
  | nil => exact .inl rfl
  | cons u us =>
    have hx0 : 0 < xs.length := by rw [← hul]; simp
    have h0 := (hus 0 u rfl xs[0] (by simp [hx0])).1
    obtain ⟨b, o, s⟩ := a
    cases s with
    | some s =>
      exfalso
      simp only [Addr.add, if_pos] at h0
      unfold World.cell? at h0
      simp at h0
      split at h0 <;> simp at h0
    | none => exact .inr ⟨b, o, rfl, fun i y hi => by
        have hi' : i < xs.length := by rw [← hul]; exact (List.getElem?_eq_some_iff.1 hi).1
        have := (hus i y hi xs[i] (by simp [hi'])).1
        rwa [addr_add] at this⟩
theorem weightsAll_mem {e : TypeId} : ∀ {ds : List (DataW H)} {d : DataW H}, d ∈ ds → ∀ n ∈ d.weights P e, n ∈ DataW.weightsAll P e ds
  | d' :: ds, d, hd, n, hn => by
    unfold DataW.weightsAll
    rcases List.mem_cons.1 hd with rfl | hd
    · exact List.mem_append_left _ hn
    · exact List.mem_append_right _ (weightsAll_mem hd n hn)
theorem wslice {t e : TypeId} {el sp : List (DataW H)} (ht : P.underlying t = some (.slice e)) (hw : ((DataW.slice el sp).weights P t).all (· ≤ reachBytes) = true) : (el.length + sp.length) * P.bytesOf e ≤ 140737488351232 ∧ ∀ d ∈ el, (d.weights P e).all (· ≤ reachBytes) = true := by
  simp only [DataW.weights, ht] at hw
  have h := List.all_eq_true.1 hw
  refine ⟨(of_decide_eq_true (h _ List.mem_cons_self) : _ ≤ reachBytes), fun d hd => List.all_eq_true.2 fun q hq => h q (List.mem_cons_of_mem _ (List.mem_append_left _ (weightsAll_mem hd q hq)))⟩
theorem cell_is {t e : TypeId} {v : Value} {n : Nat} {y : DataW H × List MemPlace} (ht : P.underlying t = some (.slice e)) (hc : P.cellsOf e = 1) (he : P.underlying e = some (.int .i64)) (hb : P.bytesOf e = 8)
    (h : DataW.trod enc P w base spare held n t [v] = some y) (hw : (y.1.weights P t).all (· ≤ reachBytes) = true) : ∃ ns, ISl v ns w ∧ ns.length ≤ 17592186044416 ∧ ∀ x ∈ ns, (Lit.int .i64 x).wf = true := by
  rcases Deep.open_slice1 ht hc h with ⟨h0, _⟩ | ⟨a, len', cap, m, k, V, D, Pl, h0, hb', hl, hm, hmm, hy, hx⟩
  · cases h0; exact ⟨[], ISl.nil, by simp, by simp⟩
  · cases h0
    have hlm : len' ≤ m := by rw [hmm]; split <;> omega
    have hlen : len' ≤ 17592186044416 := by
      rw [hy] at hw
      have := (wslice ht hw).1
      simp [hb] at this
      omega
    obtain ⟨ns, hxl, hxs⟩ := choose_listα (p := fun i b => w.cell? (a.add i) = some (.int .i64 b) ∧ (Lit.int .i64 b).wf = true) len' fun i hi => by
      obtain ⟨h1, h2⟩ := hx i (by omega)
      obtain ⟨b, hb, hw⟩ := cell_int he h2
      exact ⟨b, by rw [h1, hb], hw⟩
    refine ⟨ns, vsl_of hxl hl fun i x hi => ⟨_, (hxs i x hi).1, rfl⟩, by omega, fun x hx => ?_⟩
    obtain ⟨i, hi⟩ := List.mem_iff_getElem?.1 hx
    exact (hxs i x hi).2
theorem cell_iss {t s e : TypeId} {v : Value} {n : Nat} {y : DataW H × List MemPlace} (ht : P.underlying t = some (.slice s)) (hcs : P.cellsOf s = 1) (hs : P.underlying s = some (.slice e)) (hc : P.cellsOf e = 1) (he : P.underlying e = some (.int .i64)) (hb : P.bytesOf e = 8) (hb2 : P.bytesOf s = 24)
    (h : DataW.trod enc P w base spare held n t [v] = some y) (hw : (y.1.weights P t).all (· ≤ reachBytes) = true) : ∃ nss, ISSl v nss w ∧ nss.length ≤ 5864062014805 ∧ (∀ l ∈ nss, l.length ≤ 17592186044416) ∧ ∀ l ∈ nss, ∀ x ∈ l, (Lit.int .i64 x).wf = true := by
  rcases Deep.open_slice1 ht hcs h with ⟨h0, _⟩ | ⟨a, len', cap, m, k, V, D, Pl, h0, hb', hl, hm, hmm, hy, hx⟩
  · cases h0; exact ⟨[], ISSl.nil, by simp, by simp, by simp⟩
  · cases h0
    have hlm : len' ≤ m := by rw [hmm]; split <;> omega
    rw [hy] at hw
    have hlen : len' ≤ 5864062014805 := by
      have := (wslice ht hw).1
      simp [hb2] at this
      omega
    have hwe : ∀ i, i < len' → ((D i).weights P s).all (· ≤ reachBytes) = true := fun i hi => (wslice ht hw).2 _ (List.mem_map.2 ⟨i, List.mem_range.2 hi, rfl⟩)
    obtain ⟨nss, hxl, hxs⟩ := choose_listα (p := fun i ns => (∃ u, w.cell? (a.add i) = some u ∧ ISl u ns w) ∧ ns.length ≤ 17592186044416 ∧ ∀ x ∈ ns, (Lit.int .i64 x).wf = true) len' fun i hi => by
      obtain ⟨h1, h2⟩ := hx i (by omega)
      obtain ⟨ns, h3, h4, h5⟩ := cell_is hs hc he hb h2 (hwe i hi)
      exact ⟨ns, ⟨_, h1, h3⟩, h4, h5⟩
    refine ⟨nss, vsl_of hxl hl fun i x hi => (hxs i x hi).1, by omega, fun l hl => ?_, fun l hl => ?_⟩
    all_goals
      obtain ⟨i, hi⟩ := List.mem_iff_getElem?.1 hl
      first | exact (hxs i l hi).2.1 | exact (hxs i l hi).2.2
theorem cell_fw {t e : TypeId} {v : Value} {n : Nat} {y : DataW H × List MemPlace} (ht : P.underlying t = some (.slice e)) (hc : P.cellsOf e = 1) (he : P.underlying e = some (.float .f64)) (hb : P.bytesOf e = 8)
    (h : DataW.trod enc P w base spare held n t [v] = some y) (hw : (y.1.weights P t).all (· ≤ reachBytes) = true) : ∃ xs, FSl v xs w ∧ xs.length ≤ 17592186044416 ∧ ∀ x ∈ xs, (Lit.float .f64 x).wf = true := by
  obtain ⟨xs, h1, h2, _⟩ := cell_f ht hc he h
  refine ⟨xs, h1, ?_, h2⟩
  rcases Deep.open_slice1 ht hc h with ⟨h0, _⟩ | ⟨a, len', cap, m, k, V, D, Pl, h0, hb', hl, hm, hmm, hy, hx⟩
  · cases h0
    obtain ⟨A, c, h3, _⟩ := h1
    simp at h3; omega
  · rw [hy] at hw
    have h9 := (wslice ht hw).1
    simp [hb] at h9
    cases h0
    obtain ⟨A, c, h3, _⟩ := h1
    simp at h3; omega
/-- the types of a geometry's fields -/
structure GeoTypes (P : Program) (tg ti tf tis tiss tfs tgs : TypeId) (fs : Array Field) : Prop where
  g : P.underlying tg = some (.struct fs)
  cg : P.cellsOf tg = 7
  n7 : fs.size = 7
  f : ∀ (i : Nat) (f : Field), fs[i]? = some f → f.offset = i ∧ P.cellsOf f.type = 1 ∧ f.type = ([ti, ti, ti, tfs, tis, tiss, tgs].getD i ti)
  gs : P.underlying tgs = some (.slice tg)
  i : P.underlying ti = some (.int .i64)
  ff : P.underlying tf = some (.float .f64)
  is : P.underlying tis = some (.slice ti)
  iss : P.underlying tiss = some (.slice tis)
  fs' : P.underlying tfs = some (.slice tf)
  c : P.cellsOf ti = 1 ∧ P.cellsOf tf = 1 ∧ P.cellsOf tis = 1 ∧ P.bytesOf ti = 8 ∧ P.bytesOf tf = 8 ∧ P.bytesOf tis = 24 ∧ 120 ≤ P.bytesOf tg
theorem addr_add' (b o k : Nat) : (⟨b, o, none⟩ : Addr).add k = ⟨b, o + k, none⟩ := addr_add b o k
theorem open_geo {tg ti tf tis tiss tfs tgs : TypeId} {fs : Array Field} (T : GeoTypes P tg ti tf tis tiss tfs tgs fs) : ∀ (n : Nat) (cs : List Value) (y : DataW H × List MemPlace), DataW.trod enc P w base spare held n tg cs = some y → (y.1.weights P tg).all (· ≤ reachBytes) = true →
    ∃ g v0 v1 v2 v3 v4 v5 v6, cs = [v0, v1, v2, v3, v4, v5, v6] ∧ GV g (.agg #[v0, v1, v2, v3, v4, v5, v6]) w ∧ Reach44 g := by
  intro n
  induction n using Nat.strongRecOn with
  | ind n ih =>
  intro cs y h hw
  obtain ⟨xs, n1, rfl, rfl, hl, hxl, hf⟩ := DataW.trod_struct T.g h
  rw [T.cg] at hl
  rw [T.n7] at hxl
  match xs, hxl, cs, hl with
  | [y0, y1, y2, y3, y4, y5, y6], _, [v0, v1, v2, v3, v4, v5, v6], _ =>
    have get : ∀ i, i < 7 → ∃ f, fs[i]? = some f := fun i hi => ⟨fs[i]'(by rw [T.n7]; exact hi), by simp⟩
    have key : ∀ i, i < 7 → DataW.trod enc P w base spare held n1 ([ti, ti, ti, tfs, tis, tiss, tgs].getD i ti) (([v0, v1, v2, v3, v4, v5, v6].drop i).take 1) = [y0, y1, y2, y3, y4, y5, y6][i]? := fun i hi => by
      obtain ⟨f, hfi⟩ := get i hi
      obtain ⟨e1, e2, e3⟩ := T.f i f hfi
      have := hf i f hfi
      rw [e1, e2, e3] at this; exact this
    have hts : fs.toList.map (·.type) = [ti, ti, ti, tfs, tis, tiss, tgs] := by
      apply List.ext_getElem?
      intro i
      by_cases hi : i < 7
      · obtain ⟨f, hfi⟩ := get i hi
        rw [List.getElem?_map, Array.getElem?_toList, hfi]
        have := (T.f i f hfi).2.2
        simp only [Option.map_some, this]
        match i, hi with
        | 0, _ => rfl
        | 1, _ => rfl
        | 2, _ => rfl
        | 3, _ => rfl
        | 4, _ => rfl
        | 5, _ => rfl
        | 6, _ => rfl
      · rw [List.getElem?_eq_none (by simp [T.n7]; omega), List.getElem?_eq_none (by simp; omega)]
    simp only [List.map_cons, List.map_nil, DataW.weights, T.g, hts, DataW.weightsEach, List.all_append, Bool.and_eq_true, List.append_nil] at hw
    obtain ⟨-, -, -, w3, w4, w5, w6⟩ := hw
    have k0 := key 0 (by omega); have k1 := key 1 (by omega); have k2 := key 2 (by omega); have k3 := key 3 (by omega); have k4 := key 4 (by omega); have k5 := key 5 (by omega); have k6 := key 6 (by omega)
    simp at k0 k1 k2 k3 k4 k5 k6
    obtain ⟨k, rfl, wk⟩ := cell_int T.i k0
    obtain ⟨l, rfl, wl⟩ := cell_int T.i k1
    obtain ⟨r, rfl, wr⟩ := cell_int T.i k2
    obtain ⟨c1, c2, c3, c4, c5, c6, c7⟩ := T.c
    obtain ⟨fl, hfl, lfl, wfl⟩ := cell_fw T.fs' c2 T.ff c5 k3 w3
    obtain ⟨en, hen, len_, wen⟩ := cell_is T.is c1 T.i c4 k4 w4
    obtain ⟨ens, hens, lens_, lens2, wens⟩ := cell_iss T.iss c3 T.is c1 T.i c4 c6 k5 w5
    rcases DataW.trod_slice T.gs k6 with ⟨h0, _⟩ | ⟨a, len', cap, elems, rest, q, hq, h0, hy, hb', hlc, hm, hel, hev, -, -⟩
    · cases h0
      exact ⟨.mk k l r fl en ens [], _, _, _, _, _, _, _, rfl, by unfold GV; exact ⟨_, _, _, _, _, rfl, Nat.le_refl _, hfl, hen, hens, .inl rfl⟩, .mk lfl len_ lens_ (by simp) wfl lens2 wen wens ⟨wk, wl, wr⟩ (by simp)⟩
    · cases h0
      rw [hy] at w6
      have hlen : len' ≤ 1172812402961 := by
        have w60 := (wslice T.gs w6).1
        have : len' * 120 ≤ ((elems.map (·.1)).length + (rest.map (·.1)).length) * P.bytesOf tg := Nat.mul_le_mul (by simp [hel]) c7
        omega
      have hkid : ∀ i, i < len' → ∃ g, (∃ v, (∃ v0 v1 v2 v3 v4 v5 v6, v = .agg #[v0, v1, v2, v3, v4, v5, v6] ∧ ∀ j, j < 7 → ∃ x, [v0, v1, v2, v3, v4, v5, v6][j]? = some x ∧ w.cell? (a.add (i * 7 + j)) = some x) ∧ GV g v w) ∧ Reach44 g := fun i hi => by
        have h1 := hev i hi
        rw [T.cg, List.getElem?_eq_getElem (by omega)] at h1
        obtain ⟨cs', h2, h3⟩ := Option.bind_eq_some_iff.1 h1
        obtain ⟨g, v0, v1, v2, v3, v4, v5, v6, rfl, h4, h5⟩ := ih q (by omega) cs' elems[i] h3 ((wslice T.gs w6).2 _ (List.mem_map.2 ⟨elems[i], by simp, rfl⟩))
        obtain ⟨_, hlen, hcell⟩ := World.cells?_some h2
        refine ⟨g, ⟨_, ⟨v0, v1, v2, v3, v4, v5, v6, rfl, fun j hj => ?_⟩, h4⟩, h5⟩
        have := hcell j hj
        rw [Deep.add_add] at this
        exact ⟨[v0, v1, v2, v3, v4, v5, v6][j]'(by simpa using hj), by simp, by rw [this]; simp⟩
      obtain ⟨kids, hkl, hks⟩ := choose_listα len' hkid
      refine ⟨.mk k l r fl en ens kids, _, _, _, _, _, _, _, rfl, ?_, .mk lfl len_ lens_ (by omega) wfl lens2 wen wens ⟨wk, wl, wr⟩ (fun g hg => ?_)⟩
      · unfold GV
        refine ⟨_, _, _, some a, cap, by rw [hkl], by omega, hfl, hen, hens, ?_⟩
        cases hk0 : kids with
        | nil => exact .inl rfl
        | cons g0 gs0 =>
          right
          obtain ⟨⟨v, ⟨v0, v1, v2, v3, v4, v5, v6, -, hc⟩, -⟩, -⟩ := hks 0 g0 (by rw [hk0]; rfl)
          obtain ⟨x, -, hx⟩ := hc 0 (by omega)
          obtain ⟨b, o, s⟩ := a
          cases s with
          | some s =>
            exfalso
            simp only [Addr.add, if_pos] at hx
            unfold World.cell? at hx
            simp at hx
            split at hx <;> simp at hx
          | none =>
            refine ⟨b, o, rfl, ?_⟩
            rw [← hk0]
            refine GK_mk fun i g hi => ?_
            obtain ⟨⟨v, ⟨v0, v1, v2, v3, v4, v5, v6, rfl, hc⟩, hv⟩, -⟩ := hks i g hi
            have hj : ∀ j (hj : j < 7), w.cell? ⟨b, o + i * 7 + j, none⟩ = [v0, v1, v2, v3, v4, v5, v6][j]? := fun j hj => by
              obtain ⟨x, h1, h2⟩ := hc j hj
              rw [addr_add, ← Nat.add_assoc] at h2
              rw [h2, h1]
            exact ⟨_, ⟨v0, v1, v2, v3, v4, v5, v6, rfl, hj 0 (by omega), hj 1 (by omega), hj 2 (by omega), hj 3 (by omega), hj 4 (by omega), hj 5 (by omega), hj 6 (by omega)⟩, hv⟩
      · obtain ⟨i, hi⟩ := List.mem_iff_getElem?.1 hg
        exact (hks i g hi).2
theorem open_g {tg ti tf tis tiss tfs tgs : TypeId} {fs : Array Field} (T : GeoTypes P tg ti tf tis tiss tfs tgs fs) {r : Reach} {b0 : Nat} {v : Value} {d : DataW H} {p : List MemPlace} (hv : Value.okWide P w r b0 tg v) (h : DataW.Trod enc P w base spare held tg v d p) (hw : (d.weights P tg).all (· ≤ reachBytes) = true) :
    ∃ g, GV g v w ∧ Reach44 g := by
  obtain ⟨cs, rfl, hsz⟩ := okWide_struct T.g hv
  obtain ⟨n, hn⟩ := h
  obtain ⟨g, v0, v1, v2, v3, v4, v5, v6, h1, h2, h3⟩ := open_geo T n _ _ hn hw
  refine ⟨g, ?_, h3⟩
  have : cs = #[v0, v1, v2, v3, v4, v5, v6] := by
    obtain ⟨l⟩ := cs
    have h1' : l = [v0, v1, v2, v3, v4, v5, v6] := h1
    rw [h1']
  rw [this]; exact h2
end
end Go.Proofs.Ytemobphkgbhhhaa
