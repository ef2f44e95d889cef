import Derived.Test.YtcpdhkbmfgphpaaKiH
import Derived.Test.YtcpdhkbmfgphpaaKnF
namespace Go.Proofs.Ytcpdhkbmfgphpaa
open Go.ChangeShapes Go.WideShapes Go.ChangeAt Go.RowKit Go.GrowR
set_option linter.unusedVariables false
set_option linter.unusedSimpArgs false

/-- all nodes of a tree, as a list -/
theorem knodes_calls (B d : Nat) (hd : d ≤ 6) : ∀ (t : PT) (v V : Value) (F : List Nat) (ks : List KN) (w : World), t.KD d → t.WB d → NP t v F w → (∀ k ∈ F, k < B) → B ≤ w.heap.size → RowI B V ks w → ks.length + t.size ≤ 1000001 → Calls Try.prog 39 #[v, V] w (KnQ B t ks w)
  | .nil, v, V, F, ks, w, _, _, hn, _, _, hr, _ => by rw [hn.1]; exact knodesNil B V ks w hr
  | .node p pl bx l r, v, V, F, ks, w, ⟨⟨g1, _⟩, gl, gr⟩, ⟨b1, b2, b3⟩, hn, hF, hB, hr, hs =>
    knodes_node B d p pl bx l r v V F ks w hn hF hB hr (by have := g1.1; omega) b1 hd (by simp only [PT.size] at hs; omega)
      (fun v V F ks w' a b c e f => knodes_calls B d hd l v V F ks w' gl b2 a b c e f) (fun v V F ks w' a b c e f => knodes_calls B d hd r v V F ks w' gr b3 a b c e f)
/-- a row of nodes reads as a slice of them -/
theorem RowI.sl {B : Nat} {V : Value} {ks : List KN} {w : World} (h : RowI B V ks w) : KSl V ks w := by
  obtain ⟨cs, ho, h⟩ := h
  obtain ⟨A, c, rfl, hc, hcell⟩ := ho.cells
  refine ⟨A, c, rfl, hc, ?_⟩
  rcases hcell with h0 | ⟨b, rfl, hx⟩
  · exact .inl (List.length_eq_zero_iff.1 h0)
  · refine .inr ⟨b, 0, rfl, fun i k hk => ?_⟩
    obtain ⟨P, Mn, Mx, a0, a1, a2, a3, a4, a5, o1, o2, o3⟩ := h i k hk
    rw [Nat.zero_add]
    exact ⟨P, Mn, Mx, ⟨hx _ _ (by simpa using a0), hx _ _ a1, hx _ _ a2, hx _ _ a3, hx _ _ a4, hx _ _ a5⟩, o1.sl.f, o2.sl.f, o3.sl.f⟩
theorem lit_wf {x : Int} (h1 : -9000000000 ≤ x) (h2 : x ≤ 9000000000) : (Lit.int .i64 x).wf = true := by
  have a : IntKind.i64.min = -9223372036854775808 := rfl
  have b : IntKind.i64.max = 9223372036854775807 := rfl
  simp only [Lit.wf, Bool.and_eq_true, decide_eq_true_eq, a, b]; omega
theorem rootIx_le (t : PT) (k : Nat) : -1 ≤ rootIx t k ∧ rootIx t k ≤ k := by
  cases t <;> simp only [rootIx] <;> omega
theorem kns_wf {d : Nat} (hd : d ≤ 6) : ∀ (t : PT) (k : Nat), t.KD d → t.WB d → k + t.size ≤ 1000001 → ∀ x ∈ t.kns k, KN.wf x
  | .nil, k, _, _, _, x, hx => by cases hx
  | .node p pl bx l r, k, ⟨⟨g1, m, g2, g3, _⟩, gl, gr⟩, ⟨b1, b2, b3⟩, hs, x, hx => by
    simp only [PT.size] at hs
    simp only [PT.kns, List.mem_cons, List.mem_append] at hx
    rcases hx with rfl | hx | hx
    · have hp := g1.1
      have h1 := rootIx_le l (k + 1); have h2 := rootIx_le r (k + 1 + l.size)
      refine ⟨lit_wf (x := pl) (by omega) (by omega), lit_wf (x := rootIx l (k + 1)) (by omega) (by omega), lit_wf (x := rootIx r (k + 1 + l.size)) (by omega) (by omega), by simp [maxLen]; omega, ?_, ?_⟩
      · cases bx with
        | none => simp [bxMin]
        | some mm => have := b1.1; simp [bxMin, maxLen]; omega
      · cases bx with
        | none => simp [bxMax]
        | some mm => have := b1.2; simp [bxMax, maxLen]; omega
    · exact kns_wf hd l _ gl b2 (by omega) x hx
    · exact kns_wf hd r _ gr b3 (by omega) x hx
/-- a block holds cells of a type -/
def TY (k : Nat) (e : TypeId) (w : World) : Prop := ∃ c f, w.heap[k]? = some (.cells c e f)
theorem TY.eq {k : Nat} {e : TypeId} {w w' : World} (h : TY k e w) (hb : w'.heap[k]? = w.heap[k]?) : TY k e w' := by
  obtain ⟨c, f, h⟩ := h; exact ⟨c, f, hb.trans h⟩
theorem TY.lt {k : Nat} {e : TypeId} {w : World} (h : TY k e w) : k < w.heap.size := by
  obtain ⟨c, f, h⟩ := h
  exact (Array.getElem?_eq_some_iff.1 h).1
theorem TY.set {k : Nat} {e : TypeId} {w : World} (h : TY k e w) (p : Addr) (u : Value) : TY k e (w.setCell p u) := by
  obtain ⟨c, f, h⟩ := h
  by_cases e : p.block = k
  · exact ⟨if p.spot.isSome then c else c.setIfInBounds p.off u, f, by simp [World.setCell, Array.getElem?_modify, e, h]⟩
  · exact ⟨c, f, (Below.heap_setCell _ _ _ _ (fun x => e x.symm)).trans h⟩
theorem TY.byT {k : Nat} {e : TypeId} {w : World} {T : List TypeId} (h : TY k e w) (he : e ∈ T) (o : Nat) (u : Value) : ByT T 0 w (w.setCell ⟨k, o, none⟩ u) := by
  obtain ⟨c, f, h⟩ := h
  exact ByT.of_set (p := ⟨k, o, none⟩) u (Nat.zero_le _) h he
theorem RowI.upT {B : Nat} {V : Value} {ks : List KN} {w : World} (h : RowI B V ks w) {k : Nat} (hk : k < B) {e : TypeId} (he : e ≠ 34) (ht : TY k e w) (o : Nat) (u : Value) : RowI B V ks (w.setCell ⟨k, o, none⟩ u) := by
  obtain ⟨cs, ho, h⟩ := h
  have hb := ht.byT (T := [e]) (by simp) o u
  have hm : 34 ∉ [e] := by simp only [List.mem_singleton]; exact fun x => he x.symm
  refine ⟨cs, ho.setCell (p := ⟨k, o, none⟩) hk u, fun i x hx => ?_⟩
  obtain ⟨P, Mn, Mx, a0, a1, a2, a3, a4, a5, o1, o2, o3⟩ := h i x hx
  exact ⟨P, Mn, Mx, a0, a1, a2, a3, a4, a5, VOwn.upT hm _ _ o1 hb, VOwn.upT hm _ _ o2 hb, VOwn.upT hm _ _ o3 hb⟩
theorem like_size : ∀ {t u : PT}, Like t u → t.size = u.size := fun h => by rw [← pts_len, ← pts_len, h.pts]
theorem ins_size {d : Nat} {p : List Nat} {t : PT} {pl : Int} (h : t.KD d) : (t.ins d p pl).size = t.size + 1 := by
  obtain ⟨A, B, h1, h2, -⟩ := ins_pts (p := p) (pl := pl) h
  rw [← pts_len, ← pts_len, h1, h2]; simp; omega
end Go.Proofs.Ytcpdhkbmfgphpaa
