import Derived.Test.YtcpdhkbmfgphpaaKnD
namespace Go.Proofs.Ytcpdhkbmfgphpaa
open Go.ChangeShapes Go.WideShapes Go.ChangeAt Go.RowKit Go.GrowR
set_option linter.unusedVariables false
set_option linter.unusedSimpArgs false
/-! a point is put into a tree; a tree as a list of nodes: plain -/
def PT.size : PT → Nat
  | .nil => 0
  | .node _ _ _ l r => 1 + (l.size + r.size)
/-- the same points, planes and sides; the bounds may differ -/
def Like : PT → PT → Prop
  | .nil, .nil => True
  | .node p pl _ l r, .node p' pl' _ l' r' => p = p' ∧ pl = pl' ∧ Like l l' ∧ Like r r'
  | _, _ => False
theorem Like.refl : ∀ t, Like t t
  | .nil => trivial
  | .node _ _ _ l r => ⟨rfl, rfl, Like.refl l, Like.refl r⟩
theorem Like.pts : ∀ {t u : PT}, Like t u → t.pts = u.pts
  | .nil, .nil, _ => rfl
  | .node p pl _ l r, .node p' pl' _ l' r', ⟨h1, h2, h3, h4⟩ => by simp only [PT.pts, h3.pts, h4.pts, h1]
theorem Like.kd {d : Nat} : ∀ {t u : PT}, Like t u → u.KD d → t.KD d
  | .nil, .nil, _, _ => trivial
  | .node p pl _ l r, .node p' pl' _ l' r', ⟨h1, h2, h3, h4⟩, ⟨⟨g1, m, g2, g3, g4, g5⟩, gl, gr⟩ => by
    subst h1 h2
    exact ⟨⟨g1, m, g2, g3, fun q hq => g4 q (by rw [← h3.pts]; exact hq), fun q hq => g5 q (by rw [← h4.pts]; exact hq)⟩, h3.kd gl, h4.kd gr⟩
/-- bounds have as many numbers, or are none -/
def BxLen (d : Nat) : Option (List Nat × List Nat) → Prop
  | none => True
  | some (mn, mx) => mn.length = d ∧ mx.length = d
def PT.WB (d : Nat) (t : PT) : Prop := t.All fun _ _ bx _ _ => BxLen d bx
noncomputable def PT.ins (d : Nat) (p : List Nat) : PT → Int → PT
  | .nil, pl => .node p pl none .nil .nil
  | .node q m bx l r, _ => if iv p m.toNat ≤ iv q m.toNat then .node q m bx (l.ins d p ((m + 1) % d)) r else .node q m bx l (r.ins d p ((m + 1) % d))
theorem plane_next {m d : Nat} (hm : m < d) : ∃ k : Nat, ((m : Int) + 1) % d = (k : Int) ∧ k < d := by
  refine ⟨(m + 1) % d, ?_, Nat.mod_lt _ (by omega)⟩
  rw [show ((m : Int) + 1) = ((m + 1 : Nat) : Int) by omega]; exact (Int.natCast_emod _ _).symm
theorem ins_pts {d : Nat} {p : List Nat} : ∀ {t : PT} {pl : Int}, t.KD d → ∃ A B, t.pts = A ++ B ∧ (t.ins d p pl).pts = A ++ p :: B ∧ ∀ q ∈ A, ∃ k, k < d ∧ iv p k ≠ iv q k
  | .nil, pl, _ => ⟨[], [], rfl, rfl, fun q hq => by cases hq⟩
  | .node q pl0 bx l r, pl, ⟨⟨g1, m, e0, g3, g4, g5⟩, gl, gr⟩ => by
    subst e0
    unfold PT.ins
    by_cases h : iv p m ≤ iv q m
    · rw [if_pos (by simpa using h)]
      obtain ⟨A, B, h1, h2, h3⟩ := ins_pts (p := p) (pl := ((m : Int) + 1) % d) gl
      exact ⟨A, B ++ q :: r.pts, by simp [PT.pts, h1], by simp [PT.pts, h2], h3⟩
    · rw [if_neg (by simpa using h)]
      obtain ⟨A, B, h1, h2, h3⟩ := ins_pts (p := p) (pl := ((m : Int) + 1) % d) gr
      refine ⟨l.pts ++ q :: A, B, by simp [PT.pts, h1], by simp [PT.pts, h2], fun x hx => ?_⟩
      rcases List.mem_append.1 hx with hx | hx
      · exact ⟨m, g3, by have := g4 x hx; omega⟩
      · rcases List.mem_cons.1 hx with rfl | hx
        · exact ⟨m, g3, by omega⟩
        · exact h3 x hx
theorem ins_kd {d : Nat} {p : List Nat} (hp : Num p d (iv p)) : ∀ {t : PT} {k : Nat}, k < d → t.KD d → (t.ins d p (k : Int)).KD d
  | .nil, k, hk, _ => ⟨⟨hp, k, rfl, hk, (fun q hq => by cases hq), (fun q hq => by cases hq)⟩, trivial, trivial⟩
  | .node q pl0 bx l r, k, hk, ⟨⟨g1, m, e0, g3, g4, g5⟩, gl, gr⟩ => by
    subst e0
    obtain ⟨k', e, hk'⟩ := plane_next g3
    unfold PT.ins
    rw [e]
    by_cases h : iv p m ≤ iv q m
    · rw [if_pos (by simpa using h)]
      refine ⟨⟨g1, m, rfl, g3, fun x hx => ?_, g5⟩, ins_kd hp hk' gl, gr⟩
      obtain ⟨A, B, h1, h2, -⟩ := ins_pts (p := p) (pl := (k' : Int)) gl
      rw [h2] at hx
      rcases List.mem_append.1 hx with hx | hx
      · exact g4 x (by rw [h1]; simp [hx])
      · rcases List.mem_cons.1 hx with rfl | hx
        · exact h
        · exact g4 x (by rw [h1]; simp [hx])
    · rw [if_neg (by simpa using h)]
      refine ⟨⟨g1, m, rfl, g3, g4, fun x hx => ?_⟩, gl, ins_kd hp hk' gr⟩
      obtain ⟨A, B, h1, h2, -⟩ := ins_pts (p := p) (pl := (k' : Int)) gr
      rw [h2] at hx
      rcases List.mem_append.1 hx with hx | hx
      · exact g5 x (by rw [h1]; simp [hx])
      · rcases List.mem_cons.1 hx with rfl | hx
        · omega
        · exact g5 x (by rw [h1]; simp [hx])
theorem pts_len : ∀ t : PT, t.pts.length = t.size
  | .nil => rfl
  | .node p pl bx l r => by simp [PT.pts, PT.size, pts_len l, pts_len r]; omega
/-! as a list of nodes: a node, what hangs on its left, what hangs on its right -/
def rootIx (t : PT) (k : Nat) : Int := match t with
  | .nil => -1
  | .node .. => (k : Int)
def bxMin : Option (List Nat × List Nat) → List Nat
  | none => []
  | some (a, _) => a
def bxMax : Option (List Nat × List Nat) → List Nat
  | none => []
  | some (_, b) => b
def PT.kns : PT → Nat → List KN
  | .nil, _ => []
  | .node p pl bx l r, k => ⟨p, pl, rootIx l (k + 1), rootIx r (k + 1 + l.size), bxMin bx, bxMax bx⟩ :: (l.kns (k + 1) ++ r.kns (k + 1 + l.size))
def PT.kt : PT → Nat → Kt.KT
  | .nil, _ => .nil
  | .node _ _ _ l r, k => .node k (l.kt (k + 1)) (r.kt (k + 1 + l.size))
theorem kns_len : ∀ (t : PT) (k : Nat), (t.kns k).length = t.size
  | .nil, _ => rfl
  | .node p pl bx l r, k => by simp [PT.kns, PT.size, kns_len l, kns_len r]; omega
theorem kt_range : ∀ (t : PT) (k : Nat), ∀ i ∈ (t.kt k).ins, k ≤ i ∧ i < k + t.size
  | .nil, k, i, h => by cases h
  | .node p pl bx l r, k, i, h => by
    simp only [PT.kt, Kt.KT.ins, List.mem_append, List.mem_cons] at h
    simp only [PT.size]
    rcases h with h | rfl | h
    · have := kt_range l (k + 1) i h; omega
    · omega
    · have := kt_range r (k + 1 + l.size) i h; omega
theorem kt_nodup : ∀ (t : PT) (k : Nat), (t.kt k).ins.Nodup
  | .nil, k => .nil
  | .node p pl bx l r, k => by
    simp only [PT.kt, Kt.KT.ins]
    refine List.nodup_append.2 ⟨kt_nodup l _, List.nodup_cons.2 ⟨fun h => by have := kt_range r _ k h; omega, kt_nodup r _⟩, fun x hx y hy e => ?_⟩
    subst e
    have h1 := kt_range l _ x hx
    rcases List.mem_cons.1 hy with rfl | hy
    · omega
    · have := kt_range r _ x hy; omega
/-- the nodes of a tree lie in a list from k on -/
def Lies (ns : List KN) (l : List KN) (k : Nat) : Prop := ∀ i x, l[i]? = some x → ns[k + i]? = some x
theorem Lies.cons {ns l : List KN} {x : KN} {k : Nat} (h : Lies ns (x :: l) k) : ns[k]? = some x ∧ Lies ns l (k + 1) :=
  ⟨by simpa using h 0 x rfl, fun i y hy => by have := h (i + 1) y (by simpa using hy); rw [show k + 1 + i = k + (i + 1) by omega]; exact this⟩
theorem Lies.app {ns a b : List KN} {k : Nat} (h : Lies ns (a ++ b) k) : Lies ns a k ∧ Lies ns b (k + a.length) :=
  ⟨fun i x hx => h i x (by rw [List.getElem?_append_left (List.getElem?_eq_some_iff.1 hx).1]; exact hx), fun i x hx => by
    have := h (a.length + i) x (by rw [List.getElem?_append_right (by omega)]; simpa using hx)
    rw [show k + a.length + i = k + (a.length + i) by omega]; exact this⟩
theorem kt_tr {ns : List KN} : ∀ (t : PT) (k : Nat) (a : Int), a < (k : Int) → Lies ns (t.kns k) k → Kt.Tr ns.length (kL ns) (kR ns) a (rootIx t k) (t.kt k)
  | .nil, k, a, _, _ => rfl
  | .node p pl bx l r, k, a, ha, h => by
    obtain ⟨h0, h1⟩ := h.cons
    obtain ⟨h2, h3⟩ := h1.app
    rw [kns_len] at h3
    have hk : k < ns.length := (List.getElem?_eq_some_iff.1 h0).1
    have e : ns.getD k kn0 = ⟨p, pl, rootIx l (k + 1), rootIx r (k + 1 + l.size), bxMin bx, bxMax bx⟩ := by rw [List.getD_eq_getElem?_getD, h0]; rfl
    refine ⟨rfl, ha, hk, ?_, ?_⟩
    · show Kt.Tr _ _ _ _ (ns.getD k kn0).l _
      rw [e]; exact kt_tr l (k + 1) _ (by omega) h2
    · show Kt.Tr _ _ _ _ (ns.getD k kn0).r _
      rw [e]; exact kt_tr r (k + 1 + l.size) _ (by omega) h3
theorem kt_pts {ns : List KN} : ∀ (t : PT) (k : Nat), Lies ns (t.kns k) k → (t.kt k).ins.map (kP ns) = t.pts
  | .nil, k, _ => rfl
  | .node p pl bx l r, k, h => by
    obtain ⟨h0, h1⟩ := h.cons
    obtain ⟨h2, h3⟩ := h1.app
    rw [kns_len] at h3
    have e : kP ns k = p := by unfold kP; rw [List.getD_eq_getElem?_getD, h0]; rfl
    simp only [PT.kt, Kt.KT.ins, PT.pts, List.map_append, List.map_cons, e, kt_pts l _ h2, kt_pts r _ h3]
/-- what is good of each node of a tree is good of each of its list -/
theorem kt_good {ns : List KN} {d : Nat} : ∀ (t : PT) (k : Nat), Lies ns (t.kns k) k → t.KD d → (t.kt k).All fun i l r => Num (kP ns i) d (iv (kP ns i)) ∧ ∃ m : Nat, kPl ns i = (m : Int) ∧ m < d ∧ (∀ j ∈ l.ins, iv (kP ns j) m ≤ iv (kP ns i) m) ∧ ∀ j ∈ r.ins, iv (kP ns i) m ≤ iv (kP ns j) m
  | .nil, k, _, _ => trivial
  | .node p pl bx l r, k, h, ⟨⟨g1, m, g2, g3, g4, g5⟩, gl, gr⟩ => by
    obtain ⟨h0, h1⟩ := h.cons
    obtain ⟨h2, h3⟩ := h1.app
    rw [kns_len] at h3
    have e : kP ns k = p := by unfold kP; rw [List.getD_eq_getElem?_getD, h0]; rfl
    have e2 : kPl ns k = pl := by unfold kPl; rw [List.getD_eq_getElem?_getD, h0]; rfl
    refine ⟨⟨by rw [e]; exact g1, m, by rw [e2]; exact g2, g3, fun j hj => ?_, fun j hj => ?_⟩, kt_good l _ h2 gl, kt_good r _ h3 gr⟩
    · rw [e]; exact g4 _ (by rw [← kt_pts l _ h2]; exact List.mem_map.2 ⟨j, hj, rfl⟩)
    · rw [e]; exact g5 _ (by rw [← kt_pts r _ h3]; exact List.mem_map.2 ⟨j, hj, rfl⟩)
/-- the list of a k-d tree is one -/
theorem isKB_of {d : Nat} (t : PT) (h : t.KD d) : isKB (t.kns 0) (rootIx t 0) d = true ∧ (kw (t.kns 0) (rootIx t 0)).ord.map (kP (t.kns 0)) = t.pts := by
  have hl : Lies (t.kns 0) (t.kns 0) 0 := fun i x hx => by rw [Nat.zero_add]; exact hx
  have ht := kt_tr t 0 (-1) (by omega) hl
  have hn := kt_nodup t 0
  obtain ⟨w1, w2, -⟩ := Kt.walk0_of (by omega) ht hn
  have w1' : (kw (t.kns 0) (rootIx t 0)).ok = true := w1
  have w2' : (kw (t.kns 0) (rootIx t 0)).ord = (t.kt 0).ins := w2
  refine ⟨?_, by rw [w2']; exact kt_pts t 0 hl⟩
  have hg := (ht.all hn).and (kt_good t 0 hl h)
  have hall : ∀ i ∈ (t.kt 0).ins, nodeB (t.kns 0) d i = true ∧ sidesB (t.kns 0) i = true := fun i hi => by
    obtain ⟨l, r, ⟨⟨a0, a1, a2, a3, a4⟩, b1, m, b2, b3, b4, b5⟩, hsl, hsr⟩ := kt_all_mem hg i hi
    have hnum : ∀ j ∈ (t.kt 0).ins, Num (kP (t.kns 0) j) d (iv (kP (t.kns 0) j)) := fun j hj => by
      obtain ⟨l', r', ⟨-, b1, -⟩, -⟩ := kt_all_mem hg j hj
      exact b1
    refine ⟨?_, ?_⟩
    · unfold nodeB
      simp only [Bool.and_eq_true, beq_iff_eq, decide_eq_true_eq]
      exact ⟨b1.1, by omega, by omega⟩
    · unfold sidesB
      have e1 : (kw (t.kns 0) (kL (t.kns 0) i)).ord = l.ins := (Kt.walk0_of (by omega) a1 a3).2.1
      have e2 : (kw (t.kns 0) (kR (t.kns 0) i)).ord = r.ins := (Kt.walk0_of (by omega) a2 a4).2.1
      rw [e1, e2]
      simp only [Bool.and_eq_true, List.all_eq_true]
      have hmm : (kPl (t.kns 0) i).toNat = m := by omega
      refine ⟨fun j hj => ?_, fun j hj => ?_⟩
      · unfold leS leF
        rw [hmm, leB ((hnum j (hsl j hj)).2 m b3).1 (b1.2 m b3).1]
        exact decide_eq_true (b4 j hj)
      · unfold geS geF
        rw [hmm, geB ((hnum j (hsr j hj)).2 m b3).1 (b1.2 m b3).1]
        exact decide_eq_true (b5 j hj)
  unfold isKB
  rw [w1', w2']
  simp only [Bool.true_and, Bool.and_eq_true, List.all_eq_true]
  exact ⟨fun i hi => (hall i hi).1, fun i hi => (hall i hi).2⟩
end Go.Proofs.Ytcpdhkbmfgphpaa
