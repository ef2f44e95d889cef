import Derived.Test.YtcpdhkbmfgphpaaKdL
namespace Go.Proofs.Ytcpdhkbmfgphpaa
open Go.ChangeShapes Go.WideShapes Go.ChangeAt Go.RowKit Go.GrowR
set_option linter.unusedVariables false
set_option linter.unusedSimpArgs false

theorem NP.nodup : ∀ {t : PT} {v : Value} {F : List Nat} {w : World}, NP t v F w → F.Nodup
  | .nil, _, _, _, h => by rw [h.2]; exact .nil
  | .node _ _ _ _ _, _, _, _, ⟨_, _, _, _, _, _, _, _, _, _, h, _⟩ => h
theorem nodup_put {b : Nat} {A B C F : List Nat} (h : (b :: (A ++ (B ++ ([] ++ C)))).Nodup) (hF : F.Nodup) (hd : ∀ k ∈ F, k ≠ b ∧ k ∉ A ∧ k ∉ B ∧ k ∉ C) : (b :: (A ++ (B ++ (F ++ C)))).Nodup := by
  simp only [List.nil_append, List.nodup_cons, List.nodup_append, List.mem_append, not_or] at h ⊢
  grind
theorem nodup_put2 {b : Nat} {A B C F : List Nat} (h : (b :: (A ++ (B ++ (C ++ [])))).Nodup) (hF : F.Nodup) (hd : ∀ k ∈ F, k ≠ b ∧ k ∉ A ∧ k ∉ B ∧ k ∉ C) : (b :: (A ++ (B ++ (C ++ F)))).Nodup := by
  simp only [List.append_nil, List.nodup_cons, List.nodup_append, List.mem_append, not_or] at h ⊢
  grind
structure NB (w0 : World) (b : Nat) (P : Value) (pl : Int) (lv rv bv : Value) (p : List Nat) (bx : Option (List Nat × List Nat)) (Fb : List Nat) (l r : PT) (Fl Fr : List Nat) (W : World) : Prop where
  g : Grow w0 W
  n : NodeC b P pl lv rv bv W
  o : FOwn 34 0 P p W
  x : BoxF bx bv Fb W
  L : NP l lv Fl W
  R : NP r rv Fr W
  nd : (b :: (blk P ++ (Fb ++ (Fl ++ Fr)))).Nodup
  lo : ∀ k ∈ (b :: (blk P ++ (Fb ++ (Fl ++ Fr)))), w0.heap.size ≤ k
namespace NB
variable {w0 : World} {b : Nat} {P : Value} {pl : Int} {lv rv bv : Value} {p : List Nat} {bx : Option (List Nat × List Nat)} {Fb : List Nat} {l r : PT} {Fl Fr : List Nat} {W : World}
theorem fin (h : NB w0 b P pl lv rv bv p bx Fb l r Fl Fr W) : NP (.node p pl bx l r) (.pointer (some ⟨b, 0, none⟩)) (b :: (blk P ++ (Fb ++ (Fl ++ Fr)))) W :=
  ⟨b, P, lv, rv, bv, Fb, Fl, Fr, rfl, rfl, h.nd, h.n, h.o, h.x, h.L, h.R⟩
theorem lt (h : NB w0 b P pl lv rv bv p bx Fb l r Fl Fr W) : ∀ k ∈ (b :: (blk P ++ (Fb ++ (Fl ++ Fr)))), k < W.heap.size := h.fin.lt
theorem up {W' : World} (h : NB w0 b P pl lv rv bv p bx Fb l r Fl Fr W) (hg : Grow W W') : NB w0 b P pl lv rv bv p bx Fb l r Fl Fr W' :=
  ⟨h.g.trans hg, NodeC.up _ _ h.n hg, VOwn.up _ _ h.o hg, BoxF.up _ _ h.x hg, NP.up _ _ h.L hg, NP.up _ _ h.R hg, h.nd, h.lo⟩
theorem set_far {k : Nat} {q : Addr} {u : Value} (h : k ≠ q.block) : (W.setCell q u).heap[k]? = W.heap[k]? := Below.heap_setCell _ _ _ _ h
theorem left {W2 : World} {l' : PT} {u : Value} {F : List Nat} (h : NB w0 b P pl lv rv bv p bx Fb .nil r [] Fr W) (hg : Grow W W2) (hn : NP l' u F W2) (hF : ∀ k ∈ F, W.heap.size ≤ k) : NB w0 b P pl u rv bv p bx Fb l' r F Fr (W2.setCell ⟨b, 2, none⟩ u) := by
  have hl := h.lt
  have hb0 : w0.heap.size ≤ b := h.lo b (by simp)
  have H := h.up hg
  have hd : ∀ k ∈ F, k ≠ b ∧ k ∉ blk P ∧ k ∉ Fb ∧ k ∉ Fr := fun k hk => by
    have h1 := hF k hk
    exact ⟨fun e => by subst e; have := hl k (by simp); omega, fun e => by have := hl k (by simp [e]); omega, fun e => by have := hl k (by simp [e]); omega, fun e => by have := hl k (by simp [e]); omega⟩
  have hnd := nodup_put h.nd hn.nodup hd
  have hnd0 := h.nd
  simp only [List.nodup_cons, List.mem_append, not_or] at hnd0
  obtain ⟨⟨n1, n2, -, n3⟩, -⟩ := hnd0
  refine ⟨H.g.setCell hb0 _, ⟨?_, ?_, ?_, ?_, ?_, fun o => by rw [World.frozen?_setCell]; exact H.n.fz o⟩, VOwn.moveB H.o fun k hk => set_far fun e => n1 ((show _ = b from e) ▸ hk), H.x.move fun k hk => set_far fun e => n2 ((show _ = b from e) ▸ hk), hn.move fun k hk => set_far fun e => (hd k hk).1 e, H.R.move fun k hk => set_far fun e => n3 ((show _ = b from e) ▸ hk), hnd, fun k hk => ?_⟩
  · exact WS.far H.n.c0 (by simp)
  · exact WS.far H.n.c1 (by simp)
  · exact World.cell?_setCell_same _ _ _ H.n.c2
  · exact WS.far H.n.c3 (by simp)
  · exact WS.far H.n.c4 (by simp)
  · simp only [List.mem_cons, List.mem_append] at hk
    rcases hk with hk | hk | hk | hk | hk
    · exact h.lo k (by simp [hk])
    · exact h.lo k (by simp [hk])
    · exact h.lo k (by simp [hk])
    · have := hF k hk; have := h.g.size; omega
    · exact h.lo k (by simp [hk])
theorem right {W2 : World} {r' : PT} {u : Value} {F : List Nat} (h : NB w0 b P pl lv rv bv p bx Fb l .nil Fl [] W) (hg : Grow W W2) (hn : NP r' u F W2) (hF : ∀ k ∈ F, W.heap.size ≤ k) : NB w0 b P pl lv u bv p bx Fb l r' Fl F (W2.setCell ⟨b, 3, none⟩ u) := by
  have hl := h.lt
  have hb0 : w0.heap.size ≤ b := h.lo b (by simp)
  have H := h.up hg
  have hd : ∀ k ∈ F, k ≠ b ∧ k ∉ blk P ∧ k ∉ Fb ∧ k ∉ Fl := fun k hk => by
    have h1 := hF k hk
    exact ⟨fun e => by subst e; have := hl k (by simp); omega, fun e => by have := hl k (by simp [e]); omega, fun e => by have := hl k (by simp [e]); omega, fun e => by have := hl k (by simp [e]); omega⟩
  have hnd := nodup_put2 h.nd hn.nodup hd
  have hnd0 := h.nd
  simp only [List.nodup_cons, List.mem_append, not_or] at hnd0
  obtain ⟨⟨n1, n2, n3, -⟩, -⟩ := hnd0
  refine ⟨H.g.setCell hb0 _, ⟨?_, ?_, ?_, ?_, ?_, fun o => by rw [World.frozen?_setCell]; exact H.n.fz o⟩, VOwn.moveB H.o fun k hk => set_far fun e => n1 ((show _ = b from e) ▸ hk), H.x.move fun k hk => set_far fun e => n2 ((show _ = b from e) ▸ hk), H.L.move fun k hk => set_far fun e => n3 ((show _ = b from e) ▸ hk), hn.move fun k hk => set_far fun e => (hd k hk).1 e, hnd, fun k hk => ?_⟩
  · exact WS.far H.n.c0 (by simp)
  · exact WS.far H.n.c1 (by simp)
  · exact WS.far H.n.c2 (by simp)
  · exact World.cell?_setCell_same _ _ _ H.n.c3
  · exact WS.far H.n.c4 (by simp)
  · simp only [List.mem_cons, List.mem_append] at hk
    rcases hk with hk | hk | hk | hk | hk
    · exact h.lo k (by simp [hk])
    · exact h.lo k (by simp [hk])
    · exact h.lo k (by simp [hk])
    · exact h.lo k (by simp [hk])
    · have := hF k hk; have := h.g.size; omega
end NB
def NodeQ (t : PT) (w : World) (e : Ending) (w' : World) : Prop := ∃ u F, e = .returned u ∧ Grow w w' ∧ NP t u F w' ∧ ∀ k ∈ F, w.heap.size ≤ k
def OneF (B : Nat) (xs : List Nat) (lo hi : Nat) (V : Value) (w : World) : Prop := FOwn 34 0 V xs w ∧ B ≤ lo ∧ ∀ k ∈ blk V, lo ≤ k ∧ k < hi
theorem OneF.up {B : Nat} {xs : List Nat} {lo hi : Nat} {V : Value} : Up (OneF B xs lo hi V) := fun _ _ ⟨h1, h2⟩ hg => ⟨VOwn.up _ _ h1 hg, h2⟩
def OneX (B : Nat) (bx : Option (List Nat × List Nat)) (lo hi : Nat) (V : Value) (w : World) : Prop := ∃ F, BoxF bx V F w ∧ F.Nodup ∧ B ≤ lo ∧ ∀ k ∈ F, lo ≤ k ∧ k < hi
theorem OneX.up {B : Nat} {bx : Option (List Nat × List Nat)} {lo hi : Nat} {V : Value} : Up (OneX B bx lo hi V) := fun _ _ ⟨F, h1, h2⟩ hg => ⟨F, BoxF.up _ _ h1 hg, h2⟩
def OneN (B : Nat) (vs : List Value) (lo hi : Nat) (V : Value) (w : World) : Prop := ∃ b P pl lv rv bv, V = .pointer (some ⟨b, 0, none⟩) ∧ vs = [.agg #[ptV P, .int .i64 pl, lv, rv, bv]] ∧ B ≤ lo ∧ lo ≤ b ∧ b < hi ∧ NodeC b P pl lv rv bv w
theorem OneN.up {B : Nat} {vs : List Value} {lo hi : Nat} {V : Value} : Up (OneN B vs lo hi V) := fun _ _ ⟨b, P, pl, lv, rv, bv, h1, h2, h3, h4, h5, h6⟩ hg => ⟨b, P, pl, lv, rv, bv, h1, h2, h3, h4, h5, NodeC.up _ _ h6 hg⟩
theorem own_blk {e : TypeId} {v : Value} {xs : List Value} {w w' : World} (h : VOwn e w.heap.size v xs w') : ∀ k ∈ blk v, w.heap.size ≤ k ∧ k < w'.heap.size := fun k hk => own_ltH' h k (by simpa [blk] using hk)
theorem blk_nodup (v : Value) : (blk v).Nodup := by unfold blk; cases v.ownBlock <;> simp
theorem nodup_start {b : Nat} {A B : List Nat} {l2 h2 l10 h10 l12 h12 : Nat} (hA : A.Nodup) (hB : B.Nodup) (h1 : ∀ k ∈ A, l2 ≤ k ∧ k < h2) (h3 : ∀ k ∈ B, l10 ≤ k ∧ k < h10) (h4 : l12 ≤ b) (h5 : b < h12)
    (a1 : h2 ≤ l10 ∨ h10 ≤ l2) (a2 : h2 ≤ l12 ∨ h12 ≤ l2) (a3 : h10 ≤ l12 ∨ h12 ≤ l10) : (b :: (A ++ (B ++ ([] ++ [])))).Nodup := by
  simp only [List.nil_append, List.append_nil]
  refine List.nodup_cons.2 ⟨fun hm => ?_, List.nodup_append.2 ⟨hA, hB, fun x hx y hy e => ?_⟩⟩
  · rcases List.mem_append.1 hm with h | h
    · have := h1 b h; omega
    · have := h3 b h; omega
  · subst e; have := h1 x hx; have := h3 x hy; omega
end Go.Proofs.Ytcpdhkbmfgphpaa
