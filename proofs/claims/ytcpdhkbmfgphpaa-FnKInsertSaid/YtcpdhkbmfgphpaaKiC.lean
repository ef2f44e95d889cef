import Derived.Test.YtcpdhkbmfgphpaaKiB
namespace Go.Proofs.Ytcpdhkbmfgphpaa
open Go.ChangeShapes Go.WideShapes Go.ChangeAt Go.RowKit Go.GrowR
set_option linter.unusedVariables false
set_option linter.unusedSimpArgs false

/-- a node opened -/
structure ND (b : Nat) (P : Value) (pl : Int) (lv rv bv : Value) (p : List Nat) (bx : Option (List Nat × List Nat)) (Fb : List Nat) (l r : PT) (Fl Fr : List Nat) (W : World) : Prop where
  n : NodeC b P pl lv rv bv W
  o : FOwn 34 0 P p W
  x : BoxF bx bv Fb W
  L : NP l lv Fl W
  R : NP r rv Fr W
  nd : (b :: (blk P ++ (Fb ++ (Fl ++ Fr)))).Nodup
theorem nodup_in {b : Nat} {A B L R : List Nat} (h : (b :: (A ++ (B ++ (L ++ R)))).Nodup) : (b ∉ A ∧ b ∉ B ∧ b ∉ L ∧ b ∉ R) ∧ (∀ k ∈ A, k ∉ B ∧ k ∉ L ∧ k ∉ R) ∧ (∀ k ∈ B, k ∉ A ∧ k ∉ L ∧ k ∉ R) ∧ (∀ k ∈ L, k ∉ A ∧ k ∉ B ∧ k ∉ R) ∧ (∀ k ∈ R, k ∉ A ∧ k ∉ B ∧ k ∉ L) := by
  simp only [List.nodup_cons, List.nodup_append, List.mem_append, not_or] at h
  grind
theorem nodup_L {b : Nat} {A B L R F : List Nat} (h : (b :: (A ++ (B ++ (L ++ R)))).Nodup) (hF : F.Nodup) (hd : ∀ k ∈ F, k ∈ L ∨ k ∉ (b :: (A ++ (B ++ (L ++ R))))) : (b :: (A ++ (B ++ (F ++ R)))).Nodup := by
  simp only [List.nodup_cons, List.nodup_append, List.mem_append, List.mem_cons, not_or] at h hd ⊢
  grind
theorem nodup_R {b : Nat} {A B L R F : List Nat} (h : (b :: (A ++ (B ++ (L ++ R)))).Nodup) (hF : F.Nodup) (hd : ∀ k ∈ F, k ∈ R ∨ k ∉ (b :: (A ++ (B ++ (L ++ R))))) : (b :: (A ++ (B ++ (L ++ F)))).Nodup := by
  simp only [List.nodup_cons, List.nodup_append, List.mem_append, List.mem_cons, not_or] at h hd ⊢
  grind
theorem nodup_B {b : Nat} {A B L R F : List Nat} (h : (b :: (A ++ (B ++ (L ++ R)))).Nodup) (hF : F.Nodup) (hd : ∀ k ∈ F, k ∈ B ∨ k ∉ (b :: (A ++ (B ++ (L ++ R))))) : (b :: (A ++ (F ++ (L ++ R)))).Nodup := by
  simp only [List.nodup_cons, List.nodup_append, List.mem_append, List.mem_cons, not_or] at h hd ⊢
  grind
namespace ND
variable {b : Nat} {P : Value} {pl : Int} {lv rv bv : Value} {p : List Nat} {bx : Option (List Nat × List Nat)} {Fb : List Nat} {l r : PT} {Fl Fr : List Nat} {W : World}
theorem fin (h : ND b P pl lv rv bv p bx Fb l r Fl Fr W) : NP (.node p pl bx l r) (.pointer (some ⟨b, 0, none⟩)) (b :: (blk P ++ (Fb ++ (Fl ++ Fr)))) W :=
  ⟨b, P, lv, rv, bv, Fb, Fl, Fr, rfl, rfl, h.nd, h.n, h.o, h.x, h.L, h.R⟩
theorem up {W' : World} (h : ND b P pl lv rv bv p bx Fb l r Fl Fr W) (hg : Grow W W') : ND b P pl lv rv bv p bx Fb l r Fl Fr W' :=
  ⟨NodeC.up _ _ h.n hg, VOwn.up _ _ h.o hg, BoxF.up _ _ h.x hg, NP.up _ _ h.L hg, NP.up _ _ h.R hg, h.nd⟩
theorem setN (h : NodeC b P pl lv rv bv W) (u : Value) : NodeC b P pl u rv bv (W.setCell ⟨b, 2, none⟩ u) :=
  ⟨WS.far h.c0 (by simp), WS.far h.c1 (by simp), World.cell?_setCell_same _ _ _ h.c2, WS.far h.c3 (by simp), WS.far h.c4 (by simp), fun o => by rw [World.frozen?_setCell]; exact h.fz o⟩
theorem setR (h : NodeC b P pl lv rv bv W) (u : Value) : NodeC b P pl lv u bv (W.setCell ⟨b, 3, none⟩ u) :=
  ⟨WS.far h.c0 (by simp), WS.far h.c1 (by simp), WS.far h.c2 (by simp), World.cell?_setCell_same _ _ _ h.c3, WS.far h.c4 (by simp), fun o => by rw [World.frozen?_setCell]; exact h.fz o⟩
theorem setB (h : NodeC b P pl lv rv bv W) (u : Value) : NodeC b P pl lv rv u (W.setCell ⟨b, 4, none⟩ u) :=
  ⟨WS.far h.c0 (by simp), WS.far h.c1 (by simp), WS.far h.c2 (by simp), WS.far h.c3 (by simp), World.cell?_setCell_same _ _ _ h.c4, fun o => by rw [World.frozen?_setCell]; exact h.fz o⟩
theorem left {W2 : World} {l' : PT} {u : Value} {F : List Nat} (h : ND b P pl lv rv bv p bx Fb l r Fl Fr W) (hf : FrF Fl W W2) (hn : NP l' u F W2) (hF : ∀ k ∈ F, k ∈ Fl ∨ k ∉ (b :: (blk P ++ (Fb ++ (Fl ++ Fr))))) :
    ND b P pl u rv bv p bx Fb l' r F Fr (W2.setCell ⟨b, 2, none⟩ u) ∧ FrF (b :: (blk P ++ (Fb ++ (Fl ++ Fr)))) W (W2.setCell ⟨b, 2, none⟩ u) := by
  obtain ⟨⟨d1, d2, d3, d4⟩, dA, dB, dL, dR⟩ := nodup_in h.nd
  have hs : ∀ x, x ≠ b → (W2.setCell ⟨b, 2, none⟩ u).heap[x]? = W2.heap[x]? := fun x hx => NB.set_far hx
  refine ⟨⟨setN (h.n.fr hf d3) u, VOwn.moveB (own_fr h.o hf fun k hk => (dA k hk).2.1) fun k hk => hs k (fun e => d1 (e ▸ hk)), (h.x.fr hf fun k hk => (dB k hk).2.1).move fun k hk => hs k (fun e => d2 (e ▸ hk)), hn.move fun k hk => hs k fun e => ?_, (h.R.fr hf fun k hk => (dR k hk).2.2).move fun k hk => hs k (fun e => d4 (e ▸ hk)), nodup_L h.nd hn.nodup hF⟩, (hf.mono fun k hk => .inl (by simp [hk])).set (.inl (by simp)) _⟩
  subst e
  rcases hF k hk with hk | hk
  · exact d3 hk
  · exact hk (by simp)
theorem right {W2 : World} {r' : PT} {u : Value} {F : List Nat} (h : ND b P pl lv rv bv p bx Fb l r Fl Fr W) (hf : FrF Fr W W2) (hn : NP r' u F W2) (hF : ∀ k ∈ F, k ∈ Fr ∨ k ∉ (b :: (blk P ++ (Fb ++ (Fl ++ Fr))))) :
    ND b P pl lv u bv p bx Fb l r' Fl F (W2.setCell ⟨b, 3, none⟩ u) ∧ FrF (b :: (blk P ++ (Fb ++ (Fl ++ Fr)))) W (W2.setCell ⟨b, 3, none⟩ u) := by
  obtain ⟨⟨d1, d2, d3, d4⟩, dA, dB, dL, dR⟩ := nodup_in h.nd
  have hs : ∀ x, x ≠ b → (W2.setCell ⟨b, 3, none⟩ u).heap[x]? = W2.heap[x]? := fun x hx => NB.set_far hx
  refine ⟨⟨setR (h.n.fr hf d4) u, VOwn.moveB (own_fr h.o hf fun k hk => (dA k hk).2.2) fun k hk => hs k (fun e => d1 (e ▸ hk)), (h.x.fr hf fun k hk => (dB k hk).2.2).move fun k hk => hs k (fun e => d2 (e ▸ hk)), (h.L.fr hf fun k hk => (dL k hk).2.2).move fun k hk => hs k (fun e => d3 (e ▸ hk)), hn.move fun k hk => hs k fun e => ?_, nodup_R h.nd hn.nodup hF⟩, (hf.mono fun k hk => .inl (by simp [hk])).set (.inl (by simp)) _⟩
  subst e
  rcases hF k hk with hk | hk
  · exact d4 hk
  · exact hk (by simp)
theorem boxed {W2 : World} {bx' : Option (List Nat × List Nat)} {u : Value} {F : List Nat} (h : ND b P pl lv rv bv p bx Fb l r Fl Fr W) (hf : FrF Fb W W2) (hn : BoxF bx' u F W2) (hnd : F.Nodup) (hF : ∀ k ∈ F, k ∈ Fb ∨ k ∉ (b :: (blk P ++ (Fb ++ (Fl ++ Fr))))) :
    ND b P pl lv rv u p bx' F l r Fl Fr (W2.setCell ⟨b, 4, none⟩ u) ∧ FrF (b :: (blk P ++ (Fb ++ (Fl ++ Fr)))) W (W2.setCell ⟨b, 4, none⟩ u) := by
  obtain ⟨⟨d1, d2, d3, d4⟩, dA, dB, dL, dR⟩ := nodup_in h.nd
  have hs : ∀ x, x ≠ b → (W2.setCell ⟨b, 4, none⟩ u).heap[x]? = W2.heap[x]? := fun x hx => NB.set_far hx
  refine ⟨⟨setB (h.n.fr hf d2) u, VOwn.moveB (own_fr h.o hf fun k hk => (dA k hk).1) fun k hk => hs k (fun e => d1 (e ▸ hk)), hn.move fun k hk => hs k fun e => ?_, (h.L.fr hf fun k hk => (dL k hk).2.1).move fun k hk => hs k (fun e => d3 (e ▸ hk)), (h.R.fr hf fun k hk => (dR k hk).2.1).move fun k hk => hs k (fun e => d4 (e ▸ hk)), nodup_B h.nd hnd hF⟩, (hf.mono fun k hk => .inl (by simp [hk])).set (.inl (by simp)) _⟩
  subst e
  rcases hF k hk with hk | hk
  · exact d2 hk
  · exact hk (by simp)
end ND
def InsQ (d : Nat) (p : List Nat) (t : PT) (pl : Int) (P0 : Value) (F : List Nat) (w : World) (e : Ending) (w' : World) : Prop := ∃ v' F' t', e = .returned v' ∧ FrF F w w' ∧ NP t' v' F' w' ∧ Like t' (t.ins d p pl) ∧ t'.WB d ∧ ∀ k ∈ F', k ∈ F ∨ k ∈ blk P0 ∨ w.heap.size ≤ k
theorem insertNil (d : Nat) (P0 : Value) (p : List Nat) (pl : Int) (w : World) (h0 : FOwn 34 0 P0 p w) : Calls Try.prog 53 #[.pointer none, .iface 61 P0, .int .i64 pl] w (InsQ d p .nil pl P0 [] w) := by
  have H0 := Lib.hid h0
  have HBK : Hid (∀ k ∈ blk P0, k < w.heap.size) := fun k hk => (own_ltH' h0 k (by simpa [blk] using hk)).2
  clear h0
  go_enter Try.func53, Try.ntmps53
  go_wp2
  go_ret
  refine ⟨_, _, .node p pl none .nil .nil, rfl, FrF.of_grow ((Grow.refl w).alloc _), ⟨w.heap.size, P0, _, _, _, [], [], [], rfl, rfl, ?_, ⟨by go_simp, by go_simp, by go_simp, by go_simp, by go_simp, fun o => by go_simp⟩, VOwn.up _ _ H0.out ((Grow.refl w).alloc _), ⟨rfl, rfl⟩, ⟨rfl, rfl⟩, ⟨rfl, rfl⟩⟩, ⟨rfl, rfl, trivial, trivial⟩, ⟨trivial, trivial, trivial⟩, fun k hk => ?_⟩
  · simp only [List.append_nil]
    exact List.nodup_cons.2 ⟨fun h => by have := HBK.out _ h; omega, blk_nodup _⟩
  · simp only [List.append_nil, List.mem_cons] at hk
    rcases hk with rfl | hk
    · exact .inr (.inr (Nat.le_refl _))
    · exact .inr (.inl hk)
end Go.Proofs.Ytcpdhkbmfgphpaa
