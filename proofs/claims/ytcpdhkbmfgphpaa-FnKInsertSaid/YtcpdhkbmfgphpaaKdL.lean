import Derived.Test.YtcpdhkbmfgphpaaKdK
namespace Go.Proofs.Ytcpdhkbmfgphpaa
open Go.ChangeShapes Go.WideShapes Go.ChangeAt Go.RowKit Go.GrowR
set_option linter.unusedVariables false
set_option linter.unusedSimpArgs false

/-! the package's tree as the thin package builds it: nodes on blocks of their own -/
inductive PT where
  | nil
  | node (p : List Nat) (pl : Int) (bx : Option (List Nat × List Nat)) (l r : PT)
abbrev ptV (P : Value) : Value := .iface 61 P
def blk (P : Value) : List Nat := P.ownBlock.toList
structure NodeC (b : Nat) (P : Value) (pl : Int) (lv rv bv : Value) (w : World) : Prop where
  c0 : w.cell? ⟨b, 0, none⟩ = some (ptV P)
  c1 : w.cell? ⟨b, 1, none⟩ = some (.int .i64 pl)
  c2 : w.cell? ⟨b, 2, none⟩ = some lv
  c3 : w.cell? ⟨b, 3, none⟩ = some rv
  c4 : w.cell? ⟨b, 4, none⟩ = some bv
  fz : ∀ o, w.frozen? ⟨b, o, none⟩ = false
structure BoxC (b : Nat) (P1 P2 : Value) (w : World) : Prop where
  c0 : w.cell? ⟨b, 0, none⟩ = some (ptV P1)
  c1 : w.cell? ⟨b, 1, none⟩ = some (ptV P2)
  fz : ∀ o, w.frozen? ⟨b, o, none⟩ = false
/-- bounds, or none -/
def BoxF : Option (List Nat × List Nat) → Value → List Nat → World → Prop
  | none, v, F, _ => v = .pointer none ∧ F = []
  | some (mn, mx), v, F, w => ∃ b P1 P2, v = .pointer (some ⟨b, 0, none⟩) ∧ F = b :: (blk P1 ++ blk P2) ∧ BoxC b P1 P2 w ∧ FOwn 34 0 P1 mn w ∧ FOwn 34 0 P2 mx w
/-- a node with all that hangs on it, on the blocks F, each met once -/
def NP : PT → Value → List Nat → World → Prop
  | .nil, v, F, _ => v = .pointer none ∧ F = []
  | .node p pl bx l r, v, F, w => ∃ b P lv rv bv Fb Fl Fr, v = .pointer (some ⟨b, 0, none⟩) ∧ F = b :: (blk P ++ (Fb ++ (Fl ++ Fr))) ∧ F.Nodup ∧ NodeC b P pl lv rv bv w ∧ FOwn 34 0 P p w ∧ BoxF bx bv Fb w ∧ NP l lv Fl w ∧ NP r rv Fr w
theorem NodeC.move {b : Nat} {P : Value} {pl : Int} {lv rv bv : Value} {w w' : World} (h : NodeC b P pl lv rv bv w) (hb : w'.heap[b]? = w.heap[b]?) : NodeC b P pl lv rv bv w' :=
  ⟨(World.cell?_of_block hb).trans h.c0, (World.cell?_of_block hb).trans h.c1, (World.cell?_of_block hb).trans h.c2, (World.cell?_of_block hb).trans h.c3, (World.cell?_of_block hb).trans h.c4, fun o => (World.frozen?_of_block hb).trans (h.fz o)⟩
theorem BoxC.move {b : Nat} {P1 P2 : Value} {w w' : World} (h : BoxC b P1 P2 w) (hb : w'.heap[b]? = w.heap[b]?) : BoxC b P1 P2 w' :=
  ⟨(World.cell?_of_block hb).trans h.c0, (World.cell?_of_block hb).trans h.c1, fun o => (World.frozen?_of_block hb).trans (h.fz o)⟩
theorem VOwn.moveB {e : TypeId} {B : Nat} {v : Value} {xs : List Value} {w w' : World} (h : VOwn e B v xs w) (hb : ∀ k ∈ blk v, w'.heap[k]? = w.heap[k]?) : VOwn e B v xs w' := by
  refine ⟨h.1, ?_⟩
  rcases h.2 with h | ⟨g, cap, cur, rfl, hB, hh, hr⟩
  · exact .inl h
  · exact .inr ⟨g, cap, cur, rfl, hB, (hb g (by simp [blk, Value.ownBlock])).trans hh, hr⟩
theorem BoxF.move : ∀ {bx : Option (List Nat × List Nat)} {v : Value} {F : List Nat} {w w' : World}, BoxF bx v F w → (∀ k ∈ F, w'.heap[k]? = w.heap[k]?) → BoxF bx v F w'
  | none, _, _, _, _, h, _ => h
  | some (mn, mx), v, F, w, w', ⟨b, P1, P2, h1, h2, h3, h4, h5⟩, hF => by
    subst h2
    exact ⟨b, P1, P2, h1, rfl, h3.move (hF b (by simp)), VOwn.moveB h4 fun k hk => hF k (by simp [hk]), VOwn.moveB h5 fun k hk => hF k (by simp [hk])⟩
theorem NP.move : ∀ {t : PT} {v : Value} {F : List Nat} {w w' : World}, NP t v F w → (∀ k ∈ F, w'.heap[k]? = w.heap[k]?) → NP t v F w'
  | .nil, _, _, _, _, h, _ => h
  | .node p pl bx l r, v, F, w, w', ⟨b, P, lv, rv, bv, Fb, Fl, Fr, h1, h2, h3, h4, h5, h6, h7, h8⟩, hF => by
    subst h2
    exact ⟨b, P, lv, rv, bv, Fb, Fl, Fr, h1, rfl, h3, h4.move (hF b (by simp)), VOwn.moveB h5 fun k hk => hF k (by simp [hk]), h6.move fun k hk => hF k (by simp [hk]), NP.move h7 fun k hk => hF k (by simp [hk]), NP.move h8 fun k hk => hF k (by simp [hk])⟩
theorem NP.grow {t : PT} {v : Value} {F : List Nat} {w w' : World} (h : NP t v F w) (hF : ∀ k ∈ F, k < w.heap.size) (hg : Grow w w') : NP t v F w' := h.move fun k hk => hg.block k (hF k hk)
theorem BoxF.lt : ∀ {bx : Option (List Nat × List Nat)} {v : Value} {F : List Nat} {w : World}, BoxF bx v F w → ∀ k ∈ F, k < w.heap.size
  | none, _, _, _, h, k, hk => by rw [h.2] at hk; cases hk
  | some (mn, mx), v, F, w, ⟨b, P1, P2, h1, h2, h3, h4, h5⟩, k, hk => by
    subst h2
    simp only [List.mem_cons, List.mem_append] at hk
    rcases hk with rfl | hk | hk
    · exact cell_lt' h3.c0
    · exact (own_ltH' h4 k (by simpa [blk] using hk)).2
    · exact (own_ltH' h5 k (by simpa [blk] using hk)).2
theorem NP.lt : ∀ {t : PT} {v : Value} {F : List Nat} {w : World}, NP t v F w → ∀ k ∈ F, k < w.heap.size
  | .nil, _, _, _, h, k, hk => by rw [h.2] at hk; cases hk
  | .node p pl bx l r, v, F, w, ⟨b, P, lv, rv, bv, Fb, Fl, Fr, h1, h2, h3, h4, h5, h6, h7, h8⟩, k, hk => by
    subst h2
    simp only [List.mem_cons, List.mem_append] at hk
    rcases hk with rfl | hk | hk | hk | hk
    · exact cell_lt' h4.c0
    · exact (own_ltH' h5 k (by simpa [blk] using hk)).2
    · exact h6.lt k hk
    · exact NP.lt h7 k hk
    · exact NP.lt h8 k hk
theorem NP.up {t : PT} {v : Value} {F : List Nat} : Up (NP t v F) := fun _ _ h hg => h.grow h.lt hg
theorem BoxF.up {bx : Option (List Nat × List Nat)} {v : Value} {F : List Nat} : Up (BoxF bx v F) := fun _ _ h hg => h.move fun k hk => hg.block k (h.lt k hk)
theorem NodeC.lt {b : Nat} {P : Value} {pl : Int} {lv rv bv : Value} {w : World} (h : NodeC b P pl lv rv bv w) : b < w.heap.size := cell_lt' h.c0
theorem NodeC.up {b : Nat} {P : Value} {pl : Int} {lv rv bv : Value} : Up (NodeC b P pl lv rv bv) := fun _ _ h hg => h.move (hg.block b h.lt)
theorem NP.isP : ∀ {t : PT} {v : Value} {F : List Nat} {w : World}, NP t v F w → ∃ a, v = .pointer a
  | .nil, _, _, _, h => ⟨_, h.1⟩
  | .node _ _ _ _ _, _, _, _, ⟨b, _, _, _, _, _, _, _, h1, _⟩ => ⟨_, h1⟩
theorem BoxF.isP : ∀ {bx : Option (List Nat × List Nat)} {v : Value} {F : List Nat} {w : World}, BoxF bx v F w → ∃ a, v = .pointer a
  | none, _, _, _, h => ⟨_, h.1⟩
  | some _, _, _, _, ⟨b, _, _, h1, _⟩ => ⟨_, h1⟩
/-- what a node's data is as the package holds it -/
def bxOf (k : KN) : Option (List Nat × List Nat) := if k.mn = [] then none else some (k.mn, k.mx)
def toPT (ns : List KN) : Kt.KT → PT
  | .nil => .nil
  | .node i l r => .node (kP ns i) (kPl ns i) (bxOf (ns.getD i kn0)) (toPT ns l) (toPT ns r)
def BoxQ (bx : Option (List Nat × List Nat)) (w : World) (e : Ending) (w' : World) : Prop := ∃ u F, e = .returned u ∧ Grow w w' ∧ BoxF bx u F w' ∧ F.Nodup ∧ ∀ k ∈ F, w.heap.size ≤ k
theorem own_nodup {e e' : TypeId} {B B' : Nat} {v v' : Value} {xs xs' : List Value} {w w' : World} (h : VOwn e B v xs w) (h' : VOwn e' B' v' xs' w') (hB : w.heap.size ≤ B') : (blk v ++ blk v').Nodup := by
  have h1 : ∀ k ∈ blk v, k < w.heap.size := fun k hk => (own_ltH' h k (by simpa [blk] using hk)).2
  have h2 : ∀ k ∈ blk v', B' ≤ k := fun k hk => (own_ltH' h' k (by simpa [blk] using hk)).1
  refine List.nodup_append.2 ⟨?_, ?_, fun a ha b hb e => ?_⟩
  · unfold blk; cases v.ownBlock <;> simp
  · unfold blk; cases v'.ownBlock <;> simp
  · subst e; have := h1 a ha; have := h2 a hb; omega
set_option maxRecDepth 100000 in
set_option maxHeartbeats 2000000 in
theorem kbox_calls (u v : Value) (mn mx : List Nat) (w : World) (hu : FSl u mn w) (hv : FSl v mx w) (h1 : mn.length ≤ 2147483647) (h2 : mx.length ≤ 2147483647) :
    Calls Try.prog 57 #[u, v] w (BoxQ (if mn = [] then none else some (mn, mx)) w) := by
  have HF1 := Lib.hid (fun w' (hg : Grow w w') => floats_calls44 u mn w' (FSl.up _ _ hu hg) (by omega))
  have HF2 := Lib.hid (fun w' (hg : Grow w w') => floats_calls44 v mx w' (FSl.up _ _ hv hg) (by omega))
  obtain ⟨A, c, rfl, -, -⟩ := hu
  by_cases h0 : mn = []
  · subst h0
    go_enter Try.func57, Try.ntmps57
    go_wp2
    go_ret
    exact ⟨_, [], rfl, Grow.refl w, ⟨rfl, rfl⟩, .nil, fun k hk => by cases hk⟩
  · have hne : ((mn.length : Int) == 0) = false := by
      have := List.length_pos_iff.2 h0
      simp; omega
    rw [if_neg h0]
    clear h0
    go_enter Try.func57, Try.ntmps57
    go_wp2_with fail
    refine (HF1.out w (Grow.refl w)).mono ?_
    rintro e w1 ⟨P1, rfl, hg1, ho1⟩
    have HG1 := Lib.hid hg1; have HO1 := Lib.hid ho1
    clear hg1 ho1
    go_wp2_with fail
    refine (HF2.out _ HG1.out).mono ?_
    rintro e w2 ⟨P2, rfl, hg2, ho2⟩
    have HG2 := Lib.hid hg2; have HO2 := Lib.hid ho2
    have s1 := HG1.out.size
    have HS2 := Lib.hid hg2.size
    clear hg2 ho2
    go_wp2
    go_ret
    refine ⟨_, _, rfl, (HG1.out.trans HG2.out).alloc _, ⟨w2.heap.size, P1, P2, rfl, rfl, ⟨by go_simp, by go_simp, fun o => by go_simp⟩, VOwn.mono (VOwn.up _ _ HO1.out (HG2.out.alloc _)) (Nat.zero_le _), VOwn.mono (VOwn.up _ _ HO2.out ((Grow.refl _).alloc _)) (Nat.zero_le _)⟩, List.nodup_cons.2 ⟨fun hm => ?_, own_nodup HO1.out HO2.out (Nat.le_refl _)⟩, fun k hk => ?_⟩
    · rcases List.mem_append.1 hm with hm | hm
      · have := (own_ltH' HO1.out _ (by simpa [blk] using hm)).2; have := HS2.out; omega
      · have := (own_ltH' HO2.out _ (by simpa [blk] using hm)).2; omega
    · simp only [List.mem_cons, List.mem_append] at hk
      rcases hk with rfl | hk | hk
      · have := HS2.out; omega
      · exact (own_ltH' HO1.out _ (by simpa [blk] using hk)).1
      · have := (own_ltH' HO2.out _ (by simpa [blk] using hk)).1; omega
end Go.Proofs.Ytcpdhkbmfgphpaa
