import Derived.Test.YtcpdhkbmfgphpaaKdB
namespace Go.Proofs.Ytcpdhkbmfgphpaa
open Go.ChangeShapes Go.WideShapes Go.ChangeAt Go.RowKit Go.GrowR
set_option linter.unusedVariables false
set_option linter.unusedSimpArgs false

/-- the state of a walk in memory: seven variables from block b on, what is seen in block b + 5, the rows behind b + 8 -/
structure WS (w0 : World) (b n : Nat) (fs : Value) (s : Kt.St) (w : World) : Prop where
  g : Grow w0 w
  lb : w0.heap.size ≤ b
  cn : w.cell? ⟨b, 0, none⟩ = some (.int .i64 n)
  cs : w.cell? ⟨b + 1, 0, none⟩ = some fs
  rows : ∃ V1 V2, w.cell? ⟨b + 2, 0, none⟩ = some V1 ∧ w.cell? ⟨b + 3, 0, none⟩ = some V2 ∧ Rows2 (b + 8) V1 (s.ord.map natv) V2 (s.dep.map intv) w
  cok : w.cell? ⟨b + 4, 0, none⟩ = some (.bool s.ok)
  bl : ∀ i, i < n → w.cell? ⟨b + 5, i, none⟩ = some (.bool (s.seen i))
  csn : w.cell? ⟨b + 6, 0, none⟩ = some (.slice (some ⟨b + 5, 0, none⟩) n n)
  cf : w.cell? ⟨b + 7, 0, none⟩ = some (.func (.func 58) #[] #[.pointer (some ⟨b + 4, 0, none⟩), .pointer (some ⟨b, 0, none⟩), .pointer (some ⟨b + 6, 0, none⟩), .pointer (some ⟨b + 1, 0, none⟩), .pointer (some ⟨b + 7, 0, none⟩), .pointer (some ⟨b + 2, 0, none⟩), .pointer (some ⟨b + 3, 0, none⟩)])
  fz : ∀ k o, b ≤ k → k < b + 8 → w.frozen? ⟨k, o, none⟩ = false
namespace WS
variable {w0 : World} {b n : Nat} {fs : Value} {s : Kt.St} {w : World}
theorem lt (h : WS w0 b n fs s w) : b + 8 ≤ w.heap.size := cell_lt' h.cf
/-- what keeps all blocks below b + 8 and the rows -/
theorem keep {w' : World} {s' : Kt.St} (h : WS w0 b n fs s w) (hb : Below (b + 8) w w') (hs : s'.seen = s.seen) (ho : s'.ok = s.ok) (hr : ∃ V1 V2, w'.cell? ⟨b + 2, 0, none⟩ = some V1 ∧ w'.cell? ⟨b + 3, 0, none⟩ = some V2 ∧ Rows2 (b + 8) V1 (s'.ord.map natv) V2 (s'.dep.map intv) w') : WS w0 b n fs s' w' := by
  have c : ∀ k o, k < b + 8 → w'.cell? ⟨k, o, none⟩ = w.cell? ⟨k, o, none⟩ := fun k o hk => hb.cell hk
  have hl := h.lt
  have hlb := h.lb
  refine ⟨⟨hb.os.trans h.g.os, hb.tape.trans h.g.tape, hb.output.trans h.g.output, Nat.le_trans h.g.size hb.size, fun k hk => (hb.block k (by omega)).trans (h.g.block k hk)⟩, h.lb, ?_, ?_, hr, ?_, fun i hi => ?_, ?_, ?_, fun k o h1 h2 => ?_⟩
  · rw [c _ _ (by omega)]; exact h.cn
  · rw [c _ _ (by omega)]; exact h.cs
  · rw [c _ _ (by omega), ho]; exact h.cok
  · rw [c _ _ (by omega), hs]; exact h.bl i hi
  · rw [c _ _ (by omega)]; exact h.csn
  · rw [c _ _ (by omega)]; exact h.cf
  · rw [hb.frozen (p := ⟨k, o, none⟩) h2]; exact h.fz k o h1 h2
theorem drewN (h : WS w0 b n fs s w) (m : Nat) : WS w0 b n fs s (w.drewN m) := by
  obtain ⟨V1, V2, h1, h2, h3⟩ := h.rows
  exact h.keep ⟨rfl, rfl, rfl, Nat.le_refl _, fun _ _ => rfl⟩ rfl rfl ⟨V1, V2, h1, h2, Rows2.up _ _ h3 ((Grow.refl w).drewN m)⟩
theorem rset {V1 V2 : Value} {xs ys : List Value} {B : Nat} {w : World} (h : Rows2 B V1 xs V2 ys w) {p : Addr} (hp : p.block < B) (u : Value) : Rows2 B V1 xs V2 ys (w.setCell p u) := ⟨h.a.setCell hp u, h.b.setCell hp u, h.ne⟩
theorem gset (h : WS w0 b n fs s w) {p : Addr} (hp : b ≤ p.block) (u : Value) : Grow w0 (w.setCell p u) := h.g.setCell (Nat.le_trans h.lb hp) u
theorem far {p : Addr} {k o : Nat} {u v : Value} (h : w.cell? ⟨k, o, none⟩ = some v) (hp : p ≠ ⟨k, o, none⟩) : (w.setCell p u).cell? ⟨k, o, none⟩ = some v := by rw [World.cell?_setCell_other _ _ _ _ hp]; exact h
theorem bad (h : WS w0 b n fs s w) : WS w0 b n fs { s with ok := false } (w.setCell ⟨b + 4, 0, none⟩ (.bool false)) := by
  obtain ⟨V1, V2, h1, h2, h3⟩ := h.rows
  exact ⟨h.gset (by simp) _, h.lb, far h.cn (by simp), far h.cs (by simp), ⟨V1, V2, far h1 (by simp), far h2 (by simp), rset h3 (by simp) _⟩, World.cell?_setCell_same _ _ _ h.cok, fun i hi => far (h.bl i hi) (by simp), far h.csn (by simp), far h.cf (by simp), fun k o k1 k2 => by rw [World.frozen?_setCell]; exact h.fz k o k1 k2⟩
theorem mark (h : WS w0 b n fs s w) {i : Nat} (hi : i < n) : WS w0 b n fs { s with seen := fun j => if j = i then true else s.seen j } (w.setCell ⟨b + 5, i, none⟩ (.bool true)) := by
  obtain ⟨V1, V2, h1, h2, h3⟩ := h.rows
  refine ⟨h.gset (by simp) _, h.lb, far h.cn (by simp), far h.cs (by simp), ⟨V1, V2, far h1 (by simp), far h2 (by simp), rset h3 (by simp) _⟩, far h.cok (by simp), fun j hj => ?_, far h.csn (by simp), far h.cf (by simp), fun k o k1 k2 => by rw [World.frozen?_setCell]; exact h.fz k o k1 k2⟩
  by_cases e : j = i
  · subst e
    simp only [if_true]
    exact World.cell?_setCell_same _ _ _ (h.bl j hj)
  · simp only [if_neg e]
    exact far (h.bl j hj) (by simp <;> omega)
theorem app {wr : World} {V1 V2 : Value} {xs : List Nat} {ys : List Int} {T : List (Nat × Value)} {w1 : World} (h : WS w0 b n fs s w) (hg : Below (b + 8) w w1) (ha : AppS (b + 8) w1 V1 (xs.map natv) V2 (ys.map intv) T wr) : WS w0 b n fs { s with ord := xs, dep := ys } ((wr.setCell ⟨b + 2, 0, none⟩ V1).setCell ⟨b + 3, 0, none⟩ V2) := by
  have hl := h.lt
  have hlb := h.lb
  have hb := Below.trans hg ha.be
  have c : ∀ k o, k < b + 8 → wr.cell? ⟨k, o, none⟩ = w.cell? ⟨k, o, none⟩ := fun k o hk => hb.cell hk
  obtain ⟨U1, U2, h1, h2, h3⟩ := h.rows
  have key : ∀ {k o : Nat} {v : Value}, w.cell? ⟨k, o, none⟩ = some v → k < b + 8 → k ≠ b + 2 → k ≠ b + 3 → ((wr.setCell ⟨b + 2, 0, none⟩ V1).setCell ⟨b + 3, 0, none⟩ V2).cell? ⟨k, o, none⟩ = some v := fun {k o v} hv k1 k2 k3 => far (far (by rw [c _ _ k1]; exact hv) (by simp <;> omega)) (by simp <;> omega)
  refine ⟨(Grow.setCell (Grow.setCell ⟨hb.os.trans h.g.os, hb.tape.trans h.g.tape, hb.output.trans h.g.output, Nat.le_trans h.g.size hb.size, fun k hk => (hb.block k (by omega)).trans (h.g.block k hk)⟩ (by simp <;> omega) _) (by simp <;> omega) _), h.lb, key h.cn (by omega) (by omega) (by omega), key h.cs (by omega) (by omega) (by omega), ⟨V1, V2, ?_, ?_, rset (rset ha.r (by simp) _) (by simp) _⟩, key h.cok (by omega) (by omega) (by omega), fun i hi => key (h.bl i hi) (by omega) (by omega) (by omega), key h.csn (by omega) (by omega) (by omega), key h.cf (by omega) (by omega) (by omega), fun k o k1 k2 => ?_⟩
  · exact far (World.cell?_setCell_same _ _ _ (by rw [c _ _ (by omega)]; exact h1)) (by simp)
  · exact World.cell?_setCell_same _ _ _ (far (by rw [c _ _ (by omega)]; exact h2) (by simp))
  · rw [World.frozen?_setCell, World.frozen?_setCell, hb.frozen (p := ⟨k, o, none⟩) k2]; exact h.fz k o k1 k2
end WS
def WQ (w0 : World) (b n : Nat) (fs : Value) (s : Kt.St) (e : Ending) (w : World) : Prop := e = .returned (.tuple #[]) ∧ WS w0 b n fs s w
end Go.Proofs.Ytcpdhkbmfgphpaa
