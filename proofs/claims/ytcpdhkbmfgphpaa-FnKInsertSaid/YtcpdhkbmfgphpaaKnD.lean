import Derived.Test.YtcpdhkbmfgphpaaKnC
namespace Go.Proofs.Ytcpdhkbmfgphpaa
open Go.ChangeShapes Go.WideShapes Go.ChangeAt Go.RowKit Go.GrowR
set_option linter.unusedVariables false
set_option linter.unusedSimpArgs false

def PtrTo (G : List Nat) (v : Value) (p : List Nat) (w : World) : Prop := ∃ b P, v = .pointer (some ⟨b, 0, none⟩) ∧ w.cell? ⟨b, 0, none⟩ = some (ptV P) ∧ FOwn 34 0 P p w ∧ ∀ k ∈ blk P, k ∈ G
theorem PtrTo.up {G : List Nat} {v : Value} {p : List Nat} : Up (PtrTo G v p) := fun _ _ ⟨b, P, h1, h2, h3, h4⟩ hg => ⟨b, P, h1, up_cell h2 hg, VOwn.up _ _ h3 hg, h4⟩
variable {G : List Nat}
def SRes (G : List Nat) (d : Nat) (Q : Nat → Int) (t : PT) (o : Option Int) (w : World) (e : Ending) (w' : World) : Prop := ∃ v z o', e = .returned (.tuple #[v, .float .f64 z]) ∧ Grow w w' ∧ Fl.DI z o' ∧ (∃ a, v = .pointer a) ∧
  ((∃ p ∈ t.pts, PtrTo G v p w' ∧ o' = some (sqN Q (iv p) d) ∧ Fl.ltO o' o = true ∧ ∀ q ∈ t.pts, sqN Q (iv p) d ≤ sqN Q (iv q) d) ∨ ((∀ q ∈ t.pts, Fl.ltO (some (sqN Q (iv q) d)) o = false) ∧ Fl.ltO o' o = false))
theorem Inv.map {Q : Nat → Int} {d : Nat} {o : Option Int} {S : List (List Nat)} {cur : Int} {F F' : List Nat → Prop} (h : Inv Q d o S cur F) (hF : ∀ p, F p → F' p) : Inv Q d o S cur F' :=
  ⟨h.le, h.top, fun hb => let ⟨p, h1, h2, h3⟩ := h.best hb; ⟨p, h1, h2, hF p h3⟩⟩
theorem sres_of {d : Nat} {Q : Nat → Int} {t : PT} {o : Option Int} {w w' : World} {S : List (List Nat)} {cur : Int} {bn : Value} {zc : Nat} (h : Inv Q d o S cur (fun p => PtrTo G bn p w')) (hS : ∀ p, p ∈ t.pts ↔ p ∈ S) (hz : Fl.IsI zc cur) (hg : Grow w w') (hp : ∃ a, bn = .pointer a) :
    SRes G d Q t o w (.returned (.tuple #[bn, .float .f64 zc])) w' := by
  refine ⟨bn, zc, some cur, rfl, hg, hz, hp, ?_⟩
  cases hb : Fl.ltO (some cur) o with
  | true =>
    obtain ⟨p, h1, h2, h3⟩ := h.best hb
    exact .inl ⟨p, (hS p).2 h1, h3, by rw [h2], rfl, fun q hq => by rw [h2]; exact h.le q ((hS q).1 hq)⟩
  | false =>
    refine .inr ⟨fun q hq => ?_, rfl⟩
    have hle := h.le q ((hS q).1 hq)
    cases o with
    | none => simp [Fl.ltO] at hb
    | some a =>
      simp only [Fl.ltO, decide_eq_false_iff_not] at hb ⊢
      omega
/-- one side has been searched -/
theorem Inv.side {d : Nat} {Q : Nat → Int} {t : PT} {o : Option Int} {w w' : World} {S : List (List Nat)} {cur : Int} {bn v : Value} {o' : Option Int} (h : Inv Q d o S cur (fun p => PtrTo G bn p w)) (hg : Grow w w')
    (hc : (∃ p ∈ t.pts, PtrTo G v p w' ∧ o' = some (sqN Q (iv p) d) ∧ Fl.ltO o' (some cur) = true ∧ ∀ q ∈ t.pts, sqN Q (iv p) d ≤ sqN Q (iv q) d) ∨ ((∀ q ∈ t.pts, Fl.ltO (some (sqN Q (iv q) d)) (some cur) = false) ∧ Fl.ltO o' (some cur) = false)) :
    (Fl.ltO o' (some cur) = true ∧ ∃ c', o' = some c' ∧ Inv Q d o (S ++ t.pts) c' (fun p => PtrTo G v p w')) ∨ (Fl.ltO o' (some cur) = false ∧ Inv Q d o (S ++ t.pts) cur (fun p => PtrTo G bn p w')) := by
  rcases hc with ⟨p, h1, h2, rfl, h4, h5⟩ | ⟨h1, h2⟩
  · refine .inl ⟨h4, _, rfl, h.better (by simp [h1]) h2 (by simpa [Fl.ltO] using h4) fun q hq => ?_⟩
    rcases List.mem_append.1 hq with hq | hq
    · exact .inl hq
    · exact .inr (h5 q hq)
  · refine .inr ⟨h2, (h.same (S' := S ++ t.pts) (fun q hq => ?_) (fun q hq => by simp [hq])).map fun p hp => PtrTo.up _ _ hp hg⟩
    rcases List.mem_append.1 hq with hq | hq
    · exact .inl hq
    · have := h1 q hq
      simp only [Fl.ltO, decide_eq_false_iff_not] at this
      exact .inr (by omega)
theorem Inv.prune {d : Nat} {Q : Nat → Int} {t : PT} {o : Option Int} {S : List (List Nat)} {cur c : Int} {F : List Nat → Prop} (h : Inv Q d o S cur F) (hc : ¬ c < cur) (ht : ∀ q ∈ t.pts, c ≤ sqN Q (iv q) d) : Inv Q d o (S ++ t.pts) cur F :=
  h.same (fun q hq => by
    rcases List.mem_append.1 hq with hq | hq
    · exact .inl hq
    · have := ht q hq; exact .inr (by omega)) (fun q hq => by simp [hq])
theorem far_le {d m : Nat} {Q A C : Nat → Int} (hm : m < d) (h1 : (Q m ≤ A m ∧ A m ≤ C m) ∨ (A m ≤ Q m ∧ C m ≤ A m)) : (Q m - A m) * (Q m - A m) ≤ sqN Q C d := by
  have h := sqN_ge Q C hm
  refine Int.le_trans ?_ h
  have key : ∀ a b : Int, 0 ≤ a → a ≤ b → a * a ≤ b * b := fun a b h1 h2 => Int.mul_le_mul h2 h2 h1 (by omega)
  rcases h1 with ⟨h1, h2⟩ | ⟨h1, h2⟩
  · have := key (A m - Q m) (C m - Q m) (by omega) (by omega)
    rw [show (Q m - A m) * (Q m - A m) = (A m - Q m) * (A m - Q m) by rw [← Int.neg_mul_neg]; congr 1 <;> omega, show (Q m - C m) * (Q m - C m) = (C m - Q m) * (C m - Q m) by rw [← Int.neg_mul_neg]; congr 1 <;> omega]
    exact this
  · exact key _ _ (by omega) (by omega)
theorem mul_self_I {x : Nat} {a : Int} (h : Fl.IsI x a) (h1 : -2097152 ≤ a) (h2 : a ≤ 2097152) : floatBits .mul .f64 x x = some (fb .mul x x) ∧ Fl.IsI (fb .mul x x) (a * a) := by
  have hb := mul_bound (a := a) (b := a) (m := 2097152) (n := 2097152) (by omega) (by omega) (by omega) (by omega)
  have hb' : 0 ≤ a * a ∧ a * a ≤ 4398046511104 := ⟨sq_nonneg' a, by omega⟩
  clear hb
  obtain ⟨e, f2, j2⟩ := Fl.mul_I h h (by omega)
  rw [fb_some f2]
  exact ⟨f2, j2⟩
set_option maxRecDepth 100000 in
theorem searchNil (u : Value) (z d : Nat) (Q : Nat → Int) (o : Option Int) (w : World) : Calls Try.prog 51 #[.pointer none, u, .float .f64 z] w (SRes G d Q .nil o w) := by
  go_enter Try.func51, Try.ntmps51
  go_wp2_with (go_at_call 50; refine (inf_calls _).mono ?_; rintro e w1 ⟨rfl, rfl⟩)
  go_ret2
  exact ⟨.pointer none, Fl.INF, none, rfl, Grow.refl _, (rfl : Fl.INF = Fl.INF), ⟨_, rfl⟩, .inr ⟨fun q hq => (by cases hq), rfl⟩⟩
end Go.Proofs.Ytcpdhkbmfgphpaa
