import Derived.Test.YtcpdhkbmfgphpaaKnA
namespace Go.Proofs.Ytcpdhkbmfgphpaa
open Go.ChangeShapes Go.WideShapes Go.ChangeAt Go.RowKit Go.GrowR
set_option linter.unusedVariables false
set_option linter.unusedSimpArgs false
/-! the package's tree over whole numbers, plain -/
noncomputable def iv (p : List Nat) (k : Nat) : Int := Fl.ival (p.getD k 0)
theorem Num.iv {p : List Nat} {d : Nat} {A : Nat → Int} (h : Num p d A) : ∀ k, k < d → iv p k = A k := fun k hk => Fl.ival_eq (h.2 k hk).1
theorem Num.self {p : List Nat} {d : Nat} {A : Nat → Int} (h : Num p d A) : Num p d (Proofs.Ytcpdhkbmfgphpaa.iv p) := ⟨h.1, fun k hk => by rw [h.iv k hk]; exact h.2 k hk⟩
def PT.pts : PT → List (List Nat)
  | .nil => []
  | .node p _ _ l r => l.pts ++ p :: r.pts
def PT.All (X : List Nat → Int → Option (List Nat × List Nat) → PT → PT → Prop) : PT → Prop
  | .nil => True
  | .node p pl bx l r => X p pl bx l r ∧ l.All X ∧ r.All X
/-- a k-d tree of whole numbers -/
def PT.KD (d : Nat) (t : PT) : Prop := t.All fun p pl _ l r => Num p d (iv p) ∧ ∃ m : Nat, pl = (m : Int) ∧ m < d ∧ (∀ q ∈ l.pts, iv q m ≤ iv p m) ∧ ∀ q ∈ r.pts, iv p m ≤ iv q m
theorem toPT_pts (ns : List KN) : ∀ t : Kt.KT, (toPT ns t).pts = t.ins.map (kP ns)
  | .nil => rfl
  | .node i l r => by simp [toPT, PT.pts, Kt.KT.ins, toPT_pts ns l, toPT_pts ns r]
theorem KD.pt {ns : List KN} {root : Int} {d : Nat} {t : Kt.KT} {C : Nat → Nat → Int} (h : KD ns root d t C) : (toPT ns t).KD d := by
  have hn := h.num
  have hk := h.kd
  clear h
  have key : ∀ t : Kt.KT, (∀ i ∈ t.ins, Num (kP ns i) d (C i)) → (t.All fun i l r => ∃ m : Nat, kPl ns i = (m : Int) ∧ m < d ∧ (∀ j ∈ l.ins, C j m ≤ C i m) ∧ ∀ j ∈ r.ins, C i m ≤ C j m) → (toPT ns t).KD d := by
    intro t
    induction t with
    | nil => intro _ _; trivial
    | node i l r ihl ihr =>
      intro hn ⟨⟨m, h1, h2, h3, h4⟩, hl, hr⟩
      have ni := hn i (by simp [Kt.KT.ins])
      have nl : ∀ j ∈ l.ins, Num (kP ns j) d (C j) := fun j hj => hn j (by simp [Kt.KT.ins, hj])
      have nr : ∀ j ∈ r.ins, Num (kP ns j) d (C j) := fun j hj => hn j (by simp [Kt.KT.ins, hj])
      refine ⟨⟨ni.self, m, h1, h2, fun q hq => ?_, fun q hq => ?_⟩, ihl nl hl, ihr nr hr⟩
      · rw [toPT_pts] at hq
        obtain ⟨j, hj, rfl⟩ := List.mem_map.1 hq
        rw [(nl j hj).iv m h2, ni.iv m h2]; exact h3 j hj
      · rw [toPT_pts] at hq
        obtain ⟨j, hj, rfl⟩ := List.mem_map.1 hq
        rw [(nr j hj).iv m h2, ni.iv m h2]; exact h4 j hj
  exact key t hn hk
theorem PT.KD.num {d : Nat} : ∀ {t : PT}, t.KD d → ∀ p ∈ t.pts, Num p d (iv p)
  | .nil, _, p, hp => by cases hp
  | .node p pl bx l r, h, q, hq => by
    simp only [PT.pts, List.mem_append, List.mem_cons] at hq
    rcases hq with hq | rfl | hq
    · exact PT.KD.num h.2.1 q hq
    · exact h.1.1
    · exact PT.KD.num h.2.2 q hq
/-- the square of a distance -/
def sqN (Q A : Nat → Int) : Nat → Int
  | 0 => 0
  | k + 1 => sqN Q A k + (Q k - A k) * (Q k - A k)
theorem sq_nonneg' (a : Int) : 0 ≤ a * a := by
  rcases Int.le_total 0 a with h | h
  · exact Int.mul_nonneg h h
  · have := Int.mul_nonneg (a := -a) (b := -a) (by omega) (by omega)
    rwa [Int.neg_mul_neg] at this
theorem sqN_mono (Q A : Nat → Int) (k : Nat) : ∀ m, sqN Q A k ≤ sqN Q A (k + m)
  | 0 => Int.le_refl _
  | m + 1 => by
    have h1 := sqN_mono Q A k m
    have h2 := sq_nonneg' (Q (k + m) - A (k + m))
    have : sqN Q A (k + (m + 1)) = sqN Q A (k + m) + (Q (k + m) - A (k + m)) * (Q (k + m) - A (k + m)) := rfl
    omega
theorem sqN_ge (Q A : Nat → Int) {k n : Nat} (hk : k < n) : (Q k - A k) * (Q k - A k) ≤ sqN Q A n := by
  have h1 := sqN_mono Q A (k + 1) (n - (k + 1))
  rw [show k + 1 + (n - (k + 1)) = n by omega] at h1
  have h0 := sqN_mono Q A 0 k
  rw [Nat.zero_add] at h0
  have e : sqN Q A (k + 1) = sqN Q A k + (Q k - A k) * (Q k - A k) := rfl
  have e0 : sqN Q A 0 = 0 := rfl
  omega
theorem sq_bd {a b : Int} (h1 : -1048576 ≤ a) (h2 : a ≤ 1048576) (h3 : -1048576 ≤ b) (h4 : b ≤ 1048576) : 0 ≤ (a - b) * (a - b) ∧ (a - b) * (a - b) ≤ 4398046511104 := by
  have h := mul_bound (a := a - b) (b := a - b) (m := 2097152) (n := 2097152) (by omega) (by omega) (by omega) (by omega)
  exact ⟨sq_nonneg' _, by omega⟩
theorem sqN_bd {xs ys : List Nat} {n : Nat} {A B : Nat → Int} (hA : Num xs n A) (hB : Num ys n B) : ∀ k, k ≤ n → 0 ≤ sqN A B k ∧ sqN A B k ≤ k * 4398046511104
  | 0, _ => by simp [sqN]
  | k + 1, hk => by
    have h1 := sqN_bd hA hB k (by omega)
    obtain ⟨-, l1, u1⟩ := hA.2 k (by omega)
    obtain ⟨-, l2, u2⟩ := hB.2 k (by omega)
    have h2 := sq_bd l1 u1 l2 u2
    unfold sqN; omega
theorem sqN_zero {A B : Nat → Int} : ∀ {n : Nat}, (∀ k, k < n → A k = B k) → sqN A B n = 0
  | 0, _ => rfl
  | n + 1, h => by unfold sqN; rw [sqN_zero fun k hk => h k (by omega), h n (by omega)]; simp
/-- the sums of squares as floats -/
def sumX (xs ys : List Nat) : Nat → Nat
  | 0 => 0
  | k + 1 => fb .add (sumX xs ys k) (fb .mul (fb .sub (xs.getD k 0) (ys.getD k 0)) (fb .sub (xs.getD k 0) (ys.getD k 0)))
theorem sum_step {xs ys : List Nat} {n : Nat} {A B : Nat → Int} (hA : Num xs n A) (hB : Num ys n B) (hn : n ≤ 6) {k : Nat} (hk : k < n) (h : Fl.IsI (sumX xs ys k) (sqN A B k)) :
    ∃ d e, floatBits .sub .f64 (xs.getD k 0) (ys.getD k 0) = some d ∧ floatBits .mul .f64 d d = some e ∧ floatBits .add .f64 (sumX xs ys k) e = some (sumX xs ys (k + 1)) ∧ Fl.IsI (sumX xs ys (k + 1)) (sqN A B (k + 1)) := by
  obtain ⟨i1, l1, u1⟩ := hA.2 k hk
  obtain ⟨i2, l2, u2⟩ := hB.2 k hk
  have h2 := sq_bd l1 u1 l2 u2
  have h3 := sqN_bd hA hB k (by omega)
  obtain ⟨d, f1, j1⟩ := Fl.sub_I i1 i2 (by omega)
  obtain ⟨e, f2, j2⟩ := Fl.mul_I j1 j1 (by omega)
  obtain ⟨z, f3, j3⟩ := Fl.add_I h j2 (by omega)
  have hz : sumX xs ys (k + 1) = z := by
    show fb .add (sumX xs ys k) (fb .mul (fb .sub (xs.getD k 0) (ys.getD k 0)) (fb .sub (xs.getD k 0) (ys.getD k 0))) = z
    rw [fb_some f1, fb_some f2, fb_some f3]
  exact ⟨d, e, f1, f2, by rw [hz]; exact f3, by rw [hz]; exact j3⟩
theorem sum_I {xs ys : List Nat} {n : Nat} {A B : Nat → Int} (hA : Num xs n A) (hB : Num ys n B) (hn : n ≤ 6) : ∀ k, k ≤ n → Fl.IsI (sumX xs ys k) (sqN A B k)
  | 0, _ => zero_I
  | k + 1, hk => by
    obtain ⟨d, e, -, -, -, h⟩ := sum_step hA hB hn (k := k) (by omega) (sum_I hA hB hn k (by omega))
    exact h
/-! the search, plain: what is best among the points S that have been looked at; o: what was given, cur: what is best by now -/
structure Inv (Q : Nat → Int) (d : Nat) (o : Option Int) (S : List (List Nat)) (cur : Int) (F : List Nat → Prop) : Prop where
  le : ∀ p ∈ S, cur ≤ sqN Q (iv p) d
  top : ∀ a, o = some a → cur ≤ a
  best : Fl.ltO (some cur) o = true → ∃ p ∈ S, sqN Q (iv p) d = cur ∧ F p
theorem Inv.start {Q : Nat → Int} {d : Nat} {o : Option Int} {p : List Nat} {F : List Nat → Prop} (hF : F p) : Inv Q d o [p] (Fl.minO o (sqN Q (iv p) d)) F := by
  refine ⟨fun q hq => ?_, fun a ha => ?_, fun h => ⟨p, by simp, ?_, hF⟩⟩
  · obtain rfl := List.mem_singleton.1 hq
    cases o <;> simp [Fl.minO]; omega
  · subst ha; simp [Fl.minO]; omega
  · cases o with
    | none => rfl
    | some a =>
      have h' : min a (sqN Q (iv p) d) < a := of_decide_eq_true h
      show _ = min a (sqN Q (iv p) d)
      omega
theorem Inv.same {Q : Nat → Int} {d : Nat} {o : Option Int} {S S' : List (List Nat)} {cur : Int} {F : List Nat → Prop} (h : Inv Q d o S cur F) (hs : ∀ p ∈ S', p ∈ S ∨ cur ≤ sqN Q (iv p) d) (hs2 : ∀ p ∈ S, p ∈ S') : Inv Q d o S' cur F :=
  ⟨fun p hp => (hs p hp).elim (h.le p) id, h.top, fun hb => let ⟨p, h1, h2⟩ := h.best hb; ⟨p, hs2 p h1, h2⟩⟩
theorem Inv.better {Q : Nat → Int} {d : Nat} {o : Option Int} {S S' : List (List Nat)} {cur : Int} {F F' : List Nat → Prop} (h : Inv Q d o S cur F) {p : List Nat} (hp : p ∈ S') (hF : F' p) (hlt : sqN Q (iv p) d < cur) (hs : ∀ q ∈ S', q ∈ S ∨ sqN Q (iv p) d ≤ sqN Q (iv q) d) : Inv Q d o S' (sqN Q (iv p) d) F' :=
  ⟨fun q hq => (hs q hq).elim (fun hq => by have := h.le q hq; omega) id, fun a ha => by have := h.top a ha; omega, fun _ => ⟨p, hp, rfl, hF⟩⟩
end Go.Proofs.Ytcpdhkbmfgphpaa
