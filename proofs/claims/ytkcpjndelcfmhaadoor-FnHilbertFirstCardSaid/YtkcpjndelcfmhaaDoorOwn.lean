import Derived.Test.YtkcpjndelcfmhaaDoorGrow
import Derived.Test.YtkcpjndelcfmhaaDoorMem
import Derived.Maps.AppendAt
import Derived.Deep.AppendLies
import Derived.Deep.Slices
import Derived.OwnWalk
import Derived.Laws.CopyOwn
import Derived.RegionTactic
namespace Go
open Go.RowKit Go.GrowR
set_option linter.unusedVariables false
set_option linter.unusedSimpArgs false
/-! rows of cells in slices that come in, and rows of the call's own -/
theorem addr_add (b o i : Nat) : Addr.add ⟨b, o, none⟩ i = ⟨b, o + i, none⟩ := by
  unfold Addr.add; split
  · next h => have : i = 0 := by simpa using h
              subst this; rfl
  · rfl
/-- a slice that reads as a list of cells of one value each -/
def VSl (v : Value) (xs : List Value) (w : World) : Prop := ∃ A c, v = .slice A xs.length c ∧ xs.length ≤ c ∧ (xs = [] ∨ ∃ b o, A = some ⟨b, o, none⟩ ∧ ∀ i x, xs[i]? = some x → w.cell? ⟨b, o + i, none⟩ = some x)
theorem VSl.up {v : Value} {xs : List Value} : Up (VSl v xs) := fun _ _ ⟨A, c, h1, h2, h3⟩ hg => ⟨A, c, h1, h2, h3.imp id fun ⟨b, o, e, h⟩ => ⟨b, o, e, fun i x hi => up_cell (h i x hi) hg⟩⟩
/-- a row of the call's own, behind block B -/
def VOwn (e : TypeId) (B : Nat) (v : Value) (xs : List Value) (w : World) : Prop := w.ownsRow B e 1 v xs.length xs
theorem VOwn.nil {e : TypeId} {B : Nat} {w : World} : VOwn e B (.slice none 0 0) [] w := World.ownsRow_nil _ _ _ _
theorem VOwn.up {e : TypeId} {B : Nat} {v : Value} {xs : List Value} : Up (VOwn e B v xs) := fun w w' h hg => by
  refine ⟨h.1, ?_⟩
  rcases h.2 with h | ⟨g, cap, cur, rfl, hb, hh, hr⟩
  · exact .inl h
  · refine .inr ⟨g, cap, cur, rfl, hb, ?_, hr⟩
    rw [hg.block g]; exact hh
    rcases Nat.lt_or_ge g w.heap.size with hlt | hge
    · exact hlt
    · rw [Array.getElem?_eq_none hge] at hh; cases hh
theorem VOwn.upX {e : TypeId} {B : Nat} {v : Value} {xs : List Value} {S : Nat → Prop} {Y : (World → Prop) → Prop} (hS : ∀ k, S k → k < B) : UpR (GX S Y) (VOwn e B v xs) := fun w w' h hg => by
  refine ⟨h.1, ?_⟩
  rcases h.2 with h | ⟨g, cap, cur, rfl, hb, hh, hr⟩
  · exact .inl h
  · refine .inr ⟨g, cap, cur, rfl, hb, ?_, hr⟩
    rw [hg.block g ?_ (fun hs => by have := hS g hs; omega)]; exact hh
    rcases Nat.lt_or_ge g w.heap.size with hlt | hge
    · exact hlt
    · rw [Array.getElem?_eq_none hge] at hh; cases hh
theorem VOwn.setCell {e : TypeId} {B : Nat} {v : Value} {xs : List Value} {w : World} (h : VOwn e B v xs w) {p : Addr} (hp : p.block < B) (u : Value) : VOwn e B v xs (w.setCell p u) := by
  refine ⟨h.1, ?_⟩
  rcases h.2 with h | ⟨g, cap, cur, rfl, hb, hh, hr⟩
  · exact .inl h
  · refine .inr ⟨g, cap, cur, rfl, hb, ?_, hr⟩
    rw [Below.heap_setCell _ _ _ _ (by omega)]; exact hh
theorem VOwn.sl {e : TypeId} {B : Nat} {v : Value} {xs : List Value} {w : World} (h : VOwn e B v xs w) : VSl v xs w := by
  rcases h.2 with ⟨rfl, h0⟩ | ⟨g, cap, cur, rfl, hb, hh, hn, hm, hs, ht⟩
  · obtain rfl : xs = [] := List.eq_nil_of_length_eq_zero h0
    exact ⟨none, 0, rfl, Nat.le_refl _, .inl rfl⟩
  · refine ⟨_, _, rfl, hn, .inr ⟨g, 0, rfl, fun i x hi => ?_⟩⟩
    rw [cell_of_row w g _ cur e (0, 0) hh, Nat.zero_add]
    rw [← ht, List.getElem?_take] at hi
    split at hi
    · simpa using hi
    · cases hi
theorem VOwn.mono {e : TypeId} {B B' : Nat} {v : Value} {xs : List Value} {w : World} (h : VOwn e B v xs w) (hB : B' ≤ B) : VOwn e B' v xs w := by
  refine ⟨h.1, ?_⟩
  rcases h.2 with h | ⟨g, cap, cur, rfl, hb, hr⟩
  · exact .inl h
  · exact .inr ⟨g, cap, cur, rfl, by omega, hr⟩
theorem run_append_ownNil {P : Program} {w : World} {base : Nat} {t ty e : TypeId} {i : TypeInfo} {v : Value} {n : Nat} {xs : List Value} (ht : P.underlying t = some (.slice e)) (hi : P.info? e = some i) (hown : w.ownsRow base e 1 v n xs) (c : Nat) :
    (Builtin.append_ #[t, t] ty #[v, .slice none 0 c]).run P w = .ok v w := by
  rcases hown.2 with ⟨rfl, rfl⟩ | ⟨g, cap, cur, rfl, _, _, hnc, _⟩
  · simp [Builtin.append_, run_underlying ht, sizeOf, typeInfo, hi, Builtin.lenOf, Builtin.firstCells]
  · simp [Builtin.append_, run_underlying ht, sizeOf, typeInfo, hi, Builtin.lenOf, Builtin.firstCells, hnc, storeCells]
theorem run_append_vsl {P : Program} {w : World} (B : Nat) (t ty e : TypeId) (i : TypeInfo) (z : Value) (bytes : Nat) (ht : P.underlying t = some (.slice e)) (hi : P.info? e = some i) (hz : i.zero = some z)
    (hsize : i.size = 1) (hby : i.bytes = bytes) (hzs : z.cells.size = 1) {v : Value} {xs : List Value} (hown : VOwn e B v xs w) {u : Value} {ys : List Value} (hsl : VSl u ys w) (h1 : ∀ x ∈ ys, x.oneCell' = true)
    (h63 : xs.length + ys.length ≤ maxLen) (hbytes : (xs.length + ys.length) * bytes ≤ 140737488355328) (hbase : B ≤ w.heap.size) :
    ∃ v' w', (Builtin.append_ #[t, t] ty #[v, u]).run P w = .ok v' w' ∧ VOwn e B v' (xs ++ ys) w' ∧ w.grownBy w' v.ownBlock ∧ (v'.ownBlock = v.ownBlock ∨ v'.ownBlock = some w.heap.size) := by
  obtain ⟨A, c, rfl, hc, hA⟩ := hsl
  rcases A with _ | ad
  · have : ys = [] := by
      rcases hA with h | ⟨b, o, h, _⟩
      · exact h
      · cases h
    subst this
    exact ⟨v, w, run_append_ownNil ht hi hown c, by simpa using hown, World.grownBy.refl w _, .inl rfl⟩
  · have hcells : ∀ j u, ys[j]? = some u → w.cell? (ad.add j) = some u := by
      intro j u hu
      rcases hA with rfl | ⟨b, o, h, hx⟩
      · simp at hu
      · cases h
        rw [addr_add]
        exact hx j u hu
    obtain ⟨v', w', hrun, h2, h3, _, h5⟩ := run_append_own_at (P := P) w B t ty e i z 1 bytes ht hi hz hsize hby hzs (by omega) v xs.length xs hown ad ys.length c ys (by omega) hcells h1 h63 hbytes hbase
    exact ⟨v', w', hrun, by unfold VOwn; rw [List.length_append]; exact h2, h3, h5⟩
theorem append_types {P : Program} {t t' e e' : TypeId} (ht : P.underlying t = some (.slice e)) (ht' : P.underlying t' = some (.slice e')) (ty : TypeId) (s x : Value) (w : World) :
    (Builtin.append_ #[t, t'] ty #[s, x]).run P w = (Builtin.append_ #[t, t] ty #[s, x]).run P w := by
  unfold Builtin.append_
  cases s <;> simp [run_underlying ht, run_underlying ht']
section
variable {P : Program} {w : World} {ops : Array Oper} {rest : List Oper} {o : Oper} {a : Act} {Q : Exit → Act → World → Prop}
/-- the same where the two types are not one ('append(row, c...)', c of a named type) -/
theorem wpList_append_vsl' (hgd : o.guard = none) (s x : Operand) (t t' : TypeId) (ho : o.op = .call { callee := .builtin .append, args := #[s, x], argTypes := #[t, t'] })
    (B : Nat) (e e' : TypeId) (i : TypeInfo) (z : Value) (bytes : Nat) (ht : P.underlying t = some (.slice e)) (ht' : P.underlying t' = some (.slice e')) (hi : P.info? e = some i) (hz : i.zero = some z)
    (hsize : i.size = 1) (hby : i.bytes = bytes) (hzs : z.cells.size = 1) {v : Value} {xs : List Value} (hs : a.eval s = v) (hown : VOwn e B v xs w) {u : Value} {ys : List Value} (hx : a.eval x = u) (hsl : VSl u ys w) (h1 : ∀ x ∈ ys, x.oneCell' = true)
    (h63 : xs.length + ys.length ≤ maxLen) (hbytes : (xs.length + ys.length) * bytes ≤ 140737488355328) (hbase : B ≤ w.heap.size)
    (h : ∀ v' w', VOwn e B v' (xs ++ ys) w' → w.grownBy w' v.ownBlock → (v'.ownBlock = v.ownBlock ∨ v'.ownBlock = some w.heap.size) → wpList P ops Q rest (a.put o.dst v') w') : wpList P ops Q (o :: rest) a w := by
  refine wpList_plain hgd fun K hK => ?_
  obtain ⟨v', w', hr, h2, h3, h4⟩ := run_append_vsl (P := P) B t o.type e i z bytes ht hi hz hsize hby hzs hown hsl h1 h63 hbytes hbase
  rw [← append_types ht ht'] at hr
  unfold Oper.wp execOp
  simp only [ho, resolve, invoke, builtin, Sem.run_bind, Sem.run_pure, Result.andThen_ok, List.map_toArray, List.map_cons, List.map_nil, hs, hx, hr]
  exact hK _ _ (h v' w' h2 h3 h4)
theorem wpList_append_vsl (hgd : o.guard = none) (s x : Operand) (t : TypeId) (ho : o.op = .call { callee := .builtin .append, args := #[s, x], argTypes := #[t, t] })
    (B : Nat) (e : TypeId) (i : TypeInfo) (z : Value) (bytes : Nat) (ht : P.underlying t = some (.slice e)) (hi : P.info? e = some i) (hz : i.zero = some z)
    (hsize : i.size = 1) (hby : i.bytes = bytes) (hzs : z.cells.size = 1) {v : Value} {xs : List Value} (hs : a.eval s = v) (hown : VOwn e B v xs w) {u : Value} {ys : List Value} (hx : a.eval x = u) (hsl : VSl u ys w) (h1 : ∀ x ∈ ys, x.oneCell' = true)
    (h63 : xs.length + ys.length ≤ maxLen) (hbytes : (xs.length + ys.length) * bytes ≤ 140737488355328) (hbase : B ≤ w.heap.size)
    (h : ∀ v' w', VOwn e B v' (xs ++ ys) w' → w.grownBy w' v.ownBlock → (v'.ownBlock = v.ownBlock ∨ v'.ownBlock = some w.heap.size) → wpList P ops Q rest (a.put o.dst v') w') : wpList P ops Q (o :: rest) a w := by
  refine wpList_plain hgd fun K hK => ?_
  obtain ⟨v', w', hr, h2, h3, h4⟩ := run_append_vsl (P := P) B t o.type e i z bytes ht hi hz hsize hby hzs hown hsl h1 h63 hbytes hbase
  unfold Oper.wp execOp
  simp only [ho, resolve, invoke, builtin, Sem.run_bind, Sem.run_pure, Result.andThen_ok, List.map_toArray, List.map_cons, List.map_nil, hs, hx, hr]
  exact hK _ _ (h v' w' h2 h3 h4)
end
theorem grow_of_grown {a b : World} (h : a.grownBy b none) : Grow a b := ⟨h.os, h.tape, h.output, h.size, fun k hk => h.block k hk (by simp)⟩
theorem fl_one (xs : List Nat) : ∀ x ∈ xs.map (Value.float .f64), x.oneCell' = true := by
  intro x hx
  obtain ⟨n, _, rfl⟩ := List.mem_map.1 hx
  rfl
theorem _root_.Go.RowKit.Below.trans' {a b c : World} (h : Below a.heap.size b c) (k : Grow a b) : Grow a c := Below.trans k h
theorem FSl.v {v : Value} {xs : List Nat} {w : World} (h : FSl v xs w) : VSl v (xs.map (.float .f64)) w := by
  obtain ⟨A, c, rfl, hc, h⟩ := h
  refine ⟨A, c, by simp, by simpa using hc, ?_⟩
  rcases h with rfl | ⟨b, o, rfl, h⟩
  · exact .inl rfl
  · refine .inr ⟨b, o, rfl, fun i x hi => ?_⟩
    rw [List.getElem?_map] at hi
    cases hx : xs[i]? with
    | none => rw [hx] at hi; cases hi
    | some n => rw [hx] at hi; cases hi; exact h i n hx
theorem VSl.f {v : Value} {xs : List Nat} {w : World} (h : VSl v (xs.map (.float .f64)) w) : FSl v xs w := by
  obtain ⟨A, c, rfl, hc, h⟩ := h
  refine ⟨A, c, by simp, by simpa using hc, ?_⟩
  rcases h with h | ⟨b, o, rfl, h⟩
  · exact .inl (by simpa using h)
  · exact .inr ⟨b, o, rfl, fun i x hi => h i _ (by rw [List.getElem?_map, hi]; rfl)⟩
theorem VOwn.grown {e : TypeId} {B : Nat} {v : Value} {xs : List Value} {w w' : World} {row : Option Nat} (h : VOwn e B v xs w) (hg : w.grownBy w' row) (hne : ∀ g, v.ownBlock = some g → some g ≠ row) : VOwn e B v xs w' := by
  refine ⟨h.1, ?_⟩
  rcases h.2 with h | ⟨g, cap, cur, rfl, hb, hh, hr⟩
  · exact .inl h
  · refine .inr ⟨g, cap, cur, rfl, hb, ?_, hr⟩
    rw [hg.block g ?_ (hne g rfl)]; exact hh
    rcases Nat.lt_or_ge g w.heap.size with hlt | hge
    · exact hlt
    · rw [Array.getElem?_eq_none hge] at hh; cases hh
theorem VOwn.ne {e e' : TypeId} {B B' : Nat} {v v' : Value} {xs xs' : List Value} {w : World} (h : VOwn e B v xs w) (h' : VOwn e' B' v' xs' w) (hne : e ≠ e') : ∀ g, v.ownBlock = some g → some g ≠ v'.ownBlock := by
  intro g hg he
  rcases h.2 with ⟨rfl, _⟩ | ⟨g1, cap, cur, rfl, _, hh, _⟩
  · simp [Value.ownBlock] at hg
  rcases h'.2 with ⟨rfl, _⟩ | ⟨g2, cap', cur', rfl, _, hh', _⟩
  · simp [Value.ownBlock] at he
  have e1 : g1 = g := by simpa [Value.ownBlock] using hg
  have e2 : g = g2 := by simpa [Value.ownBlock] using he
  subst e1; subst e2
  rw [hh] at hh'
  injection hh' with hh'
  injection hh' with _ ht
  exact hne ht
theorem VOwn.one {e : TypeId} {B : Nat} {v : Value} {xs : List Value} {w : World} (h : VOwn e B v xs w) : v.oneCell' = true := by
  rcases h.2 with ⟨rfl, _⟩ | ⟨g, cap, cur, rfl, _⟩ <;> rfl
theorem VOwn.lt {e : TypeId} {B : Nat} {v : Value} {xs : List Value} {w : World} (h : VOwn e B v xs w) : ∀ k, v.ownBlock = some k → B ≤ k := fun k hk => (World.ownsRow.lt h k hk).1
theorem VSl.one {w : World} {b : Nat} {u : Value} (h : w.cell? ⟨b, 0, none⟩ = some u) : VSl (.slice (some ⟨b, 0, none⟩) 1 1) [u] w :=
  ⟨_, _, rfl, Nat.le_refl _, .inr ⟨b, 0, rfl, fun i x hi => by
    match i, hi with
    | 0, hi => cases hi; exact h
    | i + 1, hi => simp at hi⟩⟩
/-- a row of floats of the call's own -/
def FOwn (e : TypeId) (B : Nat) (v : Value) (xs : List Nat) (w : World) : Prop := VOwn e B v (xs.map (.float .f64)) w
theorem FOwn.up {e : TypeId} {B : Nat} {v : Value} {xs : List Nat} : Up (FOwn e B v xs) := fun _ _ h hg => VOwn.up _ _ h hg
theorem FOwn.upX {e : TypeId} {B : Nat} {v : Value} {xs : List Nat} {S : Nat → Prop} {Y : (World → Prop) → Prop} (hS : ∀ k, S k → k < B) : UpR (GX S Y) (FOwn e B v xs) := fun _ _ h hg => VOwn.upX hS _ _ h hg
/-- a cell holds a row of floats of the call's own -/
def GotF (e : TypeId) (B : Nat) (p : Addr) (xs : List Nat) (w : World) : Prop := ∃ u, w.cell? p = some u ∧ VOwn e B u (xs.map (.float .f64)) w
theorem GotF.up {e : TypeId} {B : Nat} {p : Addr} {xs : List Nat} : Up (GotF e B p xs) := fun _ _ ⟨u, h1, h2⟩ hg => ⟨u, up_cell h1 hg, VOwn.up _ _ h2 hg⟩
theorem ups1 {X : World → Prop} (h : Up X) : ∀ Z, Z = X → Up Z := fun Z hZ => by rw [hZ]; exact h
theorem VOwn.isSl {e : TypeId} {B : Nat} {v : Value} {xs : List Value} {w : World} (h : VOwn e B v xs w) : ∃ A n c, v = .slice A n c := by
  rcases h.2 with ⟨rfl, _⟩ | ⟨g, cap, cur, rfl, _⟩
  · exact ⟨_, _, _, rfl⟩
  · exact ⟨_, _, _, rfl⟩
end Go
