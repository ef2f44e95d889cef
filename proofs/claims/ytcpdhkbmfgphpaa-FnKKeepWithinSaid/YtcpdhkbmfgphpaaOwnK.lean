import Derived.Test.YtcpdhkbmfgphpaaOwn
namespace Go
open Go.RowKit Go.GrowR
set_option linter.unusedVariables false
set_option linter.unusedSimpArgs false
/-! rows of the call's own whose elements are q cells each -/
/-- a row of n elements of q cells, behind block B -/
def KOwn (e : TypeId) (q B : Nat) (v : Value) (n : Nat) (xs : List Value) (w : World) : Prop := w.ownsRow B e q v n xs
section
variable {e : TypeId} {q B n : Nat} {v : Value} {xs : List Value}
theorem KOwn.nil {w : World} : KOwn e q B (.slice none 0 0) 0 [] w := World.ownsRow_nil _ _ _ _
theorem KOwn.len {w : World} (h : KOwn e q B v n xs w) : xs.length = n * q := h.1
theorem KOwn.up : Up (KOwn e q B v n xs) := fun w w' h hg => by
  refine ⟨h.1, ?_⟩
  rcases h.2 with h | ⟨g, cap, cur, rfl, hb, hh, hr⟩
  · exact .inl h
  · refine .inr ⟨g, cap, cur, rfl, hb, ?_, hr⟩
    rw [hg.block g]; exact hh
    rcases Nat.lt_or_ge g w.heap.size with hlt | hge
    · exact hlt
    · rw [Array.getElem?_eq_none hge] at hh; cases hh
theorem KOwn.upX {S : Nat → Prop} {Y : (World → Prop) → Prop} (hS : ∀ k, S k → k < B) : UpR (GX S Y) (KOwn e q B v n xs) := fun w w' h hg => by
  refine ⟨h.1, ?_⟩
  rcases h.2 with h | ⟨g, cap, cur, rfl, hb, hh, hr⟩
  · exact .inl h
  · refine .inr ⟨g, cap, cur, rfl, hb, ?_, hr⟩
    rw [hg.block g ?_ (fun hs => by have := hS g hs; omega)]; exact hh
    rcases Nat.lt_or_ge g w.heap.size with hlt | hge
    · exact hlt
    · rw [Array.getElem?_eq_none hge] at hh; cases hh
theorem KOwn.setCell {w : World} (h : KOwn e q B v n xs w) {p : Addr} (hp : p.block < B) (u : Value) : KOwn e q B v n xs (w.setCell p u) := by
  refine ⟨h.1, ?_⟩
  rcases h.2 with h | ⟨g, cap, cur, rfl, hb, hh, hr⟩
  · exact .inl h
  · refine .inr ⟨g, cap, cur, rfl, hb, ?_, hr⟩
    rw [Below.heap_setCell _ _ _ _ (by omega)]; exact hh
theorem KOwn.mono {B' : Nat} {w : World} (h : KOwn e q B v n xs w) (hB : B' ≤ B) : KOwn e q B' v n xs w := by
  refine ⟨h.1, ?_⟩
  rcases h.2 with h | ⟨g, cap, cur, rfl, hb, hr⟩
  · exact .inl h
  · exact .inr ⟨g, cap, cur, rfl, by omega, hr⟩
theorem KOwn.one {w : World} (h : KOwn e q B v n xs w) : v.oneCell' = true := by
  rcases h.2 with ⟨rfl, _⟩ | ⟨g, cap, cur, rfl, _⟩ <;> rfl
theorem KOwn.lt {w : World} (h : KOwn e q B v n xs w) : ∀ k, v.ownBlock = some k → B ≤ k := fun k hk => (World.ownsRow.lt h k hk).1
theorem KOwn.isSl {w : World} (h : KOwn e q B v n xs w) : ∃ A c, v = .slice A n c ∧ n ≤ c := by
  rcases h.2 with ⟨rfl, h0⟩ | ⟨g, cap, cur, rfl, _, _, hn, _⟩
  · subst h0; exact ⟨_, _, rfl, Nat.le_refl _⟩
  · exact ⟨_, _, rfl, hn⟩
theorem KOwn.grown {w w' : World} {row : Option Nat} (h : KOwn e q B v n xs w) (hg : w.grownBy w' row) (hne : ∀ g, v.ownBlock = some g → some g ≠ row) : KOwn e q B v n xs w' := by
  refine ⟨h.1, ?_⟩
  rcases h.2 with h | ⟨g, cap, cur, rfl, hb, hh, hr⟩
  · exact .inl h
  · refine .inr ⟨g, cap, cur, rfl, hb, ?_, hr⟩
    rw [hg.block g ?_ (hne g rfl)]; exact hh
    rcases Nat.lt_or_ge g w.heap.size with hlt | hge
    · exact hlt
    · rw [Array.getElem?_eq_none hge] at hh; cases hh
/-- the cells of such a row -/
theorem KOwn.cells {w : World} (h : KOwn e q B v n xs w) : ∃ A c, v = .slice A n c ∧ n ≤ c ∧ (n = 0 ∨ ∃ b, A = some ⟨b, 0, none⟩ ∧ ∀ i x, xs[i]? = some x → w.cell? ⟨b, i, none⟩ = some x) := by
  rcases h.2 with ⟨rfl, h0⟩ | ⟨g, cap, cur, rfl, hb, hh, hn, hm, hs, ht⟩
  · subst h0; exact ⟨_, _, rfl, Nat.le_refl _, .inl rfl⟩
  · refine ⟨_, _, rfl, hn, .inr ⟨g, rfl, fun i x hi => ?_⟩⟩
    rw [cell_of_row w g _ cur e (0, 0) hh]
    rw [← ht, List.getElem?_take] at hi
    split at hi
    · simpa using hi
    · cases hi
end
section
variable {P : Program} {w : World} {ops : Array Oper} {rest : List Oper} {o : Oper} {a : Act} {Q : Exit → Act → World → Prop}
/-- 'row = append(row, x)': one element of q cells, which stand at an address -/
theorem wpList_append_k (hgd : o.guard = none) (s x : Operand) (t : TypeId) (ho : o.op = .call { callee := .builtin .append, args := #[s, x], argTypes := #[t, t] })
    (B q : Nat) (e : TypeId) (i : TypeInfo) (z : Value) (bytes : Nat) (ht : P.underlying t = some (.slice e)) (hi : P.info? e = some i) (hz : i.zero = some z)
    (hsize : i.size = q) (hby : i.bytes = bytes) (hzs : z.cells.size = q) (hq : 0 < q) {v : Value} {n : Nat} {xs : List Value} (hs : a.eval s = v) (hown : KOwn e q B v n xs w) {ad : Addr} {m c : Nat} {ys : List Value} (hx : a.eval x = .slice (some ad) m c) (hl : ys.length = m * q)
    (hnews : ∀ j u, ys[j]? = some u → w.cell? (ad.add j) = some u) (h1 : ∀ x ∈ ys, x.oneCell' = true)
    (h63 : n + m ≤ maxLen) (hbytes : (n + m) * bytes ≤ 140737488355328) (hbase : B ≤ w.heap.size)
    (h : ∀ v' w', KOwn e q B v' (n + m) (xs ++ ys) w' → w.grownBy w' v.ownBlock → (v'.ownBlock = v.ownBlock ∨ v'.ownBlock = some w.heap.size) → wpList P ops Q rest (a.put o.dst v') w') : wpList P ops Q (o :: rest) a w := by
  refine wpList_plain hgd fun K hK => ?_
  obtain ⟨v', w', hr, h2, h3, _, h4⟩ := run_append_own_at (P := P) w B t o.type e i z q bytes ht hi hz hsize hby hzs hq v n xs hown ad m c ys hl hnews h1 h63 hbytes hbase
  unfold Oper.wp execOp
  simp only [ho, resolve, invoke, builtin, Sem.run_bind, Sem.run_pure, Result.andThen_ok, List.map_toArray, List.map_cons, List.map_nil, hs, hx, hr]
  exact hK _ _ (h v' w' h2 h3 h4)
end
end Go
