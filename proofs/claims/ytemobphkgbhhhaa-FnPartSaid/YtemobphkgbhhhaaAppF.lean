import Derived.Test.YtemobphkgbhhhaaStabA
import Derived.Test.YtemobphkgbhhhaaSl
import Derived.Test.YtemobphkgbhhhaaGoodA
namespace Go.Proofs.Ytemobphkgbhhhaa
open Go.RowKit Go.GrowR
set_option linter.unusedVariables false
set_option linter.unusedSimpArgs false
/-! 'append([]T{}, xs...)': to a new row without room; a cut out of a slice -/
theorem run_append_fresh {P : Program} {w : World} (t ty e : TypeId) (i : TypeInfo) (z : Value) (bytes : Nat) (ht : P.underlying t = some (.slice e)) (hi : P.info? e = some i) (hz : i.zero = some z)
    (hsize : i.size = 1) (hby : i.bytes = bytes) (hzs : z.cells.size = 1) (h : Nat) {u : Value} {ys : List Value} (hsl : VSl u ys w)
    (h63 : ys.length ≤ 17592186044416) (hbytes : ys.length * bytes ≤ 140737488355328) :
    ∃ v' w', (Builtin.append_ #[t, t] ty #[.slice (some ⟨h, 0, none⟩) 0 0, u]).run P w = .ok v' w' ∧ Grow w w' ∧ Stab w.heap.size w'.heap.size (VSl v' ys) w' := by
  obtain ⟨A, c, rfl, hc, hA⟩ := hsl
  by_cases h0 : ys = []
  · subst h0
    refine ⟨.slice (some ⟨h, 0, none⟩) 0 0, w, ?_, Grow.refl w, fun w2 _ => ⟨_, _, rfl, Nat.le_refl _, .inl rfl⟩⟩
    cases A with
    | none => simp [Builtin.append_, run_underlying ht, sizeOf, typeInfo, hi, Builtin.lenOf, Builtin.firstCells, storeCells]
    | some a => simp [Builtin.append_, run_underlying ht, sizeOf, typeInfo, hi, Builtin.lenOf, Builtin.firstCells, storeCells, loadCells, loadCellsFrom]
  · rcases hA with hA | ⟨b, o, rfl, hx⟩
    · exact absurd hA h0
    have hpos : 0 < ys.length := List.length_pos_iff.2 h0
    have hr := run_append_grow (P := P) w t ty e i z ht hi hz ⟨h, 0, none⟩ 0 0 [] (by simp) (by simp) ⟨b, o, none⟩ ys.length c ys (by rw [hsize, Nat.mul_one]) (fun j v hj => by rw [addr_add]; exact hx j v hj) (by omega) (by omega) (by rw [hby]; exact growslice_fits (by omega) (by simpa using hbytes))
    refine ⟨_, _, hr, ((Grow.refl w).drew).alloc _, fun w2 hw => ?_⟩
    have hb := hw w.heap.size (Nat.le_refl _) (by simp)
    have hge := grownCap_ge w (0 + ys.length) 0 e
    refine ⟨some ⟨w.heap.size, 0, none⟩, _, by rw [Nat.zero_add], by simpa using hge, .inr ⟨w.heap.size, 0, rfl, fun j x hj => ?_⟩⟩
    have hnew : (w.drew.alloc (.cells ([].toArray ++ ys.toArray ++ Builtin.zeroCells z.cells (grownCap w (0 + ys.length) 0 e - (0 + ys.length))) e)).heap[w.heap.size]? = some (.cells ([].toArray ++ ys.toArray ++ Builtin.zeroCells z.cells (grownCap w (0 + ys.length) 0 e - (0 + ys.length))) e (0, 0)) := heap_alloc_new w.drew _
    rw [Nat.zero_add, cell_of_row w2 w.heap.size j _ e (0, 0) (hb.trans hnew)]
    have hjl : j < ys.length := (List.getElem?_eq_some_iff.1 hj).1
    simp [Array.getElem?_append, hjl]
    exact (List.getElem?_eq_some_iff.1 hj).2
section
variable {P : Program} {w : World} {ops : Array Oper} {rest : List Oper} {o : Oper} {a : Act} {Q : Exit → Act → World → Prop}
theorem wpList_append_fresh (hgd : o.guard = none) (s x : Operand) (t : TypeId) (ho : o.op = .call { callee := .builtin .append, args := #[s, x], argTypes := #[t, t] })
    (e : TypeId) (i : TypeInfo) (z : Value) (bytes : Nat) (ht : P.underlying t = some (.slice e)) (hi : P.info? e = some i) (hz : i.zero = some z)
    (hsize : i.size = 1) (hby : i.bytes = bytes) (hzs : z.cells.size = 1) (hb : Nat) (hs : a.eval s = .slice (some ⟨hb, 0, none⟩) 0 0) {u : Value} {ys : List Value} (hx : a.eval x = u) (hsl : VSl u ys w)
    (h63 : ys.length ≤ 17592186044416) (hbytes : ys.length * bytes ≤ 140737488355328)
    (h : ∀ v' w', Grow w w' → Stab w.heap.size w'.heap.size (VSl v' ys) w' → wpList P ops Q rest (a.put o.dst v') w') : wpList P ops Q (o :: rest) a w := by
  refine wpList_plain hgd fun K hK => ?_
  obtain ⟨v', w', hr, h2, h3⟩ := run_append_fresh (P := P) t o.type e i z bytes ht hi hz hsize hby hzs hb hsl h63 hbytes
  unfold Oper.wp execOp
  simp only [ho, resolve, invoke, builtin, Sem.run_bind, Sem.run_pure, Result.andThen_ok, List.map_toArray, List.map_cons, List.map_nil, hs, hx, hr]
  exact hK _ _ (h v' w' h2 h3)
end
/-- a cut out of a slice of floats, whatever its room -/
theorem fcut {P : Program} {t e : TypeId} {i : TypeInfo} (ht : P.underlying t = some (.slice e)) (hi : P.info? e = some i) (hs : i.size = 1) {A : Option Addr} {n c : Nat} {X M Z : List Nat} {w : World} (h : FSl (.slice A n c) (X ++ M ++ Z) w) :
    ∃ A' c', FSl (.slice A' M.length c') M w ∧ ∀ (w' : World) (kl kh : IntKind) (y : Int), y = (X.length : Int) + M.length → (Instr.slice t (.slice A n c) (some (.int kl X.length)) (some (.int kh y)) none).run P w' = .ok (.slice A' M.length c') w' := by
  obtain ⟨A0, c0, he, hc, hA⟩ := h
  simp only [Value.slice.injEq] at he
  obtain ⟨rfl, rfl, rfl⟩ := he
  have hl : (X ++ M ++ Z).length = X.length + M.length + Z.length := by simp only [List.length_append]
  have ht' : P.underlying t = some (.slice (P.elem t)) := by unfold Program.elem; rw [ht]
  have hel : P.elem t = e := by unfold Program.elem; rw [ht]
  have hrun : ∀ (w' : World) (kl kh : IntKind) (y : Int), y = (X.length : Int) + M.length → (Instr.slice t (.slice A (X ++ M ++ Z).length c) (some (.int kl X.length)) (some (.int kh y)) none).run P w' = .ok (.slice (if c = X.length then A else A.map (·.add X.length)) M.length (c - X.length)) w' := fun w' kl kh y hy => by
    subst hy
    rw [run_slice_lh (P := P) w' t A _ c ht' kl kh _ _ (by omega) (by omega) (by omega)]
    have h1 : ((X.length : Int) + M.length).toNat = X.length + M.length := by omega
    simp [hel, sizeOf, typeInfo, hi, hs, sliced, h1]
  refine ⟨_, _, ?_, hrun⟩
  refine ⟨_, _, rfl, by omega, ?_⟩
  by_cases hM : M = []
  · exact .inl hM
  · have hMp : 0 < M.length := List.length_pos_iff.2 hM
    rcases hA with h0 | ⟨b, o, rfl, hx⟩
    · have := congrArg List.length h0; rw [hl, List.length_nil] at this; omega
    · refine .inr ⟨b, o + X.length, ?_, fun j x hj => ?_⟩
      · rw [if_neg (by omega)]; simp [addr_add]
      · have := hx (X.length + j) x (by rw [List.append_assoc, List.getElem?_append_right (by omega), List.getElem?_append_left (by have := (List.getElem?_eq_some_iff.1 hj).1; omega), ← hj]; congr 1; omega)
        rwa [Nat.add_assoc]
end Go.Proofs.Ytemobphkgbhhhaa
