import Derived.Test.YtemobphkgbhhhaaArrA
import Derived.Test.YtemobphkgbhhhaaSegB
import Derived.Laws.CopyOwn
import Derived.Deep.OwnRows
namespace Go.Proofs.Ytemobphkgbhhhaa
open Go.ChangeShapes Go.WideShapes Go.ChangeAt Go.RowKit Go.GrowR
set_option linter.unusedVariables false
set_option linter.unusedSimpArgs false

theorem wrapM {n : Int} (h0 : 0 ≤ n) (h1 : n ≤ 1099511627776000) : IntKind.i64.wrap n = n := IntWalk.i64_in _ (by omega)
/-- what a function makes: a value of which something is known that hangs on the call's own blocks *)-/
def MQ (E : Value → World → Prop) (w : World) (e : Ending) (w' : World) : Prop := ∃ v, e = .returned v ∧ Grow w w' ∧ Stab w.heap.size w'.heap.size (E v) w'
abbrev L1 (rows : List (List Nat)) (v : Value) (w : World) : Prop := SlE (fun xs u w => FSl u xs w) v rows w
abbrev L2 (segs : List (List (List Nat))) (v : Value) (w : World) : Prop := SlE (fun rows u w => L1 rows u w) v segs w
abbrev L3 (segss : List (List (List (List Nat)))) (v : Value) (w : World) : Prop := SlE (fun segs u w => L2 segs u w) v segss w
theorem L1.form {rows : List (List Nat)} {v : Value} {w : World} (h : L1 rows v w) : ∃ A c, v = .slice A rows.length c := let ⟨A, c, h1, _⟩ := SlE.form h; ⟨A, c, h1⟩
theorem infoR0 : (Try.prog.info? 36).map (fun i => (i.zero, i.size, i.bytes)) = some (some (.float .f64 0), 1, 8) := by kernel_rfl
theorem undR0 : Try.prog.underlying 22 = some (.slice 36) := by kernel_rfl
theorem arr_start {w : World} {n : Nat} {F : Nat → Value → World → Prop} (e : TypeId) (z : Value) : Arr w w.heap.size n 0 F (w.alloc (.cells (madeCells #[z] n) e)) := by
  refine ⟨Nat.le_refl _, fun k hk => ⟨z, ?_⟩, fun o => by go_simp, (Grow.refl w).alloc _, fun i hi => by omega⟩
  rw [cell_of_row _ _ _ _ _ _ (heap_alloc_new w _)]
  have h1 : k % 1 = 0 := Nat.mod_one k
  simp [madeCells, hk, h1]
/-- the ends' cells, that are read alone -/
def EndR (E : Option Addr) (en : List Nat) (w : World) : Prop := en = [] ∨ ∃ b o, E = some ⟨b, o, none⟩ ∧ ∀ (i x : Nat), en[i]? = some x → w.cell? ⟨b, o + i, none⟩ = some (.int .i64 x)
theorem EndR.up {E : Option Addr} {en : List Nat} : Up (EndR E en) := fun _ _ h hg => h.imp id fun ⟨b, o, h1, h3⟩ => ⟨b, o, h1, fun i x hi => up_cell (h3 i x hi) hg⟩
theorem EndR.of {A : Option Addr} {n c : Nat} {ns : List Nat} {w : World} (h : ISl (.slice A n c) (ns.map Int.ofNat) w) : n = ns.length ∧ EndR A ns w := by
  obtain ⟨A', c', he, hc, hx⟩ := SlE.form h
  simp only [Value.slice.injEq, List.length_map] at he
  obtain ⟨rfl, rfl, rfl⟩ := he
  refine ⟨rfl, ?_⟩
  rcases hx with h0 | ⟨b, o, rfl, hx⟩
  · exact .inl (by simpa using h0)
  · exact .inr ⟨b, o, rfl, fun i x hi => by
      obtain ⟨u, h1, h2⟩ := hx i (Int.ofNat x) (by rw [List.getElem?_map, hi]; rfl)
      rw [h1, h2]; rfl⟩
theorem seg_flat {segs : List (List (List Nat))} {q : Nat} {rows : List (List Nat)} (h : segs[q]? = some rows) : fwd segs = fwd (segs.take q) ++ rows.flatten ++ fwd (segs.drop (q + 1)) := by
  have h1 := seg_split h
  conv => lhs; rw [← List.take_append_drop q segs, h1]
  rw [fwd_append]; simp [fwd]
def EndRR (E : Option Addr) (ens : List (List Nat)) (w : World) : Prop := ens = [] ∨ ∃ b o, E = some ⟨b, o, none⟩ ∧ ∀ (i : Nat) (l : List Nat), ens[i]? = some l → ∃ A c, w.cell? ⟨b, o + i, none⟩ = some (.slice A l.length c) ∧ EndR A l w
theorem EndRR.up {E : Option Addr} {ens : List (List Nat)} : Up (EndRR E ens) := fun _ _ h hg => h.imp id fun ⟨b, o, h1, h3⟩ => ⟨b, o, h1, fun i l hi => let ⟨A, c, h4, h5⟩ := h3 i l hi; ⟨A, c, up_cell h4 hg, EndR.up _ _ h5 hg⟩⟩
theorem EndRR.of {A : Option Addr} {n c : Nat} {nss : List (List Nat)} {w : World} (h : ISSl (.slice A n c) (nss.map (·.map Int.ofNat)) w) : n = nss.length ∧ EndRR A nss w := by
  obtain ⟨A', c', he, hc, hx⟩ := SlE.form h
  simp only [Value.slice.injEq, List.length_map] at he
  obtain ⟨rfl, rfl, rfl⟩ := he
  refine ⟨rfl, ?_⟩
  rcases hx with h0 | ⟨b, o, rfl, hx⟩
  · exact .inl (by simpa using h0)
  · exact .inr ⟨b, o, rfl, fun i l hi => by
      obtain ⟨u, h1, h2⟩ := hx i (l.map Int.ofNat) (by rw [List.getElem?_map, hi]; rfl)
      obtain ⟨A2, c2, rfl, -, -⟩ := SlE.form h2
      obtain ⟨h3, h4⟩ := EndR.of h2
      rw [h3] at h1
      exact ⟨A2, c2, h1, h4⟩⟩
theorem L2.form {segs : List (List (List Nat))} {v : Value} {w : World} (h : L2 segs v w) : ∃ A c, v = .slice A segs.length c := let ⟨A, c, h1, _⟩ := SlE.form h; ⟨A, c, h1⟩
theorem L3.form {segss : List (List (List (List Nat)))} {v : Value} {w : World} (h : L3 segss v w) : ∃ A c, v = .slice A segss.length c := let ⟨A, c, h1, _⟩ := SlE.form h; ⟨A, c, h1⟩
end Go.Proofs.Ytemobphkgbhhhaa
