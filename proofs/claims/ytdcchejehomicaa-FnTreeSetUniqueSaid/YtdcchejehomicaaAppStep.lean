import Derived.Test.YtdcchejehomicaaOwn
import Derived.Deep.RegionLaw
namespace Go
open Go.RowKit Go.GrowR
set_option linter.unusedVariables false
set_option linter.unusedSimpArgs false
/-- append to a row of the call's own, as one step of a region that draws -/
theorem step_append_vsl {P : Program} {ops : Array Oper} {o : Oper} {a : Act} {w : World} {K : Act → World → Prop} {Q : Exit → Act → World → Prop} {E : Prop} (hgd : o.guard = none) (s x : Operand) (t : TypeId)
    (ho : o.op = .call { callee := .builtin .append, args := #[s, x], argTypes := #[t, t] })
    (B : Nat) (e : TypeId) (i : TypeInfo) (z : Value) (bytes : Nat) (ht : P.underlying t = some (.slice e)) (hi : P.info? e = some i) (hz : i.zero = some z)
    (hsize : i.size = 1) (hby : i.bytes = bytes) (hzs : z.cells.size = 1) {v : Value} {xs : List Value} (hs : a.eval s = v) (hown : VOwn e B v xs w) {u : Value} {ys : List Value} (hx : a.eval x = u) (hsl : VSl u ys w) (h1 : ∀ x ∈ ys, x.oneCell' = true)
    (h63 : xs.length + ys.length ≤ maxLen) (hbytes : (xs.length + ys.length) * bytes ≤ 140737488355328) (hbase : B ≤ w.heap.size)
    (h : ∀ v' w', VOwn e B v' (xs ++ ys) w' → w.grownBy w' v.ownBlock → (v'.ownBlock = v.ownBlock ∨ v'.ownBlock = some w.heap.size) → K (a.put o.dst v') w') :
    if Region.wanted o (yielded ops a.tmps) = true then Oper.wp P o a w K Q else E := by
  have hw : Region.wanted o (yielded ops a.tmps) = true := by simp [Region.wanted, hgd]
  rw [if_pos hw]
  obtain ⟨v', w', hr, h2, h3, h4⟩ := run_append_vsl (P := P) B t o.type e i z bytes ht hi hz hsize hby hzs hown hsl h1 h63 hbytes hbase
  unfold Oper.wp execOp
  simp only [ho, resolve, invoke, builtin, Sem.run_bind, Sem.run_pure, Result.andThen_ok, List.map_toArray, List.map_cons, List.map_nil, hs, hx, hr, Oper.upon]
  exact h v' w' h2 h3 h4
end Go
