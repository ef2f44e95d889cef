import Derived.Test.YtcpdhkbmfgphpaaKdA
import Derived.Test.YtcpdhkbmfgphpaaKdF
import Derived.Test.YtcpdhkbmfgphpaaKtP
import Derived.Test.YtcpdhkbmfgphpaaAppStep
import Derived.Deep.RegionHeld3
import Derived.Deep.DrawnRows
import Derived.Lib.Hide
namespace Go.Proofs.Ytcpdhkbmfgphpaa
open Go.ChangeShapes Go.WideShapes Go.ChangeAt Go.RowKit Go.GrowR
set_option linter.unusedVariables false
set_option linter.unusedSimpArgs false
/-! the closure of spec.Walk: the state in memory, and what becomes of it -/
abbrev intv (n : Int) : Value := .int .i64 n
def natv (n : Nat) : Value := .int .i64 n
/-- the two rows that grow -/
structure Rows2 (B : Nat) (V1 : Value) (xs : List Value) (V2 : Value) (ys : List Value) (w : World) : Prop where
  a : VOwn 3 B V1 xs w
  b : VOwn 3 B V2 ys w
  ne : ∀ g, V1.ownBlock = some g → V2.ownBlock ≠ some g
theorem own_ltH' {e : TypeId} {B : Nat} {v : Value} {xs : List Value} {w : World} (h : VOwn e B v xs w) : ∀ g, v.ownBlock = some g → B ≤ g ∧ g < w.heap.size := fun g hg => World.ownsRow.lt h g hg
theorem Rows2.up {B : Nat} {V1 : Value} {xs : List Value} {V2 : Value} {ys : List Value} : Up (Rows2 B V1 xs V2 ys) := fun _ _ h hg => ⟨VOwn.up _ _ h.a hg, VOwn.up _ _ h.b hg, h.ne⟩
theorem Rows2.app1 {B : Nat} {V1 : Value} {xs xs' : List Value} {V2 V1' : Value} {ys : List Value} {w w' : World} (h : Rows2 B V1 xs V2 ys w) (ho : VOwn 3 B V1' xs' w') (hg : w.grownBy w' V1.ownBlock) (hv : V1'.ownBlock = V1.ownBlock ∨ V1'.ownBlock = some w.heap.size) : Rows2 B V1' xs' V2 ys w' :=
  ⟨ho, h.b.grown hg fun g hg' e => h.ne g e.symm hg', fun g hg' e => by
    rcases hv with hv | hv
    · exact h.ne g (hv ▸ hg') e
    · rw [hv] at hg'; cases hg'
      have := (own_ltH' h.b _ e).2; omega⟩
theorem Rows2.app2 {B : Nat} {V1 : Value} {xs ys' : List Value} {V2 V2' : Value} {ys : List Value} {w w' : World} (h : Rows2 B V1 xs V2 ys w) (ho : VOwn 3 B V2' ys' w') (hg : w.grownBy w' V2.ownBlock) (hv : V2'.ownBlock = V2.ownBlock ∨ V2'.ownBlock = some w.heap.size) : Rows2 B V1 xs V2' ys' w' :=
  ⟨h.a.grown hg fun g hg' e => h.ne g hg' e.symm, ho, fun g hg' e => by
    rcases hv with hv | hv
    · exact h.ne g hg' (hv ▸ e)
    · rw [hv] at e; cases e
      have := (own_ltH' h.a _ hg').2; omega⟩
/-- on the way through the two appends: all below B is as it was; a cell T that is to be appended -/
structure AppS (B : Nat) (w : World) (V1 : Value) (xs : List Value) (V2 : Value) (ys : List Value) (T : List (Nat × Value)) (wr : World) : Prop where
  be : Below B w wr
  r : Rows2 B V1 xs V2 ys wr
  t : ∀ h v, (h, v) ∈ T → wr.cell? ⟨h, 0, none⟩ = some v ∧ V1.ownBlock ≠ some h ∧ V2.ownBlock ≠ some h
  bb : B ≤ w.heap.size
theorem AppS.drew {B : Nat} {w : World} {V1 : Value} {xs : List Value} {V2 : Value} {ys : List Value} {T : List (Nat × Value)} {wr : World} (h : AppS B w V1 xs V2 ys T wr) : AppS B w V1 xs V2 ys T wr.drew :=
  ⟨h.be.drew, Rows2.up _ _ h.r ((Grow.refl _).drew), fun k v hk => by obtain ⟨a, b, c⟩ := h.t k v hk; exact ⟨up_cell a ((Grow.refl _).drew), b, c⟩, h.bb⟩
theorem AppS.alloc {B : Nat} {w : World} {V1 : Value} {xs : List Value} {V2 : Value} {ys : List Value} {T : List (Nat × Value)} {wr : World} {x : Value} {t : TypeId} (h : AppS B w V1 xs V2 ys T wr) : AppS B w V1 xs V2 ys ((wr.heap.size, x) :: T) (wr.alloc (.cells #[x] t)) := by
  have hs := h.be.size
  have hbb := h.bb
  refine ⟨h.be.alloc (by omega) _, Rows2.up _ _ h.r ((Grow.refl _).alloc _), fun k v hk => ?_, h.bb⟩
  rcases List.mem_cons.1 hk with e | hk
  · cases e
    refine ⟨by simp [go_sem], fun e => ?_, fun e => ?_⟩
    · have := (own_ltH' h.r.a _ e).2; omega
    · have := (own_ltH' h.r.b _ e).2; omega
  · obtain ⟨a, b, c⟩ := h.t k v hk
    exact ⟨up_cell a ((Grow.refl _).alloc _), b, c⟩
theorem cell_lt' {w : World} {b o : Nat} {v : Value} (h : w.cell? ⟨b, o, none⟩ = some v) : b < w.heap.size := World.block_lt_of_cell? w _ h
theorem AppS.app1 {B : Nat} {w : World} {V1 : Value} {xs xs' : List Value} {V2 V1' : Value} {ys : List Value} {T : List (Nat × Value)} {wr w' : World} (h : AppS B w V1 xs V2 ys T wr) (ho : VOwn 3 B V1' xs' w') (hg : wr.grownBy w' V1.ownBlock) (hv : V1'.ownBlock = V1.ownBlock ∨ V1'.ownBlock = some wr.heap.size) : AppS B w V1' xs' V2 ys T w' := by
  have hb := h.bb
  have hs := h.be.size
  refine ⟨Below.trans h.be ⟨hg.os, hg.tape, hg.output, hg.size, fun k hk => hg.block k (by omega) fun e => by have := (own_ltH' h.r.a _ e.symm).1; omega⟩, h.r.app1 ho hg hv, fun k v hk => ?_, hb⟩
  obtain ⟨a, b, c⟩ := h.t k v hk
  have hl := cell_lt' a
  refine ⟨by rw [World.cell?_of_block (w := wr) (hg.block k hl (fun e => b e.symm))]; exact a, fun e => ?_, c⟩
  rcases hv with hv | hv
  · exact b (hv ▸ e)
  · rw [hv] at e; cases e; omega
theorem AppS.app2 {B : Nat} {w : World} {V1 : Value} {xs ys' : List Value} {V2 V2' : Value} {ys : List Value} {T : List (Nat × Value)} {wr w' : World} (h : AppS B w V1 xs V2 ys T wr) (ho : VOwn 3 B V2' ys' w') (hg : wr.grownBy w' V2.ownBlock) (hv : V2'.ownBlock = V2.ownBlock ∨ V2'.ownBlock = some wr.heap.size) : AppS B w V1 xs V2' ys' T w' := by
  have hb := h.bb
  have hs := h.be.size
  refine ⟨Below.trans h.be ⟨hg.os, hg.tape, hg.output, hg.size, fun k hk => hg.block k (by omega) fun e => by have := (own_ltH' h.r.b _ e.symm).1; omega⟩, h.r.app2 ho hg hv, fun k v hk => ?_, hb⟩
  obtain ⟨a, b, c⟩ := h.t k v hk
  have hl := cell_lt' a
  refine ⟨by rw [World.cell?_of_block (w := wr) (hg.block k hl (fun e => c e.symm))]; exact a, b, fun e => ?_⟩
  rcases hv with hv | hv
  · exact c (hv ▸ e)
  · rw [hv] at e; cases e; omega
section
variable {ops : Array Oper} {o : Oper} {a : Act} {W : World} {K : Act → World → Prop} {Q : Exit → Act → World → Prop} {E : Prop}
theorem step_app1 (B h : Nat) (hgd : o.guard = none) (s x : Operand) (t : TypeId) (ho : o.op = .call { callee := .builtin .append, args := #[s, x], argTypes := #[t, t] })
    {i : TypeInfo} (ht : Try.prog.underlying t = some (.slice 3)) (hi : Try.prog.info? 3 = some i) (hz : i.zero = some (.int .i64 0)) (hsize : i.size = 1) (hby : i.bytes = 8)
    {w : World} {V1 : Value} {xs : List Value} {V2 : Value} {ys : List Value} {T : List (Nat × Value)} {u : Int} (hs : a.eval s = V1) (hx : a.eval x = .slice (some ⟨h, 0, none⟩) 1 1) (HS : AppS B w V1 xs V2 ys T W) (hT : (h, intv u) ∈ T) (hl : xs.length ≤ 4294967296)
    (k : ∀ v' w', AppS B w v' (xs ++ [intv u]) V2 ys T w' → K (a.put o.dst v') w') : if Region.wanted o (yielded ops a.tmps) = true then Oper.wp Try.prog o a W K Q else E :=
  step_append_vsl hgd s x t ho B 3 i (.int .i64 0) 8 ht hi hz hsize hby rfl hs HS.r.a hx (VSl.one (HS.t _ _ hT).1) (by simp [Value.oneCell']) (by simp [maxLen]; omega) (by simp; omega) (Nat.le_trans HS.bb HS.be.size) fun v' w' h1 h2 h3 => k v' w' (HS.app1 h1 h2 h3)
theorem step_app2 (B h : Nat) (hgd : o.guard = none) (s x : Operand) (t : TypeId) (ho : o.op = .call { callee := .builtin .append, args := #[s, x], argTypes := #[t, t] })
    {i : TypeInfo} (ht : Try.prog.underlying t = some (.slice 3)) (hi : Try.prog.info? 3 = some i) (hz : i.zero = some (.int .i64 0)) (hsize : i.size = 1) (hby : i.bytes = 8)
    {w : World} {V1 : Value} {xs : List Value} {V2 : Value} {ys : List Value} {T : List (Nat × Value)} {u : Int} (hs : a.eval s = V2) (hx : a.eval x = .slice (some ⟨h, 0, none⟩) 1 1) (HS : AppS B w V1 xs V2 ys T W) (hT : (h, intv u) ∈ T) (hl : ys.length ≤ 4294967296)
    (k : ∀ v' w', AppS B w V1 xs v' (ys ++ [intv u]) T w' → K (a.put o.dst v') w') : if Region.wanted o (yielded ops a.tmps) = true then Oper.wp Try.prog o a W K Q else E :=
  step_append_vsl hgd s x t ho B 3 i (.int .i64 0) 8 ht hi hz hsize hby rfl hs HS.r.b hx (VSl.one (HS.t _ _ hT).1) (by simp [Value.oneCell']) (by simp [maxLen]; omega) (by simp; omega) (Nat.le_trans HS.bb HS.be.size) fun v' w' h1 h2 h3 => k v' w' (HS.app2 h1 h2 h3)
end
end Go.Proofs.Ytcpdhkbmfgphpaa
