import Derived.Test.YtemobphkgbhhhaaGrow
import Derived.Laws.Panics
import Derived.WalkKit
import Derived.WalkLawsBesides
import Derived.WalkSpells
namespace Go.Proofs.Ytemobphkgbhhhaa
open Go.ChangeShapes Go.RowKit Go.GrowR
set_option linter.unusedVariables false
set_option linter.unusedSimpArgs false
theorem boundsPanic_run {α : Type} {P : Program} {w : World} (k : IntKind) (x y : Int) (code : BoundsCode) :
    ∃ s w', (boundsPanic k x y code : Sem α).run P w = .halt (.panic (boundsValue P (IntKind.i64.wrap x) y s code.toNat)) w' ∧ Grow w w' := by
  unfold boundsPanic boundsValue
  split
  · simp [runtimePanic, goPanic, go_sem]
    by_cases h : (Question.extern "runtime.boundsError.signed" 2).cut (w.tape w.drawn (Question.extern "runtime.boundsError.signed" 2)) = 1
    · exact .inr ⟨_, ⟨h, rfl⟩, (Grow.refl w).drew⟩
    · exact .inl ⟨_, ⟨h, rfl⟩, (Grow.refl w).drew⟩
  · simp [runtimePanic, goPanic, go_sem]
    by_cases h : k = IntKind.u64
    · exact .inl ⟨_, ⟨h, rfl⟩, Grow.refl w⟩
    · exact .inr ⟨_, ⟨h, rfl⟩, Grow.refl w⟩
theorem indexAt_out {P : Program} (t : TypeId) (a0 : Option Addr) (len cap : Nat) (i : Int) (h : P.underlying t = some (.slice (P.elem t))) (hnil : a0 = none → len = 0) (ho : i < 0 ∨ (len : Int) ≤ i) (w : World) :
    ∃ s w', (Instr.indexAt t (.slice a0 len cap) (.int .i64 i)).run P w = .halt (.panic (boundsValue P (IntKind.i64.wrap i) len s 0)) w' ∧ Grow w w' := by
  cases a0 with
  | some a =>
    rw [run_indexAt_slice (h := h), if_neg (by omega)]
    exact boundsPanic_run .i64 i len .index
  | none =>
    obtain rfl := hnil rfl
    have e : (Instr.indexAt t (.slice none 0 cap) (.int .i64 i)).run P w = (boundsPanic .i64 i 0 .index).run P w := by
      simp [Instr.indexAt, run_underlying h, asIntOf]
    rw [e]
    exact boundsPanic_run .i64 i 0 .index
theorem indexAt_outs {P : Program} (t : TypeId) (a0 : Option Addr) (len cap : Nat) (i : Int) (h : P.underlying t = some (.slice (P.elem t))) (hnil : a0 = none → len = 0) (ho : i < 0 ∨ (len : Int) ≤ i) :
    ∃ (V : World → Value) (W : World → World), (∀ w, Grow w (W w)) ∧ (∀ w, ∃ v, V w = .iface P.rt.boundsError v) ∧ ∀ w, (Instr.indexAt t (.slice a0 len cap) (.int .i64 i)).run P w = .halt (.panic (V w)) (W w) :=
  ⟨fun w => boundsValue P (IntKind.i64.wrap i) len (Classical.choose (indexAt_out t a0 len cap i h hnil ho w)) 0, fun w => Classical.choose (Classical.choose_spec (indexAt_out t a0 len cap i h hnil ho w)),
   fun w => (Classical.choose_spec (Classical.choose_spec (indexAt_out t a0 len cap i h hnil ho w))).2, fun w => ⟨_, rfl⟩, fun w => (Classical.choose_spec (Classical.choose_spec (indexAt_out t a0 len cap i h hnil ho w))).1⟩
def Fell (w : World) (e : Ending) (w' : World) : Prop := ∃ t v, e = .panicked [{ v := .iface t v, recovered := false }] ∧ Grow w w'
theorem fell_mk {t : TypeId} {V : Value} {w w' : World} (hv : ∃ v, V = .iface t v) (hg : Grow w w') : Fell w (.panicked [{ v := V, recovered := false }]) w' := let ⟨v, h⟩ := hv; ⟨t, v, by rw [h], hg⟩
end Go.Proofs.Ytemobphkgbhhhaa
