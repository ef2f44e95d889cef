import Derived.Test.YtincapjbhbmeiaaRows
import Derived.Test.YtincapjbhbmeiaaRow
import Derived.Defers
import Derived.Recover
import Derived.BigQuiet
import Derived.Deep.QuietTactic
import Derived.WalkKit
import Derived.WalkLawsBesides
import Derived.WalkSpells
import Derived.ProofKit
import Derived.Lib.Hide
import Derived.Laws.Panics
namespace Go.Proofs.Ytincapjbhbmeiaa
open Go.ChangeShapes Go.WideShapes Go.ChangeAt Go.RowKit Go.GrowR
set_option linter.unusedVariables false
set_option linter.unusedSimpArgs false
theorem boundsPanic_run {α : Type} {P : Program} {w : World} (k : IntKind) (x y : Int) (code : BoundsCode) :
    ∃ s w', (boundsPanic k x y code : Sem α).run P w = .halt (.panic (boundsValue P (IntKind.i64.wrap x) y s code.toNat)) w' ∧ Grow w w' := by
  unfold boundsPanic boundsValue
  split
  · simp [runtimePanic, goPanic, go_sem]
    by_cases h : (Question.extern "runtime.boundsError.signed" 2).cut (w.tape w.drawn (Question.extern "runtime.boundsError.signed" 2)) = 1
    · exact .inr ⟨_, ⟨h, rfl⟩, (Grow.refl w).drew⟩
    · exact .inl ⟨_, ⟨h, rfl⟩, (Grow.refl w).drew⟩
  · simp [runtimePanic, goPanic, go_sem]
    by_cases h : k = IntKind.u64
    · exact .inl ⟨_, ⟨h, rfl⟩, Grow.refl w⟩
    · exact .inr ⟨_, ⟨h, rfl⟩, Grow.refl w⟩
theorem indexAt_out {P : Program} (t : TypeId) (a0 : Option Addr) (len cap : Nat) (i : Int) (h : P.underlying t = some (.slice (P.elem t))) (hnil : a0 = none → len = 0) (ho : i < 0 ∨ (len : Int) ≤ i) (w : World) :
    ∃ s w', (Instr.indexAt t (.slice a0 len cap) (.int .i64 i)).run P w = .halt (.panic (boundsValue P (IntKind.i64.wrap i) len s 0)) w' ∧ Grow w w' := by
  cases a0 with
  | some a =>
    rw [run_indexAt_slice (h := h), if_neg (by omega)]
    exact boundsPanic_run .i64 i len .index
  | none =>
    obtain rfl := hnil rfl
    have e : (Instr.indexAt t (.slice none 0 cap) (.int .i64 i)).run P w = (boundsPanic .i64 i 0 .index).run P w := by
      simp [Instr.indexAt, run_underlying h, asIntOf]
    rw [e]
    exact boundsPanic_run .i64 i 0 .index
theorem indexAt_outs {P : Program} (t : TypeId) (a0 : Option Addr) (len cap : Nat) (i : Int) (h : P.underlying t = some (.slice (P.elem t))) (hnil : a0 = none → len = 0) (ho : i < 0 ∨ (len : Int) ≤ i) :
    ∃ (V : World → Value) (W : World → World), (∀ w, Grow w (W w)) ∧ (∀ w, ∃ v, V w = .iface P.rt.boundsError v) ∧ ∀ w, (Instr.indexAt t (.slice a0 len cap) (.int .i64 i)).run P w = .halt (.panic (V w)) (W w) :=
  ⟨fun w => boundsValue P (IntKind.i64.wrap i) len (Classical.choose (indexAt_out t a0 len cap i h hnil ho w)) 0, fun w => Classical.choose (Classical.choose_spec (indexAt_out t a0 len cap i h hnil ho w)),
   fun w => (Classical.choose_spec (Classical.choose_spec (indexAt_out t a0 len cap i h hnil ho w))).2, fun w => ⟨_, rfl⟩, fun w => (Classical.choose_spec (Classical.choose_spec (indexAt_out t a0 len cap i h hnil ho w))).1⟩
abbrev eqB (x y : Nat) : Bool := FloatKind.f64.format.order x y == some .eq
def Fell (w : World) (e : Ending) (w' : World) : Prop := ∃ t v, e = .panicked [{ v := .iface t v, recovered := false }] ∧ Grow w w'
theorem fell_mk {t : TypeId} {V : Value} {w w' : World} (hv : ∃ v, V = .iface t v) (hg : Grow w w') : Fell w (.panicked [{ v := V, recovered := false }]) w' := let ⟨v, h⟩ := hv; ⟨t, v, by rw [h], hg⟩
theorem undF : Try.prog.underlying 46 = some (.slice (Try.prog.elem 46)) := by kernel_rfl
set_option maxHeartbeats 1000000 in
theorem equal_out1 (A B : Option Addr) (n c m d : Nat) (i j : Int) (w : World) (hA : A = none → n = 0) (hB : B = none → m = 0) (hi : i < 0 ∨ (n : Int) ≤ i) (hj : j < 0 ∨ (m : Int) ≤ j) :
    Calls Try.prog 67 #[.slice A n c, .int .i64 i, .slice B m d, .int .i64 j] w (Fell w) := by
  obtain ⟨V1, W1, hg1, hv1, hr1⟩ := indexAt_outs (P := Try.prog) 46 A n c i undF hA hi
  obtain ⟨V2, W2, hg2, hv2, hr2⟩ := indexAt_outs (P := Try.prog) 46 B m d j undF hB hj
  clear hi hj
  go_enter Try.func67, Try.ntmps67
  go_wp2
  refine wp_region_any (by kernel_rfl) ?_
  change wpAny _ _ _ _ _ _ _ (World.drew _)
  refine wpAny_take (i := 0) (v := ?_) rfl (by kernel_rfl) (by kernel_rfl) (by kernel_rfl) (fun _ _ _ h => h) (Or.inl ⟨by rfl, fun w => ?_⟩) ?_
  rotate_left
  · go_simp <;> rfl
  refine wpAny_take (i := 1) (v := ?_) rfl (by kernel_rfl) (by kernel_rfl) (by kernel_rfl) (fun _ _ _ h => h) (Or.inl ⟨by rfl, fun w => ?_⟩) ?_
  rotate_left
  · go_simp <;> rfl
  refine wpAny_take (i := 4) (v := ?_) rfl (by kernel_rfl) (by kernel_rfl) (by kernel_rfl) (fun _ _ _ h => h) (Or.inl ⟨by rfl, fun w => ?_⟩) ?_
  rotate_left
  · go_simp <;> rfl
  refine wpAny_take (i := 5) (v := ?_) rfl (by kernel_rfl) (by kernel_rfl) (by kernel_rfl) (fun _ _ _ h => h) (Or.inl ⟨by rfl, fun w => ?_⟩) ?_
  rotate_left
  · go_simp <;> rfl
  refine wpAny_ready (rs := [2, 6]) (by kernel_rfl) (by simp) ?_
  refine AllReady.cons rfl (fun K hK => ?_) ?_
  · go_simp
    exact ⟨rfl, fell_mk (hv1 _) (((Grow.refl w).drew).trans (hg1 _))⟩
  refine AllReady.cons rfl (fun K hK => ?_) ?_
  · go_simp
    exact ⟨rfl, fell_mk (hv2 _) (((Grow.refl w).drew).trans (hg2 _))⟩
  exact AllReady.nil
set_option maxHeartbeats 1000000 in
theorem equal_out2 (A : Option Addr) (b o n c m d k y : Nat) (i : Int) (w : World) (hA : A = none → n = 0) (hi : i < 0 ∨ (n : Int) ≤ i) (hj : k < m) (hy : w.cell? ⟨b, o + k, none⟩ = some (.float .f64 y)) :
    Calls Try.prog 67 #[.slice A n c, .int .i64 i, .slice (some ⟨b, o, none⟩) m d, .int .i64 k] w (Fell w) := by
  obtain ⟨V1, W1, hg1, hv1, hr1⟩ := indexAt_outs (P := Try.prog) 46 A n c i undF hA hi
  clear hi
  go_enter Try.func67, Try.ntmps67
  go_wp2
  refine wp_region_any (by kernel_rfl) ?_
  change wpAny _ _ _ _ _ _ _ (World.drew _)
  refine wpAny_take (i := 0) (v := ?_) rfl (by kernel_rfl) (by kernel_rfl) (by kernel_rfl) (fun _ _ _ h => h) (Or.inl ⟨by rfl, fun w => ?_⟩) ?_
  rotate_left
  · go_simp <;> rfl
  refine wpAny_take (i := 1) (v := ?_) rfl (by kernel_rfl) (by kernel_rfl) (by kernel_rfl) (fun _ _ _ h => h) (Or.inl ⟨by rfl, fun w => ?_⟩) ?_
  rotate_left
  · go_simp <;> rfl
  refine wpAny_take (i := 4) (v := ?_) rfl (by kernel_rfl) (by kernel_rfl) (by kernel_rfl) (fun _ _ _ h => h) (Or.inl ⟨by rfl, fun w => ?_⟩) ?_
  rotate_left
  · go_simp <;> rfl
  refine wpAny_take (i := 5) (v := ?_) rfl (by kernel_rfl) (by kernel_rfl) (by kernel_rfl) (fun _ _ _ h => h) (Or.inl ⟨by rfl, fun w => ?_⟩) ?_
  rotate_left
  · go_simp <;> rfl
  refine wpAny_take (i := 6) (v := ?_) rfl (by kernel_rfl) (by kernel_rfl) (by kernel_rfl) (fun _ _ _ h => h) (Or.inl ⟨by rfl, fun w => ?_⟩) ?_
  rotate_left
  · go_simp <;> rfl
  refine wpAny_ready (rs := [2, 7]) (by kernel_rfl) (by simp) ?_
  refine AllReady.cons rfl (fun K hK => ?_) ?_
  · go_simp
    exact ⟨rfl, fell_mk (hv1 _) (((Grow.refl w).drew).trans (hg1 _))⟩
  refine AllReady.cons rfl (fun K hK => ?_) ?_
  · go_simp
    refine hK _ _ ?_
    clear hK K
    refine wpAny_ready (rs := [2]) (by kernel_rfl) (by simp) ?_
    refine AllReady.cons rfl (fun K hK => ?_) ?_
    · go_simp
      exact ⟨rfl, fell_mk (hv1 _) (((Grow.refl w).drew).trans (hg1 _))⟩
    exact AllReady.nil
  exact AllReady.nil
set_option maxHeartbeats 1000000 in
theorem equal_out3 (B : Option Addr) (b o n c m d k x : Nat) (j : Int) (w : World) (hB : B = none → m = 0) (hj : j < 0 ∨ (m : Int) ≤ j) (hi : k < n) (hx : w.cell? ⟨b, o + k, none⟩ = some (.float .f64 x)) :
    Calls Try.prog 67 #[.slice (some ⟨b, o, none⟩) n c, .int .i64 k, .slice B m d, .int .i64 j] w (Fell w) := by
  obtain ⟨V2, W2, hg2, hv2, hr2⟩ := indexAt_outs (P := Try.prog) 46 B m d j undF hB hj
  clear hj
  go_enter Try.func67, Try.ntmps67
  go_wp2
  refine wp_region_any (by kernel_rfl) ?_
  change wpAny _ _ _ _ _ _ _ (World.drew _)
  refine wpAny_take (i := 0) (v := ?_) rfl (by kernel_rfl) (by kernel_rfl) (by kernel_rfl) (fun _ _ _ h => h) (Or.inl ⟨by rfl, fun w => ?_⟩) ?_
  rotate_left
  · go_simp <;> rfl
  refine wpAny_take (i := 1) (v := ?_) rfl (by kernel_rfl) (by kernel_rfl) (by kernel_rfl) (fun _ _ _ h => h) (Or.inl ⟨by rfl, fun w => ?_⟩) ?_
  rotate_left
  · go_simp <;> rfl
  refine wpAny_take (i := 4) (v := ?_) rfl (by kernel_rfl) (by kernel_rfl) (by kernel_rfl) (fun _ _ _ h => h) (Or.inl ⟨by rfl, fun w => ?_⟩) ?_
  rotate_left
  · go_simp <;> rfl
  refine wpAny_take (i := 5) (v := ?_) rfl (by kernel_rfl) (by kernel_rfl) (by kernel_rfl) (fun _ _ _ h => h) (Or.inl ⟨by rfl, fun w => ?_⟩) ?_
  rotate_left
  · go_simp <;> rfl
  refine wpAny_take (i := 2) (v := ?_) rfl (by kernel_rfl) (by kernel_rfl) (by kernel_rfl) (fun _ _ _ h => h) (Or.inl ⟨by rfl, fun w => ?_⟩) ?_
  rotate_left
  · go_simp <;> rfl
  refine wpAny_ready (rs := [3, 6]) (by kernel_rfl) (by simp) ?_
  refine AllReady.cons rfl (fun K hK => ?_) ?_
  · go_simp
    refine hK _ _ ?_
    clear hK K
    refine wpAny_ready (rs := [6]) (by kernel_rfl) (by simp) ?_
    refine AllReady.cons rfl (fun K hK => ?_) ?_
    · go_simp
      exact ⟨rfl, fell_mk (hv2 _) (((Grow.refl w).drew).trans (hg2 _))⟩
    exact AllReady.nil
  refine AllReady.cons rfl (fun K hK => ?_) ?_
  · go_simp
    exact ⟨rfl, fell_mk (hv2 _) (((Grow.refl w).drew).trans (hg2 _))⟩
  exact AllReady.nil
def Told (r : Bool) (w : World) (e : Ending) (w' : World) : Prop := e = .returned (.bool r) ∧ Grow w w'
set_option maxHeartbeats 1000000 in
theorem equal_in (b1 o1 n c b2 o2 m d i j x y x1 y1 : Nat) (w : World) (hi : i + 1 < n) (hj : j + 1 < m) (hn : n ≤ 2147483647) (hm : m ≤ 2147483647) (hx : w.cell? ⟨b1, o1 + i, none⟩ = some (.float .f64 x)) (hy : w.cell? ⟨b2, o2 + j, none⟩ = some (.float .f64 y))
    (hx1 : w.cell? ⟨b1, o1 + (i + 1), none⟩ = some (.float .f64 x1)) (hy1 : w.cell? ⟨b2, o2 + (j + 1), none⟩ = some (.float .f64 y1)) :
    Calls Try.prog 67 #[.slice (some ⟨b1, o1, none⟩) n c, .int .i64 i, .slice (some ⟨b2, o2, none⟩) m d, .int .i64 j] w (Told (eqB x y && eqB x1 y1) w) := by
  have i0 : (0 : Int) ≤ (i : Int) := by omega
  have i1 : (i : Int) < (n : Int) := by omega
  have i2 : (i : Int) + 1 < (n : Int) := by omega
  have j0 : (0 : Int) ≤ (j : Int) := by omega
  have j1 : (j : Int) < (m : Int) := by omega
  have j2 : (j : Int) + 1 < (m : Int) := by omega
  have q1 : i < n := by omega
  have q2 : j < m := by omega
  cases h1 : eqB x y <;> cases h2 : eqB x1 y1
  all_goals
    have h1' : (FloatKind.f64.format.order x y != some Ordering.eq) = !(eqB x y) := rfl
    have h2' : (FloatKind.f64.format.order x1 y1 != some Ordering.eq) = !(eqB x1 y1) := rfl
    rw [h1] at h1'; rw [h2] at h2'
    simp only [Bool.not_true, Bool.not_false] at h1' h2'
    clear h1 h2
    go_enter Try.func67, Try.ntmps67
    go_wp2
    go_quiet (fail)
    go_wp2
    try (go_quiet (fail); go_wp2)
    go_ret
    exact ⟨by first | rfl | simp, by first | exact Grow.drewN (Grow.refl w) _ | exact Grow.drewN (Grow.drewN (Grow.refl w) _) _⟩
end Go.Proofs.Ytincapjbhbmeiaa
