import Derived.Test.YtkcpjndelcfmhaaDoorGrow
import Derived.OrdersHeld
import Derived.RegionTactic
import Derived.KernelRfl
import Derived.Lib.Hide
namespace Go
open Go.RowKit
set_option linter.unusedVariables false
set_option linter.unusedSimpArgs false
/-! a region that draws its order, walked order by order: operations that yield their value in every world that meets S are taken first; S is shown anew behind the operations ahead of number n alone (behind these the stores come up, one after the other) -/
section
variable {P : Program} {ops : Array Oper} {Q : Exit → Act → World → Prop} {md : Region.Mode} {S : World → Prop} {n : Nat}
def wpAnyG (P : Program) (md : Region.Mode) (ops : Array Oper) (Q : Exit → Act → World → Prop) (S : World → Prop) (n : Nat) : Nat → Array Bool → Act → World → Prop
  | 0, listed, a, w => Region.ready md ops listed = [] ∧ Q .normal a w
  | fuel + 1, listed, a, w =>
    (Region.ready md ops listed = [] → Q .normal a w) ∧
    ∀ i ∈ Region.ready md ops listed, wpOp P ops Q i (fun a' w' => (i < n → S w') ∧ wpAnyG P md ops Q S n fuel (listed.setIfInBounds i true) a' w') a w
theorem wpAny_of_G : ∀ (fuel : Nat) (listed : Array Bool) (a : Act) (w : World), wpAnyG P md ops Q S n fuel listed a w → wpAny P md ops Q fuel listed a w
  | 0, _, _, _, h => h
  | fuel + 1, _, _, _, h => ⟨h.1, fun i hi => wpOp_mono (fun a' w' h' => wpAny_of_G fuel _ a' w' h'.2) (h.2 i hi)⟩
theorem wpAnyG_first {i : Nat} {oi : Oper} {v : Value} (hi : ops[i]? = some oi) (hsel : ∀ (j : Nat) (o : Oper) cs b, ops[j]? = some o → o.op ≠ .select cs b)
    (hs : Region.sinkB md ops n = true) (hc : Region.chainB md ops n = true) (hn : n < ops.size) (hin : i < n)
    (hQ : ∀ c a w, Q (.panic c) (a.put oi.dst v) w → Q (.panic c) a w) :
    ∀ (fuel : Nat) (listed : Array Bool) (a : Act) (w : World), HeadInv md ops n listed →
      (∀ j oj, ops[j]? = some oj → j ≠ i → listed.getD j true = false → (∀ e ∈ oj.after, Region.binds md e = true → e.on ≠ i) → oi.apart ops oj = true) →
      i ∈ Region.ready md ops listed → YieldsIf P ops S oi v a → S w →
      wpAnyG P md ops Q S n fuel (listed.setIfInBounds i true) (a.put oi.dst v) w → wpAnyG P md ops Q S n (fuel + 1) listed a w := by
  intro fuel
  induction fuel with
  | zero =>
    intro listed a w inv _ hr hy hS H
    refine ⟨fun h => (by rw [h] at hr; cases hr), fun j hj => ?_⟩
    by_cases hji : j = i
    · subst hji; exact hy.wpOp hi hS ⟨fun _ => hS, H⟩
    · have := ready_mono hj hji
      rw [H.1] at this
      cases this
  | succ fuel ih =>
    intro listed a w inv hfree hr hy hS H
    refine ⟨fun h => (by rw [h] at hr; cases hr), fun j hj => ?_⟩
    by_cases hji : j = i
    · subst hji; exact hy.wpOp hi hS ⟨fun _ => hS, H⟩
    · have hjn : j < n := by
        rcases Nat.lt_or_ge j n with h | h
        · exact h
        · exact absurd hj (tail_waits hs hc hn inv _ i rfl hin (mem_ready.1 hr).1 j h)
      have h1 := H.2 j (ready_mono hj hji)
      obtain ⟨hjun, oj, hoj, hall⟩ := mem_ready.1 hj
      have hnot : ∀ e ∈ oj.after, Region.binds md e = true → e.on ≠ i := fun e he hb heq => by
        have h1 := hall e he hb
        have h0 := (mem_ready.1 hr).1
        rw [heq] at h1
        rcases Nat.lt_or_ge i listed.size with h' | h'
        · simp [h'] at h0 h1; rw [h0] at h1; cases h1
        · simp [Array.getElem?_eq_none h'] at h1
      have h2 := wpOp_putIf hoj (hfree j oj hoj hji hjun hnot) (fun cs b => hsel i oi cs b hi) (fun cs b => hsel j oj cs b hoj) hQ hy h1
      have hfree' : ∀ k ok, ops[k]? = some ok → k ≠ i → (listed.setIfInBounds j true).getD k true = false →
          (∀ e ∈ ok.after, Region.binds md e = true → e.on ≠ i) → oi.apart ops ok = true := fun k ok hk hki hun hno => by
        refine hfree k ok hk hki ?_ hno
        by_cases hjk : j = k
        · subst hjk; exact hjun
        · rw [getD_set_ne true hjk] at hun; exact hun
      refine wpOp_mono (fun a' w' h3 => ⟨fun _ => h3.2.1 hjn, ih (listed.setIfInBounds j true) a' w' (inv.set hj hjn) hfree' (ready_mono hr (Ne.symm hji)) h3.1 (h3.2.1 hjn) ?_⟩) h2
      rw [Array.setIfInBounds_comm _ _ hji]
      exact h3.2.2
def headInvB (md : Region.Mode) (ops : Array Oper) (n : Nat) (listed : Array Bool) : Bool :=
  decide (listed.size = ops.size) && ((List.range ops.size).all fun j => !(listed.getD j false) || ((ops[j]?).map fun oj => oj.after.toList.all fun e => !(Region.binds md e) || listed.getD e.on false).getD true) && ((List.range ops.size).all fun t => decide (t < n) || !(listed.getD t true))
theorem headInvB_spec {listed : Array Bool} (h : headInvB md ops n listed = true) : HeadInv md ops n listed := by
  simp only [headInvB, Bool.and_eq_true, decide_eq_true_eq, List.all_eq_true, List.mem_range, Bool.or_eq_true, Bool.not_eq_true'] at h
  obtain ⟨⟨h1, h2⟩, h3⟩ := h
  refine ⟨h1, fun j oj hj hl e he hb => ?_, fun t ht ht' => ?_⟩
  · have hjl : j < ops.size := by
      rcases Nat.lt_or_ge j ops.size with h | h
      · exact h
      · rw [Array.getElem?_eq_none h] at hj; cases hj
    rcases h2 j hjl with h | h
    · rw [h] at hl; cases hl
    · rw [hj] at h
      simp only [Option.map_some, Option.getD_some, List.all_eq_true, Bool.or_eq_true, Bool.not_eq_true'] at h
      rcases h e (by simpa using he) with h | h
      · rw [h] at hb; cases hb
      · exact h
  · rcases h3 t ht' with h | h
    · omega
    · exact h
def takeB (md : Region.Mode) (ops : Array Oper) (n i : Nat) (listed : Array Bool) : Bool :=
  Region.noSelect ops && Region.free md ops listed i && (Region.ready md ops listed).contains i && Region.sinkB md ops n && Region.chainB md ops n && decide (n < ops.size) && decide (i < n) && headInvB md ops n listed
theorem wpAnyG_take {i : Nat} {oi : Oper} {v : Value} {fuel : Nat} {listed : Array Bool} {a : Act} {w : World} (hi : ops[i]? = some oi) (hB : takeB md ops n i listed = true)
    (hQ : ∀ c a w, Q (.panic c) (a.put oi.dst v) w → Q (.panic c) a w) (hw : Region.wanted oi (yielded ops a.tmps) = true) (hy : ∀ w, S w → (execOp a.eval oi).run P w = .ok (.value v) w) (hS : S w)
    (h : wpAnyG P md ops Q S n fuel (listed.setIfInBounds i true) (a.put oi.dst v) w) : wpAnyG P md ops Q S n (fuel + 1) listed a w := by
  simp only [takeB, Bool.and_eq_true, decide_eq_true_eq] at hB
  obtain ⟨⟨⟨⟨⟨⟨⟨h1, h2⟩, h3⟩, h4⟩, h5⟩, h6⟩, h7⟩, h8⟩ := hB
  exact wpAnyG_first hi (Region.noSelect_spec h1) h4 h5 h6 h7 hQ fuel listed a w (headInvB_spec h8) (Region.free_spec hi h2) (by simpa using h3) (.inl ⟨hw, hy⟩) hS h
/-- all that may come up now -/
def AllReadyG (P : Program) (md : Region.Mode) (ops : Array Oper) (Q : Exit → Act → World → Prop) (S : World → Prop) (n fuel : Nat) (listed : Array Bool) (a : Act) (w : World) (rs : List Nat) : Prop :=
  ∀ i ∈ rs, wpOp P ops Q i (fun a' w' => (i < n → S w') ∧ wpAnyG P md ops Q S n fuel (listed.setIfInBounds i true) a' w') a w
theorem AllReadyG.nil {fuel : Nat} {listed : Array Bool} {a : Act} {w : World} : AllReadyG P md ops Q S n fuel listed a w [] := fun _ h => by cases h
theorem AllReadyG.cons {fuel : Nat} {listed : Array Bool} {a : Act} {w : World} {i : Nat} {o : Oper} {rs : List Nat} (ho : ops[i]? = some o)
    (h : ∀ K : Act → World → Prop, Hid (∀ a' w', (i < n → S w') → (wpAnyG P md ops Q S n fuel (listed.setIfInBounds i true) a' w') → K a' w') → if Region.wanted o (yielded ops a.tmps) = true then o.wp P a w K Q else K (a.put o.dst undef) w)
    (hs : AllReadyG P md ops Q S n fuel listed a w rs) : AllReadyG P md ops Q S n fuel listed a w (i :: rs) := by
  intro j hj
  rcases List.mem_cons.1 hj with rfl | hj
  · have h' := h (fun a' w' => (j < n → S w') ∧ wpAnyG P md ops Q S n fuel (listed.setIfInBounds j true) a' w') (Lib.hid fun _ _ h1 h2 => ⟨h1, h2⟩)
    unfold wpOp
    simp only [ho]
    split
    · rename_i hw; rw [if_pos hw] at h'; exact .inl h'
    · rename_i hw; rw [if_neg hw] at h'; exact h'
  · exact hs j hj
theorem wpAnyG_ready {rs : List Nat} {fuel : Nat} {listed : Array Bool} {a : Act} {w : World} (hr : Region.ready md ops listed = rs) (hne : (!rs.isEmpty) = true)
    (h : AllReadyG P md ops Q S n fuel listed a w rs) : wpAnyG P md ops Q S n (fuel + 1) listed a w :=
  ⟨fun h0 => by rw [hr] at h0; subst h0; simp at hne, hr ▸ h⟩
theorem wpAnyG_done {listed : Array Bool} {a : Act} {w : World} (hr : Region.ready md ops listed = []) (h : Q .normal a w) :
    ∀ fuel, wpAnyG P md ops Q S n fuel listed a w
  | 0 => ⟨hr, h⟩
  | _ + 1 => ⟨fun _ => h, by rw [hr]; simp⟩
theorem wp_region_G {id : Nat} {a : Act} {w : World} (S : World → Prop) (n : Nat) (hm : P.follows .mixedOrders = true)
    (h : wpAnyG P .any ops Q S n ops.size (Array.replicate ops.size false) a { w with drawn := w.drawn + 1 }) : (Code.region id ops true).wp P Q a w :=
  wp_region_any hm (wpAny_of_G _ _ _ _ h)
end
end Go
