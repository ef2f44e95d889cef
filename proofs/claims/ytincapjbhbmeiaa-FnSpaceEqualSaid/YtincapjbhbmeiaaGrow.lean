import Derived.Still
import Derived.Below
import Derived.Deep.Draws
import Derived.Tactics
namespace Go
open Go.RowKit

/-- memory has only grown -/
def Grow (w w' : World) : Prop := Below w.heap.size w w'
theorem Grow.refl (w : World) : Grow w w := Below.refl _ _
theorem Grow.trans {a b c : World} (h : Grow a b) (k : Grow b c) : Grow a c := Below.trans h (Below.mono k h.size)
theorem Grow.drew {a b : World} (h : Grow a b) : Grow a b.drew := Below.drew h
theorem Grow.drewN {a b : World} (h : Grow a b) (n : Nat) : Grow a (b.drewN n) := ⟨h.os, h.tape, h.output, h.size, h.block⟩
theorem Grow.alloc {a b : World} (h : Grow a b) (o : Obj) : Grow a (b.alloc o) := Below.alloc h h.size o

namespace GrowR
section
variable {P : Program} {ops : Array Oper} {md : Region.Mode} {C : World → Prop} {κ : Nat → Option (Value → World → Prop)}

/-- operation 'j' comes behind operation 'i' -/
inductive Anc (md : Region.Mode) (ops : Array Oper) : Nat → Nat → Prop
  | one {j i : Nat} {o : Oper} {e : Edge} (h : ops[j]? = some o) (he : e ∈ o.after) (hb : Region.binds md e = true) (hi : e.on = i) : Anc md ops j i
  | more {j i : Nat} {o : Oper} {e : Edge} (h : ops[j]? = some o) (he : e ∈ o.after) (hb : Region.binds md e = true) (hi : Anc md ops e.on i) : Anc md ops j i

def anc (md : Region.Mode) (ops : Array Oper) : Nat → Nat → Nat → Bool
  | 0, _, _ => false
  | n + 1, j, i => match ops[j]? with
    | none => false
    | some o => o.after.any fun e => Region.binds md e && (e.on == i || anc md ops n e.on i)

theorem anc_of : ∀ (n : Nat) {j i : Nat}, anc md ops n j i = true → Anc md ops j i
  | 0, _, _, h => by cases h
  | n + 1, j, i, h => by
    unfold anc at h
    split at h
    · cases h
    · rename_i o ho
      obtain ⟨e, he, h⟩ := Array.any_eq_true'.1 h
      simp only [Bool.and_eq_true, Bool.or_eq_true, beq_iff_eq] at h
      rcases h with ⟨hb, h | h⟩
      · exact .one ho he hb h
      · exact .more ho he hb (anc_of n h)

/-- what is known of the world where operation 'j' comes up -/
def cls (md : Region.Mode) (ops : Array Oper) (C : World → Prop) (hist : Nat → World → Prop) (j : Nat) (w : World) : Prop := C w ∧ ∀ k, Anc md ops j k → hist k w

def set (hist : Nat → World → Prop) (i : Nat) (X : World → Prop) : Nat → World → Prop := fun k => if k = i then X else hist k

/-- one value, the world as it was -/
def detAt (P : Program) (o : Oper) (a : Act) (C : World → Prop) (v : Value) : Prop :=
  ∀ w, C w → (execOp a.eval o).run P w = .ok (.value v) w ∨ ((execOp a.eval o).run P w = .ok .skip w ∧ v = undef)

/-- what a call leaves -/
def EffPost (Φ : Value → World → Prop) (w : World) (e : Ending) (w'' : World) : Prop := ∃ u, e = .returned u ∧ Grow w w'' ∧ Φ u w''
theorem EffPost.mk {Φ : Value → World → Prop} {w w'' : World} {u : Value} (hg : Grow w w'') (h : Φ u w'') : EffPost Φ w (.returned u) w'' := ⟨u, rfl, hg, h⟩

def effUpon (P : Program) (Φ : Value → World → Prop) (w : World) : Result Next → Prop
  | .ok (.value u) w' => Grow w w' ∧ Φ u w'
  | .ok .skip w' => Grow w w' ∧ Φ undef w'
  | .ok (.enter f args) w' => Calls P f args w' (EffPost Φ w)
  | _ => False

/-- a value of which something is known, memory grows -/
def effAt (P : Program) (o : Oper) (a : Act) (C : World → Prop) (Φ : Value → World → Prop) : Prop := ∀ w, C w → effUpon P Φ w ((execOp a.eval o).run P w)

def gOp (P : Program) (md : Region.Mode) (ops : Array Oper) (C : World → Prop) (κ : Nat → Option (Value → World → Prop)) (i : Nat)
    (K : (Nat → World → Prop) → Act → Prop) (hist : Nat → World → Prop) (a : Act) : Prop :=
  match ops[i]? with
  | none => K hist a
  | some o => if Region.wanted o (yielded ops a.tmps) then
      match κ i with
      | none => ∃ v, detAt P o a (cls md ops C hist i) v ∧ K hist (a.put o.dst v)
      | some Φ => effAt P o a (cls md ops C hist i) Φ ∧ ∀ v, (∃ w, C w ∧ (∀ k, hist k w) ∧ Φ v w) → K (set hist i (Φ v)) (a.put o.dst v)
    else K hist (a.put o.dst undef)

def wpAnyG (P : Program) (md : Region.Mode) (ops : Array Oper) (C : World → Prop) (κ : Nat → Option (Value → World → Prop)) (Q : (Nat → World → Prop) → Act → Prop) :
    Nat → Array Bool → (Nat → World → Prop) → Act → Prop
  | 0, listed, hist, a => Region.ready md ops listed = [] ∧ Q hist a
  | fuel + 1, listed, hist, a =>
    (Region.ready md ops listed = [] → Q hist a) ∧
    ∀ i ∈ Region.ready md ops listed, gOp P md ops C κ i (wpAnyG P md ops C κ Q fuel (listed.setIfInBounds i true)) hist a

/-- up-closed -/
def Up (X : World → Prop) : Prop := ∀ w w', X w → Grow w w' → X w'

theorem effUpon_ex {Φ : Value → World → Prop} {w : World} {r : Result Next} (h : effUpon P Φ w r) : ∃ v w', Grow w w' ∧ Φ v w' := by
  cases r with
  | halt x w' => simp only [effUpon] at h
  | ok n w' =>
    cases n <;> simp only [effUpon] at h
    case value u => exact ⟨_, _, h⟩
    case skip => exact ⟨_, _, h⟩
    case enter f args =>
      obtain ⟨e, w'', fr, ⟨u, he, hg, hp⟩, _⟩ := h []
      exact ⟨u, w'', hg, hp⟩

theorem Oper.wp_of_eff {o : Oper} {a : Act} {K' : Act → World → Prop} {Q' : Exit → Act → World → Prop} {w : World} {Φ : Value → World → Prop}
    (h : effUpon P Φ w ((execOp a.eval o).run P w)) (hk : ∀ v w', Grow w w' → Φ v w' → K' (a.put o.dst v) w') : o.wp P a w K' Q' := by
  unfold Oper.wp
  generalize (execOp a.eval o).run P w = r at *
  cases r with
  | halt x w' => simp only [effUpon] at h
  | ok n w' =>
    cases n <;> simp only [effUpon] at h <;> simp only [Oper.upon]
    case value u => exact hk _ _ h.1 h.2
    case skip => exact hk _ _ h.1 h.2
    case enter f args => exact h.mono fun e w'' ⟨u, he, hg, hp⟩ => by subst he; exact hk _ _ hg hp

variable (hC : Up C) (hκ : ∀ i Φ, κ i = some Φ → ∀ v, Up (Φ v))

theorem set_all {hist : Nat → World → Prop} {i : Nat} {X : World → Prop} {w : World} (h : ∀ k, hist k w) (hx : X w) : ∀ k, set hist i X k w := fun k => by
  unfold set; split
  · exact hx
  · exact h k

include hC hκ in
/-- from classes to worlds -/
theorem wpAny_of_G {Q : (Nat → World → Prop) → Act → Prop} {Q' : Exit → Act → World → Prop} (hQ : ∀ hist a w, C w → (∀ k, hist k w) → Q hist a → Q' .normal a w) :
    ∀ (fuel : Nat) (listed : Array Bool) (hist : Nat → World → Prop) (a : Act) (w : World), C w → (∀ k, hist k w) → (∀ k, Up (hist k)) →
      wpAnyG P md ops C κ Q fuel listed hist a → wpAny P md ops Q' fuel listed a w
  | 0, _, _, _, _, hw, hh, _, h => ⟨h.1, hQ _ _ _ hw hh h.2⟩
  | fuel + 1, listed, hist, a, w, hw, hh, hu, h => by
    refine ⟨fun h0 => hQ _ _ _ hw hh (h.1 h0), fun i hi => ?_⟩
    have hg := h.2 i hi
    unfold gOp at hg
    unfold wpOp
    split
    · rename_i ho
      simp only [ho] at hg
      exact wpAny_of_G hQ fuel _ _ _ _ hw hh hu hg
    · rename_i o ho
      simp only [ho] at hg
      split
      · rename_i hwt
        simp only [hwt, if_true] at hg
        left
        cases hk : κ i with
        | none =>
          simp only [hk] at hg
          obtain ⟨v, hv, hn⟩ := hg
          unfold Oper.wp
          rcases hv w ⟨hw, fun k _ => hh k⟩ with e | ⟨e, rfl⟩ <;> rw [e] <;> simp only [Oper.upon] <;> exact wpAny_of_G hQ fuel _ _ _ _ hw hh hu hn
        | some Φ =>
          simp only [hk] at hg
          obtain ⟨he, hn⟩ := hg
          refine Oper.wp_of_eff (he w ⟨hw, fun k _ => hh k⟩) fun v w' hgw hp => ?_
          have hh' : ∀ k, hist k w' := fun k => hu k _ _ (hh k) hgw
          refine wpAny_of_G hQ fuel _ _ _ _ (hC _ _ hw hgw) (set_all hh' hp) (fun k => ?_) (hn v ⟨w', hC _ _ hw hgw, hh', hp⟩)
          unfold set; split
          · exact hκ i Φ hk v
          · exact hu k
      · rename_i hwt
        simp only [hwt] at hg
        exact wpAny_of_G hQ fuel _ _ _ _ hw hh hu hg

/-- what is listed has all that it waits for listed -/
def DC (md : Region.Mode) (ops : Array Oper) (listed : Array Bool) : Prop := ∀ k o, ops[k]? = some o → listed.getD k false = true → ∀ e ∈ o.after, Region.binds md e = true → listed.getD e.on false = true

theorem DC.set {listed : Array Bool} (h : DC md ops listed) {i : Nat} (hi : i ∈ Region.ready md ops listed) : DC md ops (listed.setIfInBounds i true) := by
  intro k o ho hk e he hb
  by_cases hki : k = i
  · subst hki
    obtain ⟨_, o', ho', hall⟩ := mem_ready.1 hi
    obtain rfl : o' = o := by rw [ho] at ho'; exact (Option.some.inj ho').symm
    exact getD_set_true (hall e he hb)
  · refine getD_set_true (h k o ho ?_ e he hb)
    rwa [getD_set_ne false (Ne.symm hki)] at hk

theorem DC.anc {listed : Array Bool} (h : DC md ops listed) {j i : Nat} (ha : Anc md ops j i) : (∀ o, ops[j]? = some o → ∀ e ∈ o.after, Region.binds md e = true → listed.getD e.on false = true) → listed.getD i false = true := by
  induction ha with
  | one ho he hb hi => intro hj; subst hi; exact hj _ ho _ he hb
  | more ho he hb _ ih => intro hj; exact ih fun o ho' e' he' hb' => h _ _ ho' (hj _ ho _ he hb) _ he' hb'

theorem DC.not_anc {listed : Array Bool} (h : DC md ops listed) {i j : Nat} (hi : i ∈ Region.ready md ops listed) (hj : j ∈ Region.ready md ops listed) : ¬ Anc md ops j i := by
  intro ha
  obtain ⟨_, oj, hoj, hall⟩ := mem_ready.1 hj
  have h1 := h.anc ha (fun o ho e he hb => by rw [hoj] at ho; cases ho; exact hall e he hb)
  have h0 := (mem_ready.1 hi).1
  rcases Nat.lt_or_ge i listed.size with h' | h'
  · simp [h'] at h0 h1; rw [h0] at h1; cases h1
  · simp [Array.getElem?_eq_none h'] at h1

theorem cls_set {hist : Nat → World → Prop} {i j : Nat} {X : World → Prop} (h : ¬ Anc md ops j i) : cls md ops C (set hist i X) j = cls md ops C hist j := by
  funext w
  unfold cls
  apply propext
  refine and_congr Iff.rfl (forall_congr' fun k => ?_)
  refine forall_congr' fun hk => ?_
  have hki : k ≠ i := by rintro rfl; exact h hk
  unfold set
  rw [if_neg hki]

theorem set_comm {hist : Nat → World → Prop} {i j : Nat} {X Y : World → Prop} (h : i ≠ j) : set (set hist i X) j Y = set (set hist j Y) i X := by
  funext k
  unfold set
  by_cases h1 : k = i <;> by_cases h2 : k = j <;> simp [h1, h2]
  · omega
  · intro e; exact absurd e h
  · intro e; exact absurd e.symm h

theorem detAt_put {o : Oper} {a : Act} {X : World → Prop} {v : Value} (hs : ∀ cs b, o.op ≠ .select cs b) {dst : Option Tmp} {u : Value} (h : ∀ d, dst = some d → d ∉ o.looksAt ops) :
    detAt P o (a.put dst u) X v = detAt P o a X v := by
  unfold detAt; rw [execOp_put o hs a dst u h]
theorem effAt_put {o : Oper} {a : Act} {X : World → Prop} {Φ : Value → World → Prop} (hs : ∀ cs b, o.op ≠ .select cs b) {dst : Option Tmp} {u : Value} (h : ∀ d, dst = some d → d ∉ o.looksAt ops) :
    effAt P o (a.put dst u) X Φ = effAt P o a X Φ := by
  unfold effAt; rw [execOp_put o hs a dst u h]

theorem detAt_uniq {o : Oper} {a : Act} {X : World → Prop} {u v : Value} (hx : ∃ w, X w) (h : detAt P o a X u) (h' : detAt P o a X v) : u = v := by
  obtain ⟨w, hw⟩ := hx
  rcases h w hw with e | ⟨e, rfl⟩ <;> rcases h' w hw with e' | ⟨e', rfl⟩ <;> rw [e] at e' <;> cases e' <;> rfl

/-- some world is as the facts say -/
def Ne (C : World → Prop) (hist : Nat → World → Prop) : Prop := ∃ w, C w ∧ ∀ k, hist k w

theorem Ne.cls {hist : Nat → World → Prop} (h : Ne C hist) (j : Nat) : ∃ w, cls md ops C hist j w := let ⟨w, h1, h2⟩ := h; ⟨w, h1, fun k _ => h2 k⟩

/-- what the proof knows of the operations that have not come up -/
def Fresh (listed : Array Bool) (hist : Nat → World → Prop) : Prop := ∀ k, listed.getD k true = false → hist k = fun _ => True

theorem Fresh.set {listed : Array Bool} {hist : Nat → World → Prop} (h : Fresh listed hist) (i : Nat) (X : World → Prop) (hi : i < listed.size) : Fresh (listed.setIfInBounds i true) (set hist i X) := by
  intro k hk
  unfold GrowR.set
  by_cases hki : k = i
  · subst hki; simp [hi] at hk
  · rw [if_neg hki]; exact h k (by rwa [getD_set_ne true (Ne.symm hki)] at hk)

theorem Fresh.mono {listed : Array Bool} {hist : Nat → World → Prop} (h : Fresh listed hist) (i : Nat) : Fresh (listed.setIfInBounds i true) hist := by
  intro k hk
  by_cases hki : k = i
  · subst hki
    by_cases hi : k < listed.size
    · simp [hi] at hk
    · exact h k (by rw [Array.setIfInBounds_eq_of_size_le (by omega)] at hk; exact hk)
  · exact h k (by rwa [getD_set_ne true (Ne.symm hki)] at hk)

theorem ready_lt {listed : Array Bool} {i : Nat} (h : i ∈ Region.ready md ops listed) : i < listed.size := by
  have h0 := (mem_ready.1 h).1
  rcases Nat.lt_or_ge i listed.size with h' | h'
  · exact h'
  · simp [Array.getElem?_eq_none h'] at h0

include hC hκ in
/-- **AN OPERATION THAT MAY COME UP MAY BE TAKEN FIRST.** -/
theorem wpAnyG_first {Q : (Nat → World → Prop) → Act → Prop} {i : Nat} {oi : Oper} (hi : ops[i]? = some oi) (hsel : ∀ (j : Nat) (o : Oper) cs b, ops[j]? = some o → o.op ≠ .select cs b) :
    ∀ (fuel : Nat) (listed : Array Bool) (hist : Nat → World → Prop) (a : Act),
      (∀ j oj, ops[j]? = some oj → j ≠ i → listed.getD j true = false → (∀ e ∈ oj.after, Region.binds md e = true → e.on ≠ i) → oi.apart ops oj = true) →
      DC md ops listed → Fresh listed hist → Ne C hist → (∀ k, Up (hist k)) →
      i ∈ Region.ready md ops listed → gOp P md ops C κ i (wpAnyG P md ops C κ Q fuel (listed.setIfInBounds i true)) hist a →
      wpAnyG P md ops C κ Q (fuel + 1) listed hist a := by
  intro fuel
  induction fuel with
  | zero =>
    intro listed hist a _ _ _ hne _ hr H
    refine ⟨fun h => (by rw [h] at hr; cases hr), fun j hj => ?_⟩
    by_cases hji : j = i
    · subst hji; exact H
    · exfalso
      have hj' := ready_mono hj hji
      have key : Region.ready md ops (listed.setIfInBounds i true) = [] := by
        unfold gOp at H
        simp only [hi] at H
        split at H
        · cases hk : κ i with
          | none => simp only [hk] at H; obtain ⟨v, _, h⟩ := H; exact h.1
          | some Φ =>
            simp only [hk] at H
            obtain ⟨he, h⟩ := H
            obtain ⟨w, hw, hh⟩ := hne
            obtain ⟨v, w', hg, hp⟩ := effUpon_ex (he w ⟨hw, fun k _ => hh k⟩)
            exact (h v ⟨w', hC _ _ hw hg, fun k => ‹∀ k, Up (hist k)› k _ _ (hh k) hg, hp⟩).1
        · exact H.1
      rw [key] at hj'
      cases hj'
  | succ fuel ih =>
    intro listed hist a hfree hdc hfr hne hup hr H
    refine ⟨fun h => (by rw [h] at hr; cases hr), fun j hj => ?_⟩
    by_cases hji : j = i
    · subst hji; exact H
    have hj' := ready_mono hj hji
    obtain ⟨hjun, oj, hoj, hall⟩ := mem_ready.1 hj
    have hiun := (mem_ready.1 hr).1
    have hnot : ∀ e ∈ oj.after, Region.binds md e = true → e.on ≠ i := fun e he hb heq => by
      have h1 := hall e he hb
      rw [heq] at h1
      rcases Nat.lt_or_ge i listed.size with h' | h'
      · simp [h'] at hiun h1; rw [hiun] at h1; cases h1
      · simp [Array.getElem?_eq_none h'] at h1
    obtain ⟨p1, p2, p3⟩ := Oper.apart_spec (hfree j oj hoj hji hjun hnot)
    have nji : ¬ Anc md ops j i := hdc.not_anc hr hj
    have nij : ¬ Anc md ops i j := hdc.not_anc hj hr
    have hfree' : ∀ k ok, ops[k]? = some ok → k ≠ i → (listed.setIfInBounds j true).getD k true = false →
        (∀ e ∈ ok.after, Region.binds md e = true → e.on ≠ i) → oi.apart ops ok = true := fun k ok hk hki hun hno => by
      refine hfree k ok hk hki ?_ hno
      by_cases hjk : j = k
      · subst hjk; exact hjun
      · rw [getD_set_ne true hjk] at hun; exact hun
    have hdc' := hdc.set hj
    have hr' := ready_mono hr (Ne.symm hji)
    have hsi := fun cs b => hsel i oi cs b hi
    have hsj := fun cs b => hsel j oj cs b hoj
    have wj : ∀ v, Region.wanted oj (yielded ops (a.put oi.dst v).tmps) = Region.wanted oj (yielded ops a.tmps) := fun v => wanted_put oj a oi.dst v p1
    have wi : ∀ u, Region.wanted oi (yielded ops (a.put oj.dst u).tmps) = Region.wanted oi (yielded ops a.tmps) := fun u => wanted_put oi a oj.dst u p3
    -- what the step of i, taken first, says of j's step
    have go : ∀ (hist' : Nat → World → Prop) (u : Value), Fresh (listed.setIfInBounds j true) hist' → Ne C hist' → (∀ k, Up (hist' k)) →
        gOp P md ops C κ i (wpAnyG P md ops C κ Q fuel ((listed.setIfInBounds j true).setIfInBounds i true)) hist' (a.put oj.dst u) → wpAnyG P md ops C κ Q (fuel + 1) (listed.setIfInBounds j true) hist' (a.put oj.dst u) :=
      fun hist' u h1 h2 h3 h4 => ih _ _ _ hfree' hdc' h1 h2 h3 hr' h4
    have com : (listed.setIfInBounds j true).setIfInBounds i true = (listed.setIfInBounds i true).setIfInBounds j true := Array.setIfInBounds_comm _ _ hji
    unfold gOp at H
    simp only [hi] at H
    -- the three ways of j
    unfold gOp
    simp only [hoj]
    by_cases hwj : Region.wanted oj (yielded ops a.tmps) = true
    · simp only [hwj, if_true]
      cases hkj : κ j with
      | none =>
        simp only []
        -- j is determined
        by_cases hwi : Region.wanted oi (yielded ops a.tmps) = true
        · simp only [hwi, if_true] at H
          cases hki : κ i with
          | none =>
            simp only [hki] at H
            obtain ⟨v, hv, hn⟩ := H
            have hjn := hn.2 j hj'
            unfold gOp at hjn
            simp only [hoj, wj, hwj, if_true, hkj, detAt_put hsj p1] at hjn
            obtain ⟨u, hu, hun⟩ := hjn
            refine ⟨u, hu, go _ _ (hfr.mono j) hne hup ?_⟩
            unfold gOp
            simp only [hi, wi, hwi, if_true, hki, detAt_put hsi p3]
            refine ⟨v, hv, ?_⟩
            rw [com, ← Act.put_comm a v u p2]; exact hun
          | some Φ =>
            simp only [hki] at H
            obtain ⟨he, hn⟩ := H
            have hstep : ∀ v, (∃ w, C w ∧ (∀ k, hist k w) ∧ Φ v w) → ∃ u, detAt P oj a (cls md ops C hist j) u ∧ wpAnyG P md ops C κ Q fuel ((listed.setIfInBounds i true).setIfInBounds j true) (set hist i (Φ v)) ((a.put oi.dst v).put oj.dst u) := by
              intro v hv
              have hjn := (hn v hv).2 j hj'
              unfold gOp at hjn
              simp only [hoj, wj, hwj, if_true, hkj, detAt_put hsj p1, cls_set nji] at hjn
              exact hjn
            obtain ⟨w, hw, hh⟩ := id hne
            obtain ⟨v0, w', hg, hp⟩ := effUpon_ex (he w ⟨hw, fun k _ => hh k⟩)
            obtain ⟨u0, hu0, _⟩ := hstep v0 ⟨w', hC _ _ hw hg, fun k => hup k _ _ (hh k) hg, hp⟩
            refine ⟨u0, hu0, go _ _ (hfr.mono j) hne hup ?_⟩
            unfold gOp
            simp only [hi, wi, hwi, if_true, hki, effAt_put hsi p3]
            refine ⟨he, fun v hv => ?_⟩
            obtain ⟨u, hu, hun⟩ := hstep v hv
            obtain rfl := detAt_uniq (hne.cls j) hu hu0
            rw [com, ← Act.put_comm a v u p2]; exact hun
        · simp only [hwi] at H
          have hjn := H.2 j hj'
          unfold gOp at hjn
          simp only [hoj, wj, hwj, if_true, hkj, detAt_put hsj p1] at hjn
          obtain ⟨u, hu, hun⟩ := hjn
          refine ⟨u, hu, go _ _ (hfr.mono j) hne hup ?_⟩
          unfold gOp
          simp only [hi, wi, hwi]
          rw [com, if_neg (by decide), ← Act.put_comm a undef u p2]; exact hun
      | some Ψ =>
        simp only []
        by_cases hwi : Region.wanted oi (yielded ops a.tmps) = true
        · simp only [hwi, if_true] at H
          cases hki : κ i with
          | none =>
            simp only [hki] at H
            obtain ⟨v, hv, hn⟩ := H
            have hjn := hn.2 j hj'
            unfold gOp at hjn
            simp only [hoj, wj, hwj, if_true, hkj, effAt_put hsj p1] at hjn
            refine ⟨hjn.1, fun u hu => go _ _ (hfr.set j _ (ready_lt hj)) ?_ ?_ ?_⟩
            · obtain ⟨w, h1, h2, h3⟩ := hu; exact ⟨w, h1, set_all h2 h3⟩
            · intro k; unfold set; split
              · exact hκ j Ψ hkj u
              · exact hup k
            unfold gOp
            simp only [hi, wi, hwi, if_true, hki, detAt_put hsi p3, cls_set nij]
            refine ⟨v, hv, ?_⟩
            rw [com, ← Act.put_comm a v u p2]; exact hjn.2 u hu
          | some Φ =>
            simp only [hki] at H
            obtain ⟨he, hn⟩ := H
            have hstep : ∀ v, (∃ w, C w ∧ (∀ k, hist k w) ∧ Φ v w) → effAt P oj a (cls md ops C hist j) Ψ ∧ ∀ u, (∃ w, C w ∧ (∀ k, set hist i (Φ v) k w) ∧ Ψ u w) → wpAnyG P md ops C κ Q fuel ((listed.setIfInBounds i true).setIfInBounds j true) (set (set hist i (Φ v)) j (Ψ u)) ((a.put oi.dst v).put oj.dst u) := by
              intro v hv
              have hjn := (hn v hv).2 j hj'
              unfold gOp at hjn
              simp only [hoj, wj, hwj, if_true, hkj, effAt_put hsj p1, cls_set nji] at hjn
              exact hjn
            obtain ⟨w, hw, hh⟩ := id hne
            obtain ⟨v0, w', hg, hp⟩ := effUpon_ex (he w ⟨hw, fun k _ => hh k⟩)
            refine ⟨(hstep v0 ⟨w', hC _ _ hw hg, fun k => hup k _ _ (hh k) hg, hp⟩).1, fun u hu => go _ _ (hfr.set j _ (ready_lt hj)) ?_ ?_ ?_⟩
            · obtain ⟨w, h1, h2, h3⟩ := hu; exact ⟨w, h1, set_all h2 h3⟩
            · intro k; unfold set; split
              · exact hκ j Ψ hkj u
              · exact hup k
            unfold gOp
            simp only [hi, wi, hwi, if_true, hki, effAt_put hsi p3, cls_set nij]
            refine ⟨he, fun v hv => ?_⟩
            obtain ⟨w1, c1, c2, c3⟩ := hv
            have c2' : ∀ k, hist k w1 := fun k => by
              by_cases hk : k = j
              · subst hk; rw [hfr k hjun]; trivial
              · have := c2 k; unfold set at this; rwa [if_neg hk] at this
            have cj : Ψ u w1 := by have := c2 j; unfold set at this; rwa [if_pos rfl] at this
            have := (hstep v ⟨w1, c1, c2', c3⟩).2 u ⟨w1, c1, set_all c2' c3, cj⟩
            rw [com, ← Act.put_comm a v u p2, ← set_comm (Ne.symm hji)]; exact this
        · simp only [hwi] at H
          have hjn := H.2 j hj'
          unfold gOp at hjn
          simp only [hoj, wj, hwj, if_true, hkj, effAt_put hsj p1] at hjn
          refine ⟨hjn.1, fun u hu => go _ _ (hfr.set j _ (ready_lt hj)) ?_ ?_ ?_⟩
          · obtain ⟨w, h1, h2, h3⟩ := hu; exact ⟨w, h1, set_all h2 h3⟩
          · intro k; unfold set; split
            · exact hκ j Ψ hkj u
            · exact hup k
          unfold gOp
          simp only [hi, wi, hwi]
          rw [com, if_neg (by decide), ← Act.put_comm a undef u p2]; exact hjn.2 u hu
    · simp only [hwj]
      rw [if_neg (by decide)]
      by_cases hwi : Region.wanted oi (yielded ops a.tmps) = true
      · simp only [hwi, if_true] at H
        cases hki : κ i with
        | none =>
          simp only [hki] at H
          obtain ⟨v, hv, hn⟩ := H
          have hjn := hn.2 j hj'
          unfold gOp at hjn
          simp only [hoj, wj, hwj] at hjn
          rw [if_neg (by decide)] at hjn
          refine go _ _ (hfr.mono j) hne hup ?_
          unfold gOp
          simp only [hi, wi, hwi, if_true, hki, detAt_put hsi p3]
          refine ⟨v, hv, ?_⟩
          rw [com, ← Act.put_comm a v undef p2]; exact hjn
        | some Φ =>
          simp only [hki] at H
          obtain ⟨he, hn⟩ := H
          refine go _ _ (hfr.mono j) hne hup ?_
          unfold gOp
          simp only [hi, wi, hwi, if_true, hki, effAt_put hsi p3]
          refine ⟨he, fun v hv => ?_⟩
          have hjn := (hn v hv).2 j hj'
          unfold gOp at hjn
          simp only [hoj, wj, hwj] at hjn
          rw [if_neg (by decide)] at hjn
          rw [com, ← Act.put_comm a v undef p2]; exact hjn
      · simp only [hwi] at H
        have hjn := H.2 j hj'
        unfold gOp at hjn
        simp only [hoj, wj, hwj] at hjn
        rw [if_neg (by decide)] at hjn
        refine go _ _ (hfr.mono j) hne hup ?_
        unfold gOp
        simp only [hi, wi, hwi]
        rw [com, if_neg (by decide), ← Act.put_comm a undef undef p2]; exact hjn

/-- the operations in the order of the text -/
def wpGrow (P : Program) (md : Region.Mode) (ops : Array Oper) (C : World → Prop) (κ : Nat → Option (Value → World → Prop)) (Q : (Nat → World → Prop) → Act → Prop) : List Oper → Nat → (Nat → World → Prop) → Act → Prop
  | [], _, hist, a => Q hist a
  | o :: rest, k, hist, a =>
    if Region.wanted o (yielded ops a.tmps) then
      match κ k with
      | none => ∃ v, detAt P o a (cls md ops C hist k) v ∧ wpGrow P md ops C κ Q rest (k + 1) hist (a.put o.dst v)
      | some Φ => effAt P o a (cls md ops C hist k) Φ ∧ ∀ v, (∃ w, C w ∧ (∀ k, hist k w) ∧ Φ v w) → wpGrow P md ops C κ Q rest (k + 1) (set hist k (Φ v)) (a.put o.dst v)
    else wpGrow P md ops C κ Q rest (k + 1) hist (a.put o.dst undef)

section
variable {Q : (Nat → World → Prop) → Act → Prop} {o : Oper} {rest : List Oper} {k : Nat} {hist : Nat → World → Prop} {a : Act}
theorem wpGrow_nil (h : Q hist a) : wpGrow P md ops C κ Q [] k hist a := h
theorem wpGrow_det (hw : Region.wanted o (yielded ops a.tmps) = true) (hk : κ k = none) {v : Value} (h : detAt P o a (cls md ops C hist k) v)
    (hn : wpGrow P md ops C κ Q rest (k + 1) hist (a.put o.dst v)) : wpGrow P md ops C κ Q (o :: rest) k hist a := by
  unfold wpGrow; rw [if_pos hw, hk]; exact ⟨v, h, hn⟩
theorem wpGrow_det' (hw : Region.wanted o (yielded ops a.tmps) = true) (hk : κ k = none) (h : ∃ v, (∀ w, C w → (∀ k', Anc md ops k k' → hist k' w) → (execOp a.eval o).run P w = .ok (.value v) w) ∧
    wpGrow P md ops C κ Q rest (k + 1) hist (a.put o.dst v)) : wpGrow P md ops C κ Q (o :: rest) k hist a :=
  let ⟨_, h1, h2⟩ := h
  wpGrow_det hw hk (fun w hc => .inl (h1 w hc.1 hc.2)) h2
theorem wpGrow_eff {Φ : Value → World → Prop} (hw : Region.wanted o (yielded ops a.tmps) = true) (hk : κ k = some Φ) (h : effAt P o a (cls md ops C hist k) Φ)
    (hn : ∀ v, (∃ w, C w ∧ (∀ k, hist k w) ∧ Φ v w) → wpGrow P md ops C κ Q rest (k + 1) (set hist k (Φ v)) (a.put o.dst v)) : wpGrow P md ops C κ Q (o :: rest) k hist a := by
  unfold wpGrow; rw [if_pos hw, hk]; exact ⟨h, hn⟩
theorem wpGrow_eff' {Φ : Value → World → Prop} (hw : Region.wanted o (yielded ops a.tmps) = true) (hk : κ k = some Φ) (h : ∀ w, C w → (∀ k', Anc md ops k k' → hist k' w) → effUpon P Φ w ((execOp a.eval o).run P w))
    (hn : ∀ v w, C w → (∀ k, hist k w) → Φ v w → wpGrow P md ops C κ Q rest (k + 1) (set hist k (Φ v)) (a.put o.dst v)) : wpGrow P md ops C κ Q (o :: rest) k hist a :=
  wpGrow_eff hw hk (fun w hc => h w hc.1 hc.2) (fun v ⟨w, h1, h2, h3⟩ => hn v w h1 h2 h3)
theorem wpGrow_skip (hw : Region.wanted o (yielded ops a.tmps) = false) (hn : wpGrow P md ops C κ Q rest (k + 1) hist (a.put o.dst undef)) : wpGrow P md ops C κ Q (o :: rest) k hist a := by
  unfold wpGrow; rw [if_neg (by rw [hw]; decide)]; exact hn
end

theorem up_cell {w w' : World} {a : Addr} {v : Value} (h : w.cell? a = some v) (hg : Grow w w') : w'.cell? a = some v := by
  by_cases hb : a.block < w.heap.size
  · rw [Below.cell hg hb]; exact h
  · exfalso
    unfold World.cell? at h
    rw [Array.getElem?_eq_none (by omega)] at h
    simp at h
theorem grow_cell {w w' : World} (hg : Grow w w') : ∀ b o, b < w.heap.size → w'.cell? ⟨b, o, none⟩ = w.cell? ⟨b, o, none⟩ := fun _ _ h => Below.cell hg h
theorem grow_frozen {w w' : World} (hg : Grow w w') : ∀ b o, b < w.heap.size → w'.frozen? ⟨b, o, none⟩ = w.frozen? ⟨b, o, none⟩ := fun _ _ h => Below.frozen hg h

include hC hκ in
theorem wpAnyG_lex {Q : (Nat → World → Prop) → Act → Prop} (hs : Region.noSelect ops = true) : ∀ (l : List Oper) (k : Nat) (listed : Array Bool) (hist : Nat → World → Prop) (a : Act), (∀ j, l[j]? = ops[k + j]?) →
    Region.lexFrom md ops l.length k listed = true → DC md ops listed → Fresh listed hist → Ne C hist → (∀ k, Up (hist k)) →
    wpGrow P md ops C κ Q l k hist a → wpAnyG P md ops C κ Q l.length listed hist a
  | [], _, _, _, _, _, hB, _, _, _, _, h => ⟨by simpa [Region.lexFrom] using hB, h⟩
  | o :: l, k, listed, hist, a, hl, hB, hdc, hfr, hne, hup, h => by
    have h0 : ops[k]? = some o := by simpa using (hl 0).symm
    simp only [List.length_cons, Region.lexFrom, Bool.and_eq_true] at hB
    obtain ⟨⟨hr, hf⟩, hB'⟩ := hB
    have hr' : k ∈ Region.ready md ops listed := by simpa using hr
    have hl' : ∀ j, l[j]? = ops[k + 1 + j]? := fun j => by have := hl (j + 1); simpa [Nat.add_assoc, Nat.add_comm 1 j] using this
    refine wpAnyG_first hC hκ h0 (Region.noSelect_spec hs) l.length listed hist a (Region.free_spec h0 hf) hdc hfr hne hup hr' ?_
    unfold gOp
    simp only [h0]
    unfold wpGrow at h
    split
    · rename_i hw
      rw [if_pos hw] at h
      cases hk : κ k with
      | none =>
        simp only [hk] at h
        obtain ⟨v, hv, hn⟩ := h
        exact ⟨v, hv, wpAnyG_lex hs l (k + 1) _ _ _ hl' hB' (hdc.set hr') (hfr.mono k) hne hup hn⟩
      | some Φ =>
        simp only [hk] at h
        obtain ⟨he, hn⟩ := h
        refine ⟨he, fun v hv => wpAnyG_lex hs l (k + 1) _ _ _ hl' hB' (hdc.set hr') (hfr.set k _ (ready_lt hr')) ?_ ?_ (hn v hv)⟩
        · obtain ⟨w, h1, h2, h3⟩ := hv; exact ⟨w, h1, set_all h2 h3⟩
        · intro k'; unfold set; split
          · exact hκ k Φ hk v
          · exact hup k'
    · rename_i hw
      rw [if_neg hw] at h
      exact wpAnyG_lex hs l (k + 1) _ _ _ hl' hB' (hdc.set hr') (hfr.mono k) hne hup h

/-- **A REGION THAT DRAWS ITS ORDER, WALKED ONCE IN THE ORDER OF THE TEXT:** its operations read, or make memory. -/
theorem wp_region_grow {id : Nat} {Q : Exit → Act → World → Prop} {a : Act} {w : World} {l : List Oper} (κ : Nat → Option (Value → World → Prop)) (hm : P.follows .mixedOrders = true) (hB : Region.lexB .any l.toArray = true)
    (hκ : ∀ i Φ, κ i = some Φ → ∀ v, Up (Φ v))
    (h : wpGrow P .any l.toArray (Grow w) κ (fun hist a' => ∀ w', Grow w w' → (∀ k, hist k w') → Q .normal a' w') l 0 (fun _ _ => True) a) : (Code.region id l.toArray true).wp P Q a w := by
  simp only [Region.lexB, Bool.and_eq_true] at hB
  have hC : Up (Grow w) := fun _ _ h k => h.trans k
  have h0 : Grow w { w with drawn := w.drawn + 1 } := (Grow.refl w).drew
  refine wp_region_any hm (wpAny_of_G hC hκ (Q := fun hist a' => ∀ w', Grow w w' → (∀ k, hist k w') → Q .normal a' w') (fun hist a' w' h1 h2 h3 => h3 w' h1 h2) _ _ (fun _ _ => True) a _ h0 (fun _ => trivial) (fun _ _ _ _ _ => trivial) ?_)
  have := wpAnyG_lex (md := .any) hC hκ hB.1 l 0 (Array.replicate l.toArray.size false) (fun _ _ => True) a (by simp) (by simpa using hB.2) ?_ (fun _ _ => rfl) ⟨w, Grow.refl w, fun _ => trivial⟩ (fun _ _ _ _ _ => trivial) h
  · simpa using this
  · intro k o _ hk
    simp [Array.getD] at hk
attribute [go_sem] effUpon
attribute [irreducible] wpGrow
end
end GrowR
end Go
