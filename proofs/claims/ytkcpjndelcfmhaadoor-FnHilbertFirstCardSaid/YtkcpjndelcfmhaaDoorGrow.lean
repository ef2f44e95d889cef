import Derived.Still
import Derived.StillTail
import Derived.Below
import Derived.Deep.Draws
import Derived.Tactics
namespace Go
open Go.RowKit

/-- memory has only grown -/
def Grow (w w' : World) : Prop := Below w.heap.size w w'
theorem Grow.refl (w : World) : Grow w w := Below.refl _ _
theorem Grow.trans {a b c : World} (h : Grow a b) (k : Grow b c) : Grow a c := Below.trans h (Below.mono k h.size)
theorem Grow.drew {a b : World} (h : Grow a b) : Grow a b.drew := Below.drew h
theorem Grow.drewN {a b : World} (h : Grow a b) (n : Nat) : Grow a (b.drewN n) := ⟨h.os, h.tape, h.output, h.size, h.block⟩
theorem Grow.setCell {a b : World} (h : Grow a b) {p : Addr} (hp : a.heap.size ≤ p.block) (u : Value) : Grow a (b.setCell p u) := Below.setCell h hp u
theorem Grow.alloc {a b : World} (h : Grow a b) (o : Obj) : Grow a (b.alloc o) := Below.alloc h h.size o

namespace GrowR
section
variable {P : Program} {ops : Array Oper} {md : Region.Mode} {Rl : World → World → Prop} {C : World → Prop} {κ : Nat → Option (List Value → Nat → Nat → Value → World → Prop)}

/-- what is known of the operations that have come up: a fact, and where their new blocks lie -/
abbrev Hs := Nat → (World → Prop) × Option (Nat × Nat)

/-- operation 'j' comes behind operation 'i' -/
inductive Anc (md : Region.Mode) (ops : Array Oper) : Nat → Nat → Prop
  | one {j i : Nat} {o : Oper} {e : Edge} (h : ops[j]? = some o) (he : e ∈ o.after) (hb : Region.binds md e = true) (hi : e.on = i) : Anc md ops j i
  | more {j i : Nat} {o : Oper} {e : Edge} (h : ops[j]? = some o) (he : e ∈ o.after) (hb : Region.binds md e = true) (hi : Anc md ops e.on i) : Anc md ops j i

def anc (md : Region.Mode) (ops : Array Oper) : Nat → Nat → Nat → Bool
  | 0, _, _ => false
  | n + 1, j, i => match ops[j]? with
    | none => false
    | some o => o.after.any fun e => Region.binds md e && (e.on == i || anc md ops n e.on i)

theorem anc_of : ∀ (n : Nat) {j i : Nat}, anc md ops n j i = true → Anc md ops j i
  | 0, _, _, h => by cases h
  | n + 1, j, i, h => by
    unfold anc at h
    split at h
    · cases h
    · rename_i o ho
      obtain ⟨e, he, h⟩ := Array.any_eq_true'.1 h
      simp only [Bool.and_eq_true, Bool.or_eq_true, beq_iff_eq] at h
      rcases h with ⟨hb, h | h⟩
      · exact .one ho he hb h
      · exact .more ho he hb (anc_of n h)

/-- what is known of the world where operation 'j' comes up -/
def cls (md : Region.Mode) (ops : Array Oper) (C : World → Prop) (hist : Hs) (j : Nat) (w : World) : Prop := C w ∧ ∀ k, Anc md ops j k → (hist k).1 w

def set (hist : Hs) (i : Nat) (X : (World → Prop) × Option (Nat × Nat)) : Hs := fun k => if k = i then X else hist k

/-- all that is known is so in this world -/
def Holds (hist : Hs) (w : World) : Prop := ∀ k, (hist k).1 w ∧ ∀ a b, (hist k).2 = some (a, b) → b ≤ w.heap.size
/-- new blocks of another operation lie elsewhere -/
def Away (hist : Hs) (lo hi : Nat) : Prop := ∀ k a b, (hist k).2 = some (a, b) → b ≤ lo ∨ hi ≤ a

/-- what may have come of an operation -/
def Can (C : World → Prop) (hist : Hs) (Φ : Nat → Nat → Value → World → Prop) (v : Value) (lo hi : Nat) : Prop := lo ≤ hi ∧ Away hist lo hi ∧ ∃ w, C w ∧ Holds hist w ∧ Φ lo hi v w ∧ hi ≤ w.heap.size

/-- one value, the world as it was -/
def detAt (P : Program) (o : Oper) (a : Act) (C : World → Prop) (v : Value) : Prop :=
  ∀ w, C w → (execOp a.eval o).run P w = .ok (.value v) w ∨ ((execOp a.eval o).run P w = .ok .skip w ∧ v = undef)

/-- what a call leaves -/
def EffPostR (Rl : World → World → Prop) (Φ : Nat → Nat → Value → World → Prop) (w : World) (e : Ending) (w'' : World) : Prop := ∃ u, e = .returned u ∧ Rl w w'' ∧ Φ w.heap.size w''.heap.size u w''
theorem EffPost.mk {Φ : Nat → Nat → Value → World → Prop} {w w'' : World} {u : Value} (hg : Rl w w'') (h : Φ w.heap.size w''.heap.size u w'') : EffPostR Rl Φ w (.returned u) w'' := ⟨u, rfl, hg, h⟩
abbrev EffPost (Φ : Nat → Nat → Value → World → Prop) (w : World) (e : Ending) (w'' : World) : Prop := EffPostR Grow Φ w e w''

/-- what an operation leaves -/
def EffVal (Rl : World → World → Prop) (Φ : Nat → Nat → Value → World → Prop) (w : World) (u : Value) (w' : World) : Prop := Rl w w' ∧ Φ w.heap.size w'.heap.size u w'
theorem EffVal.mk {Φ : Nat → Nat → Value → World → Prop} {w w' : World} {u : Value} (hg : Rl w w') (h : Φ w.heap.size w'.heap.size u w') : EffVal Rl Φ w u w' := ⟨hg, h⟩

def effUpon (P : Program) (Rl : World → World → Prop) (Φ : Nat → Nat → Value → World → Prop) (w : World) : Result Next → Prop
  | .ok (.value u) w' => EffVal Rl Φ w u w'
  | .ok .skip w' => EffVal Rl Φ w undef w'
  | .ok (.enter f args) w' => Calls P f args w' (EffPostR Rl Φ w)
  | _ => False

/-- a value of which something is known, memory grows -/
def effAt (P : Program) (Rl : World → World → Prop) (o : Oper) (a : Act) (C : World → Prop) (Φ : Nat → Nat → Value → World → Prop) : Prop := ∀ w, C w → effUpon P Rl Φ w ((execOp a.eval o).run P w)

/-- what an operation is given -/
def argsOf (o : Oper) (a : Act) : List Value := o.op.operands.toList.map a.eval

def gOp (P : Program) (md : Region.Mode) (ops : Array Oper) (Rl : World → World → Prop) (C : World → Prop) (κ : Nat → Option (List Value → Nat → Nat → Value → World → Prop)) (i : Nat)
    (K : Hs → Act → Prop) (hist : Hs) (a : Act) : Prop :=
  match ops[i]? with
  | none => K hist a
  | some o => if Region.wanted o (yielded ops a.tmps) then
      match κ i with
      | none => ∃ v, detAt P o a (cls md ops C hist i) v ∧ K hist (a.put o.dst v)
      | some Φ => effAt P Rl o a (cls md ops C hist i) (Φ (argsOf o a)) ∧ ∀ v lo hi, Can C hist (Φ (argsOf o a)) v lo hi → K (set hist i (Φ (argsOf o a) lo hi v, some (lo, hi))) (a.put o.dst v)
    else K hist (a.put o.dst undef)

def wpAnyG (P : Program) (md : Region.Mode) (ops : Array Oper) (Rl : World → World → Prop) (C : World → Prop) (κ : Nat → Option (List Value → Nat → Nat → Value → World → Prop)) (Q : Hs → Act → Prop) :
    Nat → Array Bool → Hs → Act → Prop
  | 0, listed, hist, a => Region.ready md ops listed = [] ∧ Q hist a
  | fuel + 1, listed, hist, a =>
    (Region.ready md ops listed = [] → Q hist a) ∧
    ∀ i ∈ Region.ready md ops listed, gOp P md ops Rl C κ i (wpAnyG P md ops Rl C κ Q fuel (listed.setIfInBounds i true)) hist a

/-- up-closed -/
def Up (X : World → Prop) : Prop := ∀ w w', X w → Grow w w' → X w'
def UpR (Rl : World → World → Prop) (X : World → Prop) : Prop := ∀ w w', X w → Rl w w' → X w'

theorem effUpon_ex {Φ : Nat → Nat → Value → World → Prop} {w : World} {r : Result Next} (h : effUpon P Rl Φ w r) : ∃ v w', Rl w w' ∧ Φ w.heap.size w'.heap.size v w' := by
  cases r with
  | halt x w' => simp only [effUpon] at h
  | ok n w' =>
    cases n <;> simp only [effUpon] at h
    case value u => exact ⟨_, _, h⟩
    case skip => exact ⟨_, _, h⟩
    case enter f args =>
      obtain ⟨e, w'', fr, ⟨u, he, hg, hp⟩, _⟩ := h []
      exact ⟨u, w'', hg, hp⟩

theorem Oper.wp_of_eff {o : Oper} {a : Act} {K' : Act → World → Prop} {Q' : Exit → Act → World → Prop} {w : World} {Φ : Nat → Nat → Value → World → Prop}
    (h : effUpon P Rl Φ w ((execOp a.eval o).run P w)) (hk : ∀ v w', Rl w w' → Φ w.heap.size w'.heap.size v w' → K' (a.put o.dst v) w') : o.wp P a w K' Q' := by
  unfold Oper.wp
  generalize (execOp a.eval o).run P w = r at *
  cases r with
  | halt x w' => simp only [effUpon] at h
  | ok n w' =>
    cases n <;> simp only [effUpon] at h <;> simp only [Oper.upon]
    case value u => exact hk _ _ h.1 h.2
    case skip => exact hk _ _ h.1 h.2
    case enter f args => exact h.mono fun e w'' ⟨u, he, hg, hp⟩ => by subst he; exact hk _ _ hg hp

/-- each fact is up-closed -/
def Ups (Rl : World → World → Prop) (hist : Hs) : Prop := (∀ a b, Rl a b → a.heap.size ≤ b.heap.size) ∧ ∀ k, UpR Rl (hist k).1

theorem Holds.up {hist : Hs} (hu : Ups Rl hist) {w w' : World} (h : Holds hist w) (hg : Rl w w') : Holds hist w' := fun k => ⟨hu.2 k _ _ (h k).1 hg, fun a b e => Nat.le_trans ((h k).2 a b e) (hu.1 _ _ hg)⟩
theorem Holds.set {hist : Hs} {i : Nat} {X : World → Prop} {lo hi : Nat} {w : World} (h : Holds hist w) (hx : X w) (hb : hi ≤ w.heap.size) : Holds (GrowR.set hist i (X, some (lo, hi))) w := fun k => by
  unfold GrowR.set; split
  · exact ⟨hx, fun a b e => by cases e; exact hb⟩
  · exact h k
theorem Ups.set {hist : Hs} {i : Nat} {X : World → Prop} {o : Option (Nat × Nat)} (h : Ups Rl hist) (hx : UpR Rl X) : Ups Rl (GrowR.set hist i (X, o)) := ⟨h.1, fun k => by
  unfold GrowR.set; split
  · exact hx
  · exact h.2 k⟩

variable (hC : UpR Rl C) (hκ : ∀ i Φ, κ i = some Φ → ∀ as lo hi v, UpR Rl (Φ as lo hi v))

include hC in
theorem Can.of_run {hist : Hs} (hu : Ups Rl hist) {Φ : Nat → Nat → Value → World → Prop} {v : Value} {w w' : World} (hw : C w) (hh : Holds hist w) (hg : Rl w w') (hp : Φ w.heap.size w'.heap.size v w') : Can C hist Φ v w.heap.size w'.heap.size :=
  ⟨hu.1 _ _ hg, fun k a b e => Or.inl ((hh k).2 a b e), w', hC _ _ hw hg, hh.up hu hg, hp, Nat.le_refl _⟩

include hC hκ in
/-- from classes to worlds -/
theorem wpAny_of_G {Q : Hs → Act → Prop} {Q' : Exit → Act → World → Prop} (hQ : ∀ hist a w, C w → Holds hist w → Q hist a → Q' .normal a w) :
    ∀ (fuel : Nat) (listed : Array Bool) (hist : Hs) (a : Act) (w : World), C w → Holds hist w → Ups Rl hist →
      wpAnyG P md ops Rl C κ Q fuel listed hist a → wpAny P md ops Q' fuel listed a w
  | 0, _, _, _, _, hw, hh, _, h => ⟨h.1, hQ _ _ _ hw hh h.2⟩
  | fuel + 1, listed, hist, a, w, hw, hh, hu, h => by
    refine ⟨fun h0 => hQ _ _ _ hw hh (h.1 h0), fun i hi => ?_⟩
    have hg := h.2 i hi
    unfold gOp at hg
    unfold wpOp
    split
    · rename_i ho
      simp only [ho] at hg
      exact wpAny_of_G hQ fuel _ _ _ _ hw hh hu hg
    · rename_i o ho
      simp only [ho] at hg
      split
      · rename_i hwt
        simp only [hwt, if_true] at hg
        left
        cases hk : κ i with
        | none =>
          simp only [hk] at hg
          obtain ⟨v, hv, hn⟩ := hg
          unfold Oper.wp
          rcases hv w ⟨hw, fun k _ => (hh k).1⟩ with e | ⟨e, rfl⟩ <;> rw [e] <;> simp only [Oper.upon] <;> exact wpAny_of_G hQ fuel _ _ _ _ hw hh hu hn
        | some Φ =>
          simp only [hk] at hg
          obtain ⟨he, hn⟩ := hg
          refine Oper.wp_of_eff (he w ⟨hw, fun k _ => (hh k).1⟩) fun v w' hgw hp => ?_
          exact wpAny_of_G hQ fuel _ _ _ _ (hC _ _ hw hgw) ((hh.up hu hgw).set hp (Nat.le_refl _)) (hu.set (hκ i Φ hk _ _ _ v)) (hn v _ _ (Can.of_run hC hu hw hh hgw hp))
      · rename_i hwt
        simp only [hwt] at hg
        exact wpAny_of_G hQ fuel _ _ _ _ hw hh hu hg

/-- what is listed has all that it waits for listed -/
def DC (md : Region.Mode) (ops : Array Oper) (listed : Array Bool) : Prop := ∀ k o, ops[k]? = some o → listed.getD k false = true → ∀ e ∈ o.after, Region.binds md e = true → listed.getD e.on false = true

theorem DC.set {listed : Array Bool} (h : DC md ops listed) {i : Nat} (hi : i ∈ Region.ready md ops listed) : DC md ops (listed.setIfInBounds i true) := by
  intro k o ho hk e he hb
  by_cases hki : k = i
  · subst hki
    obtain ⟨_, o', ho', hall⟩ := mem_ready.1 hi
    obtain rfl : o' = o := by rw [ho] at ho'; exact (Option.some.inj ho').symm
    exact getD_set_true (hall e he hb)
  · refine getD_set_true (h k o ho ?_ e he hb)
    rwa [getD_set_ne false (Ne.symm hki)] at hk

theorem DC.anc {listed : Array Bool} (h : DC md ops listed) {j i : Nat} (ha : Anc md ops j i) : (∀ o, ops[j]? = some o → ∀ e ∈ o.after, Region.binds md e = true → listed.getD e.on false = true) → listed.getD i false = true := by
  induction ha with
  | one ho he hb hi => intro hj; subst hi; exact hj _ ho _ he hb
  | more ho he hb _ ih => intro hj; exact ih fun o ho' e' he' hb' => h _ _ ho' (hj _ ho _ he hb) _ he' hb'

theorem DC.not_anc {listed : Array Bool} (h : DC md ops listed) {i j : Nat} (hi : i ∈ Region.ready md ops listed) (hj : j ∈ Region.ready md ops listed) : ¬ Anc md ops j i := by
  intro ha
  obtain ⟨_, oj, hoj, hall⟩ := mem_ready.1 hj
  have h1 := h.anc ha (fun o ho e he hb => by rw [hoj] at ho; cases ho; exact hall e he hb)
  have h0 := (mem_ready.1 hi).1
  rcases Nat.lt_or_ge i listed.size with h' | h'
  · simp [h'] at h0 h1; rw [h0] at h1; cases h1
  · simp [Array.getElem?_eq_none h'] at h1

theorem cls_set {hist : Hs} {i j : Nat} {X : (World → Prop) × Option (Nat × Nat)} (h : ¬ Anc md ops j i) : cls md ops C (set hist i X) j = cls md ops C hist j := by
  funext w
  unfold cls
  apply propext
  refine and_congr Iff.rfl (forall_congr' fun k => ?_)
  refine forall_congr' fun hk => ?_
  have hki : k ≠ i := by rintro rfl; exact h hk
  unfold set
  rw [if_neg hki]

theorem set_comm {hist : Hs} {i j : Nat} {X Y : (World → Prop) × Option (Nat × Nat)} (h : i ≠ j) : set (set hist i X) j Y = set (set hist j Y) i X := by
  funext k
  unfold set
  by_cases h1 : k = i <;> by_cases h2 : k = j <;> simp [h1, h2]
  · omega
  · intro e; exact absurd e h
  · intro e; exact absurd e.symm h

theorem detAt_put {o : Oper} {a : Act} {X : World → Prop} {v : Value} (hs : ∀ cs b, o.op ≠ .select cs b) {dst : Option Tmp} {u : Value} (h : ∀ d, dst = some d → d ∉ o.looksAt ops) :
    detAt P o (a.put dst u) X v = detAt P o a X v := by
  unfold detAt; rw [execOp_put o hs a dst u h]
theorem effAt_put {o : Oper} {a : Act} {X : World → Prop} {Φ : Nat → Nat → Value → World → Prop} (hs : ∀ cs b, o.op ≠ .select cs b) {dst : Option Tmp} {u : Value} (h : ∀ d, dst = some d → d ∉ o.looksAt ops) :
    effAt P Rl o (a.put dst u) X Φ = effAt P Rl o a X Φ := by
  unfold effAt; rw [execOp_put o hs a dst u h]

theorem argsOf_put {o : Oper} {a : Act} {dst : Option Tmp} {u : Value} (h : ∀ d, dst = some d → d ∉ o.looksAt ops) : argsOf o (a.put dst u) = argsOf o a := by
  unfold argsOf
  refine List.map_congr_left fun x hx => Act.eval_put fun d hd hx' => ?_
  refine h d hd ?_
  unfold Oper.looksAt
  refine List.mem_append_left _ ?_
  rw [List.mem_filterMap]
  exact ⟨x, hx, by rw [hx']⟩

theorem detAt_uniq {o : Oper} {a : Act} {X : World → Prop} {u v : Value} (hx : ∃ w, X w) (h : detAt P o a X u) (h' : detAt P o a X v) : u = v := by
  obtain ⟨w, hw⟩ := hx
  rcases h w hw with e | ⟨e, rfl⟩ <;> rcases h' w hw with e' | ⟨e', rfl⟩ <;> rw [e] at e' <;> cases e' <;> rfl

/-- some world is as the facts say -/
def Ne (C : World → Prop) (hist : Hs) : Prop := ∃ w, C w ∧ Holds hist w

theorem _root_.Go.GrowR.Ne.cls {hist : Hs} (h : Ne C hist) (j : Nat) : ∃ w, cls md ops C hist j w := let ⟨w, h1, h2⟩ := h; ⟨w, h1, fun k _ => (h2 k).1⟩

/-- what the proof knows of the operations that have not come up -/
def Fresh (listed : Array Bool) (hist : Hs) : Prop := ∀ k, listed.getD k true = false → hist k = (fun _ => True, none)

theorem Fresh.set {listed : Array Bool} {hist : Hs} (h : Fresh listed hist) (i : Nat) (X : (World → Prop) × Option (Nat × Nat)) (hi : i < listed.size) : Fresh (listed.setIfInBounds i true) (set hist i X) := by
  intro k hk
  unfold GrowR.set
  by_cases hki : k = i
  · subst hki; simp [hi] at hk
  · rw [if_neg hki]; exact h k (by rwa [getD_set_ne true (Ne.symm hki)] at hk)

theorem Fresh.mono {listed : Array Bool} {hist : Hs} (h : Fresh listed hist) (i : Nat) : Fresh (listed.setIfInBounds i true) hist := by
  intro k hk
  by_cases hki : k = i
  · subst hki
    by_cases hi : k < listed.size
    · simp [hi] at hk
    · exact h k (by rw [Array.setIfInBounds_eq_of_size_le (by omega)] at hk; exact hk)
  · exact h k (by rwa [getD_set_ne true (Ne.symm hki)] at hk)

theorem ready_lt {listed : Array Bool} {i : Nat} (h : i ∈ Region.ready md ops listed) : i < listed.size := by
  have h0 := (mem_ready.1 h).1
  rcases Nat.lt_or_ge i listed.size with h' | h'
  · exact h'
  · simp [Array.getElem?_eq_none h'] at h0

/-- two operations' outcomes, in either order -/
theorem Can.swap {hist : Hs} {i j : Nat} {Φ Ψ : Nat → Nat → Value → World → Prop} {u v : Value} {lo hi lo' hi' : Nat} (hij : i ≠ j) (hj : hist j = (fun _ => True, none))
    (hu : Can C hist Ψ u lo' hi') (hv : Can C (set hist j (Ψ lo' hi' u, some (lo', hi'))) Φ v lo hi) :
    Can C hist Φ v lo hi ∧ Can C (set hist i (Φ lo hi v, some (lo, hi))) Ψ u lo' hi' := by
  obtain ⟨u1, u2, _⟩ := hu
  obtain ⟨v1, v2, w, w1, w2, w3, w4⟩ := hv
  have back : ∀ k, k ≠ j → set hist j (Ψ lo' hi' u, some (lo', hi')) k = hist k := fun k hk => by unfold set; rw [if_neg hk]
  have here : set hist j (Ψ lo' hi' u, some (lo', hi')) j = (Ψ lo' hi' u, some (lo', hi')) := by unfold set; rw [if_pos rfl]
  have hold : Holds hist w := fun k => by
    by_cases hk : k = j
    · subst hk; rw [hj]; exact ⟨trivial, fun a b e => by cases e⟩
    · have := w2 k; rwa [back k hk] at this
  have hjw := w2 j
  rw [here] at hjw
  refine ⟨⟨v1, fun k a b e => ?_, w, w1, hold, w3, w4⟩, u1, fun k a b e => ?_, w, w1, hold.set w3 w4, hjw.1, hjw.2 _ _ rfl⟩
  · by_cases hk : k = j
    · subst hk; rw [hj] at e; cases e
    · exact v2 k a b (by rw [back k hk]; exact e)
  · unfold set at e
    split at e
    · cases e
      have := v2 j lo' hi' (by rw [here])
      exact this.symm
    · exact u2 k a b e

include hC hκ in
/-- two operations that are apart, in either order -/
theorem gOp_swap {i j : Nat} {oi oj : Oper} {listed : Array Bool} {hist : Hs} {a : Act} {R R' : Hs → Act → Prop} (hi : ops[i]? = some oi) (hoj : ops[j]? = some oj) (hji : j ≠ i)
    (hsi : ∀ cs b, oi.op ≠ .select cs b) (hsj : ∀ cs b, oj.op ≠ .select cs b) (hap : oi.apart ops oj = true) (nji : ¬ Anc md ops j i) (nij : ¬ Anc md ops i j)
    (hjun : listed.getD j true = false) (hjl : j < listed.size) (hfr : Fresh listed hist) (hne : Ne C hist) (hup : Ups Rl hist)
    (go : ∀ (hist' : Hs) (u : Value), Fresh (listed.setIfInBounds j true) hist' → Ne C hist' → Ups Rl hist' → gOp P md ops Rl C κ i R hist' (a.put oj.dst u) → R' hist' (a.put oj.dst u))
    (H : gOp P md ops Rl C κ i (fun h a => gOp P md ops Rl C κ j R h a) hist a) : gOp P md ops Rl C κ j R' hist a := by
  obtain ⟨p1, p2, p3⟩ := Oper.apart_spec hap
  have wj : ∀ v, Region.wanted oj (yielded ops (a.put oi.dst v).tmps) = Region.wanted oj (yielded ops a.tmps) := fun v => wanted_put oj a oi.dst v p1
  have wi : ∀ u, Region.wanted oi (yielded ops (a.put oj.dst u).tmps) = Region.wanted oi (yielded ops a.tmps) := fun u => wanted_put oi a oj.dst u p3
  unfold gOp at H
  simp only [hi] at H
  -- the three ways of j
  unfold gOp
  simp only [hoj]
  by_cases hwj : Region.wanted oj (yielded ops a.tmps) = true
  · simp only [hwj, if_true]
    cases hkj : κ j with
    | none =>
      simp only []
      -- j is determined
      by_cases hwi : Region.wanted oi (yielded ops a.tmps) = true
      · simp only [hwi, if_true] at H
        cases hki : κ i with
        | none =>
          simp only [hki] at H
          obtain ⟨v, hv, hn⟩ := H
          have hjn := hn
          unfold gOp at hjn
          simp only [hoj, wj, hwj, if_true, hkj, detAt_put hsj p1] at hjn
          obtain ⟨u, hu, hun⟩ := hjn
          refine ⟨u, hu, go _ _ (hfr.mono j) hne hup ?_⟩
          unfold gOp
          simp only [hi, wi, hwi, if_true, hki, detAt_put hsi p3]
          refine ⟨v, hv, ?_⟩
          rw [← Act.put_comm a v u p2]; exact hun
        | some Φ =>
          simp only [hki] at H
          obtain ⟨he, hn⟩ := H
          have hstep : ∀ v lo hi, Can C hist (Φ (argsOf oi a)) v lo hi → ∃ u, detAt P oj a (cls md ops C hist j) u ∧ R (set hist i (Φ (argsOf oi a) lo hi v, some (lo, hi))) ((a.put oi.dst v).put oj.dst u) := by
            intro v lo hi hv
            have hjn := hn v lo hi hv
            unfold gOp at hjn
            simp only [hoj, wj, hwj, if_true, hkj, detAt_put hsj p1, cls_set nji] at hjn
            exact hjn
          obtain ⟨w, hw, hh⟩ := id hne
          obtain ⟨v0, w', hg, hp⟩ := effUpon_ex (he w ⟨hw, fun k _ => (hh k).1⟩)
          have can0 := Can.of_run hC hup hw hh hg hp
          obtain ⟨u0, hu0, _⟩ := hstep v0 _ _ can0
          refine ⟨u0, hu0, go _ _ (hfr.mono j) hne hup ?_⟩
          unfold gOp
          simp only [hi, wi, hwi, if_true, hki, effAt_put hsi p3, argsOf_put p3]
          refine ⟨he, fun v lo hi hv => ?_⟩
          obtain ⟨u, hu, hun⟩ := hstep v lo hi hv
          obtain rfl := detAt_uniq (hne.cls j) hu hu0
          rw [← Act.put_comm a v u p2]; exact hun
      · simp only [hwi] at H
        have hjn := H
        unfold gOp at hjn
        simp only [hoj, wj, hwj, if_true, hkj, detAt_put hsj p1] at hjn
        obtain ⟨u, hu, hun⟩ := hjn
        refine ⟨u, hu, go _ _ (hfr.mono j) hne hup ?_⟩
        unfold gOp
        simp only [hi, wi, hwi]
        rw [if_neg (by decide), ← Act.put_comm a undef u p2]; exact hun
    | some Ψ =>
      simp only []
      by_cases hwi : Region.wanted oi (yielded ops a.tmps) = true
      · simp only [hwi, if_true] at H
        cases hki : κ i with
        | none =>
          simp only [hki] at H
          obtain ⟨v, hv, hn⟩ := H
          have hjn := hn
          unfold gOp at hjn
          simp only [hoj, wj, hwj, if_true, hkj, effAt_put hsj p1, argsOf_put p1] at hjn
          refine ⟨hjn.1, fun u lo' hi' hu => go _ _ (hfr.set j _ hjl) ?_ (hup.set (hκ j Ψ hkj _ _ _ u)) ?_⟩
          · obtain ⟨_, _, w, h1, h2, h3, h4⟩ := hu; exact ⟨w, h1, h2.set h3 h4⟩
          unfold gOp
          simp only [hi, wi, hwi, if_true, hki, detAt_put hsi p3, cls_set nij]
          refine ⟨v, hv, ?_⟩
          rw [← Act.put_comm a v u p2]; exact hjn.2 u lo' hi' hu
        | some Φ =>
          simp only [hki] at H
          obtain ⟨he, hn⟩ := H
          have hstep : ∀ v lo hi, Can C hist (Φ (argsOf oi a)) v lo hi → effAt P Rl oj a (cls md ops C hist j) (Ψ (argsOf oj a)) ∧ ∀ u lo' hi', Can C (set hist i (Φ (argsOf oi a) lo hi v, some (lo, hi))) (Ψ (argsOf oj a)) u lo' hi' → R (set (set hist i (Φ (argsOf oi a) lo hi v, some (lo, hi))) j (Ψ (argsOf oj a) lo' hi' u, some (lo', hi'))) ((a.put oi.dst v).put oj.dst u) := by
            intro v lo hi hv
            have hjn := hn v lo hi hv
            unfold gOp at hjn
            simp only [hoj, wj, hwj, if_true, hkj, effAt_put hsj p1, argsOf_put p1, cls_set nji] at hjn
            exact hjn
          obtain ⟨w, hw, hh⟩ := id hne
          obtain ⟨v0, w', hg, hp⟩ := effUpon_ex (he w ⟨hw, fun k _ => (hh k).1⟩)
          have can0 := Can.of_run hC hup hw hh hg hp
          refine ⟨(hstep v0 _ _ can0).1, fun u lo' hi' hu => go _ _ (hfr.set j _ hjl) ?_ (hup.set (hκ j Ψ hkj _ _ _ u)) ?_⟩
          · obtain ⟨_, _, w, h1, h2, h3, h4⟩ := hu; exact ⟨w, h1, h2.set h3 h4⟩
          unfold gOp
          simp only [hi, wi, hwi, if_true, hki, effAt_put hsi p3, argsOf_put p3, cls_set nij]
          refine ⟨he, fun v lo hi hv => ?_⟩
          obtain ⟨s1, s2⟩ := Can.swap (Ne.symm hji) (hfr j hjun) hu hv
          have := (hstep v lo hi s1).2 u lo' hi' s2
          rw [← Act.put_comm a v u p2, ← set_comm (Ne.symm hji)]; exact this
      · simp only [hwi] at H
        have hjn := H
        unfold gOp at hjn
        simp only [hoj, wj, hwj, if_true, hkj, effAt_put hsj p1, argsOf_put p1] at hjn
        refine ⟨hjn.1, fun u lo' hi' hu => go _ _ (hfr.set j _ hjl) ?_ (hup.set (hκ j Ψ hkj _ _ _ u)) ?_⟩
        · obtain ⟨_, _, w, h1, h2, h3, h4⟩ := hu; exact ⟨w, h1, h2.set h3 h4⟩
        unfold gOp
        simp only [hi, wi, hwi]
        rw [if_neg (by decide), ← Act.put_comm a undef u p2]; exact hjn.2 u lo' hi' hu
  · simp only [hwj]
    rw [if_neg (by decide)]
    by_cases hwi : Region.wanted oi (yielded ops a.tmps) = true
    · simp only [hwi, if_true] at H
      cases hki : κ i with
      | none =>
        simp only [hki] at H
        obtain ⟨v, hv, hn⟩ := H
        have hjn := hn
        unfold gOp at hjn
        simp only [hoj, wj, hwj] at hjn
        rw [if_neg (by decide)] at hjn
        refine go _ _ (hfr.mono j) hne hup ?_
        unfold gOp
        simp only [hi, wi, hwi, if_true, hki, detAt_put hsi p3]
        refine ⟨v, hv, ?_⟩
        rw [← Act.put_comm a v undef p2]; exact hjn
      | some Φ =>
        simp only [hki] at H
        obtain ⟨he, hn⟩ := H
        refine go _ _ (hfr.mono j) hne hup ?_
        unfold gOp
        simp only [hi, wi, hwi, if_true, hki, effAt_put hsi p3, argsOf_put p3]
        refine ⟨he, fun v lo hi hv => ?_⟩
        have hjn := hn v lo hi hv
        unfold gOp at hjn
        simp only [hoj, wj, hwj] at hjn
        rw [if_neg (by decide)] at hjn
        rw [← Act.put_comm a v undef p2]; exact hjn
    · simp only [hwi] at H
      have hjn := H
      unfold gOp at hjn
      simp only [hoj, wj, hwj] at hjn
      rw [if_neg (by decide)] at hjn
      refine go _ _ (hfr.mono j) hne hup ?_
      unfold gOp
      simp only [hi, wi, hwi]
      rw [if_neg (by decide), ← Act.put_comm a undef undef p2]; exact hjn

/-- what a step, taken first, hands on, somewhere -/
theorem gOp_some {i : Nat} {oi : Oper} {hist : Hs} {a : Act} {K : Hs → Act → Prop} {X : Prop} (hC : UpR Rl C) (hi : ops[i]? = some oi) (hne : Ne C hist) (hup : Ups Rl hist) (hx : ∀ h a, K h a → X)
    (H : gOp P md ops Rl C κ i K hist a) : X := by
  unfold gOp at H
  simp only [hi] at H
  split at H
  · cases hk : κ i with
    | none => simp only [hk] at H; obtain ⟨v, _, h⟩ := H; exact hx _ _ h
    | some Φ =>
      simp only [hk] at H
      obtain ⟨he, h⟩ := H
      obtain ⟨w, hw, hh⟩ := hne
      obtain ⟨v, w', hg, hp⟩ := effUpon_ex (he w ⟨hw, fun k _ => (hh k).1⟩)
      exact hx _ _ (h v _ _ (Can.of_run hC hup hw hh hg hp))
  · exact hx _ _ H

theorem gOp_imp {i : Nat} {hist : Hs} {a : Act} {K K' : Hs → Act → Prop} (h : ∀ h a, K h a → K' h a) (H : gOp P md ops Rl C κ i K hist a) : gOp P md ops Rl C κ i K' hist a := by
  unfold gOp at *
  split
  · rename_i e; simp only [e] at H; exact h _ _ H
  · rename_i o e
    simp only [e] at H
    split
    · rename_i hw
      simp only [hw, if_true] at H
      cases hk : κ i with
      | none => simp only [hk] at H ⊢; obtain ⟨v, h1, h2⟩ := H; exact ⟨v, h1, h _ _ h2⟩
      | some Φ => simp only [hk] at H ⊢; exact ⟨H.1, fun v lo hi hv => h _ _ (H.2 v lo hi hv)⟩
    · rename_i hw
      simp only [hw] at H
      exact h _ _ H

include hC hκ in
/-- **AN OPERATION THAT MAY COME UP MAY BE TAKEN FIRST.** -/
theorem wpAnyG_first {Q : Hs → Act → Prop} {i : Nat} {oi : Oper} (hi : ops[i]? = some oi) (hsel : ∀ (j : Nat) (o : Oper) cs b, ops[j]? = some o → o.op ≠ .select cs b) :
    ∀ (fuel : Nat) (listed : Array Bool) (hist : Hs) (a : Act),
      (∀ j oj, ops[j]? = some oj → j ≠ i → listed.getD j true = false → (∀ e ∈ oj.after, Region.binds md e = true → e.on ≠ i) → oi.apart ops oj = true) →
      DC md ops listed → Fresh listed hist → Ne C hist → Ups Rl hist →
      i ∈ Region.ready md ops listed → gOp P md ops Rl C κ i (wpAnyG P md ops Rl C κ Q fuel (listed.setIfInBounds i true)) hist a →
      wpAnyG P md ops Rl C κ Q (fuel + 1) listed hist a := by
  intro fuel
  induction fuel with
  | zero =>
    intro listed hist a _ _ _ hne hup hr H
    refine ⟨fun h => (by rw [h] at hr; cases hr), fun j hj => ?_⟩
    by_cases hji : j = i
    · subst hji; exact H
    · exfalso
      have hj' := ready_mono hj hji
      have key : Region.ready md ops (listed.setIfInBounds i true) = [] := gOp_some hC hi hne hup (fun _ _ h => h.1) H
      rw [key] at hj'
      cases hj'
  | succ fuel ih =>
    intro listed hist a hfree hdc hfr hne hup hr H
    refine ⟨fun h => (by rw [h] at hr; cases hr), fun j hj => ?_⟩
    by_cases hji : j = i
    · subst hji; exact H
    have hj' := ready_mono hj hji
    obtain ⟨hjun, oj, hoj, hall⟩ := mem_ready.1 hj
    have hiun := (mem_ready.1 hr).1
    have hnot : ∀ e ∈ oj.after, Region.binds md e = true → e.on ≠ i := fun e he hb heq => by
      have h1 := hall e he hb
      rw [heq, getD_both hiun] at h1
      cases h1
    have hfree' : ∀ k ok, ops[k]? = some ok → k ≠ i → (listed.setIfInBounds j true).getD k true = false →
        (∀ e ∈ ok.after, Region.binds md e = true → e.on ≠ i) → oi.apart ops ok = true := fun k ok hk hki hun hno => by
      refine hfree k ok hk hki ?_ hno
      by_cases hjk : j = k
      · subst hjk; exact hjun
      · rw [getD_set_ne true hjk] at hun; exact hun
    refine gOp_swap hC hκ hi hoj hji (fun cs b => hsel i oi cs b hi) (fun cs b => hsel j oj cs b hoj) (hfree j oj hoj hji hjun hnot) (hdc.not_anc hr hj) (hdc.not_anc hj hr) hjun (ready_lt hj) hfr hne hup
      (R := wpAnyG P md ops Rl C κ Q fuel ((listed.setIfInBounds i true).setIfInBounds j true)) (fun hist' u h1 h2 h3 h4 => ih _ _ _ hfree' (hdc.set hj) h1 h2 h3 (ready_mono hr (Ne.symm hji)) ?_) (gOp_imp (fun _ _ h => h.2 j hj') H)
    rw [Array.setIfInBounds_comm _ _ hji]; exact h4

/-- the operations in the order of the text -/
def wpGrow (P : Program) (md : Region.Mode) (ops : Array Oper) (Rl : World → World → Prop) (C : World → Prop) (κ : Nat → Option (List Value → Nat → Nat → Value → World → Prop)) (Q : Hs → Act → Prop) : List Oper → Nat → Hs → Act → Prop
  | [], _, hist, a => Q hist a
  | o :: rest, k, hist, a =>
    if Region.wanted o (yielded ops a.tmps) then
      match κ k with
      | none => ∃ v, detAt P o a (cls md ops C hist k) v ∧ wpGrow P md ops Rl C κ Q rest (k + 1) hist (a.put o.dst v)
      | some Φ => effAt P Rl o a (cls md ops C hist k) (Φ (argsOf o a)) ∧ ∀ v lo hi, Can C hist (Φ (argsOf o a)) v lo hi → wpGrow P md ops Rl C κ Q rest (k + 1) (set hist k (Φ (argsOf o a) lo hi v, some (lo, hi))) (a.put o.dst v)
    else wpGrow P md ops Rl C κ Q rest (k + 1) hist (a.put o.dst undef)

section
variable {Q : Hs → Act → Prop} {o : Oper} {rest : List Oper} {k : Nat} {hist : Hs} {a : Act}
theorem wpGrow_nil (h : Q hist a) : wpGrow P md ops Rl C κ Q [] k hist a := h
theorem wpGrow_det (hw : Region.wanted o (yielded ops a.tmps) = true) (hk : κ k = none) {v : Value} (h : detAt P o a (cls md ops C hist k) v)
    (hn : wpGrow P md ops Rl C κ Q rest (k + 1) hist (a.put o.dst v)) : wpGrow P md ops Rl C κ Q (o :: rest) k hist a := by
  unfold wpGrow; rw [if_pos hw, hk]; exact ⟨v, h, hn⟩
theorem wpGrow_det' (hw : Region.wanted o (yielded ops a.tmps) = true) (hk : κ k = none) (h : ∃ v, (∀ w, C w → (∀ k', Anc md ops k k' → (hist k').1 w) → (execOp a.eval o).run P w = .ok (.value v) w) ∧
    wpGrow P md ops Rl C κ Q rest (k + 1) hist (a.put o.dst v)) : wpGrow P md ops Rl C κ Q (o :: rest) k hist a :=
  let ⟨_, h1, h2⟩ := h
  wpGrow_det hw hk (fun w hc => .inl (h1 w hc.1 hc.2)) h2
theorem wpGrow_eff {Φ : List Value → Nat → Nat → Value → World → Prop} (hw : Region.wanted o (yielded ops a.tmps) = true) (hk : κ k = some Φ) (h : effAt P Rl o a (cls md ops C hist k) (Φ (argsOf o a)))
    (hn : ∀ v lo hi, Can C hist (Φ (argsOf o a)) v lo hi → wpGrow P md ops Rl C κ Q rest (k + 1) (set hist k (Φ (argsOf o a) lo hi v, some (lo, hi))) (a.put o.dst v)) : wpGrow P md ops Rl C κ Q (o :: rest) k hist a := by
  unfold wpGrow; rw [if_pos hw, hk]; exact ⟨h, hn⟩
theorem wpGrow_eff' {Φ : List Value → Nat → Nat → Value → World → Prop} (hw : Region.wanted o (yielded ops a.tmps) = true) (hk : κ k = some Φ) (h : ∀ w, C w → (∀ k', Anc md ops k k' → (hist k').1 w) → effUpon P Rl (Φ (argsOf o a)) w ((execOp a.eval o).run P w))
    (hn : ∀ v lo hi w, Away hist lo hi → C w → Holds hist w → Φ (argsOf o a) lo hi v w → wpGrow P md ops Rl C κ Q rest (k + 1) (set hist k (Φ (argsOf o a) lo hi v, some (lo, hi))) (a.put o.dst v)) : wpGrow P md ops Rl C κ Q (o :: rest) k hist a :=
  wpGrow_eff hw hk (fun w hc => h w hc.1 hc.2) (fun v lo hi ⟨_, h0, w, h1, h2, h3, _⟩ => hn v lo hi w h0 h1 h2 h3)
theorem wpGrow_skip (hw : Region.wanted o (yielded ops a.tmps) = false) (hn : wpGrow P md ops Rl C κ Q rest (k + 1) hist (a.put o.dst undef)) : wpGrow P md ops Rl C κ Q (o :: rest) k hist a := by
  unfold wpGrow; rw [if_neg (by rw [hw]; decide)]; exact hn
end

theorem up_cell {w w' : World} {a : Addr} {v : Value} (h : w.cell? a = some v) (hg : Grow w w') : w'.cell? a = some v := by
  by_cases hb : a.block < w.heap.size
  · rw [Below.cell hg hb]; exact h
  · exfalso
    unfold World.cell? at h
    rw [Array.getElem?_eq_none (by omega)] at h
    simp at h
theorem grow_cell {w w' : World} (hg : Grow w w') : ∀ b o, b < w.heap.size → w'.cell? ⟨b, o, none⟩ = w.cell? ⟨b, o, none⟩ := fun _ _ h => Below.cell hg h
theorem grow_frozen {w w' : World} (hg : Grow w w') : ∀ b o, b < w.heap.size → w'.frozen? ⟨b, o, none⟩ = w.frozen? ⟨b, o, none⟩ := fun _ _ h => Below.frozen hg h

include hC hκ in
theorem wpAnyG_lex {Q : Hs → Act → Prop} (hs : Region.noSelect ops = true) : ∀ (l : List Oper) (k : Nat) (listed : Array Bool) (hist : Hs) (a : Act), (∀ j, l[j]? = ops[k + j]?) →
    Region.lexFrom md ops l.length k listed = true → DC md ops listed → Fresh listed hist → Ne C hist → Ups Rl hist →
    wpGrow P md ops Rl C κ Q l k hist a → wpAnyG P md ops Rl C κ Q l.length listed hist a
  | [], _, _, _, _, _, hB, _, _, _, _, h => ⟨by simpa [Region.lexFrom] using hB, h⟩
  | o :: l, k, listed, hist, a, hl, hB, hdc, hfr, hne, hup, h => by
    have h0 : ops[k]? = some o := by simpa using (hl 0).symm
    simp only [List.length_cons, Region.lexFrom, Bool.and_eq_true] at hB
    obtain ⟨⟨hr, hf⟩, hB'⟩ := hB
    have hr' : k ∈ Region.ready md ops listed := by simpa using hr
    have hl' : ∀ j, l[j]? = ops[k + 1 + j]? := fun j => by have := hl (j + 1); simpa [Nat.add_assoc, Nat.add_comm 1 j] using this
    refine wpAnyG_first hC hκ h0 (Region.noSelect_spec hs) l.length listed hist a (Region.free_spec h0 hf) hdc hfr hne hup hr' ?_
    unfold gOp
    simp only [h0]
    unfold wpGrow at h
    split
    · rename_i hw
      rw [if_pos hw] at h
      cases hk : κ k with
      | none =>
        simp only [hk] at h
        obtain ⟨v, hv, hn⟩ := h
        exact ⟨v, hv, wpAnyG_lex hs l (k + 1) _ _ _ hl' hB' (hdc.set hr') (hfr.mono k) hne hup hn⟩
      | some Φ =>
        simp only [hk] at h
        obtain ⟨he, hn⟩ := h
        refine ⟨he, fun v lo hi hv => wpAnyG_lex hs l (k + 1) _ _ _ hl' hB' (hdc.set hr') (hfr.set k _ (ready_lt hr')) ?_ (hup.set (hκ k Φ hk _ _ _ v)) (hn v lo hi hv)⟩
        obtain ⟨_, _, w, h1, h2, h3, h4⟩ := hv; exact ⟨w, h1, h2.set h3 h4⟩
    · rename_i hw
      rw [if_neg hw] at h
      exact wpAnyG_lex hs l (k + 1) _ _ _ hl' hB' (hdc.set hr') (hfr.mono k) hne hup h

/-- **A REGION THAT DRAWS ITS ORDER, WALKED ONCE IN THE ORDER OF THE TEXT:** its operations read, make memory, or turn memory as Rl lets them. -/
theorem wp_region_rel {id : Nat} {Q : Exit → Act → World → Prop} {a : Act} {w : World} {l : List Oper} (Rl : World → World → Prop) (κ : Nat → Option (List Value → Nat → Nat → Value → World → Prop)) (hm : P.follows .mixedOrders = true) (hB : Region.lexB .any l.toArray = true)
    (hs : ∀ a b, Rl a b → a.heap.size ≤ b.heap.size) (ht : ∀ a b c, Rl a b → Rl b c → Rl a c) (hr : ∀ a b, Grow a b → Rl a b)
    (hκ : ∀ i Φ, κ i = some Φ → ∀ as lo hi v, UpR Rl (Φ as lo hi v))
    (h : wpGrow P .any l.toArray Rl (Rl w) κ (fun hist a' => ∀ w', Rl w w' → Holds hist w' → Q .normal a' w') l 0 (fun _ => (fun _ => True, none)) a) : (Code.region id l.toArray true).wp P Q a w := by
  simp only [Region.lexB, Bool.and_eq_true] at hB
  have hC : UpR Rl (Rl w) := fun _ _ h k => ht _ _ _ h k
  have h0 : Rl w { w with drawn := w.drawn + 1 } := hr _ _ (Grow.refl w).drew
  refine wp_region_any hm (wpAny_of_G hC hκ (Q := fun hist a' => ∀ w', Rl w w' → Holds hist w' → Q .normal a' w') (fun hist a' w' h1 h2 h3 => h3 w' h1 h2) _ _ (fun _ => (fun _ => True, none)) a _ h0 (fun _ => ⟨trivial, fun _ _ e => by cases e⟩) ⟨hs, fun _ _ _ _ _ => trivial⟩ ?_)
  have := wpAnyG_lex (md := .any) hC hκ hB.1 l 0 (Array.replicate l.toArray.size false) (fun _ => (fun _ => True, none)) a (by simp) (by simpa using hB.2) ?_ (fun _ _ => rfl) ⟨w, hr _ _ (Grow.refl w), fun _ => ⟨trivial, fun _ _ e => by cases e⟩⟩ ⟨hs, fun _ _ _ _ _ => trivial⟩ h
  · simpa using this
  · intro k o _ hk
    simp [Array.getD] at hk
/-- the same where memory grows alone -/
theorem wp_region_grow {id : Nat} {Q : Exit → Act → World → Prop} {a : Act} {w : World} {l : List Oper} (κ : Nat → Option (Nat → Nat → Value → World → Prop)) (hm : P.follows .mixedOrders = true) (hB : Region.lexB .any l.toArray = true)
    (hκ : ∀ i Φ, κ i = some Φ → ∀ lo hi v, Up (Φ lo hi v))
    (h : wpGrow P .any l.toArray Grow (Grow w) (fun i => (κ i).map fun Φ _ => Φ) (fun hist a' => ∀ w', Grow w w' → Holds hist w' → Q .normal a' w') l 0 (fun _ => (fun _ => True, none)) a) : (Code.region id l.toArray true).wp P Q a w :=
  wp_region_rel Grow (fun i => (κ i).map fun Φ _ => Φ) hm hB (fun _ _ h => h.size) (fun _ _ _ h k => h.trans k) (fun _ _ h => h) (fun i Φ hi as lo hi' v => by
    obtain ⟨Ψ, h1, rfl⟩ := Option.map_eq_some_iff.1 hi
    exact hκ i Ψ h1 lo hi' v) h

/-! ### a tail in one forced order (stores, assignments) -/
def wpAnyGL (P : Program) (md : Region.Mode) (ops : Array Oper) (Rl : World → World → Prop) (C : World → Prop) (κ : Nat → Option (List Value → Nat → Nat → Value → World → Prop)) (n : Nat) (L : Array Bool → Hs → Act → Prop) :
    Nat → Array Bool → Hs → Act → Prop
  | 0, listed, hist, a => L listed hist a
  | f + 1, listed, hist, a => Region.ready md ops listed ≠ [] ∧ ∀ i ∈ Region.ready md ops listed, i < n ∧ gOp P md ops Rl C κ i (wpAnyGL P md ops Rl C κ n L f (listed.setIfInBounds i true)) hist a

include hC hκ in
theorem wpAny_of_GL {n g : Nat} {L : Array Bool → Hs → Act → Prop} {Q' : Exit → Act → World → Prop} (hL : ∀ listed hist a w, C w → Holds hist w → L listed hist a → wpAny P md ops Q' g listed a w) :
    ∀ (f : Nat) (listed : Array Bool) (hist : Hs) (a : Act) (w : World), C w → Holds hist w → Ups Rl hist →
      wpAnyGL P md ops Rl C κ n L f listed hist a → wpAny P md ops Q' (f + g) listed a w
  | 0, _, _, _, _, hw, hh, _, h => by rw [Nat.zero_add]; exact hL _ _ _ _ hw hh h
  | f + 1, listed, hist, a, w, hw, hh, hu, h => by
    rw [show f + 1 + g = (f + g) + 1 by omega]
    refine ⟨fun h0 => absurd h0 h.1, fun i hi => ?_⟩
    have hg := (h.2 i hi).2
    unfold gOp at hg
    unfold wpOp
    split
    · rename_i ho
      simp only [ho] at hg
      exact wpAny_of_GL hL f _ _ _ _ hw hh hu hg
    · rename_i o ho
      simp only [ho] at hg
      split
      · rename_i hwt
        simp only [hwt, if_true] at hg
        left
        cases hk : κ i with
        | none =>
          simp only [hk] at hg
          obtain ⟨v, hv, hn⟩ := hg
          unfold Oper.wp
          rcases hv w ⟨hw, fun k _ => (hh k).1⟩ with e | ⟨e, rfl⟩ <;> rw [e] <;> simp only [Oper.upon] <;> exact wpAny_of_GL hL f _ _ _ _ hw hh hu hn
        | some Φ =>
          simp only [hk] at hg
          obtain ⟨he, hn⟩ := hg
          refine Oper.wp_of_eff (he w ⟨hw, fun k _ => (hh k).1⟩) fun v w' hgw hp => ?_
          exact wpAny_of_GL hL f _ _ _ _ (hC _ _ hw hgw) ((hh.up hu hgw).set hp (Nat.le_refl _)) (hu.set (hκ i Φ hk _ _ _ v)) (hn v _ _ (Can.of_run hC hu hw hh hgw hp))
      · rename_i hwt
        simp only [hwt] at hg
        exact wpAny_of_GL hL f _ _ _ _ hw hh hu hg

theorem DC_of_inv {n : Nat} {listed : Array Bool} (inv : HeadInv md ops n listed) : DC md ops listed := fun k o hk hl e he hb => inv.closed k o hk hl e he hb

include hC hκ in
theorem wpAnyGL_first {n i : Nat} {oi : Oper} {L : Array Bool → Hs → Act → Prop} (hi : ops[i]? = some oi) (hsel : ∀ (j : Nat) (o : Oper) cs b, ops[j]? = some o → o.op ≠ .select cs b)
    (hs : Region.sinkB md ops n = true) (hc : Region.chainB md ops n = true) (hn : n < ops.size) (hin : i < n) (hLr : ∀ listed hist a, L listed hist a → ∀ j ∈ Region.ready md ops listed, n ≤ j) :
    ∀ (f : Nat) (listed : Array Bool) (hist : Hs) (a : Act), HeadInv md ops n listed →
      (∀ j oj, ops[j]? = some oj → j ≠ i → listed.getD j true = false → (∀ e ∈ oj.after, Region.binds md e = true → e.on ≠ i) → oi.apart ops oj = true) →
      Fresh listed hist → Ne C hist → Ups Rl hist →
      i ∈ Region.ready md ops listed → gOp P md ops Rl C κ i (wpAnyGL P md ops Rl C κ n L f (listed.setIfInBounds i true)) hist a →
      wpAnyGL P md ops Rl C κ n L (f + 1) listed hist a := by
  intro f
  induction f with
  | zero =>
    intro listed hist a inv _ hfr hne hup hr H
    have hiun := (mem_ready.1 hr).1
    refine ⟨fun h => (by rw [h] at hr; cases hr), fun j hj => ?_⟩
    have hjn : j < n := by
      rcases Nat.lt_or_ge j n with h | h
      · exact h
      · exact absurd hj (tail_waits hs hc hn inv _ i rfl hin hiun j h)
    refine ⟨hjn, ?_⟩
    by_cases hji : j = i
    · subst hji; exact H
    · exfalso
      have hj' := ready_mono hj hji
      have key := gOp_some hC hi hne hup (fun h a (hl : L (listed.setIfInBounds i true) h a) => hLr _ _ _ hl) H
      have := key j hj'
      omega
  | succ f ih =>
    intro listed hist a inv hfree hfr hne hup hr H
    have hiun := (mem_ready.1 hr).1
    refine ⟨fun h => (by rw [h] at hr; cases hr), fun j hj => ?_⟩
    have hjn : j < n := by
      rcases Nat.lt_or_ge j n with h | h
      · exact h
      · exact absurd hj (tail_waits hs hc hn inv _ i rfl hin hiun j h)
    refine ⟨hjn, ?_⟩
    by_cases hji : j = i
    · subst hji; exact H
    have hj' := ready_mono hj hji
    obtain ⟨hjun, oj, hoj, hall⟩ := mem_ready.1 hj
    have hnot : ∀ e ∈ oj.after, Region.binds md e = true → e.on ≠ i := fun e he hb heq => by
      have h1 := hall e he hb
      rw [heq, getD_both hiun] at h1
      cases h1
    have hfree' : ∀ k ok, ops[k]? = some ok → k ≠ i → (listed.setIfInBounds j true).getD k true = false →
        (∀ e ∈ ok.after, Region.binds md e = true → e.on ≠ i) → oi.apart ops ok = true := fun k ok hk hki hun hno => by
      refine hfree k ok hk hki ?_ hno
      by_cases hjk : j = k
      · subst hjk; exact hjun
      · rw [getD_set_ne true hjk] at hun; exact hun
    have hdc := DC_of_inv inv
    refine gOp_swap hC hκ hi hoj hji (fun cs b => hsel i oi cs b hi) (fun cs b => hsel j oj cs b hoj) (hfree j oj hoj hji hjun hnot) (hdc.not_anc hr hj) (hdc.not_anc hj hr) hjun (ready_lt hj) hfr hne hup
      (R := wpAnyGL P md ops Rl C κ n L f ((listed.setIfInBounds i true).setIfInBounds j true)) (fun hist' u h1 h2 h3 h4 => ih _ _ _ (inv.set hj hjn) hfree' h1 h2 h3 (ready_mono hr (Ne.symm hji)) ?_) (gOp_imp (fun _ _ h => (h.2 j hj').2) H)
    rw [Array.setIfInBounds_comm _ _ hji]; exact h4

include hC hκ in
theorem wpAnyGL_lex {n g : Nat} {Lq : Hs → Act → Prop} (hsel : Region.noSelect ops = true) (hs : Region.sinkB md ops n = true) (hc : Region.chainB md ops n = true) (hn : n < ops.size) :
    ∀ (l : List Oper) (k : Nat) (listed : Array Bool) (hist : Hs) (a : Act), (∀ j, j < l.length → l[j]? = ops[k + j]?) → k + l.length = n → HeadInv md ops n listed →
    Region.lexHead md ops g l.length k listed = true → Fresh listed hist → Ne C hist → Ups Rl hist → wpGrow P md ops Rl C κ Lq l k hist a →
    wpAnyGL P md ops Rl C κ n (fun listed' h' a' => Region.seqB md ops g n listed' = true ∧ Lq h' a') l.length listed hist a
  | [], k, listed, hist, a, _, hk, _, hB, _, _, _, h => by
    have : k = n := by simpa using hk
    subst this
    exact ⟨by simpa [Region.lexHead] using hB, h⟩
  | o :: l, k, listed, hist, a, hl, hk, inv, hB, hfr, hne, hup, h => by
    have h0 : ops[k]? = some o := by simpa using (hl 0 (by simp)).symm
    simp only [List.length_cons, Region.lexHead, Bool.and_eq_true] at hB
    obtain ⟨⟨hr, hf⟩, hB'⟩ := hB
    have hkn : k < n := by simp only [List.length_cons] at hk; omega
    have hr' : k ∈ Region.ready md ops listed := by simpa using hr
    have hl' : ∀ j, j < l.length → l[j]? = ops[k + 1 + j]? := fun j hj => by have := hl (j + 1) (by simp; omega); simpa [Nat.add_assoc, Nat.add_comm 1 j] using this
    have hk' : k + 1 + l.length = n := by simp only [List.length_cons] at hk; omega
    refine wpAnyGL_first hC hκ h0 (Region.noSelect_spec hsel) hs hc hn hkn (fun listed' hist' a' hL => seqB_ready hL.1) l.length listed hist a inv (Region.free_spec h0 hf) hfr hne hup hr' ?_
    unfold gOp
    simp only [h0]
    unfold wpGrow at h
    split
    · rename_i hw
      rw [if_pos hw] at h
      cases hkk : κ k with
      | none =>
        simp only [hkk] at h
        obtain ⟨v, hv, hn'⟩ := h
        exact ⟨v, hv, wpAnyGL_lex hsel hs hc hn l (k + 1) _ _ _ hl' hk' (inv.set hr' hkn) hB' (hfr.mono k) hne hup hn'⟩
      | some Φ =>
        simp only [hkk] at h
        obtain ⟨he, hn'⟩ := h
        refine ⟨he, fun v lo hi hv => wpAnyGL_lex hsel hs hc hn l (k + 1) _ _ _ hl' hk' (inv.set hr' hkn) hB' (hfr.set k _ (ready_lt hr')) ?_ (hup.set (hκ k Φ hkk _ _ _ v)) (hn' v lo hi hv)⟩
        obtain ⟨_, _, w, h1, h2, h3, h4⟩ := hv; exact ⟨w, h1, h2.set h3 h4⟩
    · rename_i hw
      rw [if_neg hw] at h
      exact wpAnyGL_lex hsel hs hc hn l (k + 1) _ _ _ hl' hk' (inv.set hr' hkn) hB' (hfr.mono k) hne hup h

/-- **A REGION THAT DRAWS ITS ORDER, WITH A TAIL:** the first n operations read, or make memory, and are walked once in the order of the text; the others come behind them, one after the other. -/
theorem wp_region_rel_tail {id : Nat} {Q : Exit → Act → World → Prop} {a : Act} {w : World} {l : List Oper} (Rl : World → World → Prop) (n : Nat) (κ : Nat → Option (List Value → Nat → Nat → Value → World → Prop)) (hm : P.follows .mixedOrders = true) (hB : Region.lexTailB .any l.toArray n = true)
    (hsz : ∀ a b, Rl a b → a.heap.size ≤ b.heap.size) (ht : ∀ a b c, Rl a b → Rl b c → Rl a c) (hr : ∀ a b, Grow a b → Rl a b)
    (hκ : ∀ i Φ, κ i = some Φ → ∀ as lo hi v, UpR Rl (Φ as lo hi v))
    (h : wpGrow P .any l.toArray Rl (Rl w) κ (fun hist a' => ∀ w', Rl w w' → Holds hist w' → wpList P l.toArray Q (l.drop n) a' w') (l.take n) 0 (fun _ => (fun _ => True, none)) a) : (Code.region id l.toArray true).wp P Q a w := by
  simp only [Region.lexTailB, Bool.and_eq_true, decide_eq_true_eq] at hB
  obtain ⟨⟨⟨⟨hsel, hn⟩, hs⟩, hc⟩, hlex⟩ := hB
  have hn' : n < l.length := by simpa using hn
  have htl : (l.take n).length = n := by simp; omega
  have hdl : (l.drop n).length = l.toArray.size - n := by simp
  have hC : UpR Rl (Rl w) := fun _ _ h k => ht _ _ _ h k
  have h0 : Rl w { w with drawn := w.drawn + 1 } := hr _ _ (Grow.refl w).drew
  have inv0 : HeadInv .any l.toArray n (Array.replicate l.toArray.size false) :=
    ⟨by simp, fun j oj _ hl => (by rw [getD_replicate_false] at hl; cases hl), fun t _ ht => getD_in (by simpa using ht) (getD_replicate_false _ _)⟩
  have H := wpAnyGL_lex (md := .any) (g := l.toArray.size - n) hC hκ hsel hs hc hn (l.take n) 0 _ (fun _ => (fun _ => True, none)) a (fun j hj => by
    have hj' : j < n := by rw [htl] at hj; exact hj
    simp [hj']) (by simpa using htl) inv0 (by rw [htl]; exact hlex) (fun _ _ => rfl) ⟨w, hr _ _ (Grow.refl w), fun _ => ⟨trivial, fun _ _ e => by cases e⟩⟩ ⟨hsz, fun _ _ _ _ _ => trivial⟩ h
  refine wp_region_any hm ?_
  have := wpAny_of_GL hC hκ (Q' := Q) (g := l.toArray.size - n) (fun listed hist a' w' h1 h2 hL => by
    have := wpAny_of_seq (md := .any) (Q' := Q) (l.drop n) n listed a' w' (fun j => by simp [List.getElem?_drop]) (by rw [hdl]; exact hL.1) (hL.2 w' h1 h2)
    rwa [hdl] at this) _ _ _ _ _ h0 (fun _ => ⟨trivial, fun _ _ e => by cases e⟩) ⟨hsz, fun _ _ _ _ _ => trivial⟩ H
  rw [htl, show n + (l.toArray.size - n) = l.toArray.size by omega] at this
  exact this

/-- the same where memory grows alone -/
theorem wp_region_grow_tail {id : Nat} {Q : Exit → Act → World → Prop} {a : Act} {w : World} {l : List Oper} (n : Nat) (κ : Nat → Option (Nat → Nat → Value → World → Prop)) (hm : P.follows .mixedOrders = true) (hB : Region.lexTailB .any l.toArray n = true)
    (hκ : ∀ i Φ, κ i = some Φ → ∀ lo hi v, Up (Φ lo hi v))
    (h : wpGrow P .any l.toArray Grow (Grow w) (fun i => (κ i).map fun Φ _ => Φ) (fun hist a' => ∀ w', Grow w w' → Holds hist w' → wpList P l.toArray Q (l.drop n) a' w') (l.take n) 0 (fun _ => (fun _ => True, none)) a) : (Code.region id l.toArray true).wp P Q a w :=
  wp_region_rel_tail Grow n (fun i => (κ i).map fun Φ _ => Φ) hm hB (fun _ _ h => h.size) (fun _ _ _ h k => h.trans k) (fun _ _ h => h) (fun i Φ hi as lo hi' v => by
    obtain ⟨Ψ, h1, rfl⟩ := Option.map_eq_some_iff.1 hi
    exact hκ i Ψ h1 lo hi' v) h

/-! ### stores among the other operations: memory has grown, but for the cells of some blocks of the call's own (S); the facts Y stay -/
structure GX (S : Nat → Prop) (Y : (World → Prop) → Prop) (a b : World) : Prop where
  os : b.os = a.os
  tape : b.tape = a.tape
  output : b.output = a.output
  size : a.heap.size ≤ b.heap.size
  block : ∀ k, k < a.heap.size → ¬ S k → b.heap[k]? = a.heap[k]?
  frozen : ∀ k o, S k → k < a.heap.size → b.frozen? ⟨k, o, none⟩ = a.frozen? ⟨k, o, none⟩
  there : ∀ k o, S k → k < a.heap.size → (a.cell? ⟨k, o, none⟩).isSome = true → (b.cell? ⟨k, o, none⟩).isSome = true
  y : ∀ X, Y X → X a → X b

namespace GX
variable {S : Nat → Prop} {Y : (World → Prop) → Prop} {a b c : World}
theorem refl (a : World) : GX S Y a a := ⟨rfl, rfl, rfl, Nat.le_refl _, fun _ _ _ => rfl, fun _ _ _ _ => rfl, fun _ _ _ _ h => h, fun _ _ h => h⟩
theorem trans (h : GX S Y a b) (k : GX S Y b c) : GX S Y a c :=
  ⟨k.os.trans h.os, k.tape.trans h.tape, k.output.trans h.output, Nat.le_trans h.size k.size, fun i hi hs => (k.block i (Nat.lt_of_lt_of_le hi h.size) hs).trans (h.block i hi hs),
   fun i o hs hi => (k.frozen i o hs (Nat.lt_of_lt_of_le hi h.size)).trans (h.frozen i o hs hi), fun i o hs hi hx => k.there i o hs (Nat.lt_of_lt_of_le hi h.size) (h.there i o hs hi hx), fun X hX hx => k.y X hX (h.y X hX hx)⟩
theorem of_grow (hY : ∀ X, Y X → Up X) (h : Grow a b) : GX S Y a b :=
  ⟨h.os, h.tape, h.output, h.size, fun k hk _ => h.block k hk, fun k o _ hk => grow_frozen h k o hk, fun k o _ hk hx => by rw [grow_cell h k o hk]; exact hx, fun X hX hx => hY X hX _ _ hx h⟩
theorem cell (h : GX S Y a b) : ∀ k o, k < a.heap.size → ¬ S k → b.cell? ⟨k, o, none⟩ = a.cell? ⟨k, o, none⟩ := fun k _ hk hs => World.cell?_of_block (w := a) (h.block k hk hs)
theorem froz (h : GX S Y a b) : ∀ k o, k < a.heap.size → b.frozen? ⟨k, o, none⟩ = a.frozen? ⟨k, o, none⟩ := fun k o hk => by
  by_cases hs : S k
  · exact h.frozen k o hs hk
  · exact World.frozen?_of_block (w := a) (h.block k hk hs)
theorem some (h : GX S Y a b) {k o : Nat} (hx : (a.cell? ⟨k, o, none⟩).isSome = true) : (b.cell? ⟨k, o, none⟩).isSome = true := by
  have hk : k < a.heap.size := by
    rcases Nat.lt_or_ge k a.heap.size with h1 | h1
    · exact h1
    · unfold World.cell? at hx
      rw [Array.getElem?_eq_none h1] at hx
      simp at hx
  by_cases hs : S k
  · exact h.there k o hs hk hx
  · rw [h.cell k o hk hs]; exact hx
theorem grow {w : World} (h : GX S Y a b) (hw : Grow w a) (hS : ∀ k, S k → w.heap.size ≤ k) : Grow w b :=
  ⟨h.os.trans hw.os, h.tape.trans hw.tape, h.output.trans hw.output, Nat.le_trans hw.size h.size, fun k hk => by
    rw [h.block k (Nat.lt_of_lt_of_le hk hw.size) (fun hs => by have := hS k hs; omega)]; exact hw.block k hk⟩
theorem setCell {p : Addr} (u : Value) (hp : S p.block) (hY : ∀ X, Y X → X a → X (a.setCell p u)) : GX S Y a (a.setCell p u) :=
  ⟨rfl, rfl, rfl, by simp [World.setCell], fun k hk hs => by
      simp only [World.setCell, Array.getElem?_modify]
      rw [if_neg (fun (e : p.block = k) => hs (e ▸ hp))],
    fun k o _ _ => World.frozen?_setCell _ _ _ _, fun k o _ _ hx => by
      obtain ⟨v, hv⟩ := Option.isSome_iff_exists.1 hx
      obtain ⟨v', hv'⟩ := cell?_setCell_some (p := p) (x := u) hv
      rw [hv']; rfl, hY⟩
end GX

attribute [go_sem] effUpon
attribute [irreducible] wpGrow
end
end GrowR
end Go
