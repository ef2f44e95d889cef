import Derived.Test.YtelfjglhmccecaaRows
import Derived.Test.YtelfjglhmccecaaMM
import Derived.Test.YtelfjglhmccecaaMem
import Derived.Test.YtelfjglhmccecaaOwn
import Derived.WalkKit
import Derived.WalkLawsBesides
import Derived.WalkSpells
import Derived.ProofKit
import Derived.Lib.Hide
import Derived.Laws.FloatArith
import Derived.Laws.Externs
import Derived.Deep.QuietTactic
import Derived.BigQuiet
namespace Go.Proofs.Ytelfjglhmccecaa
open Go.ChangeShapes Go.WideShapes Go.ChangeAt Go.RowKit Go.GrowR
set_option linter.unusedVariables false
set_option linter.unusedSimpArgs false
theorem run_bits (x : Nat) (w : World) : (callFunc 72 #[.float .f64 x]).run Try.prog w = .ok (.value (.int .u64 x)) w := by
  rw [run_callFunc_extern (fn := Try.f72) (e := Extern.MathFloatBits.float64bits) Try.func72 (by kernel_rfl) (by kernel_rfl) (by kernel_rfl) (by rfl)]
  rfl
theorem run_frombits (x : Int) (w : World) : (callFunc 71 #[.int .u64 x]).run Try.prog w = .ok (.value (.float .f64 x.toNat)) w := by
  rw [run_callFunc_extern (fn := Try.f71) (e := Extern.MathFloatBits.float64frombits) Try.func71 (by kernel_rfl) (by kernel_rfl) (by kernel_rfl) (by rfl)]
  rfl
theorem abs_calls (x : Nat) (w : World) : Calls Try.prog 25 #[.float .f64 x] w fun e w' => e = .returned (.float .f64 (Fl.absB x)) ∧ w' = w := by
  have hb := run_bits
  have hf := run_frombits
  go_enter Try.func25, Try.ntmps25
  go_wp2
  go_ret
  exact ⟨by rw [Fl.bits_abs]; rfl, rfl⟩
/-- what Trunc gives of any float -/
theorem run_truncAny (x : Nat) (w : World) :
    ∃ z w', (callFunc 137 #[.float .f64 x]).run Try.prog w = .ok (.value (.float .f64 z)) w' ∧ ((∃ q, Fl.V x q) → z = Fl.truncBits x) ∧ Grow w w' := by
  rw [run_callFunc_extern (e := Extern.MathFloor.toIntegral "math.archTrunc" .zero) Try.func137 (by kernel_rfl) (by kernel_rfl) (by kernel_rfl) (by kernel_rfl)]
  have key : ∀ d, FloatKind.f64.decode x = d → ∃ z w', (Extern.MathFloor.toIntegral "math.archTrunc" .zero #[.float .f64 x]).run Try.prog w = .ok (.float .f64 z) w' ∧ ((∃ q, Fl.V x q) → z = Fl.truncBits x) ∧ Grow w w' := by
    intro d hd
    have hno : (∀ s m p, d ≠ .number s m p) → ∀ z, (∃ q, Fl.V x q) → z = Fl.truncBits x := fun h z ⟨q, s, m, p, e, _⟩ => absurd (hd.symm.trans e) (h s m p)
    have hE : Extern.MathFloor.toIntegral "math.archTrunc" .zero #[.float .f64 x] = (match FloatKind.f64.decode x with
      | .nan s t =>
        if FloatKind.f64.format.quiet t = t then pure (.float .f64 x) else do
        let kept ← choose (.extern "math.Floor,Ceil,Trunc,RoundToEven.signallingNaN kept" 2)
        pure (.float .f64 (if kept == 1 then x else FloatKind.f64.encode (.nan s (FloatKind.f64.format.quiet t))))
      | d => pure (.float .f64 (FloatKind.f64.encode (d.integral .zero)))) := rfl
    rw [hE, hd]
    cases d with
    | number s m p => exact ⟨_, w, rfl, fun _ => by unfold Fl.truncBits; rw [hd], Grow.refl w⟩
    | infinity s => exact ⟨_, w, rfl, hno (fun _ _ _ h => by cases h) _, Grow.refl w⟩
    | nan s t =>
      have hn := hno (fun _ _ _ h => by cases h)
      by_cases ht : FloatKind.f64.format.quiet t = t
      · simp only [ht, if_true]
        exact ⟨_, w, rfl, hn _, Grow.refl w⟩
      · simp only [ht, if_false]
        exact ⟨_, _, by simp only [Sem.run_bind, run_choose_drew]; rfl, hn _, by first | exact (Grow.refl w).drew | (split; exact Grow.refl w; exact (Grow.refl w).drew)⟩
  obtain ⟨z, w', h, h1, h2⟩ := key _ rfl
  refine ⟨z, w', ?_, h1, h2⟩
  rw [h]; rfl
theorem whole2 {x z mb : Nat} {m : Int} (hz : (∃ q, Fl.V x q) → z = Fl.truncBits x) (hm : Fl.IsI mb m) (h53 : m ≤ 2 ^ 53) :
    ((FloatKind.f64.format.order x z != some .eq) || (FloatKind.f64.format.order (Fl.absB x) mb == some .gt)) = !Fl.wholeB m x := by
  have hD : FloatKind.f64.format = Fl.D := rfl
  cases hr : Fl.D.read x with
  | number s mm p =>
    obtain ⟨q, hx⟩ : ∃ q, Fl.V x q := ⟨_, s, mm, p, hr, rfl⟩
    obtain rfl := hz ⟨q, hx⟩
    obtain ⟨a, ha, hq⟩ := Fl.V_abs hx
    rw [Fl.gt_V ha hm]
    by_cases hle : a ≤ (m : Rat)
    · have b1 : -(m : Rat) ≤ q := by rcases hq with h | h <;> grind
      have b2 : q ≤ (m : Rat) := by rcases hq with h | h <;> grind
      have hb := Fl.tz_bound q m b1 b2
      have ht := Fl.RN_int (Fl.trunc_RN hx) (by omega)
      rw [Fl.ne_V hx ht]
      have hng : decide ((m : Rat) < a) = false := decide_eq_false (by grind)
      rw [hng, Bool.or_false]
      congr 1
      by_cases he : q = ((Fl.tz q : Int) : Rat)
      · rw [decide_eq_true he, Fl.wholeB_mk (n := Fl.tz q) (by unfold Fl.IsI; rw [← he]; exact hx) hb.1 hb.2]
      · rw [decide_eq_false he]
        cases h : Fl.wholeB m x with
        | false => rfl
        | true =>
          obtain ⟨n, hn, _⟩ := Fl.wholeB_true h
          have := Fl.V_det hx hn
          rw [this, Fl.tz_int] at he
          exact absurd rfl he
    · rw [decide_eq_true (by grind : (m : Rat) < a), Bool.or_true]
      cases h : Fl.wholeB m x with
      | false => rfl
      | true =>
        obtain ⟨n, hn, h1, h2⟩ := Fl.wholeB_true h
        have hqn := Fl.V_det hx hn
        have a1 : ((-m : Int) : Rat) ≤ (n : Rat) := Rat.intCast_le_intCast.2 h1
        have a2 : (n : Rat) ≤ (m : Rat) := Rat.intCast_le_intCast.2 h2
        rw [Rat.intCast_neg] at a1
        exact absurd (by rcases hq with h | h <;> grind) hle
  | infinity s =>
    have hw : Fl.wholeB m x = false := by
      cases h : Fl.wholeB m x with
      | false => rfl
      | true =>
        obtain ⟨n, ⟨s', m', p', e, _⟩, _⟩ := Fl.wholeB_true h
        rw [hr] at e; cases e
    have hg : (FloatKind.f64.format.order (Fl.absB x) mb == some .gt) = true := by
      obtain ⟨s1, m1, p1, e1, _⟩ := hm
      rw [hD]
      unfold Ieee.Format.order
      rw [Fl.read_abs, hr, e1]
      rfl
    rw [hw, hg]; simp
  | nan s t =>
    have hw : Fl.wholeB m x = false := by
      cases h : Fl.wholeB m x with
      | false => rfl
      | true =>
        obtain ⟨n, ⟨s', m', p', e, _⟩, _⟩ := Fl.wholeB_true h
        rw [hr] at e; cases e
    have hg : (FloatKind.f64.format.order x z != some .eq) = true := by
      rw [hD]
      unfold Ieee.Format.order
      rw [hr]
      rfl
    rw [hw, hg]; simp
/-- what is left of a float's tests: whole, and not beyond -/
def TruncP (m : Int) (mb x : Nat) (w : World) (e : Ending) (w' : World) : Prop := ∃ z, e = .returned (.float .f64 z) ∧ ((FloatKind.f64.format.order x z != some .eq) || (FloatKind.f64.format.order (Fl.absB x) mb == some .gt)) = !Fl.wholeB m x ∧ Grow w w'
set_option maxRecDepth 100000 in
theorem trunc_calls (m : Int) (mb x : Nat) (hm : Fl.IsI mb m) (h53 : m ≤ 2 ^ 53) (w : World) : Calls Try.prog 99 #[.float .f64 x] w (TruncP m mb x w) := by
  obtain ⟨z, w1, hr, hz, hg⟩ := run_truncAny x w
  have HG := Lib.hid hg; clear hg
  have HW := Lib.hid (whole2 hz hm h53); clear hz
  go_enter Try.func99, Try.ntmps99
  go_wp2
  go_ret
  exact ⟨z, rfl, HW.out, HG.out⟩
theorem all_succ {α : Type} (l : List α) (f : α → Bool) (k : Nat) (x : α) (hx : l[k]? = some x) : (l.take (k + 1)).all f = ((l.take k).all f && f x) := by
  rw [List.take_add_one, hx]; simp
theorem all_no {α : Type} {l : List α} {f : α → Bool} {k : Nat} {x : α} (hx : l[k]? = some x) (hf : f x = false) : l.all f = false := by
  rw [List.all_eq_false]; exact ⟨x, List.mem_of_getElem? hx, by simp [hf]⟩
theorem three {b1 b2 c : Bool} (h : (b1 || b2) = !c) : (c = true ∧ b1 = false ∧ b2 = false) ∨ (c = false ∧ b1 = true) ∨ (c = false ∧ b1 = false ∧ b2 = true) := by
  cases b1 <;> cases b2 <;> cases c <;> simp_all
def AllP (b : Bool) (w : World) (e : Ending) (w' : World) : Prop := e = .returned (.bool b) ∧ Grow w w'
set_option maxRecDepth 100000 in
set_option maxHeartbeats 2000000 in
theorem wholeTo_calls (m : Int) (mb : Nat) (u : Value) (xs : List Nat) (hm : Fl.IsI mb m) (h53 : m ≤ 2 ^ 53) (w : World) (hu : FSl u xs w) (hl : xs.length ≤ 1099511627776) :
    Calls Try.prog 42 #[.float .f64 mb, u] w (AllP (xs.all (Fl.wholeB m)) w) := by
  have HT := Lib.hid (fun x w => trunc_calls m mb x hm h53 w); clear hm h53
  obtain ⟨A, c, rfl, hc, hA⟩ := hu
  have HA := Lib.hid hA; clear hA
  go_enter Try.func42, Try.ntmps42
  go_wp2
  go_loopw [9] (fun i wr => ∃ k : Nat, i = .int .i64 k ∧ k ≤ xs.length ∧ Grow w wr ∧ (xs.take k).all (Fl.wholeB m) = true) (fun i _ => xs.length - (intOf i).toNat)
  case atStart => exact ⟨0, rfl, Nat.zero_le _, Grow.refl _, rfl⟩
  case round =>
    obtain ⟨k, rfl, hk, hg, hall⟩ := hrel
    have HALL := Lib.hid hall; clear hall
    have HG := Lib.hid hg; clear hg
    by_cases hlt : k < xs.length
    case neg =>
      have HB : Hid (xs.all (Fl.wholeB m) = true) := by
        have := HALL.out
        rw [List.take_of_length_le (by omega)] at this
        exact this
      go_wp2
      go_ret
      exact ⟨by rw [HB.out]; rfl, HG.out⟩
    case pos =>
      obtain ⟨x, hx⟩ : ∃ x, xs[k]? = some x := ⟨xs[k], by simp [hlt]⟩
      have HX := Lib.hid hx
      rcases HA.out with h0 | ⟨b, o, rfl, hcell⟩
      · exfalso; subst h0; simp at hlt
      have hxc := up_cell (hcell k x hx) HG.out
      clear hcell hx
      go_wp2_with (first
        | (go_at_call 99; refine (HT.out _ _).mono ?_; rintro e w' ⟨z, rfl, hz, hg⟩; have HZ := Lib.hid hz; have HG2 := Lib.hid (HG.out.trans hg); clear hz hg; rcases three HZ.out with ⟨hw, h1, h2⟩ | ⟨hw, h1⟩ | ⟨hw, h1, h2⟩ <;> (have HW := Lib.hid hw; clear hw))
        | (go_at_call 25; refine (abs_calls _ _).mono ?_; rintro e w' ⟨rfl, rfl⟩))
      · exact ⟨⟨k + 1, by go_num, by omega, HG2.out, by rw [all_succ _ _ _ _ HX.out, HALL.out, HW.out]; rfl⟩, by simp [intOf]; omega⟩
      · go_ret
        exact ⟨by rw [all_no HX.out HW.out]; rfl, HG2.out⟩
      · go_ret
        exact ⟨by rw [all_no HX.out HW.out]; rfl, HG2.out⟩
theorem fslTwo {w : World} {b x y : Nat} (h0 : w.cell? ⟨b, 0, none⟩ = some (.float .f64 x)) (h1 : w.cell? ⟨b, 1, none⟩ = some (.float .f64 y)) : FSl (.slice (some ⟨b, 0, none⟩) 2 2) [x, y] w :=
  ⟨_, _, rfl, Nat.le_refl _, .inr ⟨b, 0, rfl, fun i z hi => by
    match i, hi with
    | 0, hi => cases hi; exact h0
    | 1, hi => cases hi; exact h1⟩⟩
/-- a slice of places of the plane -/
def PSl (v : Value) (ps : List (Nat × Nat)) (w : World) : Prop := ∃ A c, v = .slice A ps.length c ∧ ps.length ≤ c ∧ (ps = [] ∨ ∃ b o, A = some ⟨b, o, none⟩ ∧ ∀ (i : Nat) p, ps[i]? = some p → w.cell? ⟨b, o + i * 2, none⟩ = some (.float .f64 p.1) ∧ w.cell? ⟨b, o + i * 2 + 1, none⟩ = some (.float .f64 p.2))
theorem PSl.up {v : Value} {ps : List (Nat × Nat)} : Up (PSl v ps) := fun _ _ ⟨A, c, h1, h2, h3⟩ hg => ⟨A, c, h1, h2, h3.imp id fun ⟨b, o, e, h⟩ => ⟨b, o, e, fun i p hi => ⟨up_cell (h i p hi).1 hg, up_cell (h i p hi).2 hg⟩⟩⟩
noncomputable def placeB (m : Int) (p : Nat × Nat) : Bool := Fl.wholeB m p.1 && Fl.wholeB m p.2
set_option maxRecDepth 100000 in
set_option maxHeartbeats 2000000 in
theorem planeTo_calls (m : Int) (mb : Nat) (u : Value) (ps : List (Nat × Nat)) (hm : Fl.IsI mb m) (h53 : m ≤ 2 ^ 53) (w : World) (hu : PSl u ps w) (hl : ps.length ≤ 1099511627776) :
    Calls Try.prog 14 #[.float .f64 mb, u] w (AllP (ps.all (placeB m)) w) := by
  have HT := Lib.hid (fun u x y w (h : FSl u [x, y] w) => wholeTo_calls m mb u [x, y] hm h53 w h (by simp)); clear hm h53
  obtain ⟨A, c, rfl, hc, hA⟩ := hu
  have HA := Lib.hid hA; clear hA
  go_enter Try.func14, Try.ntmps14
  go_wp2
  go_loopw [9] (fun i wr => ∃ k : Nat, i = .int .i64 k ∧ k ≤ ps.length ∧ Grow w wr ∧ (ps.take k).all (placeB m) = true) (fun i _ => ps.length - (intOf i).toNat)
  case atStart => exact ⟨0, rfl, Nat.zero_le _, Grow.refl _, rfl⟩
  case round =>
    obtain ⟨k, rfl, hk, hg, hall⟩ := hrel
    have HALL := Lib.hid hall; clear hall
    have HG := Lib.hid hg; clear hg
    by_cases hlt : k < ps.length
    case neg =>
      have HB : Hid (ps.all (placeB m) = true) := by
        have := HALL.out
        rw [List.take_of_length_le (by omega)] at this
        exact this
      go_wp2
      go_ret
      exact ⟨by rw [HB.out]; rfl, HG.out⟩
    case pos =>
      obtain ⟨⟨x, y⟩, hx⟩ : ∃ p, ps[k]? = some p := ⟨ps[k], by simp [hlt]⟩
      have HX := Lib.hid hx
      rcases HA.out with h0 | ⟨b, o, rfl, hcell⟩
      · exfalso; subst h0; simp at hlt
      have hxc := up_cell (hcell k _ hx).1 HG.out
      have hyc := up_cell (hcell k _ hx).2 HG.out
      clear hcell hx
      have HE : Hid ([x, y].all (Fl.wholeB m) = placeB m (x, y)) := by simp [Hid, placeB]
      cases hp : placeB m (x, y) with
      | true =>
        have HP := Lib.hid hp; clear hp
        go_wp2_with (go_at_call 42; refine (HT.out _ x y _ (fslTwo (by go_simp) (by go_simp))).mono ?_; rintro e w' ⟨rfl, hg⟩; have HG2 := Lib.hid (((HG.out.alloc _).alloc _).trans hg); clear hg; rw [HE.out, HP.out])
        exact ⟨⟨k + 1, by go_num, by omega, HG2.out, by rw [all_succ _ _ _ _ HX.out, HALL.out, HP.out]; rfl⟩, by simp [intOf]; omega⟩
      | false =>
        have HP := Lib.hid hp; clear hp
        go_wp2_with (go_at_call 42; refine (HT.out _ x y _ (fslTwo (by go_simp) (by go_simp))).mono ?_; rintro e w' ⟨rfl, hg⟩; have HG2 := Lib.hid (((HG.out.alloc _).alloc _).trans hg); clear hg; rw [HE.out, HP.out])
        go_ret
        exact ⟨by rw [all_no HX.out HP.out]; rfl, HG2.out⟩
end Go.Proofs.Ytelfjglhmccecaa
