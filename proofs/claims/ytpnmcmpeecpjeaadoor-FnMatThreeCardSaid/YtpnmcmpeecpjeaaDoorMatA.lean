import Derived.Test.YtpnmcmpeecpjeaaDoorGrid
import Derived.Test.YtpnmcmpeecpjeaaDoorOwn
import Derived.Test.YtpnmcmpeecpjeaaDoorOctE
import Derived.Deep.QuietTactic
import Derived.BigQuiet
import Derived.BigRegion
namespace Go.Proofs.YtpnmcmpeecpjeaaDoor
open Go.ChangeShapes Go.WideShapes Go.ChangeAt Go.RowKit Go.GrowR
set_option linter.unusedVariables false
set_option linter.unusedSimpArgs false

abbrev P3V (x y z : Nat) : Value := .agg #[.float .f64 x, .float .f64 y, .float .f64 z]
noncomputable def p3S (p : Nat × Nat × Nat) : Bool := Fl.wholeB 1024 p.1 && (Fl.wholeB 1024 p.2.1 && Fl.wholeB 1024 p.2.2)
theorem fslThree {w : World} {b x y z : Nat} (h0 : w.cell? ⟨b, 0, none⟩ = some (.float .f64 x)) (h1 : w.cell? ⟨b, 1, none⟩ = some (.float .f64 y)) (h2 : w.cell? ⟨b, 2, none⟩ = some (.float .f64 z)) : FSl (.slice (some ⟨b, 0, none⟩) 3 3) [x, y, z] w :=
  ⟨_, _, rfl, Nat.le_refl _, .inr ⟨b, 0, rfl, fun i u hi => by
    match i, hi with
    | 0, hi => cases hi; exact h0
    | 1, hi => cases hi; exact h1
    | 2, hi => cases hi; exact h2⟩⟩
theorem fssl_one {w : World} {b : Nat} {u : Value} {xs : List Nat} (h : w.cell? ⟨b, 0, none⟩ = some u) (hu : FSl u xs w) : FSSl (.slice (some ⟨b, 0, none⟩) 1 1) [xs] w :=
  ⟨_, _, rfl, Nat.le_refl _, .inr ⟨b, 0, rfl, fun i z hi => by
    match i, hi with
    | 0, hi => cases hi; exact ⟨u, h, hu⟩⟩⟩
theorem isI_10 : Fl.IsI 4652218415073722368 1024 := by
  refine ⟨false, 4503599627370496, -42, by decide +kernel, ?_⟩
  simp only [Fl.dv, Bool.false_eq_true, if_false]
  rw [show (4503599627370496 : Nat) = 1024 * 2 ^ 42 from by decide, Rat.natCast_mul, ← Fl.p2_nat, Rat.mul_assoc, ← Fl.p2_add]
  rw [show ((42 : Nat) : Int) + -42 = 0 from by decide, Fl.p2_zero, Rat.mul_one]; rfl
def OffP (x y z : Nat) (w : World) (e : Ending) (w' : World) : Prop := ∃ b, e = .returned (.slice (some ⟨b, 0, none⟩) 3 3) ∧ w.heap.size ≤ b ∧ b < w'.heap.size ∧ w'.cell? ⟨b, 0, none⟩ = some (.float .f64 x) ∧ w'.cell? ⟨b, 1, none⟩ = some (.float .f64 y) ∧ w'.cell? ⟨b, 2, none⟩ = some (.float .f64 z) ∧ Grow w w'
theorem off3_calls (x y z : Nat) (w : World) : Calls Tryd.prog 8 #[P3V x y z] w (OffP x y z w) := by
  go_enter Tryd.func8, Tryd.ntmps8
  go_wp2
  go_ret
  exact ⟨w.heap.size + 1, rfl, by omega, by go_simp, by go_simp, by go_simp, by go_simp, ((Grow.refl _).alloc _).alloc _⟩
def AllP (b : Bool) (w : World) (e : Ending) (w' : World) : Prop := e = .returned (.bool b) ∧ Grow w w'
/-- a slice of places of space -/
def P3l (v : Value) (ps : List (Nat × Nat × Nat)) (w : World) : Prop := ∃ b, v = .slice (some ⟨b, 0, none⟩) ps.length ps.length ∧ ∀ (i : Nat) p, ps[i]? = some p → w.cell? ⟨b, i * 3, none⟩ = some (.float .f64 p.1) ∧ w.cell? ⟨b, i * 3 + 1, none⟩ = some (.float .f64 p.2.1) ∧ w.cell? ⟨b, i * 3 + 2, none⟩ = some (.float .f64 p.2.2)
theorem grid_one (x y z : Nat) : gridB 1024 3 [[x, y, z]] = p3S (x, y, z) := by unfold gridB rowB p3S; simp
set_option maxRecDepth 100000 in
set_option maxHeartbeats 2000000 in
theorem small3_calls (u : Value) (ps : List (Nat × Nat × Nat)) (w : World) (hu : P3l u ps w) (hl : ps.length ≤ 1099511627776) :
    Calls Tryd.prog 6 #[u] w (AllP (ps.all p3S) w) := by
  obtain ⟨b, rfl, hA⟩ := hu
  have HA := Lib.hid hA; clear hA
  go_enter Tryd.func6, Tryd.ntmps6
  go_wp2
  go_loopw [7] (fun i wr => ∃ k : Nat, i = .int .i64 k ∧ k ≤ ps.length ∧ Grow w wr ∧ (ps.take k).all p3S = true) (fun i _ => ps.length - (intOf i).toNat)
  case atStart => exact ⟨0, rfl, Nat.zero_le _, Grow.refl _, rfl⟩
  case round =>
    obtain ⟨k, rfl, hk, hg, hall⟩ := hrel
    have HALL := Lib.hid hall; clear hall
    have HG := Lib.hid hg; clear hg
    by_cases hlt : k < ps.length
    case neg =>
      have HB : Hid (ps.all p3S = true) := by
        have := HALL.out
        rw [List.take_of_length_le (by omega)] at this
        exact this
      go_wp2
      go_ret
      exact ⟨by rw [HB.out]; rfl, HG.out⟩
    case pos =>
      obtain ⟨⟨x, y, z⟩, hx⟩ : ∃ p, ps[k]? = some p := ⟨ps[k], by simp [hlt]⟩
      have HX := Lib.hid hx
      have hxc := up_cell (HA.out k _ hx).1 HG.out
      have hyc := up_cell (HA.out k _ hx).2.1 HG.out
      have hzc := up_cell (HA.out k _ hx).2.2 HG.out
      have lb := cell_lt hxc
      dsimp only at lb
      clear hx
      have HGR := Lib.hid (fun v w' (h : FSSl v [[x, y, z]] w') => grid_calls v [[x, y, z]] 3 4652218415073722368 1024 w' h isI_10 (by decide) (by decide) (by simp) (by simp) (by decide))
      have HE := Lib.hid (grid_one x y z)
      obtain ⟨bb, hbb⟩ : ∃ bb, bb = p3S (x, y, z) := ⟨_, rfl⟩
      have HBB := Lib.hid hbb; clear hbb
      cases bb with
      | true =>
        go_wp2_with (first
          | (go_at_call 8; refine (off3_calls _ _ _ _).mono ?_; rintro e w1 ⟨b1, rfl, -, -, e0, e1, e2, hg⟩; have H3 := Lib.hid (fslThree e0 e1 e2); have HG1 := Lib.hid ((HG.out.alloc _).trans hg); clear hg e0 e1 e2)
          | (go_at_call 11; refine (HGR.out _ _ (fssl_one (by go_simp) (FSl.up _ _ H3.out ((Grow.refl _).alloc _)))).mono ?_; rw [HE.out, ← HBB.out]; rintro e w2 ⟨rfl, rfl⟩))
        exact ⟨⟨k + 1, by go_num, by omega, HG1.out.alloc _, by rw [all_take_succ _ _ _ _ HX.out, HALL.out, ← HBB.out]; rfl⟩, by simp [intOf]; omega⟩
      | false =>
        go_wp2_with (first
          | (go_at_call 8; refine (off3_calls _ _ _ _).mono ?_; rintro e w1 ⟨b1, rfl, -, -, e0, e1, e2, hg⟩; have H3 := Lib.hid (fslThree e0 e1 e2); have HG1 := Lib.hid ((HG.out.alloc _).trans hg); clear hg e0 e1 e2)
          | (go_at_call 11; refine (HGR.out _ _ (fssl_one (by go_simp) (FSl.up _ _ H3.out ((Grow.refl _).alloc _)))).mono ?_; rw [HE.out, ← HBB.out]; rintro e w2 ⟨rfl, rfl⟩))
        go_ret
        exact ⟨by rw [all_false_of _ _ _ _ HX.out HBB.out.symm]; rfl, HG1.out.alloc _⟩
def VecP (x y z : Nat) (w : World) (e : Ending) (w' : World) : Prop := e = .returned (P3V x y z) ∧ Grow w w'
theorem vec3_calls (x y z : Nat) (w : World) : Calls Tryd.prog 16 #[P3V x y z] w (VecP x y z w) := by
  go_enter Tryd.func16, Tryd.ntmps16
  go_wp2
  refine bodyPost_ret (v := P3V x y z) (by simp [results, Tryd.results16, go_sem]) rfl ⟨rfl, ?_⟩
  exact ((Grow.refl _).alloc _).alloc _
/-- a matrix: its cell holds the address of nine numbers -/
def M9 (B mb db : Nat) (ds : Nat → Nat) (w : World) : Prop := w.cell? ⟨mb, 0, none⟩ = some (.pointer (some ⟨db, 0, none⟩)) ∧ (∀ k, k < 9 → w.cell? ⟨db, k, none⟩ = some (.float .f64 (ds k))) ∧ (∀ o, w.frozen? ⟨db, o, none⟩ = false) ∧ mb ≠ db ∧ B ≤ db
def upd (ds : Nat → Nat) (k v : Nat) : Nat → Nat := fun j => if j = k then v else ds j
theorem M9.up {B mb db : Nat} {ds : Nat → Nat} : Up (M9 B mb db ds) := fun w w' ⟨h0, h1, h2, h3, h4⟩ hg => ⟨up_cell h0 hg, fun k hk => up_cell (h1 k hk) hg, fun o => (froz_up (cell_lt (h1 0 (by decide))) hg).trans (h2 o), h3, h4⟩
theorem M9.set {B mb db : Nat} {ds : Nat → Nat} {w : World} (h : M9 B mb db ds w) {k : Nat} (hk : k < 9) (v : Nat) : M9 B mb db (upd ds k v) (w.setCell ⟨db, k, none⟩ (.float .f64 v)) := by
  obtain ⟨h0, h1, h2, h3, h4⟩ := h
  refine ⟨?_, fun j hj => ?_, fun o => by rw [World.frozen?_setCell]; exact h2 o, h3, h4⟩
  · rw [World.cell?_setCell_other _ _ _ _ (by intro hc; injection hc with h5; exact h3 (by omega))]; exact h0
  · unfold upd
    by_cases he : j = k
    · subst he; rw [if_pos rfl]; exact World.cell?_setCell_same _ _ _ (h1 j hj)
    · rw [if_neg he, World.cell?_setCell_other _ _ _ _ (by intro hc; injection hc with h5 h6; exact he (by omega))]; exact h1 j hj
abbrev GN (S : Nat → Prop) : World → World → Prop := GX S (fun _ => False)
def SetP (B mb db : Nat) (ds : Nat → Nat) (w : World) (e : Ending) (w' : World) : Prop := e = .returned (.tuple #[]) ∧ M9 B mb db ds w' ∧ GN (fun k => k = db) w w'
def SetNP (B mb : Nat) (ds : Nat → Nat) (w : World) (e : Ending) (w' : World) : Prop := ∃ db, e = .returned (.tuple #[]) ∧ M9 B mb db ds w' ∧ w.heap.size ≤ db ∧ GN (fun k => k = mb) w w'
theorem lit3 {i : Nat} (h : i < 3) : i = 0 ∨ i = 1 ∨ i = 2 := by omega
set_option maxRecDepth 100000 in
set_option maxHeartbeats 2000000 in
theorem set_calls (B mb db i j v : Nat) (ds : Nat → Nat) (w : World) (h : M9 B mb db ds w) (hi : i < 3) (hj : j < 3) :
    Calls Tryd.prog 25 #[.pointer (some ⟨mb, 0, none⟩), .int .i64 i, .int .i64 j, .float .f64 v] w (SetP B mb db (upd ds (3 * i + j) v) w) := by
  have HM := Lib.hid (h.set (k := 3 * i + j) (by omega) v)
  have HB := Lib.hid h.2.2.2.2
  obtain ⟨h0, h1, h2, h3, -⟩ := h
  have c0 := h1 (3 * i + j) (by omega)
  have f0 := h2 (3 * i + j)
  have hne : ¬ db = mb := fun e => h3 e.symm
  generalize ds (3 * i + j) = old at c0
  clear h1 h2
  rcases lit3 hi with rfl | rfl | rfl <;> rcases lit3 hj with rfl | rfl | rfl
  all_goals
    simp only [Nat.mul_zero, Nat.mul_one, Nat.reduceMul, Nat.reduceAdd, Nat.zero_add, Nat.add_zero] at c0 f0 HM ⊢
    go_enter Tryd.func25, Tryd.ntmps25
    go_wp2
    exact bodyPost_end (results_none rfl _ _ _) rfl ⟨rfl, HM.out, GX.setCell _ (by rfl) (fun X hX => hX.elim)⟩
set_option maxRecDepth 100000 in
set_option maxHeartbeats 2000000 in
theorem setNil_calls (B mb v : Nat) (w : World) (h0 : w.cell? ⟨mb, 0, none⟩ = some (.pointer none)) (f0 : w.frozen? ⟨mb, 0, none⟩ = false) (hB : B ≤ mb) :
    Calls Tryd.prog 25 #[.pointer (some ⟨mb, 0, none⟩), .int .i64 0, .int .i64 0, .float .f64 v] w (SetNP B mb (upd (fun _ => 0) 0 v) w) := by
  have lb := cell_lt h0
  dsimp only at lb
  have hne : ¬ mb = w.heap.size := by omega
  have hne' : ¬ w.heap.size = mb := by omega
  go_enter Tryd.func25, Tryd.ntmps25
  go_wp2
  refine bodyPost_end (results_none rfl _ _ _) rfl ?_
  refine ⟨w.heap.size, rfl, ?_, Nat.le_refl _, ?_⟩
  · refine ⟨?_, fun k hk => ?_, fun o => ?_, hne, by omega⟩
    · go_simp
    · have : k = 0 ∨ k = 1 ∨ k = 2 ∨ k = 3 ∨ k = 4 ∨ k = 5 ∨ k = 6 ∨ k = 7 ∨ k = 8 := by omega
      rcases this with rfl | rfl | rfl | rfl | rfl | rfl | rfl | rfl | rfl <;> (simp only [upd]; go_simp)
    · go_simp
  · exact (GX.setCell _ (by rfl) (fun X hX => hX.elim)).trans (GX.of_grow (fun _ h => h.elim) ((Grow.refl _).alloc _))
def AtP (z : Nat) (w : World) (e : Ending) (w' : World) : Prop := e = .returned (.float .f64 z) ∧ w' = w
set_option maxRecDepth 100000 in
set_option maxHeartbeats 2000000 in
theorem at_calls (B mb db i j : Nat) (ds : Nat → Nat) (w : World) (h : M9 B mb db ds w) (hi : i < 3) (hj : j < 3) :
    Calls Tryd.prog 26 #[.pointer (some ⟨mb, 0, none⟩), .int .i64 i, .int .i64 j] w (AtP (ds (3 * i + j)) w) := by
  obtain ⟨h0, h1, -, -, -⟩ := h
  have c0 := h1 (3 * i + j) (by omega)
  generalize ds (3 * i + j) = old at c0 ⊢
  clear h1
  rcases lit3 hi with rfl | rfl | rfl <;> rcases lit3 hj with rfl | rfl | rfl
  all_goals
    simp only [Nat.mul_zero, Nat.mul_one, Nat.reduceMul, Nat.reduceAdd, Nat.zero_add, Nat.add_zero] at c0 ⊢
    go_enter Tryd.func26, Tryd.ntmps26
    go_wp2
    go_ret
    exact ⟨rfl, rfl⟩
end Go.Proofs.YtpnmcmpeecpjeaaDoor
