import Derived.Test.YtkcpjndelcfmhaaDoorHbC
import Derived.Defers
import Derived.Recover
namespace Go.Proofs.YtkcpjndelcfmhaaDoor
open Go.ChangeShapes Go.WideShapes Go.ChangeAt Go.RowKit Go.GrowR
set_option linter.unusedVariables false
set_option linter.unusedSimpArgs false
theorem idleHC (p0 p1 : Addr) (w : World) :
    CallsD Tryd.prog 8 #[.pointer (some p0), .pointer (some p1)] .returning w fun e u' w' => e = .returned (.tuple #[]) ∧ u' = .returning ∧ w' = w := by
  refine callsD_of_wpS Tryd.func8 rfl fun c₀ cs hu => ?_
  apply wpS_seq
  apply wpS_region
  simp [wpOpsS, go_sem, recoverD, hu, Tryd.ntmps8, Exit.thenS]
  refine wpS_cond (t := false) (by simp [Act.eval, Array.replicate]) ?_
  simp only [Bool.false_eq_true, if_false]
  refine wpS_of_wp ?_
  go_wp2
  cases c₀
  simp_all [bodyPostS, results, Tryd.results8, Exit.thenS]
theorem idleHP (p0 p1 : Addr) (w : World) :
    CallsD Tryd.prog 15 #[.pointer (some p0), .pointer (some p1)] .returning w fun e u' w' => e = .returned (.tuple #[]) ∧ u' = .returning ∧ w' = w := by
  refine callsD_of_wpS Tryd.func15 rfl fun c₀ cs hu => ?_
  apply wpS_seq
  apply wpS_region
  simp [wpOpsS, go_sem, recoverD, hu, Tryd.ntmps15, Exit.thenS]
  refine wpS_cond (t := false) (by simp [Act.eval, Array.replicate]) ?_
  simp only [Bool.false_eq_true, if_false]
  refine wpS_of_wp ?_
  go_wp2
  cases c₀
  simp_all [bodyPostS, results, Tryd.results15, Exit.thenS]

theorem IB.far {g : Nat} {xs : List Int} {w : World} (h : IB g xs w) {p : Addr} (hp : p.block ≠ g) (u : Value) : IB g xs (w.setCell p u) :=
  ⟨by simpa [World.setCell] using h.1, fun i x hi => ⟨by rw [World.cell?_setCell_other _ _ _ _ (fun e => hp (by rw [e]))]; exact (h.2 i x hi).1, by rw [World.frozen?_setCell]; exact (h.2 i x hi).2⟩⟩
theorem far_cell {p : Addr} {k o : Nat} {u v : Value} {w : World} (h : w.cell? ⟨k, o, none⟩ = some v) (hp : p ≠ ⟨k, o, none⟩) : (w.setCell p u).cell? ⟨k, o, none⟩ = some v := by rw [World.cell?_setCell_other _ _ _ _ hp]; exact h
/-- the cells of two results -/
structure RC2 (b : Nat) (v0 v1 : Value) (w : World) : Prop where
  c0 : w.cell? ⟨b, 0, none⟩ = some v0
  c1 : w.cell? ⟨b + 1, 0, none⟩ = some v1
  f0 : w.frozen? ⟨b, 0, none⟩ = false
  f1 : w.frozen? ⟨b + 1, 0, none⟩ = false
theorem RC2.up {b : Nat} {v0 v1 : Value} : Up (RC2 b v0 v1) := fun w w' h hg => ⟨up_cell h.c0 hg, up_cell h.c1 hg, (frozUp (cell_ltH h.c0) hg).trans h.f0, (frozUp (cell_ltH h.c1) hg).trans h.f1⟩
theorem RC2.start (w : World) (v0 v1 : Value) (t0 t1 : TypeId) : RC2 w.heap.size v0 v1 ((w.alloc (.cells #[v0] t0)).alloc (.cells #[v1] t1)) := ⟨by go_simp, by go_simp, by go_simp, by go_simp⟩
theorem RC2.put {b : Nat} {v0 v1 : Value} {w : World} (h : RC2 b v0 v1 w) (u0 u1 : Value) : ((w.setCell ⟨b, 0, none⟩ u0).setCell ⟨b + 1, 0, none⟩ u1).cell? ⟨b, 0, none⟩ = some u0 ∧ ((w.setCell ⟨b, 0, none⟩ u0).setCell ⟨b + 1, 0, none⟩ u1).cell? ⟨b + 1, 0, none⟩ = some u1 :=
  ⟨far_cell (World.cell?_setCell_same _ _ _ h.c0) (by simp), World.cell?_setCell_same _ _ _ (far_cell h.c1 (by simp))⟩
theorem own_cell {e : TypeId} {B g cap n : Nat} {xs : List Value} {w : World} (h : VOwn e B (.slice (some ⟨g, 0, none⟩) n cap) xs w) (hn : n = xs.length) (j : Nat) (hj : j < n) : w.cell? ⟨g, j, none⟩ = xs[j]? := by
  subst hn; exact World.ownsRow.cellAt h j (by omega)
theorem own_froz {e : TypeId} {B g cap n : Nat} {xs : List Value} {w : World} (h : VOwn e B (.slice (some ⟨g, 0, none⟩) n cap) xs w) (hn : n = xs.length) (j : Nat) : w.frozen? ⟨g, j, none⟩ = false := by
  subst hn; exact World.ownsRow.frozenAt h j
set_option maxHeartbeats 2000000 in
theorem ints_calls (g n c : Nat) (xs : List Int) (w : World) (hx : IB g xs w) (hl : xs.length = n) (h1 : 1 ≤ n) (h4 : n ≤ 4) (hc : n ≤ c) : Calls Tryd.prog 17 #[.slice (some ⟨g, 0, none⟩) n c] w fun e w' => ∃ g' c', e = .returned (.slice (some ⟨g', 0, none⟩) n c') ∧ Grow w w' ∧ w.heap.size ≤ g' ∧ IB g' xs w' := by
  obtain ⟨i0, hi, hz0, hz1, hz2⟩ := info_parts infoI
  have hsl : VSl (.slice (some ⟨g, 0, none⟩) n c) (xs.map (.int .i64)) w := ⟨some ⟨g, 0, none⟩, c, by simp [hl], by simpa [hl] using hc, .inr ⟨g, 0, rfl, fun i x hi => by
    rw [List.getElem?_map] at hi
    cases hx' : xs[i]? with
    | none => rw [hx'] at hi; cases hi
    | some y => rw [hx'] at hi; cases hi; rw [Nat.zero_add]; exact (hx.2 i y hx').1⟩⟩
  have HS := Lib.hid hsl; have HL := Lib.hid hl
  clear hsl hx hl
  go_enter Tryd.func17, Tryd.ntmps17
  go_wp2_with (at_builtin; refine wpList_append_vsl rfl _ _ 22 rfl w.heap.size 3 i0 (.int .i64 0) 8 undI hi hz0 hz1 hz2 rfl rfl VOwn.nil rfl HS.out (by intro x hx; obtain ⟨y, -, rfl⟩ := List.mem_map.1 hx; rfl) (by have := HL.out; simp [maxLen]; omega) (by have := HL.out; simp; omega) (Nat.le_refl _) ?_; intro v' w' hown hgrow hwhere)
  go_ret
  have hg := grow_of_grown hgrow
  rw [List.nil_append] at hown
  have ho2 := hown.2
  rcases ho2 with ⟨-, h0⟩ | ⟨g', cap, cur, hv, hb, hh, hr⟩
  · rw [List.length_map, HL.out] at h0; omega
  · rw [List.length_map, HL.out] at hv
    subst hv
    refine ⟨g', cap, rfl, hg, hb, ?_, fun i x hi => ?_⟩
    · rcases Nat.lt_or_ge g' w'.heap.size with h | h
      · exact h
      · rw [Array.getElem?_eq_none h] at hh; cases hh
    · have hil := (List.getElem?_eq_some_iff.1 hi).1
      have hn : n = (xs.map (Value.int .i64)).length := by rw [List.length_map, HL.out]
      exact ⟨(own_cell hown hn i (by have := HL.out; omega)).trans (by rw [List.getElem?_map, hi]; rfl), own_froz hown hn i⟩
set_option maxHeartbeats 2000000 in
theorem sameInts_calls (g1 g2 n c1 c2 : Nat) (xs : List Int) (w : World) (h1 : IB g1 xs w) (h2 : IB g2 xs w) (hl : xs.length = n) (h4 : n ≤ 4) : Calls Tryd.prog 7 #[.slice (some ⟨g1, 0, none⟩) n c1, .slice (some ⟨g2, 0, none⟩) n c2] w fun e w' => e = .returned (.bool true) ∧ w' = w := by
  have H1 := Lib.hid h1; have H2 := Lib.hid h2; have HL := Lib.hid hl
  clear h1 h2 hl
  go_enter Tryd.func7, Tryd.ntmps7
  go_wp2
  go_loopw [14] (fun i wr => ∃ k : Nat, i = .int .i64 k ∧ k ≤ n ∧ wr = w) (fun i _ => n - (intOf i).toNat)
  case atStart => exact ⟨0, rfl, Nat.zero_le _, rfl⟩
  case round =>
    obtain ⟨k, rfl, hk, rfl⟩ := hrel
    by_cases hlt : k < n
    case neg =>
      have hkn : k = n := by omega
      subst hkn
      go_wp2
      go_ret
      exact ⟨rfl, rfl⟩
    case pos =>
      obtain ⟨x, hx⟩ : ∃ x, xs[k]? = some x := ⟨xs[k]'(by have := HL.out; omega), by simp⟩
      obtain ⟨a1, -⟩ := H1.out.2 k x hx
      obtain ⟨a2, -⟩ := H2.out.2 k x hx
      have hks : (k : Int) < (n : Int) := by omega
      have he : ((x : Int) != x) = false := by simp
      clear hx
      go_wp2
      go_roundw
      case rel => exact ⟨k + 1, by go_num, by omega, by first | trivial | rfl⟩
      case measure => simp [intOf]; omega
set_option maxRecDepth 100000 in
theorem newH2_calls (w : World) : Calls Tryd.prog 9 #[.int .i64 1] w fun e w' => e = .returned (.tuple #[.agg #[.int .i64 1], .nilIface]) ∧ Grow w w' := by
  go_enter Tryd.func9, Tryd.ntmps9
  go_wp2
  refine bodyPost_ret (v := .tuple #[.agg #[.int .i64 1], .nilIface]) (by simp [results, Tryd.results9, go_sem]) rfl ⟨rfl, ?_⟩
  repeat (first | exact Grow.refl _ | refine Grow.drew ?_ | refine Grow.alloc ?_ _ | refine Grow.setCell ?_ (by simp) _)
set_option maxRecDepth 100000 in
theorem newH3_calls (w : World) : Calls Tryd.prog 11 #[.int .i64 1] w fun e w' => e = .returned (.tuple #[.agg #[.int .i64 1], .nilIface]) ∧ Grow w w' := by
  go_enter Tryd.func11, Tryd.ntmps11
  go_wp2
  refine bodyPost_ret (v := .tuple #[.agg #[.int .i64 1], .nilIface]) (by simp [results, Tryd.results11, go_sem]) rfl ⟨rfl, ?_⟩
  repeat (first | exact Grow.refl _ | refine Grow.drew ?_ | refine Grow.alloc ?_ _ | refine Grow.setCell ?_ (by simp) _)
set_option maxRecDepth 100000 in
theorem newH4_calls (w : World) : Calls Tryd.prog 13 #[.int .i64 1] w fun e w' => e = .returned (.tuple #[.agg #[.int .i64 1], .nilIface]) ∧ Grow w w' := by
  go_enter Tryd.func13, Tryd.ntmps13
  go_wp2
  refine bodyPost_ret (v := .tuple #[.agg #[.int .i64 1], .nilIface]) (by simp [results, Tryd.results13, go_sem]) rfl ⟨rfl, ?_⟩
  repeat (first | exact Grow.refl _ | refine Grow.drew ?_ | refine Grow.alloc ?_ _ | refine Grow.setCell ?_ (by simp) _)
theorem CoQ.free2 {p : Nat} {w w' : World} {g b : Nat} {v0 v1 : Value} (hi : IB g (gC 2 p) w') (hr : RC2 b v0 v1 w') (h0 : ∀ x, v0 ≠ .int .i64 x) (h1 : ∀ x, v1 ≠ .int .i64 x) : b ≠ g ∧ b + 1 ≠ g := by
  have hc := (hi.2 0 (gB p 0) (by simp [gC])).1
  refine ⟨fun e => ?_, fun e => ?_⟩
  · subst e; rw [hr.c0] at hc; cases hc; exact h0 _ rfl
  · subst e; rw [hr.c1] at hc; cases hc; exact h1 _ rfl
set_option maxRecDepth 100000 in
set_option maxHeartbeats 8000000 in
theorem hcoord2 (p : Nat) (hp : p < 16) (hc : ∀ w, Calls Tryd.prog 10 #[.agg #[.int .i64 1], .slice none 0 0, .int .i64 p] w (CoQ 2 p w)) (w : World) :
    Calls Tryd.prog 4 #[.int .i64 2, .int .i64 1, .int .i64 p] w fun e w' => ∃ g, e = .returned (.tuple #[.slice (some ⟨g, 0, none⟩) 2 2, .bool true]) ∧ Grow w w' ∧ IB g (gC 2 p) w' := by
  have hmf : ∀ (fn : Fn) (first cap : Array Value) (w : World), (Instr.makeFunc fn first cap).run Tryd.prog w = .ok (.func fn first cap) w := fun _ _ _ _ => rfl
  have HC := Lib.hid hc
  clear hc
  go_enter_defers Tryd.func4, Tryd.ntmps4
  go_wp2_with fail
  refine (newH2_calls _).mono ?_
  rintro e w1 ⟨rfl, hg1⟩
  have HR := Lib.hid (RC2.up _ _ (RC2.start w (.slice none 0 0) (.bool false) 22 4) hg1)
  have HG1 := Lib.hid ((((Grow.refl w).alloc _).alloc _).trans hg1)
  clear hg1
  go_wp2_with fail
  have hg2 := (Grow.refl w1).alloc (.cells #[.int .i64 1] 31)
  refine (HC.out _).mono ?_
  rintro e w2 ⟨g, rfl, hg3, hib⟩
  have hr := RC2.up _ _ HR.out (hg2.trans hg3)
  obtain ⟨n0, n1⟩ := CoQ.free2 (w := w) hib hr (by simp) (by simp)
  obtain ⟨c0, c1, f0, f1⟩ := hr
  have HI := Lib.hid hib; have HG := Lib.hid (HG1.out.trans (hg2.trans hg3))
  have HP := RC2.put ⟨c0, c1, f0, f1⟩ (.slice (some ⟨g, 0, none⟩) 2 2) (.bool true)
  clear hg2 hg3 hib
  go_wp2
  refine leaves_cons (f := 8) (args := #[.pointer (some ⟨w.heap.size, 0, none⟩), .pointer (some ⟨w.heap.size + 1, 0, none⟩)]) (by simp) (by simp [go_sem]) ?_
  refine (idleHC ⟨w.heap.size, 0, none⟩ ⟨w.heap.size + 1, 0, none⟩ _).mono ?_
  rintro e u' w'' ⟨rfl, rfl, rfl⟩
  exact ⟨.tuple #[.slice (some ⟨g, 0, none⟩) 2 2, .bool true], by simp [results, Tryd.results4, go_sem, HP.1, HP.2], g, rfl, (HG.out.setCell (by simp) _).setCell (by simp) _, (HI.out.far (by simpa using n0) _).far (by simpa using n1) _⟩
theorem CoQ.free3 {p : Nat} {w w' : World} {g b : Nat} {v0 v1 : Value} (hi : IB g (gC 3 p) w') (hr : RC2 b v0 v1 w') (h0 : ∀ x, v0 ≠ .int .i64 x) (h1 : ∀ x, v1 ≠ .int .i64 x) : b ≠ g ∧ b + 1 ≠ g := by
  have hc := (hi.2 0 (gB p 0) (by simp [gC])).1
  refine ⟨fun e => ?_, fun e => ?_⟩
  · subst e; rw [hr.c0] at hc; cases hc; exact h0 _ rfl
  · subst e; rw [hr.c1] at hc; cases hc; exact h1 _ rfl
set_option maxRecDepth 100000 in
set_option maxHeartbeats 8000000 in
theorem hcoord3 (p : Nat) (hp : p < 16) (hc : ∀ w, Calls Tryd.prog 12 #[.agg #[.int .i64 1], .slice none 0 0, .int .i64 p] w (CoQ 3 p w)) (w : World) :
    Calls Tryd.prog 4 #[.int .i64 3, .int .i64 1, .int .i64 p] w fun e w' => ∃ g, e = .returned (.tuple #[.slice (some ⟨g, 0, none⟩) 3 3, .bool true]) ∧ Grow w w' ∧ IB g (gC 3 p) w' := by
  have hmf : ∀ (fn : Fn) (first cap : Array Value) (w : World), (Instr.makeFunc fn first cap).run Tryd.prog w = .ok (.func fn first cap) w := fun _ _ _ _ => rfl
  have HC := Lib.hid hc
  clear hc
  go_enter_defers Tryd.func4, Tryd.ntmps4
  go_wp2_with fail
  refine (newH3_calls _).mono ?_
  rintro e w1 ⟨rfl, hg1⟩
  have HR := Lib.hid (RC2.up _ _ (RC2.start w (.slice none 0 0) (.bool false) 22 4) hg1)
  have HG1 := Lib.hid ((((Grow.refl w).alloc _).alloc _).trans hg1)
  clear hg1
  go_wp2_with fail
  have hg2 := (Grow.refl w1).alloc (.cells #[.int .i64 1] 37)
  refine (HC.out _).mono ?_
  rintro e w2 ⟨g, rfl, hg3, hib⟩
  have hr := RC2.up _ _ HR.out (hg2.trans hg3)
  obtain ⟨n0, n1⟩ := CoQ.free3 (w := w) hib hr (by simp) (by simp)
  obtain ⟨c0, c1, f0, f1⟩ := hr
  have HI := Lib.hid hib; have HG := Lib.hid (HG1.out.trans (hg2.trans hg3))
  have HP := RC2.put ⟨c0, c1, f0, f1⟩ (.slice (some ⟨g, 0, none⟩) 3 3) (.bool true)
  clear hg2 hg3 hib
  go_wp2
  refine leaves_cons (f := 8) (args := #[.pointer (some ⟨w.heap.size, 0, none⟩), .pointer (some ⟨w.heap.size + 1, 0, none⟩)]) (by simp) (by simp [go_sem]) ?_
  refine (idleHC ⟨w.heap.size, 0, none⟩ ⟨w.heap.size + 1, 0, none⟩ _).mono ?_
  rintro e u' w'' ⟨rfl, rfl, rfl⟩
  exact ⟨.tuple #[.slice (some ⟨g, 0, none⟩) 3 3, .bool true], by simp [results, Tryd.results4, go_sem, HP.1, HP.2], g, rfl, (HG.out.setCell (by simp) _).setCell (by simp) _, (HI.out.far (by simpa using n0) _).far (by simpa using n1) _⟩
theorem CoQ.free4 {p : Nat} {w w' : World} {g b : Nat} {v0 v1 : Value} (hi : IB g (gC 4 p) w') (hr : RC2 b v0 v1 w') (h0 : ∀ x, v0 ≠ .int .i64 x) (h1 : ∀ x, v1 ≠ .int .i64 x) : b ≠ g ∧ b + 1 ≠ g := by
  have hc := (hi.2 0 (gB p 0) (by simp [gC])).1
  refine ⟨fun e => ?_, fun e => ?_⟩
  · subst e; rw [hr.c0] at hc; cases hc; exact h0 _ rfl
  · subst e; rw [hr.c1] at hc; cases hc; exact h1 _ rfl
set_option maxRecDepth 100000 in
set_option maxHeartbeats 8000000 in
theorem hcoord4 (p : Nat) (hp : p < 16) (hc : ∀ w, Calls Tryd.prog 14 #[.agg #[.int .i64 1], .slice none 0 0, .int .i64 p] w (CoQ 4 p w)) (w : World) :
    Calls Tryd.prog 4 #[.int .i64 4, .int .i64 1, .int .i64 p] w fun e w' => ∃ g, e = .returned (.tuple #[.slice (some ⟨g, 0, none⟩) 4 4, .bool true]) ∧ Grow w w' ∧ IB g (gC 4 p) w' := by
  have hmf : ∀ (fn : Fn) (first cap : Array Value) (w : World), (Instr.makeFunc fn first cap).run Tryd.prog w = .ok (.func fn first cap) w := fun _ _ _ _ => rfl
  have HC := Lib.hid hc
  clear hc
  go_enter_defers Tryd.func4, Tryd.ntmps4
  go_wp2_with fail
  refine (newH4_calls _).mono ?_
  rintro e w1 ⟨rfl, hg1⟩
  have HR := Lib.hid (RC2.up _ _ (RC2.start w (.slice none 0 0) (.bool false) 22 4) hg1)
  have HG1 := Lib.hid ((((Grow.refl w).alloc _).alloc _).trans hg1)
  clear hg1
  go_wp2_with fail
  have hg2 := (Grow.refl w1).alloc (.cells #[.int .i64 1] 40)
  refine (HC.out _).mono ?_
  rintro e w2 ⟨g, rfl, hg3, hib⟩
  have hr := RC2.up _ _ HR.out (hg2.trans hg3)
  obtain ⟨n0, n1⟩ := CoQ.free4 (w := w) hib hr (by simp) (by simp)
  obtain ⟨c0, c1, f0, f1⟩ := hr
  have HI := Lib.hid hib; have HG := Lib.hid (HG1.out.trans (hg2.trans hg3))
  have HP := RC2.put ⟨c0, c1, f0, f1⟩ (.slice (some ⟨g, 0, none⟩) 4 4) (.bool true)
  clear hg2 hg3 hib
  go_wp2
  refine leaves_cons (f := 8) (args := #[.pointer (some ⟨w.heap.size, 0, none⟩), .pointer (some ⟨w.heap.size + 1, 0, none⟩)]) (by simp) (by simp [go_sem]) ?_
  refine (idleHC ⟨w.heap.size, 0, none⟩ ⟨w.heap.size + 1, 0, none⟩ _).mono ?_
  rintro e u' w'' ⟨rfl, rfl, rfl⟩
  exact ⟨.tuple #[.slice (some ⟨g, 0, none⟩) 4 4, .bool true], by simp [results, Tryd.results4, go_sem, HP.1, HP.2], g, rfl, (HG.out.setCell (by simp) _).setCell (by simp) _, (HI.out.far (by simpa using n0) _).far (by simpa using n1) _⟩
set_option maxRecDepth 100000 in
set_option maxHeartbeats 8000000 in
theorem hpos2 (p g : Nat) (hpos : ∀ g c w, IB g (gC 2 p) w → Calls Tryd.prog 16 #[.agg #[.int .i64 1], .slice (some ⟨g, 0, none⟩) 2 c] w fun e w' => e = .returned (.int .i64 p) ∧ G1 g w w') (w : World) (hx : IB g (gC 2 p) w) :
    Calls Tryd.prog 5 #[.int .i64 2, .int .i64 1, .slice (some ⟨g, 0, none⟩) 2 2] w fun e w' => e = .returned (.tuple #[.int .i64 p, .bool true]) ∧ Grow w w' := by
  have hmf : ∀ (fn : Fn) (first cap : Array Value) (w : World), (Instr.makeFunc fn first cap).run Tryd.prog w = .ok (.func fn first cap) w := fun _ _ _ _ => rfl
  have HP := Lib.hid hpos; have HX := Lib.hid hx
  clear hpos hx
  go_enter_defers Tryd.func5, Tryd.ntmps5
  go_wp2_with fail
  refine (newH2_calls _).mono ?_
  rintro e w1 ⟨rfl, hg1⟩
  have HR := Lib.hid (RC2.up _ _ (RC2.start w (.int .i64 0) (.bool false) 3 4) hg1)
  have HG1 := Lib.hid ((((Grow.refl w).alloc _).alloc _).trans hg1)
  have hz1 : w.heap.size + 2 ≤ w1.heap.size := by have := hg1.size; simp at this; omega
  clear hg1
  go_wp2
  have kn : (w1.alloc (.cells #[.int .i64 1] 31)).cell? ⟨w1.heap.size, 0, none⟩ = some (.int .i64 1) := by go_simp
  have HG2 := Lib.hid (HG1.out.trans ((Grow.refl w1).alloc (.cells #[.int .i64 1] 31)))
  have HR2 := Lib.hid (RC2.up _ _ HR.out ((Grow.refl w1).alloc (.cells #[.int .i64 1] 31)))
  have hz2 : w1.heap.size < (w1.alloc (.cells #[.int .i64 1] 31)).heap.size := by simp
  clear HR HG1
  generalize w1.alloc (.cells #[.int .i64 1] 31) = W at *
  generalize w1.heap.size = q at *
  refine wp_normal ?_
  go_region_law (first
    | (go_simp; go_at_call 17; refine (ints_calls g 2 2 (gC 2 p) _ (IB.up _ _ HX.out (HG2.out.trans (by repeat (first | exact Grow.refl _ | refine Grow.drew ?_ | refine Grow.alloc ?_ _)))) (by simp [gC]) (by omega) (by omega) (by omega)).mono ?_; rintro e w3 ⟨g3, c3, rfl, hg3, hgb, hib⟩; have HI3 := Lib.hid hib; have HGB := Lib.hid (show W.heap.size ≤ g3 from hgb); have HG3 := Lib.hid (show Grow W w3 from Grow.trans (by repeat (first | exact Grow.refl _ | refine Grow.drew ?_ | refine Grow.alloc ?_ _)) hg3); have k3 := up_cell kn HG3.out; clear hg3 hgb hib)
    | (go_simp; go_at_call 16; refine (HP.out g3 c3 w3 HI3.out).mono ?_; rintro e w4 ⟨rfl, hg4⟩; have HG4 := Lib.hid (GX.grow (w := W) hg4 HG3.out (fun k hk => by rw [hk]; exact HGB.out)); have hr := RC2.up _ _ HR2.out HG4.out; have c0 := hr.c0; have c1 := hr.c1; have f0 := hr.f0; have f1 := hr.f1; clear hg4 hr))
  all_goals
    have HPP := RC2.put ⟨c0, c1, f0, f1⟩ (.int .i64 (p : Int)) (.bool true)
    go_wp2
    refine leaves_cons (f := 15) (args := #[.pointer (some ⟨w.heap.size, 0, none⟩), .pointer (some ⟨w.heap.size + 1, 0, none⟩)]) (by simp) (by simp [go_sem]) ?_
    refine (idleHP ⟨w.heap.size, 0, none⟩ ⟨w.heap.size + 1, 0, none⟩ _).mono ?_
    rintro e u' w'' ⟨rfl, rfl, rfl⟩
    exact ⟨.tuple #[.int .i64 (p : Int), .bool true], by simp [results, Tryd.results5, go_sem, HPP.1, HPP.2], rfl, ((HG2.out.trans HG4.out).setCell (by simp) _).setCell (by simp) _⟩
set_option maxRecDepth 100000 in
set_option maxHeartbeats 8000000 in
theorem hpos3 (p g : Nat) (hpos : ∀ g c w, IB g (gC 3 p) w → Calls Tryd.prog 18 #[.agg #[.int .i64 1], .slice (some ⟨g, 0, none⟩) 3 c] w fun e w' => e = .returned (.int .i64 p) ∧ G1 g w w') (w : World) (hx : IB g (gC 3 p) w) :
    Calls Tryd.prog 5 #[.int .i64 3, .int .i64 1, .slice (some ⟨g, 0, none⟩) 3 3] w fun e w' => e = .returned (.tuple #[.int .i64 p, .bool true]) ∧ Grow w w' := by
  have hmf : ∀ (fn : Fn) (first cap : Array Value) (w : World), (Instr.makeFunc fn first cap).run Tryd.prog w = .ok (.func fn first cap) w := fun _ _ _ _ => rfl
  have HP := Lib.hid hpos; have HX := Lib.hid hx
  clear hpos hx
  go_enter_defers Tryd.func5, Tryd.ntmps5
  go_wp2_with fail
  refine (newH3_calls _).mono ?_
  rintro e w1 ⟨rfl, hg1⟩
  have HR := Lib.hid (RC2.up _ _ (RC2.start w (.int .i64 0) (.bool false) 3 4) hg1)
  have HG1 := Lib.hid ((((Grow.refl w).alloc _).alloc _).trans hg1)
  have hz1 : w.heap.size + 2 ≤ w1.heap.size := by have := hg1.size; simp at this; omega
  clear hg1
  go_wp2
  have kn : (w1.alloc (.cells #[.int .i64 1] 37)).cell? ⟨w1.heap.size, 0, none⟩ = some (.int .i64 1) := by go_simp
  have HG2 := Lib.hid (HG1.out.trans ((Grow.refl w1).alloc (.cells #[.int .i64 1] 37)))
  have HR2 := Lib.hid (RC2.up _ _ HR.out ((Grow.refl w1).alloc (.cells #[.int .i64 1] 37)))
  have hz2 : w1.heap.size < (w1.alloc (.cells #[.int .i64 1] 37)).heap.size := by simp
  clear HR HG1
  generalize w1.alloc (.cells #[.int .i64 1] 37) = W at *
  generalize w1.heap.size = q at *
  refine wp_normal ?_
  go_region_law (first
    | (go_simp; go_at_call 17; refine (ints_calls g 3 3 (gC 3 p) _ (IB.up _ _ HX.out (HG2.out.trans (by repeat (first | exact Grow.refl _ | refine Grow.drew ?_ | refine Grow.alloc ?_ _)))) (by simp [gC]) (by omega) (by omega) (by omega)).mono ?_; rintro e w3 ⟨g3, c3, rfl, hg3, hgb, hib⟩; have HI3 := Lib.hid hib; have HGB := Lib.hid (show W.heap.size ≤ g3 from hgb); have HG3 := Lib.hid (show Grow W w3 from Grow.trans (by repeat (first | exact Grow.refl _ | refine Grow.drew ?_ | refine Grow.alloc ?_ _)) hg3); have k3 := up_cell kn HG3.out; clear hg3 hgb hib)
    | (go_simp; go_at_call 18; refine (HP.out g3 c3 w3 HI3.out).mono ?_; rintro e w4 ⟨rfl, hg4⟩; have HG4 := Lib.hid (GX.grow (w := W) hg4 HG3.out (fun k hk => by rw [hk]; exact HGB.out)); have hr := RC2.up _ _ HR2.out HG4.out; have c0 := hr.c0; have c1 := hr.c1; have f0 := hr.f0; have f1 := hr.f1; clear hg4 hr))
  all_goals
    have HPP := RC2.put ⟨c0, c1, f0, f1⟩ (.int .i64 (p : Int)) (.bool true)
    go_wp2
    refine leaves_cons (f := 15) (args := #[.pointer (some ⟨w.heap.size, 0, none⟩), .pointer (some ⟨w.heap.size + 1, 0, none⟩)]) (by simp) (by simp [go_sem]) ?_
    refine (idleHP ⟨w.heap.size, 0, none⟩ ⟨w.heap.size + 1, 0, none⟩ _).mono ?_
    rintro e u' w'' ⟨rfl, rfl, rfl⟩
    exact ⟨.tuple #[.int .i64 (p : Int), .bool true], by simp [results, Tryd.results5, go_sem, HPP.1, HPP.2], rfl, ((HG2.out.trans HG4.out).setCell (by simp) _).setCell (by simp) _⟩
set_option maxRecDepth 100000 in
set_option maxHeartbeats 8000000 in
theorem hpos4 (p g : Nat) (hpos : ∀ g c w, IB g (gC 4 p) w → Calls Tryd.prog 19 #[.agg #[.int .i64 1], .slice (some ⟨g, 0, none⟩) 4 c] w fun e w' => e = .returned (.int .i64 p) ∧ G1 g w w') (w : World) (hx : IB g (gC 4 p) w) :
    Calls Tryd.prog 5 #[.int .i64 4, .int .i64 1, .slice (some ⟨g, 0, none⟩) 4 4] w fun e w' => e = .returned (.tuple #[.int .i64 p, .bool true]) ∧ Grow w w' := by
  have hmf : ∀ (fn : Fn) (first cap : Array Value) (w : World), (Instr.makeFunc fn first cap).run Tryd.prog w = .ok (.func fn first cap) w := fun _ _ _ _ => rfl
  have HP := Lib.hid hpos; have HX := Lib.hid hx
  clear hpos hx
  go_enter_defers Tryd.func5, Tryd.ntmps5
  go_wp2_with fail
  refine (newH4_calls _).mono ?_
  rintro e w1 ⟨rfl, hg1⟩
  have HR := Lib.hid (RC2.up _ _ (RC2.start w (.int .i64 0) (.bool false) 3 4) hg1)
  have HG1 := Lib.hid ((((Grow.refl w).alloc _).alloc _).trans hg1)
  have hz1 : w.heap.size + 2 ≤ w1.heap.size := by have := hg1.size; simp at this; omega
  clear hg1
  go_wp2
  have kn : (w1.alloc (.cells #[.int .i64 1] 40)).cell? ⟨w1.heap.size, 0, none⟩ = some (.int .i64 1) := by go_simp
  have HG2 := Lib.hid (HG1.out.trans ((Grow.refl w1).alloc (.cells #[.int .i64 1] 40)))
  have HR2 := Lib.hid (RC2.up _ _ HR.out ((Grow.refl w1).alloc (.cells #[.int .i64 1] 40)))
  have hz2 : w1.heap.size < (w1.alloc (.cells #[.int .i64 1] 40)).heap.size := by simp
  clear HR HG1
  generalize w1.alloc (.cells #[.int .i64 1] 40) = W at *
  generalize w1.heap.size = q at *
  refine wp_normal ?_
  go_region_law (first
    | (go_simp; go_at_call 17; refine (ints_calls g 4 4 (gC 4 p) _ (IB.up _ _ HX.out (HG2.out.trans (by repeat (first | exact Grow.refl _ | refine Grow.drew ?_ | refine Grow.alloc ?_ _)))) (by simp [gC]) (by omega) (by omega) (by omega)).mono ?_; rintro e w3 ⟨g3, c3, rfl, hg3, hgb, hib⟩; have HI3 := Lib.hid hib; have HGB := Lib.hid (show W.heap.size ≤ g3 from hgb); have HG3 := Lib.hid (show Grow W w3 from Grow.trans (by repeat (first | exact Grow.refl _ | refine Grow.drew ?_ | refine Grow.alloc ?_ _)) hg3); have k3 := up_cell kn HG3.out; clear hg3 hgb hib)
    | (go_simp; go_at_call 19; refine (HP.out g3 c3 w3 HI3.out).mono ?_; rintro e w4 ⟨rfl, hg4⟩; have HG4 := Lib.hid (GX.grow (w := W) hg4 HG3.out (fun k hk => by rw [hk]; exact HGB.out)); have hr := RC2.up _ _ HR2.out HG4.out; have c0 := hr.c0; have c1 := hr.c1; have f0 := hr.f0; have f1 := hr.f1; clear hg4 hr))
  all_goals
    have HPP := RC2.put ⟨c0, c1, f0, f1⟩ (.int .i64 (p : Int)) (.bool true)
    go_wp2
    refine leaves_cons (f := 15) (args := #[.pointer (some ⟨w.heap.size, 0, none⟩), .pointer (some ⟨w.heap.size + 1, 0, none⟩)]) (by simp) (by simp [go_sem]) ?_
    refine (idleHP ⟨w.heap.size, 0, none⟩ ⟨w.heap.size + 1, 0, none⟩ _).mono ?_
    rintro e u' w'' ⟨rfl, rfl, rfl⟩
    exact ⟨.tuple #[.int .i64 (p : Int), .bool true], by simp [results, Tryd.results5, go_sem, HPP.1, HPP.2], rfl, ((HG2.out.trans HG4.out).setCell (by simp) _).setCell (by simp) _⟩
end Go.Proofs.YtkcpjndelcfmhaaDoor
