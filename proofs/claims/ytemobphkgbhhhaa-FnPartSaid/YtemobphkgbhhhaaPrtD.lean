import Derived.Test.YtemobphkgbhhhaaPrtC
import Derived.Test.YtemobphkgbhhhaaPlainC
import Derived.RegionTactic
import Derived.ChangeAlike
import Derived.Defers
import Derived.Recover
namespace Go.Proofs.Ytemobphkgbhhhaa
open Go.ChangeShapes Go.WideShapes Go.ChangeAt Go.RowKit Go.GrowR
set_option linter.unusedVariables false
set_option linter.unusedSimpArgs false
theorem idlePt (p0 p1 : Addr) (w : World) :
    CallsD Try.prog 36 #[.pointer (some p0), .pointer (some p1)] .returning w fun e u' w' => e = .returned (.tuple #[]) ∧ u' = .returning ∧ w' = w := by
  refine callsD_of_wpS Try.func36 rfl fun c₀ cs hu => ?_
  apply wpS_seq
  apply wpS_region
  simp [wpOpsS, go_sem, recoverD, hu, Try.ntmps36, Exit.thenS]
  refine wpS_cond (t := false) (by simp [Act.eval, Array.replicate]) ?_
  simp only [Bool.false_eq_true, if_false]
  refine wpS_of_wp ?_
  go_wp2
  cases c₀
  simp_all [bodyPostS, results, Try.results36, Exit.thenS]

def PrQ (g : GT) (w : World) (e : Ending) (w' : World) : Prop := ∃ v, e = .returned (.tuple #[v, .bool true]) ∧ Grow w w' ∧ GV g v w'
def PrN (w : World) (e : Ending) (w' : World) : Prop := e = .returned (.tuple #[.agg #[.int .i64 0, .int .i64 0, .int .i64 0, .slice none 0 0, .slice none 0 0, .slice none 0 0, .slice none 0 0], .bool false]) ∧ Grow w w'

set_option maxHeartbeats 4000000 in
theorem catchPt (p q : Nat) (u : TypeId) (pv : Value) (older : List PanicEntry) (w0 w : World) (hpq : p ≠ q) (hp : w0.heap.size ≤ p) (hq : w0.heap.size ≤ q) (hg : Grow w0 w) (c0 : w.cell? ⟨p, 0, none⟩ = some (.int .i64 0)) (c1 : w.cell? ⟨p, 1, none⟩ = some (.int .i64 0)) (c2 : w.cell? ⟨p, 2, none⟩ = some (.int .i64 0)) (c3 : w.cell? ⟨p, 3, none⟩ = some (.slice none 0 0)) (c4 : w.cell? ⟨p, 4, none⟩ = some (.slice none 0 0)) (c5 : w.cell? ⟨p, 5, none⟩ = some (.slice none 0 0)) (c6 : w.cell? ⟨p, 6, none⟩ = some (.slice none 0 0)) (c7 : w.cell? ⟨q, 0, none⟩ = some (.bool false)) (f1 : ∀ o, w.frozen? ⟨p, o, none⟩ = false) (f2 : w.frozen? ⟨q, 0, none⟩ = false) :
    CallsD Try.prog 36 #[.pointer (some ⟨p, 0, none⟩), .pointer (some ⟨q, 0, none⟩)] (.panicking ({ v := .iface u pv, recovered := false } :: older)) w fun e u' w' =>
      e = .returned (.tuple #[]) ∧ u' = .panicking ({ v := .iface u pv, recovered := true } :: older) ∧ Grow w0 w' ∧ w'.cell? ⟨p, 0, none⟩ = some (.int .i64 0) ∧ w'.cell? ⟨p, 1, none⟩ = some (.int .i64 0) ∧ w'.cell? ⟨p, 2, none⟩ = some (.int .i64 0) ∧ w'.cell? ⟨p, 3, none⟩ = some (.slice none 0 0) ∧ w'.cell? ⟨p, 4, none⟩ = some (.slice none 0 0) ∧ w'.cell? ⟨p, 5, none⟩ = some (.slice none 0 0) ∧ w'.cell? ⟨p, 6, none⟩ = some (.slice none 0 0) ∧ w'.cell? ⟨q, 0, none⟩ = some (.bool false) := by
  have HG := Lib.hid hg
  refine callsD_of_wpS Try.func36 rfl fun c₀ cs hu => ?_
  apply wpS_seq
  apply wpS_region
  simp [wpOpsS, go_sem, recoverD, hu, Try.ntmps36, Exit.thenS]
  refine wpS_cond (t := true) (by simp [Act.eval, Array.replicate]) ?_
  simp only [if_true]
  first | apply wpS_seq | skip
  apply wpS_region
  simp [wpOpsS, go_sem, c0, c1, c2, c3, c4, c5, c6, c7, f1, f2, hpq, Ne.symm hpq, bodyPostS, results, Try.results36]
  exact ((((((((HG.out).setCell (by simpa using hp) _).setCell (by simpa using hp) _).setCell (by simpa using hp) _).setCell (by simpa using hp) _).setCell (by simpa using hp) _).setCell (by simpa using hp) _).setCell (by simpa using hp) _).setCell (by simpa using hq) _

set_option maxRecDepth 100000 in
set_option maxHeartbeats 8000000 in
theorem partIn3 (kid : GT) (l r i : Int) (fl : List Nat) (en : List Int) (ens : List (List Int)) (kids : List GT) (A1 : Option Addr) (n1 c1 : Nat) (A2 : Option Addr) (n2 c2 : Nat) (A3 : Option Addr) (n3 c3 : Nat) (A4 : Option Addr) (n4 c4 : Nat) (w : World) (hge : ∀ w', Grow w w' → Calls Try.prog 35 #[Geo7 3 l r A1 n1 c1 A2 n2 c2 A3 n3 c3 A4 n4 c4] w' (GQ (.mk 3 l r fl en ens kids) w')) (hm : ∀ (b : Nat) (w1 : World), TV (.mk 3 l r fl en ens kids) (.iface (tyK 3) (.pointer (some ⟨b, 0, none⟩))) w1 → Calls Try.prog 38 #[.pointer (some ⟨b, 0, none⟩), .int .i64 i] w1 (fun e w2 => ∃ b2, e = .returned (.pointer (some ⟨b2, 0, none⟩)) ∧ Grow w1 w2 ∧ ∀ w3, Grow w2 w3 → Calls Try.prog 37 #[.iface 68 (.pointer (some ⟨b2, 0, none⟩))] w3 (PQ kid w3))) :
    Calls Try.prog 18 #[Geo7 3 l r A1 n1 c1 A2 n2 c2 A3 n3 c3 A4 n4 c4, .int .i64 i] w (PrQ kid w) := by
  have hmf : ∀ (fn : Fn) (first cap : Array Value) (w : World), (Instr.makeFunc fn first cap).run Try.prog w = .ok (.func fn first cap) w := fun _ _ _ _ => rfl
  have HGE := Lib.hid hge; have HM := Lib.hid hm
  clear hge hm
  go_enter_defers Try.func18, Try.ntmps18
  go_wp2_with fail
  refine (HGE.out _ ((((Grow.refl w).alloc _).alloc _).alloc _)).mono ?_
  rintro e w1 ⟨v, rfl, hg1, hst⟩
  obtain ⟨b, rfl⟩ : ∃ b, v = .iface (tyK 3) (.pointer (some ⟨b, 0, none⟩)) := by
    have htv := hst.now
    unfold TV at htv
    rcases htv with ⟨h7, h⟩ | ⟨h7, h⟩
    · first | exact absurd rfl h7 | (obtain ⟨b, u, rfl, -⟩ := h; exact ⟨b, rfl⟩)
    · first | exact absurd h7 (by decide) | (obtain ⟨b, V, us, rfl, -⟩ := h; exact ⟨b, rfl⟩)
  have HTV := Lib.hid hst.now
  have HG1 := Lib.hid hg1
  clear hst hg1
  have htk : tyK 3 = 66 := rfl
  rw [htk]
  clear htk
  go_wp2_with fail
  refine (HM.out _ _ HTV.out).mono ?_
  rintro e w2 ⟨b2, rfl, hg2, hpl⟩
  have HG2 := Lib.hid (HG1.out.trans hg2); have HPL := Lib.hid hpl
  clear hg2 hpl
  go_wp2_with fail
  refine (HPL.out _ (Grow.refl _)).mono ?_
  rintro e w3 ⟨v3, rfl, hg3, hst3⟩
  obtain ⟨k', l', r', A1', n1', c1', A2', n2', c2', A3', n3', c3', A4', n4', c4', rfl⟩ := hst3.now.form
  have HST := Lib.hid hst3
  have hg := HG2.out.trans hg3
  have hsz := HG2.out.size
  simp at hsz
  have y0 := up_cell (a := ⟨w.heap.size + 1, 0, none⟩) (v := .int .i64 0) (by go_simp) hg
  have y1 := up_cell (a := ⟨w.heap.size + 1, 1, none⟩) (v := .int .i64 0) (by go_simp) hg
  have y2 := up_cell (a := ⟨w.heap.size + 1, 2, none⟩) (v := .int .i64 0) (by go_simp) hg
  have y3 := up_cell (a := ⟨w.heap.size + 1, 3, none⟩) (v := .slice none 0 0) (by go_simp) hg
  have y4 := up_cell (a := ⟨w.heap.size + 1, 4, none⟩) (v := .slice none 0 0) (by go_simp) hg
  have y5 := up_cell (a := ⟨w.heap.size + 1, 5, none⟩) (v := .slice none 0 0) (by go_simp) hg
  have y6 := up_cell (a := ⟨w.heap.size + 1, 6, none⟩) (v := .slice none 0 0) (by go_simp) hg
  have y7 := up_cell (a := ⟨w.heap.size + 1 + 1, 0, none⟩) (v := .bool false) (by go_simp) hg
  have f1 : ∀ o, w3.frozen? ⟨w.heap.size + 1, o, none⟩ = false := fun o => (grow_frozen hg _ _ (by simp <;> omega)).trans (by go_simp)
  have f2 : w3.frozen? ⟨w.heap.size + 1 + 1, 0, none⟩ = false := (grow_frozen hg _ _ (by simp <;> omega)).trans (by go_simp)
  have HG := Lib.hid ((((((Grow.refl w).alloc _).alloc _).alloc _)).trans hg)
  have HSZ := Lib.hid hsz
  clear hg hg3 hst3 hsz
  go_wp2
  refine leaves_cons (f := 36) (args := #[.pointer (some ⟨w.heap.size + 1, 0, none⟩), .pointer (some ⟨w.heap.size + 1 + 1, 0, none⟩)]) (by simp) (by simp [go_sem]) ?_
  refine (idlePt ⟨w.heap.size + 1, 0, none⟩ ⟨w.heap.size + 1 + 1, 0, none⟩ _).mono ?_
  rintro e u' w'' ⟨rfl, rfl, rfl⟩
  have hB := HSZ.out
  refine ⟨.tuple #[Geo7 k' l' r' A1' n1' c1' A2' n2' c2' A3' n3' c3' A4' n4' c4', .bool true], by simp [results, Try.results18, go_sem, y0, y1, y2, y3, y4, y5, y6, y7], _, rfl, ((((((((HG.out).setCell (by simp <;> omega) _).setCell (by simp <;> omega) _).setCell (by simp <;> omega) _).setCell (by simp <;> omega) _).setCell (by simp <;> omega) _).setCell (by simp <;> omega) _).setCell (by simp <;> omega) _).setCell (by simp <;> omega) _, (HST.out.move fun k k1 k2 => ?_).now⟩
  have hne : w.heap.size + 1 ≠ k := by omega
  have hne' : k ≠ w.heap.size + 1 := by omega
  have hne2 : w.heap.size + 1 + 1 ≠ k := by omega
  have hne2' : k ≠ w.heap.size + 1 + 1 := by omega
  iterate 8 rw [Below.heap_setCell _ _ _ _ (by first | exact hne | exact hne' | exact hne2 | exact hne2')]

set_option maxRecDepth 100000 in
set_option maxHeartbeats 8000000 in
theorem partOut3 (l r i : Int) (fl : List Nat) (en : List Int) (ens : List (List Int)) (kids : List GT) (A1 : Option Addr) (n1 c1 : Nat) (A2 : Option Addr) (n2 c2 : Nat) (A3 : Option Addr) (n3 c3 : Nat) (A4 : Option Addr) (n4 c4 : Nat) (w : World) (hge : ∀ w', Grow w w' → Calls Try.prog 35 #[Geo7 3 l r A1 n1 c1 A2 n2 c2 A3 n3 c3 A4 n4 c4] w' (GQ (.mk 3 l r fl en ens kids) w')) (hm : ∀ (b : Nat) (w1 : World), TV (.mk 3 l r fl en ens kids) (.iface (tyK 3) (.pointer (some ⟨b, 0, none⟩))) w1 → Calls Try.prog 38 #[.pointer (some ⟨b, 0, none⟩), .int .i64 i] w1 (Fell w1)) :
    Calls Try.prog 18 #[Geo7 3 l r A1 n1 c1 A2 n2 c2 A3 n3 c3 A4 n4 c4, .int .i64 i] w (PrN w) := by
  have hmf : ∀ (fn : Fn) (first cap : Array Value) (w : World), (Instr.makeFunc fn first cap).run Try.prog w = .ok (.func fn first cap) w := fun _ _ _ _ => rfl
  have HGE := Lib.hid hge; have HM := Lib.hid hm
  clear hge hm
  go_enter_defers Try.func18, Try.ntmps18
  go_wp2_with fail
  refine (HGE.out _ ((((Grow.refl w).alloc _).alloc _).alloc _)).mono ?_
  rintro e w1 ⟨v, rfl, hg1, hst⟩
  obtain ⟨b, rfl⟩ : ∃ b, v = .iface (tyK 3) (.pointer (some ⟨b, 0, none⟩)) := by
    have htv := hst.now
    unfold TV at htv
    rcases htv with ⟨h7, h⟩ | ⟨h7, h⟩
    · first | exact absurd rfl h7 | (obtain ⟨b, u, rfl, -⟩ := h; exact ⟨b, rfl⟩)
    · first | exact absurd h7 (by decide) | (obtain ⟨b, V, us, rfl, -⟩ := h; exact ⟨b, rfl⟩)
  have HTV := Lib.hid hst.now
  have HG1 := Lib.hid hg1
  clear hst hg1
  have htk : tyK 3 = 66 := rfl
  rw [htk]
  clear htk
  go_wp2_with fail
  refine (HM.out _ _ HTV.out).mono ?_
  rintro e w2 ⟨t, pv, rfl, hg2⟩
  have hg := HG1.out.trans hg2
  have y0 := up_cell (a := ⟨w.heap.size + 1, 0, none⟩) (v := .int .i64 0) (by go_simp) hg
  have y1 := up_cell (a := ⟨w.heap.size + 1, 1, none⟩) (v := .int .i64 0) (by go_simp) hg
  have y2 := up_cell (a := ⟨w.heap.size + 1, 2, none⟩) (v := .int .i64 0) (by go_simp) hg
  have y3 := up_cell (a := ⟨w.heap.size + 1, 3, none⟩) (v := .slice none 0 0) (by go_simp) hg
  have y4 := up_cell (a := ⟨w.heap.size + 1, 4, none⟩) (v := .slice none 0 0) (by go_simp) hg
  have y5 := up_cell (a := ⟨w.heap.size + 1, 5, none⟩) (v := .slice none 0 0) (by go_simp) hg
  have y6 := up_cell (a := ⟨w.heap.size + 1, 6, none⟩) (v := .slice none 0 0) (by go_simp) hg
  have y7 := up_cell (a := ⟨w.heap.size + 1 + 1, 0, none⟩) (v := .bool false) (by go_simp) hg
  have f1 : ∀ o, w2.frozen? ⟨w.heap.size + 1, o, none⟩ = false := fun o => (grow_frozen hg _ _ (by simp <;> omega)).trans (by go_simp)
  have f2 : w2.frozen? ⟨w.heap.size + 1 + 1, 0, none⟩ = false := (grow_frozen hg _ _ (by simp <;> omega)).trans (by go_simp)
  have HG := Lib.hid ((((((Grow.refl w).alloc _).alloc _).alloc _)).trans hg)
  clear hg hg2
  go_wp2
  refine leaves_cons (f := 36) (args := #[.pointer (some ⟨w.heap.size + 1, 0, none⟩), .pointer (some ⟨w.heap.size + 1 + 1, 0, none⟩)]) (by simp) (by simp [go_sem]) ?_
  refine (catchPt (w.heap.size + 1) (w.heap.size + 1 + 1) _ _ _ w w2 (by omega) (by omega) (by omega) HG.out y0 y1 y2 y3 y4 y5 y6 y7 f1 f2).mono ?_
  rintro e u' w'' ⟨rfl, rfl, hgw, k0, k1, k2, k3, k4, k5, k6, k7⟩
  simp [Leaves, settle, results, Try.results18, go_sem, k0, k1, k2, k3, k4, k5, k6, k7]
  exact ⟨rfl, hgw⟩

set_option maxRecDepth 100000 in
set_option maxHeartbeats 8000000 in
theorem partIn4 (kid : GT) (l r i : Int) (fl : List Nat) (en : List Int) (ens : List (List Int)) (kids : List GT) (A1 : Option Addr) (n1 c1 : Nat) (A2 : Option Addr) (n2 c2 : Nat) (A3 : Option Addr) (n3 c3 : Nat) (A4 : Option Addr) (n4 c4 : Nat) (w : World) (hge : ∀ w', Grow w w' → Calls Try.prog 35 #[Geo7 4 l r A1 n1 c1 A2 n2 c2 A3 n3 c3 A4 n4 c4] w' (GQ (.mk 4 l r fl en ens kids) w')) (hm : ∀ (b : Nat) (w1 : World), TV (.mk 4 l r fl en ens kids) (.iface (tyK 4) (.pointer (some ⟨b, 0, none⟩))) w1 → Calls Try.prog 39 #[.pointer (some ⟨b, 0, none⟩), .int .i64 i] w1 (fun e w2 => ∃ b2, e = .returned (.pointer (some ⟨b2, 0, none⟩)) ∧ Grow w1 w2 ∧ ∀ w3, Grow w2 w3 → Calls Try.prog 37 #[.iface 71 (.pointer (some ⟨b2, 0, none⟩))] w3 (PQ kid w3))) :
    Calls Try.prog 18 #[Geo7 4 l r A1 n1 c1 A2 n2 c2 A3 n3 c3 A4 n4 c4, .int .i64 i] w (PrQ kid w) := by
  have hmf : ∀ (fn : Fn) (first cap : Array Value) (w : World), (Instr.makeFunc fn first cap).run Try.prog w = .ok (.func fn first cap) w := fun _ _ _ _ => rfl
  have HGE := Lib.hid hge; have HM := Lib.hid hm
  clear hge hm
  go_enter_defers Try.func18, Try.ntmps18
  go_wp2_with fail
  refine (HGE.out _ ((((Grow.refl w).alloc _).alloc _).alloc _)).mono ?_
  rintro e w1 ⟨v, rfl, hg1, hst⟩
  obtain ⟨b, rfl⟩ : ∃ b, v = .iface (tyK 4) (.pointer (some ⟨b, 0, none⟩)) := by
    have htv := hst.now
    unfold TV at htv
    rcases htv with ⟨h7, h⟩ | ⟨h7, h⟩
    · first | exact absurd rfl h7 | (obtain ⟨b, u, rfl, -⟩ := h; exact ⟨b, rfl⟩)
    · first | exact absurd h7 (by decide) | (obtain ⟨b, V, us, rfl, -⟩ := h; exact ⟨b, rfl⟩)
  have HTV := Lib.hid hst.now
  have HG1 := Lib.hid hg1
  clear hst hg1
  have htk : tyK 4 = 70 := rfl
  rw [htk]
  clear htk
  go_wp2_with fail
  refine (HM.out _ _ HTV.out).mono ?_
  rintro e w2 ⟨b2, rfl, hg2, hpl⟩
  have HG2 := Lib.hid (HG1.out.trans hg2); have HPL := Lib.hid hpl
  clear hg2 hpl
  go_wp2_with fail
  refine (HPL.out _ (Grow.refl _)).mono ?_
  rintro e w3 ⟨v3, rfl, hg3, hst3⟩
  obtain ⟨k', l', r', A1', n1', c1', A2', n2', c2', A3', n3', c3', A4', n4', c4', rfl⟩ := hst3.now.form
  have HST := Lib.hid hst3
  have hg := HG2.out.trans hg3
  have hsz := HG2.out.size
  simp at hsz
  have y0 := up_cell (a := ⟨w.heap.size + 1, 0, none⟩) (v := .int .i64 0) (by go_simp) hg
  have y1 := up_cell (a := ⟨w.heap.size + 1, 1, none⟩) (v := .int .i64 0) (by go_simp) hg
  have y2 := up_cell (a := ⟨w.heap.size + 1, 2, none⟩) (v := .int .i64 0) (by go_simp) hg
  have y3 := up_cell (a := ⟨w.heap.size + 1, 3, none⟩) (v := .slice none 0 0) (by go_simp) hg
  have y4 := up_cell (a := ⟨w.heap.size + 1, 4, none⟩) (v := .slice none 0 0) (by go_simp) hg
  have y5 := up_cell (a := ⟨w.heap.size + 1, 5, none⟩) (v := .slice none 0 0) (by go_simp) hg
  have y6 := up_cell (a := ⟨w.heap.size + 1, 6, none⟩) (v := .slice none 0 0) (by go_simp) hg
  have y7 := up_cell (a := ⟨w.heap.size + 1 + 1, 0, none⟩) (v := .bool false) (by go_simp) hg
  have f1 : ∀ o, w3.frozen? ⟨w.heap.size + 1, o, none⟩ = false := fun o => (grow_frozen hg _ _ (by simp <;> omega)).trans (by go_simp)
  have f2 : w3.frozen? ⟨w.heap.size + 1 + 1, 0, none⟩ = false := (grow_frozen hg _ _ (by simp <;> omega)).trans (by go_simp)
  have HG := Lib.hid ((((((Grow.refl w).alloc _).alloc _).alloc _)).trans hg)
  have HSZ := Lib.hid hsz
  clear hg hg3 hst3 hsz
  go_wp2
  refine leaves_cons (f := 36) (args := #[.pointer (some ⟨w.heap.size + 1, 0, none⟩), .pointer (some ⟨w.heap.size + 1 + 1, 0, none⟩)]) (by simp) (by simp [go_sem]) ?_
  refine (idlePt ⟨w.heap.size + 1, 0, none⟩ ⟨w.heap.size + 1 + 1, 0, none⟩ _).mono ?_
  rintro e u' w'' ⟨rfl, rfl, rfl⟩
  have hB := HSZ.out
  refine ⟨.tuple #[Geo7 k' l' r' A1' n1' c1' A2' n2' c2' A3' n3' c3' A4' n4' c4', .bool true], by simp [results, Try.results18, go_sem, y0, y1, y2, y3, y4, y5, y6, y7], _, rfl, ((((((((HG.out).setCell (by simp <;> omega) _).setCell (by simp <;> omega) _).setCell (by simp <;> omega) _).setCell (by simp <;> omega) _).setCell (by simp <;> omega) _).setCell (by simp <;> omega) _).setCell (by simp <;> omega) _).setCell (by simp <;> omega) _, (HST.out.move fun k k1 k2 => ?_).now⟩
  have hne : w.heap.size + 1 ≠ k := by omega
  have hne' : k ≠ w.heap.size + 1 := by omega
  have hne2 : w.heap.size + 1 + 1 ≠ k := by omega
  have hne2' : k ≠ w.heap.size + 1 + 1 := by omega
  iterate 8 rw [Below.heap_setCell _ _ _ _ (by first | exact hne | exact hne' | exact hne2 | exact hne2')]

set_option maxRecDepth 100000 in
set_option maxHeartbeats 8000000 in
theorem partOut4 (l r i : Int) (fl : List Nat) (en : List Int) (ens : List (List Int)) (kids : List GT) (A1 : Option Addr) (n1 c1 : Nat) (A2 : Option Addr) (n2 c2 : Nat) (A3 : Option Addr) (n3 c3 : Nat) (A4 : Option Addr) (n4 c4 : Nat) (w : World) (hge : ∀ w', Grow w w' → Calls Try.prog 35 #[Geo7 4 l r A1 n1 c1 A2 n2 c2 A3 n3 c3 A4 n4 c4] w' (GQ (.mk 4 l r fl en ens kids) w')) (hm : ∀ (b : Nat) (w1 : World), TV (.mk 4 l r fl en ens kids) (.iface (tyK 4) (.pointer (some ⟨b, 0, none⟩))) w1 → Calls Try.prog 39 #[.pointer (some ⟨b, 0, none⟩), .int .i64 i] w1 (Fell w1)) :
    Calls Try.prog 18 #[Geo7 4 l r A1 n1 c1 A2 n2 c2 A3 n3 c3 A4 n4 c4, .int .i64 i] w (PrN w) := by
  have hmf : ∀ (fn : Fn) (first cap : Array Value) (w : World), (Instr.makeFunc fn first cap).run Try.prog w = .ok (.func fn first cap) w := fun _ _ _ _ => rfl
  have HGE := Lib.hid hge; have HM := Lib.hid hm
  clear hge hm
  go_enter_defers Try.func18, Try.ntmps18
  go_wp2_with fail
  refine (HGE.out _ ((((Grow.refl w).alloc _).alloc _).alloc _)).mono ?_
  rintro e w1 ⟨v, rfl, hg1, hst⟩
  obtain ⟨b, rfl⟩ : ∃ b, v = .iface (tyK 4) (.pointer (some ⟨b, 0, none⟩)) := by
    have htv := hst.now
    unfold TV at htv
    rcases htv with ⟨h7, h⟩ | ⟨h7, h⟩
    · first | exact absurd rfl h7 | (obtain ⟨b, u, rfl, -⟩ := h; exact ⟨b, rfl⟩)
    · first | exact absurd h7 (by decide) | (obtain ⟨b, V, us, rfl, -⟩ := h; exact ⟨b, rfl⟩)
  have HTV := Lib.hid hst.now
  have HG1 := Lib.hid hg1
  clear hst hg1
  have htk : tyK 4 = 70 := rfl
  rw [htk]
  clear htk
  go_wp2_with fail
  refine (HM.out _ _ HTV.out).mono ?_
  rintro e w2 ⟨t, pv, rfl, hg2⟩
  have hg := HG1.out.trans hg2
  have y0 := up_cell (a := ⟨w.heap.size + 1, 0, none⟩) (v := .int .i64 0) (by go_simp) hg
  have y1 := up_cell (a := ⟨w.heap.size + 1, 1, none⟩) (v := .int .i64 0) (by go_simp) hg
  have y2 := up_cell (a := ⟨w.heap.size + 1, 2, none⟩) (v := .int .i64 0) (by go_simp) hg
  have y3 := up_cell (a := ⟨w.heap.size + 1, 3, none⟩) (v := .slice none 0 0) (by go_simp) hg
  have y4 := up_cell (a := ⟨w.heap.size + 1, 4, none⟩) (v := .slice none 0 0) (by go_simp) hg
  have y5 := up_cell (a := ⟨w.heap.size + 1, 5, none⟩) (v := .slice none 0 0) (by go_simp) hg
  have y6 := up_cell (a := ⟨w.heap.size + 1, 6, none⟩) (v := .slice none 0 0) (by go_simp) hg
  have y7 := up_cell (a := ⟨w.heap.size + 1 + 1, 0, none⟩) (v := .bool false) (by go_simp) hg
  have f1 : ∀ o, w2.frozen? ⟨w.heap.size + 1, o, none⟩ = false := fun o => (grow_frozen hg _ _ (by simp <;> omega)).trans (by go_simp)
  have f2 : w2.frozen? ⟨w.heap.size + 1 + 1, 0, none⟩ = false := (grow_frozen hg _ _ (by simp <;> omega)).trans (by go_simp)
  have HG := Lib.hid ((((((Grow.refl w).alloc _).alloc _).alloc _)).trans hg)
  clear hg hg2
  go_wp2
  refine leaves_cons (f := 36) (args := #[.pointer (some ⟨w.heap.size + 1, 0, none⟩), .pointer (some ⟨w.heap.size + 1 + 1, 0, none⟩)]) (by simp) (by simp [go_sem]) ?_
  refine (catchPt (w.heap.size + 1) (w.heap.size + 1 + 1) _ _ _ w w2 (by omega) (by omega) (by omega) HG.out y0 y1 y2 y3 y4 y5 y6 y7 f1 f2).mono ?_
  rintro e u' w'' ⟨rfl, rfl, hgw, k0, k1, k2, k3, k4, k5, k6, k7⟩
  simp [Leaves, settle, results, Try.results18, go_sem, k0, k1, k2, k3, k4, k5, k6, k7]
  exact ⟨rfl, hgw⟩

set_option maxRecDepth 100000 in
set_option maxHeartbeats 8000000 in
theorem partIn5 (kid : GT) (l r i : Int) (fl : List Nat) (en : List Int) (ens : List (List Int)) (kids : List GT) (A1 : Option Addr) (n1 c1 : Nat) (A2 : Option Addr) (n2 c2 : Nat) (A3 : Option Addr) (n3 c3 : Nat) (A4 : Option Addr) (n4 c4 : Nat) (w : World) (hge : ∀ w', Grow w w' → Calls Try.prog 35 #[Geo7 5 l r A1 n1 c1 A2 n2 c2 A3 n3 c3 A4 n4 c4] w' (GQ (.mk 5 l r fl en ens kids) w')) (hm : ∀ (b : Nat) (w1 : World), TV (.mk 5 l r fl en ens kids) (.iface (tyK 5) (.pointer (some ⟨b, 0, none⟩))) w1 → Calls Try.prog 40 #[.pointer (some ⟨b, 0, none⟩), .int .i64 i] w1 (fun e w2 => ∃ b2, e = .returned (.pointer (some ⟨b2, 0, none⟩)) ∧ Grow w1 w2 ∧ ∀ w3, Grow w2 w3 → Calls Try.prog 37 #[.iface 74 (.pointer (some ⟨b2, 0, none⟩))] w3 (PQ kid w3))) :
    Calls Try.prog 18 #[Geo7 5 l r A1 n1 c1 A2 n2 c2 A3 n3 c3 A4 n4 c4, .int .i64 i] w (PrQ kid w) := by
  have hmf : ∀ (fn : Fn) (first cap : Array Value) (w : World), (Instr.makeFunc fn first cap).run Try.prog w = .ok (.func fn first cap) w := fun _ _ _ _ => rfl
  have HGE := Lib.hid hge; have HM := Lib.hid hm
  clear hge hm
  go_enter_defers Try.func18, Try.ntmps18
  go_wp2_with fail
  refine (HGE.out _ ((((Grow.refl w).alloc _).alloc _).alloc _)).mono ?_
  rintro e w1 ⟨v, rfl, hg1, hst⟩
  obtain ⟨b, rfl⟩ : ∃ b, v = .iface (tyK 5) (.pointer (some ⟨b, 0, none⟩)) := by
    have htv := hst.now
    unfold TV at htv
    rcases htv with ⟨h7, h⟩ | ⟨h7, h⟩
    · first | exact absurd rfl h7 | (obtain ⟨b, u, rfl, -⟩ := h; exact ⟨b, rfl⟩)
    · first | exact absurd h7 (by decide) | (obtain ⟨b, V, us, rfl, -⟩ := h; exact ⟨b, rfl⟩)
  have HTV := Lib.hid hst.now
  have HG1 := Lib.hid hg1
  clear hst hg1
  have htk : tyK 5 = 73 := rfl
  rw [htk]
  clear htk
  go_wp2_with fail
  refine (HM.out _ _ HTV.out).mono ?_
  rintro e w2 ⟨b2, rfl, hg2, hpl⟩
  have HG2 := Lib.hid (HG1.out.trans hg2); have HPL := Lib.hid hpl
  clear hg2 hpl
  go_wp2_with fail
  refine (HPL.out _ (Grow.refl _)).mono ?_
  rintro e w3 ⟨v3, rfl, hg3, hst3⟩
  obtain ⟨k', l', r', A1', n1', c1', A2', n2', c2', A3', n3', c3', A4', n4', c4', rfl⟩ := hst3.now.form
  have HST := Lib.hid hst3
  have hg := HG2.out.trans hg3
  have hsz := HG2.out.size
  simp at hsz
  have y0 := up_cell (a := ⟨w.heap.size + 1, 0, none⟩) (v := .int .i64 0) (by go_simp) hg
  have y1 := up_cell (a := ⟨w.heap.size + 1, 1, none⟩) (v := .int .i64 0) (by go_simp) hg
  have y2 := up_cell (a := ⟨w.heap.size + 1, 2, none⟩) (v := .int .i64 0) (by go_simp) hg
  have y3 := up_cell (a := ⟨w.heap.size + 1, 3, none⟩) (v := .slice none 0 0) (by go_simp) hg
  have y4 := up_cell (a := ⟨w.heap.size + 1, 4, none⟩) (v := .slice none 0 0) (by go_simp) hg
  have y5 := up_cell (a := ⟨w.heap.size + 1, 5, none⟩) (v := .slice none 0 0) (by go_simp) hg
  have y6 := up_cell (a := ⟨w.heap.size + 1, 6, none⟩) (v := .slice none 0 0) (by go_simp) hg
  have y7 := up_cell (a := ⟨w.heap.size + 1 + 1, 0, none⟩) (v := .bool false) (by go_simp) hg
  have f1 : ∀ o, w3.frozen? ⟨w.heap.size + 1, o, none⟩ = false := fun o => (grow_frozen hg _ _ (by simp <;> omega)).trans (by go_simp)
  have f2 : w3.frozen? ⟨w.heap.size + 1 + 1, 0, none⟩ = false := (grow_frozen hg _ _ (by simp <;> omega)).trans (by go_simp)
  have HG := Lib.hid ((((((Grow.refl w).alloc _).alloc _).alloc _)).trans hg)
  have HSZ := Lib.hid hsz
  clear hg hg3 hst3 hsz
  go_wp2
  refine leaves_cons (f := 36) (args := #[.pointer (some ⟨w.heap.size + 1, 0, none⟩), .pointer (some ⟨w.heap.size + 1 + 1, 0, none⟩)]) (by simp) (by simp [go_sem]) ?_
  refine (idlePt ⟨w.heap.size + 1, 0, none⟩ ⟨w.heap.size + 1 + 1, 0, none⟩ _).mono ?_
  rintro e u' w'' ⟨rfl, rfl, rfl⟩
  have hB := HSZ.out
  refine ⟨.tuple #[Geo7 k' l' r' A1' n1' c1' A2' n2' c2' A3' n3' c3' A4' n4' c4', .bool true], by simp [results, Try.results18, go_sem, y0, y1, y2, y3, y4, y5, y6, y7], _, rfl, ((((((((HG.out).setCell (by simp <;> omega) _).setCell (by simp <;> omega) _).setCell (by simp <;> omega) _).setCell (by simp <;> omega) _).setCell (by simp <;> omega) _).setCell (by simp <;> omega) _).setCell (by simp <;> omega) _).setCell (by simp <;> omega) _, (HST.out.move fun k k1 k2 => ?_).now⟩
  have hne : w.heap.size + 1 ≠ k := by omega
  have hne' : k ≠ w.heap.size + 1 := by omega
  have hne2 : w.heap.size + 1 + 1 ≠ k := by omega
  have hne2' : k ≠ w.heap.size + 1 + 1 := by omega
  iterate 8 rw [Below.heap_setCell _ _ _ _ (by first | exact hne | exact hne' | exact hne2 | exact hne2')]

set_option maxRecDepth 100000 in
set_option maxHeartbeats 8000000 in
theorem partOut5 (l r i : Int) (fl : List Nat) (en : List Int) (ens : List (List Int)) (kids : List GT) (A1 : Option Addr) (n1 c1 : Nat) (A2 : Option Addr) (n2 c2 : Nat) (A3 : Option Addr) (n3 c3 : Nat) (A4 : Option Addr) (n4 c4 : Nat) (w : World) (hge : ∀ w', Grow w w' → Calls Try.prog 35 #[Geo7 5 l r A1 n1 c1 A2 n2 c2 A3 n3 c3 A4 n4 c4] w' (GQ (.mk 5 l r fl en ens kids) w')) (hm : ∀ (b : Nat) (w1 : World), TV (.mk 5 l r fl en ens kids) (.iface (tyK 5) (.pointer (some ⟨b, 0, none⟩))) w1 → Calls Try.prog 40 #[.pointer (some ⟨b, 0, none⟩), .int .i64 i] w1 (Fell w1)) :
    Calls Try.prog 18 #[Geo7 5 l r A1 n1 c1 A2 n2 c2 A3 n3 c3 A4 n4 c4, .int .i64 i] w (PrN w) := by
  have hmf : ∀ (fn : Fn) (first cap : Array Value) (w : World), (Instr.makeFunc fn first cap).run Try.prog w = .ok (.func fn first cap) w := fun _ _ _ _ => rfl
  have HGE := Lib.hid hge; have HM := Lib.hid hm
  clear hge hm
  go_enter_defers Try.func18, Try.ntmps18
  go_wp2_with fail
  refine (HGE.out _ ((((Grow.refl w).alloc _).alloc _).alloc _)).mono ?_
  rintro e w1 ⟨v, rfl, hg1, hst⟩
  obtain ⟨b, rfl⟩ : ∃ b, v = .iface (tyK 5) (.pointer (some ⟨b, 0, none⟩)) := by
    have htv := hst.now
    unfold TV at htv
    rcases htv with ⟨h7, h⟩ | ⟨h7, h⟩
    · first | exact absurd rfl h7 | (obtain ⟨b, u, rfl, -⟩ := h; exact ⟨b, rfl⟩)
    · first | exact absurd h7 (by decide) | (obtain ⟨b, V, us, rfl, -⟩ := h; exact ⟨b, rfl⟩)
  have HTV := Lib.hid hst.now
  have HG1 := Lib.hid hg1
  clear hst hg1
  have htk : tyK 5 = 73 := rfl
  rw [htk]
  clear htk
  go_wp2_with fail
  refine (HM.out _ _ HTV.out).mono ?_
  rintro e w2 ⟨t, pv, rfl, hg2⟩
  have hg := HG1.out.trans hg2
  have y0 := up_cell (a := ⟨w.heap.size + 1, 0, none⟩) (v := .int .i64 0) (by go_simp) hg
  have y1 := up_cell (a := ⟨w.heap.size + 1, 1, none⟩) (v := .int .i64 0) (by go_simp) hg
  have y2 := up_cell (a := ⟨w.heap.size + 1, 2, none⟩) (v := .int .i64 0) (by go_simp) hg
  have y3 := up_cell (a := ⟨w.heap.size + 1, 3, none⟩) (v := .slice none 0 0) (by go_simp) hg
  have y4 := up_cell (a := ⟨w.heap.size + 1, 4, none⟩) (v := .slice none 0 0) (by go_simp) hg
  have y5 := up_cell (a := ⟨w.heap.size + 1, 5, none⟩) (v := .slice none 0 0) (by go_simp) hg
  have y6 := up_cell (a := ⟨w.heap.size + 1, 6, none⟩) (v := .slice none 0 0) (by go_simp) hg
  have y7 := up_cell (a := ⟨w.heap.size + 1 + 1, 0, none⟩) (v := .bool false) (by go_simp) hg
  have f1 : ∀ o, w2.frozen? ⟨w.heap.size + 1, o, none⟩ = false := fun o => (grow_frozen hg _ _ (by simp <;> omega)).trans (by go_simp)
  have f2 : w2.frozen? ⟨w.heap.size + 1 + 1, 0, none⟩ = false := (grow_frozen hg _ _ (by simp <;> omega)).trans (by go_simp)
  have HG := Lib.hid ((((((Grow.refl w).alloc _).alloc _).alloc _)).trans hg)
  clear hg hg2
  go_wp2
  refine leaves_cons (f := 36) (args := #[.pointer (some ⟨w.heap.size + 1, 0, none⟩), .pointer (some ⟨w.heap.size + 1 + 1, 0, none⟩)]) (by simp) (by simp [go_sem]) ?_
  refine (catchPt (w.heap.size + 1) (w.heap.size + 1 + 1) _ _ _ w w2 (by omega) (by omega) (by omega) HG.out y0 y1 y2 y3 y4 y5 y6 y7 f1 f2).mono ?_
  rintro e u' w'' ⟨rfl, rfl, hgw, k0, k1, k2, k3, k4, k5, k6, k7⟩
  simp [Leaves, settle, results, Try.results18, go_sem, k0, k1, k2, k3, k4, k5, k6, k7]
  exact ⟨rfl, hgw⟩

set_option maxRecDepth 100000 in
set_option maxHeartbeats 8000000 in
theorem partIn6 (kid : GT) (l r i : Int) (fl : List Nat) (en : List Int) (ens : List (List Int)) (kids : List GT) (A1 : Option Addr) (n1 c1 : Nat) (A2 : Option Addr) (n2 c2 : Nat) (A3 : Option Addr) (n3 c3 : Nat) (A4 : Option Addr) (n4 c4 : Nat) (w : World) (hge : ∀ w', Grow w w' → Calls Try.prog 35 #[Geo7 6 l r A1 n1 c1 A2 n2 c2 A3 n3 c3 A4 n4 c4] w' (GQ (.mk 6 l r fl en ens kids) w')) (hm : ∀ (b : Nat) (w1 : World), TV (.mk 6 l r fl en ens kids) (.iface (tyK 6) (.pointer (some ⟨b, 0, none⟩))) w1 → Calls Try.prog 41 #[.pointer (some ⟨b, 0, none⟩), .int .i64 i] w1 (fun e w2 => ∃ b2, e = .returned (.pointer (some ⟨b2, 0, none⟩)) ∧ Grow w1 w2 ∧ ∀ w3, Grow w2 w3 → Calls Try.prog 37 #[.iface 66 (.pointer (some ⟨b2, 0, none⟩))] w3 (PQ kid w3))) :
    Calls Try.prog 18 #[Geo7 6 l r A1 n1 c1 A2 n2 c2 A3 n3 c3 A4 n4 c4, .int .i64 i] w (PrQ kid w) := by
  have hmf : ∀ (fn : Fn) (first cap : Array Value) (w : World), (Instr.makeFunc fn first cap).run Try.prog w = .ok (.func fn first cap) w := fun _ _ _ _ => rfl
  have HGE := Lib.hid hge; have HM := Lib.hid hm
  clear hge hm
  go_enter_defers Try.func18, Try.ntmps18
  go_wp2_with fail
  refine (HGE.out _ ((((Grow.refl w).alloc _).alloc _).alloc _)).mono ?_
  rintro e w1 ⟨v, rfl, hg1, hst⟩
  obtain ⟨b, rfl⟩ : ∃ b, v = .iface (tyK 6) (.pointer (some ⟨b, 0, none⟩)) := by
    have htv := hst.now
    unfold TV at htv
    rcases htv with ⟨h7, h⟩ | ⟨h7, h⟩
    · first | exact absurd rfl h7 | (obtain ⟨b, u, rfl, -⟩ := h; exact ⟨b, rfl⟩)
    · first | exact absurd h7 (by decide) | (obtain ⟨b, V, us, rfl, -⟩ := h; exact ⟨b, rfl⟩)
  have HTV := Lib.hid hst.now
  have HG1 := Lib.hid hg1
  clear hst hg1
  have htk : tyK 6 = 76 := rfl
  rw [htk]
  clear htk
  go_wp2_with fail
  refine (HM.out _ _ HTV.out).mono ?_
  rintro e w2 ⟨b2, rfl, hg2, hpl⟩
  have HG2 := Lib.hid (HG1.out.trans hg2); have HPL := Lib.hid hpl
  clear hg2 hpl
  go_wp2_with fail
  refine (HPL.out _ (Grow.refl _)).mono ?_
  rintro e w3 ⟨v3, rfl, hg3, hst3⟩
  obtain ⟨k', l', r', A1', n1', c1', A2', n2', c2', A3', n3', c3', A4', n4', c4', rfl⟩ := hst3.now.form
  have HST := Lib.hid hst3
  have hg := HG2.out.trans hg3
  have hsz := HG2.out.size
  simp at hsz
  have y0 := up_cell (a := ⟨w.heap.size + 1, 0, none⟩) (v := .int .i64 0) (by go_simp) hg
  have y1 := up_cell (a := ⟨w.heap.size + 1, 1, none⟩) (v := .int .i64 0) (by go_simp) hg
  have y2 := up_cell (a := ⟨w.heap.size + 1, 2, none⟩) (v := .int .i64 0) (by go_simp) hg
  have y3 := up_cell (a := ⟨w.heap.size + 1, 3, none⟩) (v := .slice none 0 0) (by go_simp) hg
  have y4 := up_cell (a := ⟨w.heap.size + 1, 4, none⟩) (v := .slice none 0 0) (by go_simp) hg
  have y5 := up_cell (a := ⟨w.heap.size + 1, 5, none⟩) (v := .slice none 0 0) (by go_simp) hg
  have y6 := up_cell (a := ⟨w.heap.size + 1, 6, none⟩) (v := .slice none 0 0) (by go_simp) hg
  have y7 := up_cell (a := ⟨w.heap.size + 1 + 1, 0, none⟩) (v := .bool false) (by go_simp) hg
  have f1 : ∀ o, w3.frozen? ⟨w.heap.size + 1, o, none⟩ = false := fun o => (grow_frozen hg _ _ (by simp <;> omega)).trans (by go_simp)
  have f2 : w3.frozen? ⟨w.heap.size + 1 + 1, 0, none⟩ = false := (grow_frozen hg _ _ (by simp <;> omega)).trans (by go_simp)
  have HG := Lib.hid ((((((Grow.refl w).alloc _).alloc _).alloc _)).trans hg)
  have HSZ := Lib.hid hsz
  clear hg hg3 hst3 hsz
  go_wp2
  refine leaves_cons (f := 36) (args := #[.pointer (some ⟨w.heap.size + 1, 0, none⟩), .pointer (some ⟨w.heap.size + 1 + 1, 0, none⟩)]) (by simp) (by simp [go_sem]) ?_
  refine (idlePt ⟨w.heap.size + 1, 0, none⟩ ⟨w.heap.size + 1 + 1, 0, none⟩ _).mono ?_
  rintro e u' w'' ⟨rfl, rfl, rfl⟩
  have hB := HSZ.out
  refine ⟨.tuple #[Geo7 k' l' r' A1' n1' c1' A2' n2' c2' A3' n3' c3' A4' n4' c4', .bool true], by simp [results, Try.results18, go_sem, y0, y1, y2, y3, y4, y5, y6, y7], _, rfl, ((((((((HG.out).setCell (by simp <;> omega) _).setCell (by simp <;> omega) _).setCell (by simp <;> omega) _).setCell (by simp <;> omega) _).setCell (by simp <;> omega) _).setCell (by simp <;> omega) _).setCell (by simp <;> omega) _).setCell (by simp <;> omega) _, (HST.out.move fun k k1 k2 => ?_).now⟩
  have hne : w.heap.size + 1 ≠ k := by omega
  have hne' : k ≠ w.heap.size + 1 := by omega
  have hne2 : w.heap.size + 1 + 1 ≠ k := by omega
  have hne2' : k ≠ w.heap.size + 1 + 1 := by omega
  iterate 8 rw [Below.heap_setCell _ _ _ _ (by first | exact hne | exact hne' | exact hne2 | exact hne2')]

set_option maxRecDepth 100000 in
set_option maxHeartbeats 8000000 in
theorem partOut6 (l r i : Int) (fl : List Nat) (en : List Int) (ens : List (List Int)) (kids : List GT) (A1 : Option Addr) (n1 c1 : Nat) (A2 : Option Addr) (n2 c2 : Nat) (A3 : Option Addr) (n3 c3 : Nat) (A4 : Option Addr) (n4 c4 : Nat) (w : World) (hge : ∀ w', Grow w w' → Calls Try.prog 35 #[Geo7 6 l r A1 n1 c1 A2 n2 c2 A3 n3 c3 A4 n4 c4] w' (GQ (.mk 6 l r fl en ens kids) w')) (hm : ∀ (b : Nat) (w1 : World), TV (.mk 6 l r fl en ens kids) (.iface (tyK 6) (.pointer (some ⟨b, 0, none⟩))) w1 → Calls Try.prog 41 #[.pointer (some ⟨b, 0, none⟩), .int .i64 i] w1 (Fell w1)) :
    Calls Try.prog 18 #[Geo7 6 l r A1 n1 c1 A2 n2 c2 A3 n3 c3 A4 n4 c4, .int .i64 i] w (PrN w) := by
  have hmf : ∀ (fn : Fn) (first cap : Array Value) (w : World), (Instr.makeFunc fn first cap).run Try.prog w = .ok (.func fn first cap) w := fun _ _ _ _ => rfl
  have HGE := Lib.hid hge; have HM := Lib.hid hm
  clear hge hm
  go_enter_defers Try.func18, Try.ntmps18
  go_wp2_with fail
  refine (HGE.out _ ((((Grow.refl w).alloc _).alloc _).alloc _)).mono ?_
  rintro e w1 ⟨v, rfl, hg1, hst⟩
  obtain ⟨b, rfl⟩ : ∃ b, v = .iface (tyK 6) (.pointer (some ⟨b, 0, none⟩)) := by
    have htv := hst.now
    unfold TV at htv
    rcases htv with ⟨h7, h⟩ | ⟨h7, h⟩
    · first | exact absurd rfl h7 | (obtain ⟨b, u, rfl, -⟩ := h; exact ⟨b, rfl⟩)
    · first | exact absurd h7 (by decide) | (obtain ⟨b, V, us, rfl, -⟩ := h; exact ⟨b, rfl⟩)
  have HTV := Lib.hid hst.now
  have HG1 := Lib.hid hg1
  clear hst hg1
  have htk : tyK 6 = 76 := rfl
  rw [htk]
  clear htk
  go_wp2_with fail
  refine (HM.out _ _ HTV.out).mono ?_
  rintro e w2 ⟨t, pv, rfl, hg2⟩
  have hg := HG1.out.trans hg2
  have y0 := up_cell (a := ⟨w.heap.size + 1, 0, none⟩) (v := .int .i64 0) (by go_simp) hg
  have y1 := up_cell (a := ⟨w.heap.size + 1, 1, none⟩) (v := .int .i64 0) (by go_simp) hg
  have y2 := up_cell (a := ⟨w.heap.size + 1, 2, none⟩) (v := .int .i64 0) (by go_simp) hg
  have y3 := up_cell (a := ⟨w.heap.size + 1, 3, none⟩) (v := .slice none 0 0) (by go_simp) hg
  have y4 := up_cell (a := ⟨w.heap.size + 1, 4, none⟩) (v := .slice none 0 0) (by go_simp) hg
  have y5 := up_cell (a := ⟨w.heap.size + 1, 5, none⟩) (v := .slice none 0 0) (by go_simp) hg
  have y6 := up_cell (a := ⟨w.heap.size + 1, 6, none⟩) (v := .slice none 0 0) (by go_simp) hg
  have y7 := up_cell (a := ⟨w.heap.size + 1 + 1, 0, none⟩) (v := .bool false) (by go_simp) hg
  have f1 : ∀ o, w2.frozen? ⟨w.heap.size + 1, o, none⟩ = false := fun o => (grow_frozen hg _ _ (by simp <;> omega)).trans (by go_simp)
  have f2 : w2.frozen? ⟨w.heap.size + 1 + 1, 0, none⟩ = false := (grow_frozen hg _ _ (by simp <;> omega)).trans (by go_simp)
  have HG := Lib.hid ((((((Grow.refl w).alloc _).alloc _).alloc _)).trans hg)
  clear hg hg2
  go_wp2
  refine leaves_cons (f := 36) (args := #[.pointer (some ⟨w.heap.size + 1, 0, none⟩), .pointer (some ⟨w.heap.size + 1 + 1, 0, none⟩)]) (by simp) (by simp [go_sem]) ?_
  refine (catchPt (w.heap.size + 1) (w.heap.size + 1 + 1) _ _ _ w w2 (by omega) (by omega) (by omega) HG.out y0 y1 y2 y3 y4 y5 y6 y7 f1 f2).mono ?_
  rintro e u' w'' ⟨rfl, rfl, hgw, k0, k1, k2, k3, k4, k5, k6, k7⟩
  simp [Leaves, settle, results, Try.results18, go_sem, k0, k1, k2, k3, k4, k5, k6, k7]
  exact ⟨rfl, hgw⟩

set_option maxRecDepth 100000 in
set_option maxHeartbeats 8000000 in
theorem partIn7 (kid : GT) (l r i : Int) (fl : List Nat) (en : List Int) (ens : List (List Int)) (kids : List GT) (A1 : Option Addr) (n1 c1 : Nat) (A2 : Option Addr) (n2 c2 : Nat) (A3 : Option Addr) (n3 c3 : Nat) (A4 : Option Addr) (n4 c4 : Nat) (w : World) (hge : ∀ w', Grow w w' → Calls Try.prog 35 #[Geo7 7 l r A1 n1 c1 A2 n2 c2 A3 n3 c3 A4 n4 c4] w' (GQ (.mk 7 l r fl en ens kids) w')) (hm : ∀ (b : Nat) (w1 : World), TV (.mk 7 l r fl en ens kids) (.iface 78 (.pointer (some ⟨b, 0, none⟩))) w1 → Calls Try.prog 42 #[.pointer (some ⟨b, 0, none⟩), .int .i64 i] w1 (fun e w2 => ∃ v2, e = .returned v2 ∧ Grow w1 w2 ∧ ∀ w3, Grow w2 w3 → Calls Try.prog 37 #[v2] w3 (PQ kid w3))) :
    Calls Try.prog 18 #[Geo7 7 l r A1 n1 c1 A2 n2 c2 A3 n3 c3 A4 n4 c4, .int .i64 i] w (PrQ kid w) := by
  have hmf : ∀ (fn : Fn) (first cap : Array Value) (w : World), (Instr.makeFunc fn first cap).run Try.prog w = .ok (.func fn first cap) w := fun _ _ _ _ => rfl
  have HGE := Lib.hid hge; have HM := Lib.hid hm
  clear hge hm
  go_enter_defers Try.func18, Try.ntmps18
  go_wp2_with fail
  refine (HGE.out _ ((((Grow.refl w).alloc _).alloc _).alloc _)).mono ?_
  rintro e w1 ⟨v, rfl, hg1, hst⟩
  obtain ⟨b, rfl⟩ : ∃ b, v = .iface 78 (.pointer (some ⟨b, 0, none⟩)) := by
    have htv := hst.now
    unfold TV at htv
    rcases htv with ⟨h7, h⟩ | ⟨h7, h⟩
    · first | exact absurd rfl h7 | (obtain ⟨b, u, rfl, -⟩ := h; exact ⟨b, rfl⟩)
    · first | exact absurd h7 (by decide) | (obtain ⟨b, V, us, rfl, -⟩ := h; exact ⟨b, rfl⟩)
  have HTV := Lib.hid hst.now
  have HG1 := Lib.hid hg1
  clear hst hg1
  go_wp2_with fail
  refine (HM.out _ _ HTV.out).mono ?_
  rintro e w2 ⟨b2, rfl, hg2, hpl⟩
  have HG2 := Lib.hid (HG1.out.trans hg2); have HPL := Lib.hid hpl
  clear hg2 hpl
  go_wp2_with fail
  refine (HPL.out _ (Grow.refl _)).mono ?_
  rintro e w3 ⟨v3, rfl, hg3, hst3⟩
  obtain ⟨k', l', r', A1', n1', c1', A2', n2', c2', A3', n3', c3', A4', n4', c4', rfl⟩ := hst3.now.form
  have HST := Lib.hid hst3
  have hg := HG2.out.trans hg3
  have hsz := HG2.out.size
  simp at hsz
  have y0 := up_cell (a := ⟨w.heap.size + 1, 0, none⟩) (v := .int .i64 0) (by go_simp) hg
  have y1 := up_cell (a := ⟨w.heap.size + 1, 1, none⟩) (v := .int .i64 0) (by go_simp) hg
  have y2 := up_cell (a := ⟨w.heap.size + 1, 2, none⟩) (v := .int .i64 0) (by go_simp) hg
  have y3 := up_cell (a := ⟨w.heap.size + 1, 3, none⟩) (v := .slice none 0 0) (by go_simp) hg
  have y4 := up_cell (a := ⟨w.heap.size + 1, 4, none⟩) (v := .slice none 0 0) (by go_simp) hg
  have y5 := up_cell (a := ⟨w.heap.size + 1, 5, none⟩) (v := .slice none 0 0) (by go_simp) hg
  have y6 := up_cell (a := ⟨w.heap.size + 1, 6, none⟩) (v := .slice none 0 0) (by go_simp) hg
  have y7 := up_cell (a := ⟨w.heap.size + 1 + 1, 0, none⟩) (v := .bool false) (by go_simp) hg
  have f1 : ∀ o, w3.frozen? ⟨w.heap.size + 1, o, none⟩ = false := fun o => (grow_frozen hg _ _ (by simp <;> omega)).trans (by go_simp)
  have f2 : w3.frozen? ⟨w.heap.size + 1 + 1, 0, none⟩ = false := (grow_frozen hg _ _ (by simp <;> omega)).trans (by go_simp)
  have HG := Lib.hid ((((((Grow.refl w).alloc _).alloc _).alloc _)).trans hg)
  have HSZ := Lib.hid hsz
  clear hg hg3 hst3 hsz
  go_wp2
  refine leaves_cons (f := 36) (args := #[.pointer (some ⟨w.heap.size + 1, 0, none⟩), .pointer (some ⟨w.heap.size + 1 + 1, 0, none⟩)]) (by simp) (by simp [go_sem]) ?_
  refine (idlePt ⟨w.heap.size + 1, 0, none⟩ ⟨w.heap.size + 1 + 1, 0, none⟩ _).mono ?_
  rintro e u' w'' ⟨rfl, rfl, rfl⟩
  have hB := HSZ.out
  refine ⟨.tuple #[Geo7 k' l' r' A1' n1' c1' A2' n2' c2' A3' n3' c3' A4' n4' c4', .bool true], by simp [results, Try.results18, go_sem, y0, y1, y2, y3, y4, y5, y6, y7], _, rfl, ((((((((HG.out).setCell (by simp <;> omega) _).setCell (by simp <;> omega) _).setCell (by simp <;> omega) _).setCell (by simp <;> omega) _).setCell (by simp <;> omega) _).setCell (by simp <;> omega) _).setCell (by simp <;> omega) _).setCell (by simp <;> omega) _, (HST.out.move fun k k1 k2 => ?_).now⟩
  have hne : w.heap.size + 1 ≠ k := by omega
  have hne' : k ≠ w.heap.size + 1 := by omega
  have hne2 : w.heap.size + 1 + 1 ≠ k := by omega
  have hne2' : k ≠ w.heap.size + 1 + 1 := by omega
  iterate 8 rw [Below.heap_setCell _ _ _ _ (by first | exact hne | exact hne' | exact hne2 | exact hne2')]

set_option maxRecDepth 100000 in
set_option maxHeartbeats 8000000 in
theorem partOut7 (l r i : Int) (fl : List Nat) (en : List Int) (ens : List (List Int)) (kids : List GT) (A1 : Option Addr) (n1 c1 : Nat) (A2 : Option Addr) (n2 c2 : Nat) (A3 : Option Addr) (n3 c3 : Nat) (A4 : Option Addr) (n4 c4 : Nat) (w : World) (hge : ∀ w', Grow w w' → Calls Try.prog 35 #[Geo7 7 l r A1 n1 c1 A2 n2 c2 A3 n3 c3 A4 n4 c4] w' (GQ (.mk 7 l r fl en ens kids) w')) (hm : ∀ (b : Nat) (w1 : World), TV (.mk 7 l r fl en ens kids) (.iface 78 (.pointer (some ⟨b, 0, none⟩))) w1 → Calls Try.prog 42 #[.pointer (some ⟨b, 0, none⟩), .int .i64 i] w1 (Fell w1)) :
    Calls Try.prog 18 #[Geo7 7 l r A1 n1 c1 A2 n2 c2 A3 n3 c3 A4 n4 c4, .int .i64 i] w (PrN w) := by
  have hmf : ∀ (fn : Fn) (first cap : Array Value) (w : World), (Instr.makeFunc fn first cap).run Try.prog w = .ok (.func fn first cap) w := fun _ _ _ _ => rfl
  have HGE := Lib.hid hge; have HM := Lib.hid hm
  clear hge hm
  go_enter_defers Try.func18, Try.ntmps18
  go_wp2_with fail
  refine (HGE.out _ ((((Grow.refl w).alloc _).alloc _).alloc _)).mono ?_
  rintro e w1 ⟨v, rfl, hg1, hst⟩
  obtain ⟨b, rfl⟩ : ∃ b, v = .iface 78 (.pointer (some ⟨b, 0, none⟩)) := by
    have htv := hst.now
    unfold TV at htv
    rcases htv with ⟨h7, h⟩ | ⟨h7, h⟩
    · first | exact absurd rfl h7 | (obtain ⟨b, u, rfl, -⟩ := h; exact ⟨b, rfl⟩)
    · first | exact absurd h7 (by decide) | (obtain ⟨b, V, us, rfl, -⟩ := h; exact ⟨b, rfl⟩)
  have HTV := Lib.hid hst.now
  have HG1 := Lib.hid hg1
  clear hst hg1
  go_wp2_with fail
  refine (HM.out _ _ HTV.out).mono ?_
  rintro e w2 ⟨t, pv, rfl, hg2⟩
  have hg := HG1.out.trans hg2
  have y0 := up_cell (a := ⟨w.heap.size + 1, 0, none⟩) (v := .int .i64 0) (by go_simp) hg
  have y1 := up_cell (a := ⟨w.heap.size + 1, 1, none⟩) (v := .int .i64 0) (by go_simp) hg
  have y2 := up_cell (a := ⟨w.heap.size + 1, 2, none⟩) (v := .int .i64 0) (by go_simp) hg
  have y3 := up_cell (a := ⟨w.heap.size + 1, 3, none⟩) (v := .slice none 0 0) (by go_simp) hg
  have y4 := up_cell (a := ⟨w.heap.size + 1, 4, none⟩) (v := .slice none 0 0) (by go_simp) hg
  have y5 := up_cell (a := ⟨w.heap.size + 1, 5, none⟩) (v := .slice none 0 0) (by go_simp) hg
  have y6 := up_cell (a := ⟨w.heap.size + 1, 6, none⟩) (v := .slice none 0 0) (by go_simp) hg
  have y7 := up_cell (a := ⟨w.heap.size + 1 + 1, 0, none⟩) (v := .bool false) (by go_simp) hg
  have f1 : ∀ o, w2.frozen? ⟨w.heap.size + 1, o, none⟩ = false := fun o => (grow_frozen hg _ _ (by simp <;> omega)).trans (by go_simp)
  have f2 : w2.frozen? ⟨w.heap.size + 1 + 1, 0, none⟩ = false := (grow_frozen hg _ _ (by simp <;> omega)).trans (by go_simp)
  have HG := Lib.hid ((((((Grow.refl w).alloc _).alloc _).alloc _)).trans hg)
  clear hg hg2
  go_wp2
  refine leaves_cons (f := 36) (args := #[.pointer (some ⟨w.heap.size + 1, 0, none⟩), .pointer (some ⟨w.heap.size + 1 + 1, 0, none⟩)]) (by simp) (by simp [go_sem]) ?_
  refine (catchPt (w.heap.size + 1) (w.heap.size + 1 + 1) _ _ _ w w2 (by omega) (by omega) (by omega) HG.out y0 y1 y2 y3 y4 y5 y6 y7 f1 f2).mono ?_
  rintro e u' w'' ⟨rfl, rfl, hgw, k0, k1, k2, k3, k4, k5, k6, k7⟩
  simp [Leaves, settle, results, Try.results18, go_sem, k0, k1, k2, k3, k4, k5, k6, k7]
  exact ⟨rfl, hgw⟩
end Go.Proofs.Ytemobphkgbhhhaa
