import Derived.Test.YtegknlnkkoeahaaInfl
import Derived.Test.YtegknlnkkoeahaaPlainR
import Derived.RegionTactic
import Derived.ChangeAlike
import Derived.Defers
import Derived.Recover
namespace Go.Proofs.Ytegknlnkkoeahaa
open Go.ChangeShapes Go.WideShapes Go.ChangeAt Go.RowKit Go.GrowR
set_option linter.unusedVariables false
set_option linter.unusedSimpArgs false
theorem idleI3 (p0 p1 : Addr) (w : World) :
    CallsD Try.prog 33 #[.pointer (some p0), .pointer (some p1)] .returning w fun e u' w' => e = .returned (.tuple #[]) ∧ u' = .returning ∧ w' = w := by
  refine callsD_of_wpS Try.func33 rfl fun c₀ cs hu => ?_
  apply wpS_seq
  apply wpS_region
  simp [wpOpsS, go_sem, recoverD, hu, Try.ntmps33, Exit.thenS]
  refine wpS_cond (t := false) (by simp [Act.eval, Array.replicate]) ?_
  simp only [Bool.false_eq_true, if_false]
  refine wpS_of_wp ?_
  go_wp2
  cases c₀
  simp_all [bodyPostS, results, Try.results33, Exit.thenS]

theorem doorInfl3 (A E : Option Addr) (n c s ce m : Nat) (segss : List (List (List (List Nat)))) (w : World) (hm : m = segss.length) (hu : FSl (.slice A n c) (fwd segss.flatten) w) (hE : EndRR E (cums s 0 segss) w) (hr : ∀ segs ∈ segss, ∀ rows ∈ segs, ∀ r ∈ rows, r.length = s) (hs : 0 < s) (hs9 : s ≤ 9) (hn : n ≤ 10000000000) (hsl : segss.length ≤ 10000000000) (hsl2 : ∀ segs ∈ segss, segs.length ≤ 10000000000) :
    Calls Try.prog 35 #[.slice A n c, .slice E m ce, .int .i64 s] w (MQ (L3 segss) w) := by
  have HC : Hid (Calls Try.prog 64 #[.slice A n c, .int .i64 0, .slice E m ce, .int .i64 s] w (MQ (L3 segss) w)) := by
    refine Lib.hid ?_
    subst hm
    have := inflate3_calls A E n c s ce [] segss [] w (by simpa using hu) hr hs hs9 hn (by simpa using hE) hsl hsl2
    simpa using this
  clear hm hr hu hE hsl2
  go_enter Try.func35, Try.ntmps35
  go_wp2_with (go_at_call 64; refine (HC.out).mono ?_; rintro e w' ⟨v, rfl, hg1, hst1⟩; have HG1 := Lib.hid hg1; have HST := Lib.hid hst1; clear hg1 hst1)
  go_ret
  exact ⟨_, rfl, HG1.out, HST.out⟩
def I3Q (segss : List (List (List (List Nat)))) (w : World) (e : Ending) (w' : World) : Prop := ∃ V, e = .returned (.tuple #[V, .bool true]) ∧ Grow w w' ∧ L3 segss V w'
set_option maxRecDepth 100000 in
set_option maxHeartbeats 8000000 in
theorem inflate3I_calls (A E : Option Addr) (n c s ce m : Nat) (segss : List (List (List (List Nat)))) (w : World) (hm : m = segss.length) (hu : FSl (.slice A n c) (fwd segss.flatten) w) (hE : EndRR E (cums s 0 segss) w) (hs0 : 0 < s) (hs9 : s ≤ 9) (hr : ∀ segs ∈ segss, ∀ rows ∈ segs, ∀ r ∈ rows, r.length = s) (hn : n ≤ 10000) (hsl : segss.length ≤ 10000) (hsl2 : ∀ segs ∈ segss, segs.length ≤ 10000) (hsl3 : ∀ segs ∈ segss, ∀ rows ∈ segs, rows.length ≤ 10000) :
    Calls Try.prog 9 #[.slice A n c, .slice E m ce, .int .i64 s] w (I3Q segss w) := by
  have hmf : ∀ (fn : Fn) (first cap : Array Value) (w : World), (Instr.makeFunc fn first cap).run Try.prog w = .ok (.func fn first cap) w := fun _ _ _ _ => rfl
  have HC := Lib.hid (fun w' (hw : Grow w w') => doorInfl3 A E n c s ce m segss w' hm (FSl.up _ _ hu hw) (EndRR.up _ _ hE hw) hr hs0 hs9 (by omega) (by omega) (fun q h => by have := hsl2 q h; omega))
  have HR := Lib.hid hr; have H2 := Lib.hid hsl2; have H3 := Lib.hid hsl3
  clear hm hu hE hr hsl2 hsl3
  go_enter_defers Try.func9, Try.ntmps9
  go_wp2_with fail
  refine (HC.out _ (((Grow.refl w).alloc _).alloc _)).mono ?_
  rintro e w2 ⟨v2, rfl, hg2, hst2⟩
  have HG2 := Lib.hid hg2; have HS2 := Lib.hid hst2.now
  clear hg2 hst2
  go_wp2_with fail
  refine (plain3_calls v2 segss w2 HS2.out (by omega) (fun q h => ⟨by have := H2.out q h; omega, fun rows h' => ⟨by have := H3.out q h rows h'; omega, fun z hz => by have := HR.out q h rows h' z hz; omega⟩⟩)).mono ?_
  rintro e w3 ⟨v3, rfl, hg3, hst3⟩
  obtain ⟨A9, c9, h9⟩ := hst3.now.form
  subst h9
  have HST := Lib.hid hst3
  have hg := HG2.out.trans hg3
  have hsz := HG2.out.size
  simp at hsz
  have y0 := up_cell (a := ⟨w.heap.size, 0, none⟩) (v := .slice none 0 0) (by go_simp) hg
  have y7 := up_cell (a := ⟨w.heap.size + 1, 0, none⟩) (v := .bool false) (by go_simp) hg
  have f1 : w3.frozen? ⟨w.heap.size, 0, none⟩ = false := (grow_frozen hg _ _ (by simp <;> omega)).trans (by go_simp)
  have f2 : w3.frozen? ⟨w.heap.size + 1, 0, none⟩ = false := (grow_frozen hg _ _ (by simp <;> omega)).trans (by go_simp)
  have HG := Lib.hid (((((Grow.refl w).alloc _).alloc _)).trans hg)
  have HSZ := Lib.hid hsz
  clear hg hg3 hst3 hsz
  go_wp2
  refine leaves_cons (f := 33) (args := #[.pointer (some ⟨w.heap.size, 0, none⟩), .pointer (some ⟨w.heap.size + 1, 0, none⟩)]) (by simp) (by simp [go_sem]) ?_
  refine (idleI3 ⟨w.heap.size, 0, none⟩ ⟨w.heap.size + 1, 0, none⟩ _).mono ?_
  rintro e u' w'' ⟨rfl, rfl, rfl⟩
  have hB := HSZ.out
  have k1 : ((w3.setCell ⟨w.heap.size, 0, none⟩ (.slice A9 segss.length c9)).setCell ⟨w.heap.size + 1, 0, none⟩ (.bool true)).cell? ⟨w.heap.size, 0, none⟩ = some (.slice A9 segss.length c9) := by go_simp
  have k2 : ((w3.setCell ⟨w.heap.size, 0, none⟩ (.slice A9 segss.length c9)).setCell ⟨w.heap.size + 1, 0, none⟩ (.bool true)).cell? ⟨w.heap.size + 1, 0, none⟩ = some (.bool true) := by go_simp
  refine ⟨.tuple #[.slice A9 segss.length c9, .bool true], by simp [results, Try.results9, go_sem, k1, k2], _, rfl, (HG.out.setCell (by simp <;> omega) _).setCell (by simp <;> omega) _, (HST.out.move fun k k1 k2 => ?_).now⟩
  have hne : w.heap.size ≠ k := by omega
  have hne' : k ≠ w.heap.size := by omega
  have hne2 : w.heap.size + 1 ≠ k := by omega
  have hne2' : k ≠ w.heap.size + 1 := by omega
  iterate 2 rw [Below.heap_setCell _ _ _ _ (by first | exact hne | exact hne' | exact hne2 | exact hne2')]
end Go.Proofs.Ytegknlnkkoeahaa
