import Derived.Test.YtdcchejehomicaaTsH
import Derived.Deep.RegionLaw
import Derived.Deep.Cut
namespace Go.Proofs.Ytdcchejehomicaa
open Go.ChangeShapes Go.WideShapes Go.ChangeAt Go.RowKit Go.GrowR
set_option linter.unusedVariables false
set_option linter.unusedSimpArgs false
theorem idleUn (p0 p1 : Addr) (w : World) :
    CallsD Try.prog 12 #[.pointer (some p0), .pointer (some p1)] .returning w fun e u' w' => e = .returned (.tuple #[]) ∧ u' = .returning ∧ w' = w := by
  refine callsD_of_wpS Try.func12 rfl fun c₀ cs hu => ?_
  apply wpS_seq
  apply wpS_region
  simp [wpOpsS, go_sem, recoverD, hu, Try.ntmps12, Exit.thenS]
  refine wpS_cond (t := false) (by simp [Act.eval, Array.replicate]) ?_
  simp only [Bool.false_eq_true, if_false]
  refine wpS_of_wp ?_
  go_wp2
  cases c₀
  simp_all [bodyPostS, results, Try.results12, Exit.thenS]
theorem idleTs (p0 p1 p2 : Addr) (w : World) :
    CallsD Try.prog 15 #[.pointer (some p0), .pointer (some p1), .pointer (some p2)] .returning w fun e u' w' => e = .returned (.tuple #[]) ∧ u' = .returning ∧ w' = w := by
  refine callsD_of_wpS Try.func15 rfl fun c₀ cs hu => ?_
  apply wpS_seq
  apply wpS_region
  simp [wpOpsS, go_sem, recoverD, hu, Try.ntmps15, Exit.thenS]
  refine wpS_cond (t := false) (by simp [Act.eval, Array.replicate]) ?_
  simp only [Bool.false_eq_true, if_false]
  refine wpS_of_wp ?_
  go_wp2
  cases c₀
  simp_all [bodyPostS, results, Try.results15, Exit.thenS]

/-- the cells of two results -/
structure RC2 (b : Nat) (v0 v1 : Value) (w : World) : Prop where
  c0 : w.cell? ⟨b, 0, none⟩ = some v0
  c1 : w.cell? ⟨b + 1, 0, none⟩ = some v1
  f0 : w.frozen? ⟨b, 0, none⟩ = false
  f1 : w.frozen? ⟨b + 1, 0, none⟩ = false
theorem RC2.up {b : Nat} {v0 v1 : Value} : Up (RC2 b v0 v1) := fun w w' h hg => ⟨up_cell h.c0 hg, up_cell h.c1 hg, (grow_frozen hg _ _ (cell_ltH h.c0)).trans h.f0, (grow_frozen hg _ _ (cell_ltH h.c1)).trans h.f1⟩
theorem RC2.start (w : World) (v0 v1 : Value) (t0 t1 : TypeId) : RC2 w.heap.size v0 v1 ((w.alloc (.cells #[v0] t0)).alloc (.cells #[v1] t1)) := ⟨by go_simp, by go_simp, by go_simp, by go_simp⟩
theorem RC2.put {b : Nat} {v0 v1 : Value} {w : World} (h : RC2 b v0 v1 w) (u0 u1 : Value) : ((w.setCell ⟨b, 0, none⟩ u0).setCell ⟨b + 1, 0, none⟩ u1).cell? ⟨b, 0, none⟩ = some u0 ∧ ((w.setCell ⟨b, 0, none⟩ u0).setCell ⟨b + 1, 0, none⟩ u1).cell? ⟨b + 1, 0, none⟩ = some u1 :=
  ⟨far_cell (World.cell?_setCell_same _ _ _ h.c0) (by simp), World.cell?_setCell_same _ _ _ (far_cell h.c1 (by simp))⟩
def UnI (us : List (List Nat)) (w : World) (e : Ending) (w' : World) : Prop := ∃ V, e = .returned (.tuple #[V, .bool true]) ∧ Grow w w' ∧ FSl V us.flatten w'
theorem fsl_below {V : Value} {B : Nat} {xs : List Nat} {w w' : World} (h : VOwn 52 B V (xs.map (.float .f64)) w) (hb : ∀ k, B ≤ k → w'.heap[k]? = w.heap[k]?) : FSl V xs w' := (VOwn.sl (own_move h fun g hg => hb g (own_block_lt h g hg).1)).f
theorem us_len {c : Int} {rows : List (List Nat)} {s : Nat} (h : ∀ r ∈ rows, r.length = s) : (tsAll c rows).us.flatten.length = (tsAll c rows).us.length * s := flat_len fun r hr => h r ((tsAll_mem c rows).1 r hr)
set_option maxRecDepth 100000 in
set_option maxHeartbeats 8000000 in
theorem unique_calls (v : Value) (s : Nat) (lay c : Int) (rows : List (List Nat)) (w : World) (hv : FSl v rows.flatten w) (hl : ∀ r ∈ rows, r.length = s) (h1 : 1 ≤ lay) (h9 : lay ≤ 9) (hs : strideN lay = s) (s2 : 2 ≤ s) (s9 : s ≤ 9) (hn : rows.length * s ≤ 1000) :
    Calls Try.prog 6 #[.int .i64 lay, .int .i64 c, v] w (UnI (tsAll c rows).us w) := by
  have hmf : ∀ (fn : Fn) (first cap : Array Value) (w : World), (Instr.makeFunc fn first cap).run Try.prog w = .ok (.func fn first cap) w := fun _ _ _ _ => rfl
  have hfl := flat_len hl
  have HFLO := Lib.hid (fun w' (hg : Grow w w') => floats_calls44 v rows.flatten w' (FSl.up _ _ hv hg) (by rw [hfl]; omega))
  have HUC := Lib.hid (fun A n cap lo hi w' (h : RB A n cap s rows lo hi w') (hn : n ≤ 1000) (hc : n ≤ cap) => uniqueCoords_calls A n cap s lay c rows lo hi w' h h1 h9 hs s2 s9 hn hc)
  have HL := Lib.hid hl; have HFL := Lib.hid hfl; have HN := Lib.hid hn
  have hul := us_len (c := c) hl
  have hule : (tsAll c rows).us.length * s ≤ 1000 := Nat.le_trans (Nat.mul_le_mul_right s (tsAll_le c rows)) hn
  have HUL : Hid ((tsAll c rows).us.flatten.length ≤ 17592186044416) := by show _ ≤ _; omega
  obtain ⟨A, cc, rfl, -, -⟩ := hv
  rw [hfl] at HFLO
  rw [hfl]
  obtain ⟨n, hnn⟩ : ∃ n, n = rows.length * s := ⟨_, rfl⟩
  have HNN := Lib.hid hnn
  rw [← hnn] at HFLO hn ⊢
  clear hl hfl hul hule hs hnn
  go_enter_defers Try.func6, Try.ntmps6
  go_wp2_with fail
  refine (HFLO.out _ (((Grow.refl w).alloc _).alloc _)).mono ?_
  rintro e w1 ⟨V1, rfl, hg1, ho1⟩
  have HRC1 := Lib.hid (RC2.up _ _ (RC2.start w (.slice none 0 0) (.bool false) 22 4) hg1)
  have HG1 := Lib.hid ((((Grow.refl w).alloc _).alloc _).trans hg1)
  have hz1 : w.heap.size + 2 ≤ w1.heap.size := by have := hg1.size; simp at this; omega
  obtain ⟨A1, k1, rfl, hk1⟩ := VOwn.slf ho1
  have hlen : (rows.flatten.map (Value.float .f64)).length = n := by rw [List.length_map, HFL.out, HNN.out]
  rw [hlen] at ho1 hk1 ⊢
  obtain ⟨lo, hi, hrb⟩ := RB.mk' (VOwn.sl ho1).f HL.out HNN.out (by omega)
  have HU1 := Lib.hid (HUC.out A1 n k1 lo hi w1 hrb hn hk1)
  clear hg1 ho1 hk1 hlen hrb
  go_wp2_with fail
  refine HU1.out.mono ?_
  rintro e w2 ⟨V2, rfl, hg2, hf2⟩
  have HRC2 := Lib.hid (RC2.up _ _ HRC1.out hg2)
  have HG2 := Lib.hid (HG1.out.trans hg2)
  have HF2 := Lib.hid (floats_calls44 V2 _ w2 hf2 HUL.out)
  have hz2 : w.heap.size + 2 ≤ w2.heap.size := Nat.le_trans hz1 hg2.size
  clear hg2 hf2
  go_wp2_with fail
  refine HF2.out.mono ?_
  rintro e w3 ⟨V3, rfl, hg3, ho3⟩
  have hr3 := RC2.up _ _ HRC2.out hg3
  obtain ⟨A3, k3, rfl, -⟩ := VOwn.slf ho3
  obtain ⟨c0, c1, f0, f1⟩ := hr3
  have HG3 := Lib.hid (HG2.out.trans hg3)
  have HO3 := Lib.hid ho3
  obtain ⟨m, hm⟩ : ∃ m, m = ((tsAll c rows).us.flatten.map (Value.float .f64)).length := ⟨_, rfl⟩
  rw [← hm] at HO3 ⊢
  have HP := RC2.put ⟨c0, c1, f0, f1⟩ (.slice A3 m k3) (.bool true)
  clear hg3 ho3 hm
  go_wp2
  refine leaves_cons (f := 12) (args := #[.pointer (some ⟨w.heap.size, 0, none⟩), .pointer (some ⟨w.heap.size + 1, 0, none⟩)]) (by simp) (by simp [go_sem]) ?_
  refine (idleUn ⟨w.heap.size, 0, none⟩ ⟨w.heap.size + 1, 0, none⟩ _).mono ?_
  rintro e u' w'' ⟨rfl, rfl, rfl⟩
  exact ⟨.tuple #[.slice A3 m k3, .bool true], by simp [results, Try.results6, go_sem, HP.1, HP.2], _, rfl, (HG3.out.setCell (by simp) _).setCell (by simp) _, fsl_below HO3.out fun k hk => (set_far (by simp; omega)).trans (set_far (by simp; omega))⟩
end Go.Proofs.Ytdcchejehomicaa
