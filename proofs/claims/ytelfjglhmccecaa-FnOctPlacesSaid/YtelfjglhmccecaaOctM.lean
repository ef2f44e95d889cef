import Derived.Test.YtelfjglhmccecaaLawOctA
import Derived.BigRegion
namespace Go.Proofs.Ytelfjglhmccecaa
open Go.ChangeShapes Go.WideShapes Go.ChangeAt Go.RowKit Go.GrowR
set_option linter.unusedVariables false
set_option linter.unusedSimpArgs false

def maxF (f : Nat → Int) : Nat → Int
  | 0 => f 0
  | k + 1 => max (maxF f k) (f k)
theorem maxF_ge (f : Nat → Int) : ∀ k i, i < k → f i ≤ maxF f k
  | 0, i, h => by omega
  | k + 1, i, h => by
    show f i ≤ max (maxF f k) (f k)
    by_cases hi : i < k
    · have := maxF_ge f k i hi; omega
    · obtain rfl : i = k := by omega
      omega
theorem maxF_le (f : Nat → Int) (m : Int) (h0 : f 0 ≤ m) : ∀ k, (∀ i, i < k → f i ≤ m) → maxF f k ≤ m
  | 0, _ => h0
  | k + 1, h => by
    show max (maxF f k) (f k) ≤ m
    have h1 := maxF_le f m h0 k (fun i hi => h i (by omega))
    have h2 := h k (by omega)
    omega
theorem maxF_bd (f : Nat → Int) (m : Int) (K : Nat) (hK : 1 ≤ K) (h : ∀ i, i < K → -m ≤ f i ∧ f i ≤ m) : ∀ k, k ≤ K → -m ≤ maxF f k ∧ maxF f k ≤ m
  | 0, _ => h 0 (by omega)
  | k + 1, hk => by
    show -m ≤ max (maxF f k) (f k) ∧ max (maxF f k) (f k) ≤ m
    have h1 := maxF_bd f m K hK h k (by omega)
    have h2 := h k (by omega)
    omega
theorem maxF_arg (f : Nat → Int) {K : Nat} (hK : 1 ≤ K) : maxF f K = f (argF f K) := by
  have h1 := maxF_ge f K (argF f K) (argF_pos f hK)
  have h2 := maxF_le f (f (argF f K)) (argF_ge f K 0 (by omega)) K (fun i hi => argF_ge f K i hi)
  omega
theorem maxF_oct (f : Nat → Int) {K : Nat} (hK : 1 ≤ K) (a : Nat → Nat) (ha : ∀ j, a j < K) (d : Nat) (hd : d < 8) (hf : a d = argF f K) : maxF (fun j => f (a j)) 8 = maxF f K := by
  rw [maxF_arg f hK]
  have h1 := maxF_ge (fun j => f (a j)) 8 d hd
  have h2 := maxF_le (fun j => f (a j)) (f (argF f K)) (argF_ge f K _ (ha 0)) 8 (fun i hi => argF_ge f K _ (ha i))
  simp only [hf] at h1
  omega
def MostP (m : Int) (w : World) (e : Ending) (w' : World) : Prop := ∃ z, e = .returned (.float .f64 z) ∧ Fl.IsI z m ∧ Grow w w'
set_option maxRecDepth 100000 in
set_option maxHeartbeats 8000000 in
theorem most_calls (x y b o c s K d : Nat) (xs : List Nat) (X Y : Nat → Int) (V : Value) (w : World) (hx : Fl.IsI x (dA d)) (hy : Fl.IsI y (dB d)) (hcell : FCells w b o xs) (hK : xs.length = K * s) (K1 : 1 ≤ K) (K60 : K ≤ 60) (s2 : 2 ≤ s) (s9 : s ≤ 9) (hi : Ints xs s K X Y) (hV : VSl V (rowsV b o c s K) w) :
    Calls Try.prog 23 #[.agg #[.float .f64 x, .float .f64 y], V] w (MostP (maxF (sc X Y d) K) w) := by
  obtain ⟨A, dd, rfl, hd, hA⟩ := hV
  rw [rowsV_len] at hd ⊢
  obtain ⟨bV, oV, rfl, hvc⟩ : ∃ bV oV, A = some ⟨bV, oV, none⟩ ∧ ∀ i x, (rowsV b o c s K)[i]? = some x → w.cell? ⟨bV, oV + i, none⟩ = some x := by
    rcases hA with h | h
    · exfalso
      have := rowsV_len b o c s K
      rw [h] at this; simp at this; omega
    · exact h
  have HV := Lib.hid (fun i (h : i < K) => hvc i _ (rowsV_get h)); clear hvc hA
  have HC := Lib.hid hcell; clear hcell
  have HI := Lib.hid hi; clear hi
  have HK := Lib.hid hK; clear hK
  have IX := Lib.hid hx
  have IY := Lib.hid hy
  clear hx hy
  have HSC : Hid (∀ k, k < K → -33554432 ≤ sc X Y d k ∧ sc X Y d k ≤ 33554432) := by
    intro k hk
    obtain ⟨⟨-, l1, u1⟩, -, l2, u2⟩ := HI.out k hk
    have h1 := mulD l1 u1 (dA_bd d); have h2 := mulD l2 u2 (dB_bd d)
    unfold sc; omega
  have HMX := Lib.hid (maxF_bd (sc X Y d) 33554432 K K1 HSC.out)
  have HG0 := Lib.hid ((Grow.refl w).alloc (Obj.cells #[.float .f64 x, .float .f64 y] 24))
  have H0 : Hid (∀ (k : Nat), k < K → ∃ p0 p1 z1 z2 z3, xs[k * s]? = some p0 ∧ xs[k * s + 1]? = some p1 ∧ floatBits .mul .f64 p0 x = some z1 ∧ floatBits .mul .f64 p1 y = some z2 ∧ floatBits .add .f64 z1 z2 = some z3 ∧ Fl.IsI z3 (sc X Y d k)) := by
    intro k hk
    have hkl : k * s + s ≤ xs.length := by
      have h2 := HK.out
      have h3 : (k + 1) * s ≤ K * s := Nat.mul_le_mul_right s hk
      rw [Nat.add_mul] at h3; omega
    obtain ⟨⟨i1, l1, u1⟩, i2, l2, u2⟩ := HI.out k hk
    obtain ⟨z1, f1, k1⟩ := Fl.mul_I i1 IX.out (by have := mulD l1 u1 (dA_bd d); omega)
    obtain ⟨z2, f2, k2⟩ := Fl.mul_I i2 IY.out (by have := mulD l2 u2 (dB_bd d); omega)
    obtain ⟨z3, f3, k3⟩ := Fl.add_I k1 k2 (by have := mulD l1 u1 (dA_bd d); have := mulD l2 u2 (dB_bd d); omega)
    exact ⟨_, _, z1, z2, z3, getD_some (by omega), getD_some (by omega), f1, f2, f3, k3⟩
  have t0 : (0 : Int) < (s : Int) := by omega
  have t1 : (1 : Int) < (s : Int) := by omega
  have t3 : (0 : Int) < (K : Int) := by omega
  obtain ⟨p0, p1, z1, z2, z3, e0, e1, f1, f2, f3, k3⟩ := H0.out 0 (by omega)
  have g1 := fop (P := Try.prog) f1
  have g2 := fop (P := Try.prog) f2
  have g3 := fop (P := Try.prog) f3
  have r0 := HV.out 0 (by omega)
  have c0 := HC.out _ _ e0
  have c1 := HC.out _ _ e1
  unfold rowV at r0
  simp only [Nat.zero_mul, Nat.add_zero, Nat.sub_zero, Nat.zero_add] at r0 c0 c1
  have lb := cell_lt c0
  have lr := cell_lt r0
  dsimp only at lb lr
  have K3 := Lib.hid k3
  clear e0 e1 f1 f2 f3 k3
  go_enter Try.func23, Try.ntmps23
  go_wp2
  go_quiet (fail)
  go_wp2
  clear g1 g2 g3 r0 c0 c1
  have G1 := Lib.hid (HG0.out.drewN nq)
  go_loopw [5, 27] (fun v i wr => ∃ (k z : Nat), i = .int .i64 k ∧ k ≤ K ∧ v = .float .f64 z ∧ Fl.IsI z (maxF (sc X Y d) k) ∧ Grow w wr ∧ wr.cell? ⟨w.heap.size, 0, none⟩ = some (.float .f64 x) ∧ wr.cell? ⟨w.heap.size, 1, none⟩ = some (.float .f64 y)) (fun _ i _ => K - (intOf i).toNat)
  case atStart => exact ⟨0, z3, rfl, Nat.zero_le _, rfl, K3.out, G1.out, by go_simp, by go_simp⟩
  case round =>
    clear K3 G1
    obtain ⟨k, z, rfl, hk, rfl, hz, hg, d0, d1⟩ := hrel
    have HZ := Lib.hid hz; clear hz
    have HG := Lib.hid hg; clear hg
    by_cases hkK : k < K
    case neg =>
      have e : k = K := by omega
      subst e
      clear d0 d1
      go_wp2
      go_ret
      exact ⟨z, rfl, HZ.out, HG.out⟩
    case pos =>
      obtain ⟨p0, p1, z1, z2, z3, e0, e1, f1, f2, f3, k3⟩ := H0.out k hkK
      have g1 := fop (P := Try.prog) f1
      have g2 := fop (P := Try.prog) f2
      have g3 := fop (P := Try.prog) f3
      have cV := up_cell (HV.out k hkK) HG.out
      have c0 := up_cell (HC.out _ _ e0) HG.out
      have c1 := up_cell (HC.out _ _ e1) HG.out
      unfold rowV at cV
      rw [← Nat.add_assoc] at c1
      obtain ⟨ks, hks⟩ : ∃ ks, ks = k * s := ⟨_, rfl⟩
      rw [← hks] at cV c0 c1
      clear hks e0 e1 f1 f2 f3
      have hm := Fl.run_fmax HZ.out k3 Try.prog
      have HN : Hid (Fl.IsI (Fl.fmax z z3) (maxF (sc X Y d) (k + 1))) := Fl.fmax_I HZ.out k3
      generalize Fl.fmax z z3 = zz at hm HN
      clear k3
      have t2 : (k : Int) < (K : Int) := by omega
      have tn0 : 0 < s := by omega
      have tn1 : 1 < s := by omega
      have lb := cell_lt c0
      have lr := cell_lt cV
      have ld := cell_lt d0
      dsimp only at lb lr ld
      go_wp2
      refine wp_region_grow (fun i => if i = 14 then some (fun _ _ => (fun V _ => V = .float .f64 zz)) else none) (by kernel_rfl) (by kernel_rfl) ?_ ?_
      · intro i Φ h lo hi v
        (repeat' split at h) <;> cases h
        · exact fun _ _ h _ => h
      repeat (first
        | (refine wpGrow_skip (by rfl) ?_; simp only [Act.put, List.setIfInBounds_toArray, List.set_cons_zero, List.set_cons_succ, Nat.reduceAdd])
        | (refine wpGrow_det' (by rfl) (by rfl) ?_; apply Exists.intro; refine ⟨fun w' hc hh => ?_, ?_⟩; (have hcell := grow_cell hc; clear hc hh; go_simp; rfl); simp only [Act.put, List.setIfInBounds_toArray, List.set_cons_zero, List.set_cons_succ, Nat.reduceAdd]))
      refine wpGrow_eff' (by rfl) (by rfl) (fun w' hc hh => ?_) (fun v lo hi w' hap hc hh hv => ?_)
      · clear hc hh
        go_simp
        exact EffVal.mk (Grow.refl _) rfl
      obtain rfl := hv
      clear hc hh hap w'
      simp only [Act.put, List.setIfInBounds_toArray, List.set_cons_zero, List.set_cons_succ, Nat.reduceAdd]
      repeat (first
        | (refine wpGrow_skip (by rfl) ?_; simp only [Act.put, List.setIfInBounds_toArray, List.set_cons_zero, List.set_cons_succ, Nat.reduceAdd])
        | (refine wpGrow_det' (by rfl) (by rfl) ?_; apply Exists.intro; refine ⟨fun w' hc hh => ?_, ?_⟩; (have hcell := grow_cell hc; clear hc hh; go_simp; rfl); simp only [Act.put, List.setIfInBounds_toArray, List.set_cons_zero, List.set_cons_succ, Nat.reduceAdd]))
      refine wpGrow_nil ?_
      intro w1 hg hh
      have HG2 := Lib.hid (HG.out.trans hg)
      have d0' := up_cell d0 hg
      have d1' := up_cell d1 hg
      clear hg hh
      go_wp2
      exact ⟨⟨k + 1, zz, by go_num, by omega, rfl, HN.out, HG2.out, d0', d1'⟩, by simp [intOf]; omega⟩
end Go.Proofs.Ytelfjglhmccecaa
