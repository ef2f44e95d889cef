import Derived.Test.YtemobphkgbhhhaaBndB
import Derived.BigQuiet
import Derived.Deep.QuietTactic
namespace Fl
set_option linter.unusedSimpArgs false
open Go
/-- not above *)-/
def leX (x y : Nat) : Prop := xk x < xk y ∨ xk x = xk y ∧ xq x ≤ xq y
theorem leX.trans {x y z : Nat} (h : leX x y) (k : leX y z) : leX x z := by
  unfold leX at *
  rcases h with h | ⟨h1, h2⟩ <;> rcases k with k | ⟨k1, k2⟩
  · exact .inl (by omega)
  · exact .inl (by omega)
  · exact .inl (by omega)
  · exact .inr ⟨by omega, Rat.le_trans h2 k2⟩
theorem leX.of_eq {x y : Nat} (h : Xeq x y) : leX x y := .inr ⟨h.1, by rw [h.2]; exact Rat.le_refl⟩
theorem leX_ord {x y : Nat} : ordX x y ≠ .gt ↔ leX x y := by
  unfold ordX leX cmp
  by_cases h1 : xk x < xk y
  · simp [h1]
  · by_cases h2 : xk y < xk x
    · simp [h1, h2]; omega
    · have h3 : xk x = xk y := by omega
      by_cases h4 : xq x < xq y
      · simp [h3, h4, Rat.le_of_lt h4]
      · by_cases h5 : xq x = xq y
        · simp [h3, h5, Rat.le_refl]
        · simp only [h1, h2, h4, h5, if_false, ne_eq, not_true_eq_false, false_iff]
          rintro (h6 | ⟨-, h6⟩)
          · exact h6
          · exact h5 (Rat.le_antisymm h6 (Rat.not_lt.1 h4))
theorem ord_swap {x y : Nat} : ordX x y = .lt ↔ ¬ leX y x := by
  unfold ordX leX cmp
  by_cases h1 : xk x < xk y
  · simp [h1]; omega
  · by_cases h2 : xk y < xk x
    · simp [h1, h2]
    · have h3 : xk x = xk y := by omega
      by_cases h4 : xq x < xq y
      · simp [h3, h4, Rat.not_le.2 h4]
      · by_cases h5 : xq x = xq y
        · simp [h3, h5, Rat.le_refl]
        · simp [h3, h4, h5, Rat.not_lt.1 h4]
theorem fmin_le {x y : Nat} (hx : isNum x = true) (hy : isNum y = true) : leX (fmin x y) x ∧ leX (fmin x y) y := by
  obtain ⟨h1, h2, h3⟩ := fmin_X hx hy
  cases h : ordX x y with
  | lt => rw [h1 h]; exact ⟨.of_eq (.refl _), leX_ord.1 (by rw [h]; decide)⟩
  | gt => rw [h2 h]; exact ⟨Classical.byContradiction fun hn => (by have := ord_swap.2 hn; rw [h] at this; cases this), .of_eq (.refl _)⟩
  | eq => exact ⟨.of_eq (h3 h).1, .of_eq (h3 h).2⟩
theorem fmax_le {x y : Nat} (hx : isNum x = true) (hy : isNum y = true) : leX x (fmax x y) ∧ leX y (fmax x y) := by
  obtain ⟨h1, h2, h3⟩ := fmax_X hx hy
  cases h : ordX x y with
  | gt => rw [h1 h]; exact ⟨.of_eq (.refl _), Classical.byContradiction fun hn => by have := ord_swap.2 hn; rw [h] at this; cases this⟩
  | lt => rw [h2 h]; exact ⟨leX_ord.1 (by rw [h]; decide), .of_eq (.refl _)⟩
  | eq => exact ⟨.of_eq (h3 h).1.symm, .of_eq (h3 h).2.symm⟩
end Fl
namespace Go.Proofs.Ytemobphkgbhhhaa
open Go.ChangeShapes Go.WideShapes Go.ChangeAt Go.RowKit Go.GrowR
set_option linter.unusedVariables false
set_option linter.unusedSimpArgs false

theorem ext_bound {g : Nat → Nat → Nat} {R : Nat → Nat → Prop} (hg : ∀ x y, Fl.isNum x = true → Fl.isNum y = true → Fl.isNum (g x y) = true) (hR : ∀ x y, Fl.isNum x = true → Fl.isNum y = true → R (g x y) x ∧ R (g x y) y) (ht : ∀ x y z, R x y → R y z → R x z) {xs fl : List Nat} {s : Nat} (hs : 0 < s) (hx : xs.length = s) (nx : AllNum xs) (nf : AllNum fl) :
    ∀ t, t ≤ fl.length → (∀ (p m : Nat), (Fl.extL g xs fl s t)[p]? = some m → Fl.isNum m = true) ∧ ∀ (k x m : Nat), k < t → fl[k]? = some x → (Fl.extL g xs fl s t)[k % s]? = some m → R m x
  | 0, _ => ⟨nx, fun k x m h => by omega⟩
  | t + 1, hle => by
    obtain ⟨h1, h2⟩ := ext_bound hg hR ht hs hx nx nf t (by omega)
    have hl : (Fl.extL g xs fl s t).length = s := by rw [Fl.extL_len, hx]
    have hp : t % s < s := Nat.mod_lt _ hs
    obtain ⟨o, ho⟩ : ∃ o, (Fl.extL g xs fl s t)[t % s]? = some o := ⟨(Fl.extL g xs fl s t)[t % s]'(by omega), by simp [hl, hp]⟩
    obtain ⟨f, hf⟩ : ∃ f, fl[t]? = some f := ⟨fl[t]'(by omega), by simp [show t < fl.length by omega]⟩
    have e1 : (Fl.extL g xs fl s t).getD (t % s) 0 = o := by rw [List.getD_eq_getElem?_getD, ho]; rfl
    have e2 : fl.getD t 0 = f := by rw [List.getD_eq_getElem?_getD, hf]; rfl
    have hE : Fl.extL g xs fl s (t + 1) = (Fl.extL g xs fl s t).set (t % s) (g o f) := by
      show (Fl.extL g xs fl s t).set (t % s) (g ((Fl.extL g xs fl s t).getD (t % s) 0) (fl.getD t 0)) = _
      rw [e1, e2]
    have no := h1 _ _ ho; have nf' := nf _ _ hf
    rw [hE]
    refine ⟨fun p m hm => ?_, fun k x m hk hxk hm => ?_⟩
    · rw [List.getElem?_set] at hm
      split at hm
      · split at hm
        · cases hm; exact hg _ _ no nf'
        · cases hm
      · exact h1 p m hm
    · rw [List.getElem?_set] at hm
      by_cases hkt : k = t
      · subst hkt
        rw [if_pos rfl, if_pos (by omega)] at hm
        cases hm
        rw [hf] at hxk; cases hxk
        exact (hR _ _ no nf').2
      · by_cases hpk : t % s = k % s
        · rw [if_pos hpk, if_pos (by omega)] at hm
          cases hm
          exact ht _ _ _ (hR _ _ no nf').1 (h2 k x o (by omega) hxk (by rw [← hpk]; exact ho))
        · rw [if_neg hpk] at hm
          exact h2 k x m (by omega) hxk hm
theorem lims_in {s K : Nat} {fl zs us : List Nat} (h : Lims s fl zs us) (hs : 0 < s) (nf : AllNum fl) (hK : fl.length = K * s) {i j x z u : Nat} (hi : i < K) (hj : j < s) (hx : fl[i * s + j]? = some x) (hz : zs[j]? = some z) (hu : us[j]? = some u) : (FloatKind.f64.format.order z x == some .gt) = false ∧ (FloatKind.f64.format.order u x == some .lt) = false := by
  have hb : i * s + j < fl.length := (List.getElem?_eq_some_iff.1 hx).1
  have hm : (i * s + j) % s = j := mod_lin hj
  have nx := nf _ _ hx
  obtain ⟨nz, z', hz', nz', ez⟩ := XL_at h.1 hz
  obtain ⟨nu, u', hu', nu', eu⟩ := XL_at h.2 hu
  have b1 := (ext_bound (g := Fl.fmin) (R := Fl.leX) (fun _ _ => Fl.fmin_num) (fun _ _ => Fl.fmin_le) (fun _ _ _ => Fl.leX.trans) hs (List.length_replicate ..) (num_inf1 s) nf _ (Nat.le_refl _)).2 _ x z' hb hx (by rw [hm]; exact hz')
  have b2 := (ext_bound (g := Fl.fmax) (R := fun a b => Fl.leX b a) (fun _ _ => Fl.fmax_num) (fun _ _ => Fl.fmax_le) (fun _ _ _ h k => k.trans h) hs (List.length_replicate ..) (num_inf2 s) nf _ (Nat.le_refl _)).2 _ x u' hb hx (by rw [hm]; exact hu')
  have c1 : Fl.leX z x := (Fl.leX.of_eq ez).trans b1
  have c2 : Fl.leX x u := b2.trans (Fl.leX.of_eq eu.symm)
  have o1 : FloatKind.f64.format.order z x = some (Fl.ordX z x) := Fl.order_X nz nx
  have o2 : FloatKind.f64.format.order u x = some (Fl.ordX u x) := Fl.order_X nu nx
  rw [o1, o2]
  refine ⟨?_, ?_⟩
  · have := Fl.leX_ord.2 c1
    cases h : Fl.ordX z x <;> first | rfl | exact absurd h this
  · cases h : Fl.ordX u x with
    | lt => exact absurd c2 (Fl.ord_swap.1 h)
    | eq => rfl
    | gt => rfl
theorem idleOv (p0 p1 : Addr) (w : World) :
    CallsD Try.prog 51 #[.pointer (some p0), .pointer (some p1)] .returning w fun e u' w' => e = .returned (.tuple #[]) ∧ u' = .returning ∧ w' = w := by
  refine callsD_of_wpS Try.func51 rfl fun c₀ cs hu => ?_
  apply wpS_seq
  apply wpS_region
  simp [wpOpsS, go_sem, recoverD, hu, Try.ntmps51, Exit.thenS]
  refine wpS_cond (t := false) (by simp [Act.eval, Array.replicate]) ?_
  simp only [Bool.false_eq_true, if_false]
  refine wpS_of_wp ?_
  go_wp2
  cases c₀
  simp_all [bodyPostS, results, Try.results51, Exit.thenS]

def InBox (s : Nat) (zs us ps : List Nat) : Prop := ∀ (j z u p : Nat), j < s → zs[j]? = some z → us[j]? = some u → ps[j]? = some p → (FloatKind.f64.format.order z p == some .gt) = false ∧ (FloatKind.f64.format.order u p == some .lt) = false
set_option maxRecDepth 100000 in
set_option maxHeartbeats 4000000 in
theorem overlaps_calls (l : Int) (s : Nat) (V : Value) (zs us ps : List Nat) (bp op n cp : Nat) (w : World) (hv : BPtr l zs us V w) (h1 : 1 ≤ l) (h9 : l ≤ 9) (hs : strideN l = s) (s9 : s ≤ 9) (hz : zs.length = s) (hu : us.length = s) (hn : n = s) (hps : ps.length = s) (hp : FCells w bp op ps) (hin : InBox s zs us ps) :
    Calls Try.prog 53 #[V, .int .i64 l, .slice (some ⟨bp, op, none⟩) n cp] w fun e w' => e = .returned (.bool true) ∧ Grow w w' := by
  obtain ⟨b, u, v, rfl, x0, x1, x2, hfz, hfu⟩ := hv
  have HL := Lib.hid (fun w => layStride l s w h1 h9 hs)
  have HZ := Lib.hid hz; have HU := Lib.hid hu; have HP := Lib.hid hp; have HI := Lib.hid hin; have HPS := Lib.hid hps
  obtain ⟨A1, c1, rfl, -, hA1⟩ := hfz
  obtain ⟨A2, c2, rfl, -, hA2⟩ := hfu
  have HA1 := Lib.hid hA1; have HA2 := Lib.hid hA2
  rw [hz] at x1
  rw [hu] at x2
  clear h1 h9 hs hz hu hp hin hps hA1 hA2
  subst hn
  go_enter Try.func53, Try.ntmps53
  go_wp2_with (go_at_call 91; refine (HL.out _).mono ?_; rintro e w ⟨rfl, rfl⟩)
  go_loopw [7] (fun vi wr => ∃ k : Nat, k ≤ n ∧ vi = .int .i64 k ∧ Grow w wr) (fun vi _ => (n - intOf vi).toNat)
  case atStart => exact ⟨0, Nat.zero_le _, rfl, Grow.refl _⟩
  case round =>
    obtain ⟨k, hk, rfl, hg⟩ := hrel
    have HG := Lib.hid hg
    by_cases hlt : k < n
    · obtain ⟨z, hz⟩ : ∃ z, zs[k]? = some z := ⟨zs[k]'(by have := HZ.out; omega), by have := HZ.out; simp [show k < zs.length by omega]⟩
      obtain ⟨u, hu⟩ : ∃ z, us[k]? = some z := ⟨us[k]'(by have := HU.out; omega), by have := HU.out; simp [show k < us.length by omega]⟩
      obtain ⟨p, hp⟩ : ∃ z, ps[k]? = some z := ⟨ps[k]'(by have := HPS.out; omega), by have := HPS.out; simp [show k < ps.length by omega]⟩
      obtain ⟨i1, i2⟩ := HI.out k z u p hlt hz hu hp
      rcases HA1.out with h0 | ⟨bz, oz, rfl, hcz⟩
      · rw [h0] at hz; simp at hz
      rcases HA2.out with h0 | ⟨bu, ou, rfl, hcu⟩
      · rw [h0] at hu; simp at hu
      have y0 := up_cell x1 hg; have y1 := up_cell x2 hg
      have yz := up_cell (hcz k z hz) hg; have yu := up_cell (hcu k u hu) hg; have yp := up_cell (HP.out k p hp) hg
      have b0 : (0 : Int) ≤ (k : Int) := by omega
      have b1 : (k : Int) < (n : Int) := by omega
      have k1 : IntKind.i64.wrap ((k : Int) + 1) = (k : Int) + 1 := IntWalk.i64_in _ (by omega)
      clear hz hu hp hcz hcu hg x0 x1 x2
      go_wp2
      go_quiet (fail)
      go_wp2
      go_roundw
      case rel => exact ⟨k + 1, by omega, by go_num, HG.out.drewN _⟩
      case measure => simp [intOf]; omega
    · clear hg
      go_wp2
      go_ret
      exact ⟨rfl, HG.out⟩
set_option maxRecDepth 100000 in
set_option maxHeartbeats 4000000 in
theorem implOverlaps_calls (l : Int) (s : Nat) (u v : Value) (zs us ps : List Nat) (bp op n cp : Nat) (w : World) (hz : FSl u zs w) (hu : FSl v us w) (h1 : 1 ≤ l) (h9 : l ≤ 9) (hs : strideN l = s) (s9 : s ≤ 9) (hzl : zs.length = s) (hul : us.length = s) (hn : n = s) (hps : ps.length = s) (hp : FCells w bp op ps) (hin : InBox s zs us ps) :
    Calls Try.prog 25 #[.int .i64 l, BxV l u v, .slice (some ⟨bp, op, none⟩) n cp] w fun e w' => e = .returned (.tuple #[.bool true, .bool true]) ∧ Grow w w' := by
  have hmf : ∀ (fn : Fn) (first cap : Array Value) (w : World), (Instr.makeFunc fn first cap).run Try.prog w = .ok (.func fn first cap) w := fun _ _ _ _ => rfl
  have HB := Lib.hid (fun w' (hw : Grow w w') => box_calls l u v zs us w' (FSl.up _ _ hz hw) (FSl.up _ _ hu hw) (by omega) (by omega))
  have HO := Lib.hid (fun V w' (hw : Grow w w') (hv : BPtr l zs us V w') => overlaps_calls l s V zs us ps bp op n cp w' hv h1 h9 hs s9 hzl hul hn hps (hp.up hw) hin)
  obtain ⟨A1, c1, rfl, -, -⟩ := hz
  obtain ⟨A2, c2, rfl, -, -⟩ := hu
  clear h1 h9 hs s9 hzl hul hps hp hin
  subst hn
  generalize zs.length = m1 at *
  generalize us.length = m2 at *
  go_enter_defers Try.func25, Try.ntmps25
  go_wp2_with fail
  refine (HB.out _ ((((Grow.refl w).alloc _).alloc _).alloc _)).mono ?_
  rintro e w1 ⟨V, rfl, hg1, hbp⟩
  have HBP := Lib.hid hbp
  obtain ⟨b, -, -, rfl, -⟩ := hbp
  have HG1 := Lib.hid hg1
  clear hg1
  go_wp2_with fail
  refine (HO.out _ _ (((((Grow.refl w).alloc _).alloc _).alloc _).trans HG1.out) HBP.out).mono ?_
  rintro e w2 ⟨rfl, hg2⟩
  have hg := HG1.out.trans hg2
  have y1 := up_cell (a := ⟨w.heap.size + 1, 0, none⟩) (v := .bool false) (by go_simp) hg
  have y2 := up_cell (a := ⟨w.heap.size + 1 + 1, 0, none⟩) (v := .bool false) (by go_simp) hg
  have f1 : w2.frozen? ⟨w.heap.size + 1, 0, none⟩ = false := (grow_frozen hg _ _ (by simp <;> omega)).trans (by go_simp)
  have f2 : w2.frozen? ⟨w.heap.size + 1 + 1, 0, none⟩ = false := (grow_frozen hg _ _ (by simp <;> omega)).trans (by go_simp)
  have HG := Lib.hid (((((Grow.refl w).alloc _).alloc _).alloc _).trans hg)
  clear hg hg2
  go_wp2
  refine leaves_cons (f := 51) (args := #[.pointer (some ⟨w.heap.size + 1, 0, none⟩), .pointer (some ⟨w.heap.size + 1 + 1, 0, none⟩)]) (by simp) (by simp [go_sem]) ?_
  refine (idleOv ⟨w.heap.size + 1, 0, none⟩ ⟨w.heap.size + 1 + 1, 0, none⟩ _).mono ?_
  rintro e u' w'' ⟨rfl, rfl, rfl⟩
  have k1 : ((w2.setCell ⟨w.heap.size + 1, 0, none⟩ (.bool true)).setCell ⟨w.heap.size + 1 + 1, 0, none⟩ (.bool true)).cell? ⟨w.heap.size + 1, 0, none⟩ = some (.bool true) := by go_simp
  have k2 : ((w2.setCell ⟨w.heap.size + 1, 0, none⟩ (.bool true)).setCell ⟨w.heap.size + 1 + 1, 0, none⟩ (.bool true)).cell? ⟨w.heap.size + 1 + 1, 0, none⟩ = some (.bool true) := by go_simp
  exact ⟨.tuple #[.bool true, .bool true], by simp [results, Try.results25, go_sem, k1, k2], rfl, (HG.out.setCell (by simp <;> omega) _).setCell (by simp <;> omega) _⟩
end Go.Proofs.Ytemobphkgbhhhaa
