import Derived.Test.YtemobphkgbhhhaaBoxO
import Derived.Test.YtemobphkgbhhhaaMinC
import Derived.Test.YtemobphkgbhhhaaLayS
import Derived.Defers
import Derived.Recover
namespace Go.Proofs.Ytemobphkgbhhhaa
open Go.ChangeShapes Go.WideShapes Go.ChangeAt Go.RowKit Go.GrowR
set_option linter.unusedVariables false
set_option linter.unusedSimpArgs false

theorem extStride_calls (b : Nat) (n : Int) (s : Nat) (w : World) (h0 : w.cell? ⟨b, 0, none⟩ = some (.int .i64 n)) (h1 : 1 ≤ n) (h9 : n ≤ 9) (hs : strideN n = s) :
    Calls Try.prog 134 #[.pointer (some ⟨b, 0, none⟩), .int .i64 s] w fun e w' => e = .returned (.tuple #[]) ∧ w' = w := by
  have HL := Lib.hid (fun w => layStride n s w h1 h9 hs); clear hs h1 h9
  go_enter Try.func134, Try.ntmps134
  go_wp2_with (go_at_call 91; refine (HL.out _).mono ?_; rintro e w' ⟨rfl, rfl⟩)
  go_loop [4] (fun i => i = .int .i64 s) (fun _ => 0)
  case atStart => rfl
  case round =>
    subst hrel
    go_wp2
    exact bodyPost_end (results_none rfl _ _ _) rfl ⟨rfl, rfl⟩
abbrev mnL (xs fl : List Nat) (s t : Nat) : List Nat := Fl.extL Fl.fmin xs fl s t
abbrev mxL (xs fl : List Nat) (s t : Nat) : List Nat := Fl.extL Fl.fmax xs fl s t
def AllNum (xs : List Nat) : Prop := ∀ (k x : Nat), xs[k]? = some x → Fl.isNum x = true
theorem mod_lin {k s j : Nat} (hj : j < s) : (k * s + j) % s = j := by rw [Nat.add_comm, Nat.add_mul_mod_self_right, Nat.mod_eq_of_lt hj]
theorem XL_at {zs ws : List Nat} (h : Fl.XL zs ws) {j z : Nat} (hz : zs[j]? = some z) : Fl.isNum z = true ∧ ∃ w, ws[j]? = some w ∧ Fl.isNum w = true ∧ Fl.Xeq z w := by
  have hj : j < ws.length := by rw [← h.1]; exact (List.getElem?_eq_some_iff.1 hz).1
  obtain ⟨h1, h2, h3⟩ := h.2 j z ws[j] hz (by simp [hj])
  exact ⟨h1, ws[j], by simp [hj], h2, h3⟩
theorem XL_step {zs xs fl : List Nat} {s t j z f : Nat} {g : Nat → Nat → Nat} (hg : ∀ x y, Fl.isNum x = true → Fl.isNum y = true → Fl.isNum (g x y) = true)
    (hc : ∀ x x' y, Fl.isNum x = true → Fl.isNum x' = true → Fl.isNum y = true → Fl.Xeq x x' → Fl.Xeq (g x y) (g x' y)) (h : Fl.XL zs (Fl.extL g xs fl s t)) (hj : t % s = j) (hf : fl[t]? = some f) (hfn : Fl.isNum f = true) {x : Nat} (hx : zs[j]? = some x) (hz : Fl.isNum z = true) (he : Fl.Xeq z (g x f)) :
    Fl.XL (zs.set j z) (Fl.extL g xs fl s (t + 1)) := by
  obtain ⟨n1, x', hx', n2, e⟩ := XL_at h hx
  have e1 : (Fl.extL g xs fl s t).getD j 0 = x' := by rw [List.getD_eq_getElem?_getD, hx']; rfl
  have e2 : fl.getD t 0 = f := by rw [List.getD_eq_getElem?_getD, hf]; rfl
  show Fl.XL _ ((Fl.extL g xs fl s t).set (t % s) (g ((Fl.extL g xs fl s t).getD (t % s) 0) (fl.getD t 0)))
  rw [hj, e1, e2]
  exact h.set hz (hg _ _ n2 hfn) (he.trans (hc _ _ _ n1 n2 hfn e))
theorem BO.set1 {B : Nat} {n : Int} {b b1 c1 b2 c2 m : Nat} {xs ys : List Nat} {w : World} (h : BO B n b b1 c1 b2 c2 m xs ys w) (j z : Nat) : BO B n b b1 c1 b2 c2 m (xs.set j z) ys (w.setCell ⟨b1, j, none⟩ (.float .f64 z)) := by
  obtain ⟨g0, g1, g2, n1, n2, n3, k1, k2, c0, d1, d2, F1, F2⟩ := h
  have ne : ∀ o, (⟨b1, j, none⟩ : Addr) ≠ ⟨b, o, none⟩ := fun o e => n1 (by cases e; rfl)
  exact ⟨g0, g1, g2, n1, n2, n3, k1, k2, by rw [World.cell?_setCell_other _ _ _ _ (ne 0)]; exact c0, by rw [World.cell?_setCell_other _ _ _ _ (ne 1)]; exact d1, by rw [World.cell?_setCell_other _ _ _ _ (ne 2)]; exact d2, F1.set z, F2.other n3 _⟩
theorem BO.set2 {B : Nat} {n : Int} {b b1 c1 b2 c2 m : Nat} {xs ys : List Nat} {w : World} (h : BO B n b b1 c1 b2 c2 m xs ys w) (j z : Nat) : BO B n b b1 c1 b2 c2 m xs (ys.set j z) (w.setCell ⟨b2, j, none⟩ (.float .f64 z)) := by
  obtain ⟨g0, g1, g2, n1, n2, n3, k1, k2, c0, d1, d2, F1, F2⟩ := h
  have ne : ∀ o, (⟨b2, j, none⟩ : Addr) ≠ ⟨b, o, none⟩ := fun o e => n2 (by cases e; rfl)
  exact ⟨g0, g1, g2, n1, n2, n3, k1, k2, by rw [World.cell?_setCell_other _ _ _ _ (ne 0)]; exact c0, by rw [World.cell?_setCell_other _ _ _ _ (ne 1)]; exact d1, by rw [World.cell?_setCell_other _ _ _ _ (ne 2)]; exact d2, F1.other (Ne.symm n3) _, F2.set z⟩
def ExtP (B : Nat) (n : Int) (b b1 c1 b2 c2 s : Nat) (xs ys fl : List Nat) (t : Nat) (w w' : World) : Prop := ∃ zs us, Fl.XL zs (mnL xs fl s t) ∧ Fl.XL us (mxL xs fl s t) ∧ BO B n b b1 c1 b2 c2 s zs us w' ∧ GB B w w'
def ExtQ (B : Nat) (n : Int) (b b1 c1 b2 c2 s : Nat) (xs ys fl : List Nat) (t : Nat) (w w' : World) : Prop := ∃ zs us, Fl.XL zs (mnL xs fl s t) ∧ Fl.XL us (mxL ys fl s t) ∧ BO B n b b1 c1 b2 c2 s zs us w' ∧ GB B w w'
set_option maxRecDepth 100000 in
set_option maxHeartbeats 4000000 in
theorem extFlat_calls (B : Nat) (n : Int) (b b1 c1 b2 c2 s K N : Nat) (xs ys fl : List Nat) (A : Option Addr) (cf : Nat) (w : World) (h : BO B n b b1 c1 b2 c2 s xs ys w) (h1 : 1 ≤ n) (h9 : n ≤ 9) (hs : strideN n = s) (hs2 : 2 ≤ s)
    (hx : xs.length = s) (hy : ys.length = s) (nx : AllNum xs) (ny : AllNum ys) (nf : AllNum fl) (hN : fl.length = N) (hK : N = K * s) (hle : N ≤ 2147483647) (hs9 : s ≤ 9) (hA : fl = [] ∨ ∃ bf o, A = some ⟨bf, o, none⟩ ∧ bf < B ∧ FCells w bf o fl) (hB : B ≤ w.heap.size) :
    Calls Try.prog 132 #[.pointer (some ⟨b, 0, none⟩), .slice A N cf, .int .i64 0, .int .i64 N, .int .i64 s] w fun e w' => e = .returned (.pointer (some ⟨b, 0, none⟩)) ∧ ExtQ B n b b1 c1 b2 c2 s xs ys fl N w w' := by
  have HE := Lib.hid (fun w (h0 : w.cell? ⟨b, 0, none⟩ = some (.int .i64 n)) => extStride_calls b n s w h0 h1 h9 hs)
  have HBO := Lib.hid h
  have NX := Lib.hid nx; have NY := Lib.hid ny; have NF := Lib.hid nf
  have HX := Lib.hid hx; have HY := Lib.hid hy; have HN := Lib.hid hN; have HK := Lib.hid hK; have HA := Lib.hid hA
  clear h hs nx ny nf hx hy hN hK hA
  obtain ⟨-, -, -, -, -, -, -, -, c0, -⟩ := HBO.out
  go_enter Try.func132, Try.ntmps132
  go_wp2_with (go_at_call 134; refine (HE.out _ (by assumption)).mono ?_; rintro e w' ⟨rfl, rfl⟩)
  clear c0
  go_loopw [11] (fun i wr => ∃ k p : Nat, k ≤ K ∧ p = k * s ∧ i = .int .i64 p ∧ ExtQ B n b b1 c1 b2 c2 s xs ys fl p w' wr) (fun i _ => N - (intOf i).toNat)
  case atStart => exact ⟨0, 0, Nat.zero_le _, by simp, rfl, xs, ys, .refl NX.out, .refl NY.out, HBO.out, .refl _⟩
  case round =>
    obtain ⟨k, p, hk, hp, rfl, zs, us, hz, hu, hbo, hgb⟩ := hrel
    by_cases hlt : k < K
    case neg =>
      have hpN : p = N := by
        have h1 := HK.out
        have : k = K := by omega
        rw [hp, h1, this]
      have HP := Lib.hid hpN
      have hge : ¬ (p : Int) < (N : Int) := by omega
      clear hp hpN hlt
      have HF : Hid (ExtQ B n b b1 c1 b2 c2 s xs ys fl N w' wr) := by
        rw [← HP.out]; exact ⟨zs, us, hz, hu, hbo, hgb⟩
      clear hz hu hbo hgb
      go_wp2
      go_ret
      exact ⟨rfl, HF.out⟩
    case pos =>
      have hpN : p + s ≤ N := by
        have h1 := HK.out
        have h3 : (k + 1) * s ≤ K * s := Nat.mul_le_mul_right s hlt
        rw [Nat.add_mul] at h3; omega
      have hltp : (p : Int) < (N : Int) := by omega
      have HP := Lib.hid hp; clear hp
      have HQ := Lib.hid (show ExtQ B n b b1 c1 b2 c2 s xs ys fl p w' wr from ⟨zs, us, hz, hu, hbo, hgb⟩)
      clear hz hu hbo hgb
      go_wp2
      go_loopw [24] (fun i w3 => ∃ q : Nat, q ≤ s ∧ i = .int .i64 q ∧ ExtQ B n b b1 c1 b2 c2 s xs ys fl (p + q) w' w3) (fun i _ => s - (intOf i).toNat)
      case atStart => exact ⟨0, Nat.zero_le _, rfl, HQ.out⟩
      case round =>
        obtain ⟨q, hq, rfl, zs, us, hz, hu, hbo, hgb⟩ := hrel
        have HZ := Lib.hid hz; have HU := Lib.hid hu; have HBO3 := Lib.hid hbo; have HGB := Lib.hid hgb
        clear hz hu hbo hgb HQ
        by_cases hqs : q < s
        case neg =>
          have hqe : q = s := by omega
          subst hqe
          clear hqs hq
          go_wp2
          go_roundw
          case rel => exact ⟨k + 1, p + q, by omega, by rw [Nat.add_mul, HP.out]; omega, by go_num, zs, us, HZ.out, HU.out, HBO3.out, HGB.out⟩
          case measure => simp [intOf]; omega
        case pos =>
          have hzl : zs.length = s := by have h1 := HZ.out.1; rw [Fl.extL_len, HX.out] at h1; exact h1
          have hul : us.length = s := by have h1 := HU.out.1; rw [Fl.extL_len, HY.out] at h1; exact h1
          have hpq : p + q < fl.length := by rw [HN.out]; omega
          have hmod : (p + q) % s = q := by rw [HP.out]; exact mod_lin hqs
          obtain ⟨x, hx⟩ : ∃ x, zs[q]? = some x := ⟨zs[q]'(by omega), by simp⟩
          obtain ⟨y, hy⟩ : ∃ y, us[q]? = some y := ⟨us[q]'(by omega), by simp⟩
          obtain ⟨f, hf⟩ : ∃ f, fl[p + q]? = some f := ⟨fl[p + q], by simp [hpq]⟩
          have hfn := NF.out _ _ hf
          rcases HA.out with hA0 | ⟨bf, o, rfl, hbf, hcf⟩
          · exfalso; rw [hA0] at hpq; simp at hpq
          obtain ⟨g0, g1, g2, n1, n2, n3, k1, k2, c0, d1, d2, F1, F2⟩ := HBO3.out
          have hfl := (hcf.upB HGB.out hbf) _ _ hf
          have hxc := (F1.2 _ _ hx).1
          have hyc := (F2.2 _ _ hy).1
          have l0 := cell_ltH c0
          have l1 := F1.1
          have l2 := F2.1
          have lf : bf < wr.heap.size := cell_ltH hfl
          have HXZ := Lib.hid hx; have HYZ := Lib.hid hy; have HF := Lib.hid hf; have HFN := Lib.hid hfn; have HM := Lib.hid hmod
          have HNX := Lib.hid (XL_at HZ.out hx).1
          have HNY := Lib.hid (XL_at HU.out hy).1
          have HG0 := Lib.hid g0; have HG1 := Lib.hid g1; have HG2 := Lib.hid g2; have HN1 := Lib.hid n1; have HN2 := Lib.hid n2; have HN3 := Lib.hid n3
          have HHZ := Lib.hid hzl; have HHU := Lib.hid hul
          have fr1 : wr.frozen? ⟨b1, q, none⟩ = false := (F1.2 _ _ hx).2
          have fr2 : wr.frozen? ⟨b2, q, none⟩ = false := (F2.2 _ _ hy).2
          have HA3 := Lib.hid hcf
          clear hx hy hf hfn hmod g0 g1 g2 n1 n2 n3 hcf hzl hul hpq F1 F2 c0
          have a1 : (q : Int) < (s : Int) := by omega
          have a2 : IntKind.i64.wrap ((p : Int) + (q : Int)) = (p : Int) + (q : Int) := IntWalk.i64_in _ (by omega)
          have a3 : (0 : Int) ≤ (p : Int) + (q : Int) := by omega
          have a4 : ((p : Int) + (q : Int)).toNat = p + q := by omega
          have a5 : (p : Int) + (q : Int) < (N : Int) := by omega
          go_wp2
          refine wp_region_grow_tail 20 (fun i => if i = 18 then some (fun _ _ V _ => ∃ z, V = .float .f64 z ∧ Fl.isNum z = true ∧ Fl.Xeq z (Fl.fmin x f)) else none) (by kernel_rfl) (by kernel_rfl) ?_ ?_
          · intro i Φ h lo hi v
            (repeat' split at h) <;> cases h
            · exact fun _ _ h _ => h
          simp only [List.take_succ_cons, List.take_zero, List.drop_succ_cons, List.drop_zero]
          repeat (first
            | (refine wpGrow_skip (by rfl) ?_; simp only [Act.put, List.setIfInBounds_toArray, List.set_cons_zero, List.set_cons_succ, Nat.reduceAdd])
            | (refine wpGrow_det' (by rfl) (by rfl) ?_; apply Exists.intro; refine ⟨fun w' hc hh => ?_, ?_⟩; (have hcell := grow_cell hc; clear hc hh; go_simp; rfl); simp only [Act.put, List.setIfInBounds_toArray, List.set_cons_zero, List.set_cons_succ, Nat.reduceAdd]))
          refine wpGrow_eff' (by rfl) (by rfl) (fun w' hc hh => ?_) (fun v lo hi w' hap hc hh hv => ?_)
          · clear hc hh
            go_simp
            go_at_call 135
            refine (min_calls _ _ _ HNX.out HFN.out).mono ?_
            rintro e w5 ⟨z, rfl, hz, hzz, rfl⟩
            exact EffPost.mk (Grow.refl _) ⟨z, rfl, hz, hzz⟩
          obtain ⟨z1, rfl, hz1n, hz1e⟩ := hv
          have Hz1N := Lib.hid hz1n; have Hz1E := Lib.hid hz1e; clear hz1n hz1e
          clear hc hh hap w'
          simp only [Act.put, List.setIfInBounds_toArray, List.set_cons_zero, List.set_cons_succ, Nat.reduceAdd]
          repeat (first
            | (refine wpGrow_skip (by rfl) ?_; simp only [Act.put, List.setIfInBounds_toArray, List.set_cons_zero, List.set_cons_succ, Nat.reduceAdd])
            | (refine wpGrow_det' (by rfl) (by rfl) ?_; apply Exists.intro; refine ⟨fun w' hc hh => ?_, ?_⟩; (have hcell := grow_cell hc; clear hc hh; go_simp; rfl); simp only [Act.put, List.setIfInBounds_toArray, List.set_cons_zero, List.set_cons_succ, Nat.reduceAdd]))
          refine wpGrow_nil ?_
          intro w4 hg hh
          clear hh
          have hboA := (BO.up _ _ HBO3.out hg).set1 q z1
          have hgbA : GB B w' (w4.setCell ⟨b1, q, none⟩ (.float .f64 z1)) := gbSet (gbGrow HGB.out hg) HG1.out _
          have e6 := (frozUp (o := q) l1 hg).trans fr1
          have HG4 := Lib.hid hg
          have m1 : b1 < w4.heap.size := Nat.lt_of_lt_of_le l1 hg.size
          have e1 := up_cell hxc hg
          clear hg hxc hyc d1 d2 hfl fr1 fr2 l0 l1 l2 lf
          have HBA := Lib.hid hboA; have HGA := Lib.hid hgbA
          go_wp2
          generalize w4.setCell ⟨b1, q, none⟩ (.float .f64 z1) = wA at *
          clear e1 e6 m1
          obtain ⟨-, -, -, -, -, -, -, -, c0, d1, d2, F1, F2⟩ := hboA
          have hyc := (F2.2 _ _ HYZ.out).1
          have fr2 : wA.frozen? ⟨b2, q, none⟩ = false := (F2.2 _ _ HYZ.out).2
          have l2 := F2.1
          have l0 := cell_ltH c0
          have hfl := (HA3.out.upB hgbA hbf) _ _ HF.out
          have lf : bf < wA.heap.size := cell_ltH hfl
          clear c0 F1 F2 hgbA
          refine wp_region_grow_tail 20 (fun i => if i = 18 then some (fun _ _ V _ => ∃ z, V = .float .f64 z ∧ Fl.isNum z = true ∧ Fl.Xeq z (Fl.fmax y f)) else none) (by kernel_rfl) (by kernel_rfl) ?_ ?_
          · intro i Φ h lo hi v
            (repeat' split at h) <;> cases h
            · exact fun _ _ h _ => h
          simp only [List.take_succ_cons, List.take_zero, List.drop_succ_cons, List.drop_zero]
          repeat (first
            | (refine wpGrow_skip (by rfl) ?_; simp only [Act.put, List.setIfInBounds_toArray, List.set_cons_zero, List.set_cons_succ, Nat.reduceAdd])
            | (refine wpGrow_det' (by rfl) (by rfl) ?_; apply Exists.intro; refine ⟨fun w' hc hh => ?_, ?_⟩; (have hcell := grow_cell hc; clear hc hh; go_simp; rfl); simp only [Act.put, List.setIfInBounds_toArray, List.set_cons_zero, List.set_cons_succ, Nat.reduceAdd]))
          refine wpGrow_eff' (by rfl) (by rfl) (fun w' hc hh => ?_) (fun v lo hi w' hap hc hh hv => ?_)
          · clear hc hh
            go_simp
            go_at_call 136
            refine (max_calls _ _ _ HNY.out HFN.out).mono ?_
            rintro e w5 ⟨z, rfl, hz, hzz, rfl⟩
            exact EffPost.mk (Grow.refl _) ⟨z, rfl, hz, hzz⟩
          obtain ⟨z2, rfl, hz2n, hz2e⟩ := hv
          have Hz2N := Lib.hid hz2n; have Hz2E := Lib.hid hz2e; clear hz2n hz2e
          clear hc hh hap w'
          simp only [Act.put, List.setIfInBounds_toArray, List.set_cons_zero, List.set_cons_succ, Nat.reduceAdd]
          repeat (first
            | (refine wpGrow_skip (by rfl) ?_; simp only [Act.put, List.setIfInBounds_toArray, List.set_cons_zero, List.set_cons_succ, Nat.reduceAdd])
            | (refine wpGrow_det' (by rfl) (by rfl) ?_; apply Exists.intro; refine ⟨fun w' hc hh => ?_, ?_⟩; (have hcell := grow_cell hc; clear hc hh; go_simp; rfl); simp only [Act.put, List.setIfInBounds_toArray, List.set_cons_zero, List.set_cons_succ, Nat.reduceAdd]))
          refine wpGrow_nil ?_
          intro w6 hg hh
          clear hh
          have hboB := (BO.up _ _ HBA.out hg).set2 q z2
          have hgbB : GB B w' (w6.setCell ⟨b2, q, none⟩ (.float .f64 z2)) := gbSet (gbGrow HGA.out hg) HG2.out _
          have HBB := Lib.hid hboB; have HGB2 := Lib.hid hgbB
          have e6 := (frozUp (o := q) l2 hg).trans fr2
          have m1 : b2 < w6.heap.size := Nat.lt_of_lt_of_le l2 hg.size
          have e1 := up_cell hyc hg
          clear hg hyc d1 d2 hfl fr2 l2 lf hboB hgbB
          go_wp2
          go_roundw
          case rel => exact ⟨q + 1, by omega, by go_num, _, _, XL_step (fun x y => Fl.fmin_num) (fun x x' y h1 h2 h3 h => Fl.fmin_congr h1 h3 h2 h3 h (Fl.Xeq.refl y)) HZ.out HM.out HF.out HFN.out HXZ.out Hz1N.out Hz1E.out, XL_step (fun x y => Fl.fmax_num) (fun x x' y h1 h2 h3 h => Fl.fmax_congr h1 h3 h2 h3 h (Fl.Xeq.refl y)) HU.out HM.out HF.out HFN.out HYZ.out Hz2N.out Hz2E.out, HBB.out, HGB2.out⟩
          case measure => simp [intOf]; omega
end Go.Proofs.Ytemobphkgbhhhaa
