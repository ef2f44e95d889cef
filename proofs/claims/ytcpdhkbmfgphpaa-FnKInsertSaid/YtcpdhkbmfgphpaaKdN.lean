import Derived.Test.YtcpdhkbmfgphpaaKdM
namespace Go.Proofs.Ytcpdhkbmfgphpaa
open Go.ChangeShapes Go.WideShapes Go.ChangeAt Go.RowKit Go.GrowR
set_option linter.unusedVariables false
set_option linter.unusedSimpArgs false

set_option maxRecDepth 100000 in
set_option maxHeartbeats 8000000 in
theorem knode_step (v : Value) (ns : List KN) (j : Nat) (w : World) (hv : KSl v ns w) (hf : fitsB ns = true) (hj : j < ns.length) (tl tr : PT)
    (hL : (kL ns j ≤ (j : Int) ∧ tl = .nil) ∨ ((j : Int) < kL ns j ∧ ∀ w', Grow w w' → Calls Try.prog 46 #[v, .int .i64 (kL ns j)] w' (NodeQ tl w')))
    (hR : (kR ns j ≤ (j : Int) ∧ tr = .nil) ∨ ((j : Int) < kR ns j ∧ ∀ w', Grow w w' → Calls Try.prog 46 #[v, .int .i64 (kR ns j)] w' (NodeQ tr w'))) :
    Calls Try.prog 46 #[v, .int .i64 (j : Nat)] w (NodeQ (.node (kP ns j) (kPl ns j) (bxOf (ns.getD j kn0)) tl tr) w) := by
  have HL := Lib.hid hL; have HR := Lib.hid hR
  clear hL hR
  have hfit : fits9 (ns.getD j kn0) = true := by
    unfold fitsB at hf
    simp only [Bool.and_eq_true] at hf
    exact List.all_eq_true.1 hf.2 _ (List.mem_of_getElem? (kn_at hj))
  unfold fits9 at hfit
  simp only [Bool.and_eq_true, decide_eq_true_eq] at hfit
  obtain ⟨f1, f2, f3⟩ := hfit
  obtain ⟨b, o, c', p, mn, mx, he, hc, ⟨q0, q1, q2, q3, q4, q5⟩, hp, hmn, hmx⟩ := hv.at (kn_at hj)
  subst he
  have hp' : FSl p (kP ns j) w := hp
  have q1' : w.cell? ⟨b, o + j * 6 + 1, none⟩ = some (.int .i64 (kPl ns j)) := q1
  have q2' : w.cell? ⟨b, o + j * 6 + 2, none⟩ = some (.int .i64 (kL ns j)) := q2
  have q3' : w.cell? ⟨b, o + j * 6 + 3, none⟩ = some (.int .i64 (kR ns j)) := q3
  have HF := Lib.hid (fun w' (hg : Grow w w') => floats_calls44 p (kP ns j) w' (FSl.up _ _ hp' hg) (by have : (kP ns j).length ≤ 2147483647 := f1; omega))
  have HB : Hid (∀ w', Grow w w' → Calls Try.prog 57 #[mn, mx] w' (BoxQ (bxOf (ns.getD j kn0)) w')) := fun w' hg => kbox_calls mn mx _ _ w' (FSl.up _ _ hmn hg) (FSl.up _ _ hmx hg) f2 f3
  obtain ⟨A2, c2, rfl, -, -⟩ := hp'
  obtain ⟨A3, c3, rfl, -, -⟩ := hmn
  obtain ⟨A4, c4, rfl, -, -⟩ := hmx
  generalize bxOf (ns.getD j kn0) = bx at *
  clear q1 q2 q3 hp f1 f2 f3 hv hf
  generalize (ns.getD j kn0).mn.length = l3 at *
  generalize (ns.getD j kn0).mx.length = l4 at *
  have hj1 : (j : Int) < (ns.length : Int) := by omega
  have hj0 : (0 : Int) ≤ (j : Int) := by omega
  generalize hpl : kPl ns j = pl at *
  generalize hkl : kL ns j = il at *
  generalize hkr : kR ns j = ir at *
  generalize hkp : kP ns j = xs at *
  clear hpl hkl hkr hkp
  go_enter Try.func46, Try.ntmps46
  go_wp2
  refine wp_region_rel Grow (fun i => if i = 2 then some (fun _ => (OneF (w.heap.size + 1) xs)) else if i = 10 then some (fun _ => (OneX (w.heap.size + 1) bx)) else if i = 12 then some (fun vs lo hi V ww => OneN (w.heap.size + 1) vs lo hi V ww) else none) (by kernel_rfl) (by kernel_rfl) (fun _ _ h => h.size) (fun _ _ _ h k => h.trans k) (fun _ _ h => h) ?_ ?_
  · intro i Φ h vs lo hi v
    (repeat' split at h) <;> cases h
    · exact OneF.up
    · exact OneX.up
    · exact OneN.up
  repeat (first
    | (refine wpGrow_skip (by rfl) ?_; simp only [Act.put, List.setIfInBounds_toArray, List.set_cons_zero, List.set_cons_succ, Nat.reduceAdd])
    | (refine wpGrow_det' (by rfl) (by rfl) ?_; apply Exists.intro; refine ⟨fun w' hc hh => ?_, ?_⟩; (have hcell := grow_cell hc; clear hc hh; go_simp; rfl); simp only [Act.put, List.setIfInBounds_toArray, List.set_cons_zero, List.set_cons_succ, Nat.reduceAdd]))
  refine wpGrow_eff' (by rfl) (by rfl) (fun w' hc hh => ?_) (fun v2 lo2 hi2 w' hap hc hh hv => ?_)
  · have HGC := Lib.hid (((Grow.refl w).alloc _).trans hc)
    have HSZ : Hid (w.heap.size + 1 ≤ w'.heap.size) := by have := hc.size; simp at this; exact this
    clear hc hh
    go_simp
    go_at_call 33
    refine (HF.out _ HGC.out).mono ?_
    rintro e w2 ⟨V, rfl, hg, hown⟩
    exact EffPost.mk hg ⟨hown.mono (Nat.zero_le _), HSZ.out, own_blk hown⟩
  obtain ⟨A6, n6, c6, rfl⟩ := VOwn.isSl (B := 0) hv.1
  clear hv
  clear hc hh hap w'
  simp only [Act.put, List.setIfInBounds_toArray, List.set_cons_zero, List.set_cons_succ, Nat.reduceAdd]
  repeat (first
    | (refine wpGrow_skip (by rfl) ?_; simp only [Act.put, List.setIfInBounds_toArray, List.set_cons_zero, List.set_cons_succ, Nat.reduceAdd])
    | (refine wpGrow_det' (by rfl) (by rfl) ?_; apply Exists.intro; refine ⟨fun w' hc hh => ?_, ?_⟩; (have hcell := grow_cell hc; clear hc hh; go_simp; rfl); simp only [Act.put, List.setIfInBounds_toArray, List.set_cons_zero, List.set_cons_succ, Nat.reduceAdd]))
  refine wpGrow_eff' (by rfl) (by rfl) (fun w' hc hh => ?_) (fun v10 lo10 hi10 w' hap hc hh hv => ?_)
  · have HGC := Lib.hid (((Grow.refl w).alloc _).trans hc)
    have HSZ : Hid (w.heap.size + 1 ≤ w'.heap.size) := by have := hc.size; simp at this; exact this
    clear hc hh
    go_simp
    go_at_call 57
    refine (HB.out _ HGC.out).mono ?_
    rintro e w2 ⟨V, F, rfl, hg, hbx, hnd, hlo⟩
    exact EffPost.mk hg ⟨F, hbx, hnd, HSZ.out, fun k hk => ⟨hlo k hk, hbx.lt k hk⟩⟩
  obtain ⟨a10, rfl⟩ : ∃ a, v10 = .pointer a := by obtain ⟨F, hbx, -⟩ := hv; exact hbx.isP
  have HA1 := Lib.hid (hap 2 lo2 hi2 (by rfl))
  clear hv
  clear hc hh hap w'
  simp only [Act.put, List.setIfInBounds_toArray, List.set_cons_zero, List.set_cons_succ, Nat.reduceAdd]
  repeat (first
    | (refine wpGrow_skip (by rfl) ?_; simp only [Act.put, List.setIfInBounds_toArray, List.set_cons_zero, List.set_cons_succ, Nat.reduceAdd])
    | (refine wpGrow_det' (by rfl) (by rfl) ?_; apply Exists.intro; refine ⟨fun w' hc hh => ?_, ?_⟩; (have hcell := grow_cell hc; clear hc hh; go_simp; rfl); simp only [Act.put, List.setIfInBounds_toArray, List.set_cons_zero, List.set_cons_succ, Nat.reduceAdd]))
  refine wpGrow_eff' (by rfl) (by rfl) (fun w' hc hh => ?_) (fun v12 lo12 hi12 w' hap hc hh hv => ?_)
  · have HGC := Lib.hid (((Grow.refl w).alloc _).trans hc)
    have HSZ : Hid (w.heap.size + 1 ≤ w'.heap.size) := by have := hc.size; simp at this; exact this
    clear hc hh
    go_simp
    exact EffVal.mk ((Grow.refl _).alloc _) ⟨_, _, _, _, _, _, rfl, rfl, HSZ.out, Nat.le_refl _, by simp, by go_simp, by go_simp, by go_simp, by go_simp, by go_simp, fun o => by go_simp⟩
  obtain ⟨b5, P5, pl5, lv5, rv5, bv5, rfl, -⟩ := hv
  have HA2 := Lib.hid (hap 2 lo2 hi2 (by rfl))
  have HA3 := Lib.hid (hap 10 lo10 hi10 (by rfl))
  clear hc hh hap w'
  simp only [Act.put, List.setIfInBounds_toArray, List.set_cons_zero, List.set_cons_succ, Nat.reduceAdd]
  repeat (first
    | (refine wpGrow_skip (by rfl) ?_; simp only [Act.put, List.setIfInBounds_toArray, List.set_cons_zero, List.set_cons_succ, Nat.reduceAdd])
    | (refine wpGrow_det' (by rfl) (by rfl) ?_; apply Exists.intro; refine ⟨fun w' hc hh => ?_, ?_⟩; (have hcell := grow_cell hc; clear hc hh; go_simp; rfl); simp only [Act.put, List.setIfInBounds_toArray, List.set_cons_zero, List.set_cons_succ, Nat.reduceAdd]))
  refine wpGrow_nil ?_
  intro w1 hg hh
  obtain ⟨b6, P6, pl6, lv6, rv6, bv6, hb6, hvs, hB12, hlo, hhi, hnode⟩ := (hh 12).1
  obtain ⟨hown, hB2, hoblk⟩ := (hh 2).1
  obtain ⟨Fb, hbox, hbnd, hB10, hblo⟩ := (hh 10).1
  cases hb6
  cases hvs
  have HN0 : Hid (NB w b5 (.slice A6 n6 c6) pl (.pointer none) (.pointer none) (.pointer a10) xs bx Fb .nil .nil [] [] w1) := by
    have a1 := HA1.out; have a2 := HA2.out; have a3 := HA3.out
    have hlo2 : ∀ k ∈ blk (.slice A6 n6 c6), lo2 ≤ k ∧ k < hi2 := hoblk
    refine ⟨((Grow.refl w).alloc _).trans hg, hnode, hown, hbox, ⟨rfl, rfl⟩, ⟨rfl, rfl⟩, nodup_start (blk_nodup _) hbnd hlo2 hblo hlo hhi a1 a2 a3, fun k hk => ?_⟩
    simp only [List.nil_append, List.append_nil, List.mem_cons, List.mem_append] at hk
    rcases hk with rfl | hk | hk
    · omega
    · have := hlo2 k hk; omega
    · have := hblo k hk; omega
  have lw : w.heap.size < w1.heap.size := by have := hg.size; simp at this; omega
  have d2 := up_cell (a := ⟨w.heap.size, 2, none⟩) (v := .int .i64 il) (by go_simp) hg
  have d3 := up_cell (a := ⟨w.heap.size, 3, none⟩) (v := .int .i64 ir) (by go_simp) hg
  have hb5 : w.heap.size + 1 ≤ b5 := by omega
  obtain ⟨n0, n1, n2, n3, n4, nf⟩ := hnode
  have f2 := nf 2; have f3 := nf 3
  clear hh hown hoblk hbox hbnd hblo hlo hhi HA1 HA2 HA3 hB12 hB2 hB10 hg n0 n1 n4 nf
  rcases HL.out with ⟨hl, rfl⟩ | ⟨hl, hcl⟩
  · rcases HR.out with ⟨hr, rfl⟩ | ⟨hr, hcr⟩
    · go_wp2
      go_ret
      exact ⟨_, _, rfl, HN0.out.g, HN0.out.fin, HN0.out.lo⟩
    · have HCR := Lib.hid hcr
      clear hcr
      go_wp2_with fail
      refine (HCR.out _ HN0.out.g).mono ?_
      rintro e w3 ⟨u3, F3, rfl, hg3, hn3, hF3⟩
      obtain ⟨a3, rfl⟩ := hn3.isP
      have HN2 := Lib.hid (HN0.out.right hg3 hn3 hF3)
      have k3 := up_cell HN0.out.n.c3 hg3
      have k3f : w3.frozen? ⟨b5, 3, none⟩ = false := (HN0.out.up hg3).n.fz 3
      clear hg3 hn3 hF3
      go_wp2
      go_ret
      exact ⟨_, _, rfl, HN2.out.g, HN2.out.fin, HN2.out.lo⟩
  · have HCL := Lib.hid hcl
    clear hcl
    rcases HR.out with ⟨hr, rfl⟩ | ⟨hr, hcr⟩
    · go_wp2_with fail
      refine (HCL.out _ HN0.out.g).mono ?_
      rintro e w2 ⟨u2, F2, rfl, hg2, hn2, hF2⟩
      obtain ⟨a2, rfl⟩ := hn2.isP
      have HN1 := Lib.hid (HN0.out.left hg2 hn2 hF2)
      have g2 := up_cell n2 hg2
      have h2f : w2.frozen? ⟨b5, 2, none⟩ = false := (HN0.out.up hg2).n.fz 2
      have e3 := up_cell d3 hg2
      clear n2 f2 d2 d3 hg2 hn2 hF2
      go_wp2
      go_ret
      exact ⟨_, _, rfl, HN1.out.g, HN1.out.fin, HN1.out.lo⟩
    · have HCR := Lib.hid hcr
      clear hcr
      go_wp2_with fail
      refine (HCL.out _ HN0.out.g).mono ?_
      rintro e w2 ⟨u2, F2, rfl, hg2, hn2, hF2⟩
      obtain ⟨a2, rfl⟩ := hn2.isP
      have HN1 := Lib.hid (HN0.out.left hg2 hn2 hF2)
      have g2 := up_cell n2 hg2
      have h2f : w2.frozen? ⟨b5, 2, none⟩ = false := (HN0.out.up hg2).n.fz 2
      have e3 := up_cell d3 hg2
      clear n2 f2 d2 d3 hg2 hn2 hF2
      go_wp2_with fail
      refine (HCR.out _ HN1.out.g).mono ?_
      rintro e w3 ⟨u3, F3, rfl, hg3, hn3, hF3⟩
      obtain ⟨a3, rfl⟩ := hn3.isP
      have HN2 := Lib.hid (HN1.out.right hg3 hn3 hF3)
      have k3 := up_cell HN1.out.n.c3 hg3
      have k3f : w3.frozen? ⟨b5, 3, none⟩ = false := (HN1.out.up hg3).n.fz 3
      clear hg3 hn3 hF3
      go_wp2
      go_ret
      exact ⟨_, _, rfl, HN2.out.g, HN2.out.fin, HN2.out.lo⟩

/-- the nodes that hang on a place of the list, as the package holds them -/
theorem knode_calls (v : Value) (ns : List KN) (hf : fitsB ns = true) : ∀ (t : Kt.KT) (a i : Int) (w : World), -1 ≤ a → Kt.Tr ns.length (kL ns) (kR ns) a i t → KSl v ns w → Calls Try.prog 46 #[v, .int .i64 i] w (NodeQ (toPT ns t) w) := by
  intro t
  induction t with
  | nil =>
    intro a i w ha ht hv
    have hi : i = -1 := ht
    subst hi
    obtain ⟨A, c, rfl, -, -⟩ := hv
    go_enter Try.func46, Try.ntmps46
    go_wp2
    go_ret
    exact ⟨_, [], rfl, Grow.refl w, ⟨rfl, rfl⟩, fun k hk => by cases hk⟩
  | node j l r ihl ihr =>
    intro a i w ha ht hv
    obtain ⟨h1, h2, h3, h4, h5⟩ := ht
    subst h1
    refine knode_step v ns j w hv hf h3 _ _ ?_ ?_
    · cases l with
      | nil => exact .inl ⟨by have : kL ns j = -1 := h4; omega, rfl⟩
      | node j' l' r' => exact .inr ⟨h4.2.1, fun w' hg => ihl _ _ w' (by omega) h4 (KSl.up _ _ hv hg)⟩
    · cases r with
      | nil => exact .inl ⟨by have : kR ns j = -1 := h5; omega, rfl⟩
      | node j' l' r' => exact .inr ⟨h5.2.1, fun w' hg => ihr _ _ w' (by omega) h5 (KSl.up _ _ hv hg)⟩
end Go.Proofs.Ytcpdhkbmfgphpaa
