import Derived.Test.YtcpdhkbmfgphpaaKiG
import Derived.Deep.Cut
namespace Go.Proofs.Ytcpdhkbmfgphpaa
open Go.ChangeShapes Go.WideShapes Go.ChangeAt Go.RowKit Go.GrowR
set_option linter.unusedVariables false
set_option linter.unusedSimpArgs false

def NewW (B lo hi : Nat) (V : Value) (w : World) : Prop := ∃ b, V = .pointer (some ⟨b, 0, none⟩) ∧ B ≤ lo ∧ lo ≤ b ∧ b < hi ∧ C6 b (.slice none 0 0) (.int .i64 0) (.int .i64 0) (.int .i64 0) (.slice none 0 0) (.slice none 0 0) w
theorem NewW.up {B lo hi : Nat} {V : Value} : Up (NewW B lo hi V) := fun _ _ ⟨b, h1, h2, h3, h4, h5⟩ hg => ⟨b, h1, h2, h3, h4, C6.up _ _ h5 hg⟩
theorem infoKn : (Try.prog.info? 27).map (fun i => (i.zero, i.size, i.bytes)) = some (some (.agg #[.slice none 0 0, .int .i64 0, .int .i64 0, .int .i64 0, .slice none 0 0, .slice none 0 0]), 6, 96) := by kernel_rfl
theorem undKn : Try.prog.underlying 22 = some (.slice 27) := by kernel_rfl
theorem news6 {b : Nat} {v0 v1 v2 v3 v4 v5 : Value} {w : World} (h : C6 b v0 v1 v2 v3 v4 v5 w) : ∀ j u, [v0, v1, v2, v3, v4, v5][j]? = some u → w.cell? ((⟨b, 0, none⟩ : Addr).add j) = some u := fun j u hu => by
  rw [addr_add, Nat.zero_add]
  match j, hu with
  | 0, hu => cases hu; exact h.c0
  | 1, hu => cases hu; exact h.c1
  | 2, hu => cases hu; exact h.c2
  | 3, hu => cases hu; exact h.c3
  | 4, hu => cases hu; exact h.c4
  | 5, hu => cases hu; exact h.c5
  | n + 6, hu => simp at hu
theorem c6_set {b : Nat} {v0 v1 v2 v3 v4 v5 u0 u1 u2 u3 u4 u5 : Value} {w : World} (h : C6 b v0 v1 v2 v3 v4 v5 w) : C6 b u0 u1 u2 u3 u4 u5 ((((((w.setCell ⟨b, 0, none⟩ u0).setCell ⟨b, 1, none⟩ u1).setCell ⟨b, 2, none⟩ u2).setCell ⟨b, 3, none⟩ u3).setCell ⟨b, 4, none⟩ u4).setCell ⟨b, 5, none⟩ u5) := by
  have p0 := World.cell?_setCell_same _ _ u0 h.c0
  have p1 := World.cell?_setCell_same _ _ u1 (WS.far (p := ⟨b, 0, none⟩) (u := u0) h.c1 (by simp))
  have p2 := World.cell?_setCell_same _ _ u2 (WS.far (p := ⟨b, 1, none⟩) (u := u1) (WS.far (p := ⟨b, 0, none⟩) (u := u0) h.c2 (by simp)) (by simp))
  have p3 := World.cell?_setCell_same _ _ u3 (WS.far (p := ⟨b, 2, none⟩) (u := u2) (WS.far (p := ⟨b, 1, none⟩) (u := u1) (WS.far (p := ⟨b, 0, none⟩) (u := u0) h.c3 (by simp)) (by simp)) (by simp))
  have p4 := World.cell?_setCell_same _ _ u4 (WS.far (p := ⟨b, 3, none⟩) (u := u3) (WS.far (p := ⟨b, 2, none⟩) (u := u2) (WS.far (p := ⟨b, 1, none⟩) (u := u1) (WS.far (p := ⟨b, 0, none⟩) (u := u0) h.c4 (by simp)) (by simp)) (by simp)) (by simp))
  have p5 := World.cell?_setCell_same _ _ u5 (WS.far (p := ⟨b, 4, none⟩) (u := u4) (WS.far (p := ⟨b, 3, none⟩) (u := u3) (WS.far (p := ⟨b, 2, none⟩) (u := u2) (WS.far (p := ⟨b, 1, none⟩) (u := u1) (WS.far (p := ⟨b, 0, none⟩) (u := u0) h.c5 (by simp)) (by simp)) (by simp)) (by simp)) (by simp))
  exact ⟨WS.far (WS.far (WS.far (WS.far (WS.far p0 (by simp)) (by simp)) (by simp)) (by simp)) (by simp), WS.far (WS.far (WS.far (WS.far p1 (by simp)) (by simp)) (by simp)) (by simp), WS.far (WS.far (WS.far p2 (by simp)) (by simp)) (by simp), WS.far (WS.far p3 (by simp)) (by simp), WS.far p4 (by simp), p5, fun o => by simp only [World.frozen?_setCell]; exact h.fz o⟩
theorem c6_set2 {b : Nat} {v0 v1 v2 v3 v4 v5 u4 u5 : Value} {w : World} (h : C6 b v0 v1 v2 v3 v4 v5 w) : C6 b v0 v1 v2 v3 u4 u5 ((w.setCell ⟨b, 4, none⟩ u4).setCell ⟨b, 5, none⟩ u5) :=
  ⟨WS.far (WS.far h.c0 (by simp)) (by simp), WS.far (WS.far h.c1 (by simp)) (by simp), WS.far (WS.far h.c2 (by simp)) (by simp), WS.far (WS.far h.c3 (by simp)) (by simp), WS.far (World.cell?_setCell_same _ _ _ h.c4) (by simp), World.cell?_setCell_same _ _ _ (WS.far h.c5 (by simp)), fun o => by simp only [World.frozen?_setCell]; exact h.fz o⟩
theorem own_far {e : TypeId} {B : Nat} {v : Value} {xs : List Value} {w : World} {p : Addr} {u : Value} (h : VOwn e B v xs w) (hp : ∀ k ∈ blk v, k ≠ p.block) : VOwn e B v xs (w.setCell p u) := VOwn.moveB h fun k hk => NB.set_far (hp k hk)
set_option maxRecDepth 100000 in
set_option maxHeartbeats 16000000 in
theorem knodes_node (B d : Nat) (p : List Nat) (pl : Int) (bx : Option (List Nat × List Nat)) (l r : PT) (v V : Value) (F : List Nat) (ks : List KN) (w : World) (hn : NP (.node p pl bx l r) v F w) (hF : ∀ k ∈ F, k < B) (hB : B ≤ w.heap.size) (hrow : RowI B V ks w) (hp : p.length ≤ 6) (hbl : BxLen d bx) (hd : d ≤ 6) (hkl : ks.length + l.size + r.size ≤ 1000000)
    (ihl : ∀ v V F ks w', NP l v F w' → (∀ k ∈ F, k < B) → B ≤ w'.heap.size → RowI B V ks w' → ks.length + l.size ≤ 1000001 → Calls Try.prog 39 #[v, V] w' (KnQ B l ks w'))
    (ihr : ∀ v V F ks w', NP r v F w' → (∀ k ∈ F, k < B) → B ≤ w'.heap.size → RowI B V ks w' → ks.length + r.size ≤ 1000001 → Calls Try.prog 39 #[v, V] w' (KnQ B r ks w')) :
    Calls Try.prog 39 #[v, V] w (KnQ B (.node p pl bx l r) ks w) := by
  obtain ⟨i0, hi, hz0, hz1, hz2⟩ := info_parts infoKn
  have HI := Lib.hid hi; have HZ0 := Lib.hid hz0; have HZ1 := Lib.hid hz1; have HZ2 := Lib.hid hz2
  obtain ⟨b, P, lv, rv, bv, Fb, Fl, Fr, rfl, hFe, -, hnode, hown, hbx, hnl, hnr⟩ := hn
  subst hFe
  obtain ⟨n0, n1, n2, n3, n4, -⟩ := hnode
  have HFL : Hid (∀ k ∈ Fl, k < B) := fun k hk => hF k (by simp [hk])
  have HFR : Hid (∀ k ∈ Fr, k < B) := fun k hk => hF k (by simp [hk])
  have hbB : b < B := hF b (by simp)
  obtain ⟨al, rfl⟩ := hnl.isP
  obtain ⟨ar, rfl⟩ := hnr.isP
  have HNL := Lib.hid hnl; have HNR := Lib.hid hnr; have HRW := Lib.hid hrow
  have HIL := Lib.hid ihl; have HIR := Lib.hid ihr; have HOW := Lib.hid hown; have HBX := Lib.hid hbx; have HBL := Lib.hid hbl
  have HFLO := Lib.hid (fun w' (hg : Grow w w') => floats_calls44 P p w' (FSl.up _ _ hown.sl.f hg) (by omega))
  obtain ⟨AP, nP, cP, rfl⟩ := VOwn.isSl (B := 0) hown
  obtain ⟨cs0, hk0, -⟩ := id hrow
  obtain ⟨A, c, rfl, hc⟩ := hk0.isSl
  have hwl : ks.length ≤ 1000000 := by omega
  have lb : b < w.heap.size := by omega
  have M2 := Lib.hid n2; have M3 := Lib.hid n3
  clear hi hz0 hz1 hz2 hnl hnr hown hbx hrow ihl ihr hF hk0 hbl
  go_enter Try.func39, Try.ntmps39
  go_wp2
  refine wp_region_grow_tail 12 (fun i => if i = 5 then some (OneF w.heap.size p) else if i = 11 then some (fun lo hi V ww => NewW w.heap.size lo hi V ww) else none) (by kernel_rfl) (by kernel_rfl) ?_ ?_
  · intro i Φ h lo hi v
    (repeat' split at h) <;> cases h
    · exact OneF.up
    · exact NewW.up
  simp only [List.take_succ_cons, List.take_zero, List.drop_succ_cons, List.drop_zero]
  repeat (first
    | (refine wpGrow_skip (by rfl) ?_; simp only [Act.put, List.setIfInBounds_toArray, List.set_cons_zero, List.set_cons_succ, Nat.reduceAdd])
    | (refine wpGrow_det' (by rfl) (by rfl) ?_; apply Exists.intro; refine ⟨fun w' hc hh => ?_, ?_⟩; (have hcell := grow_cell hc; clear hc hh; go_simp; rfl); simp only [Act.put, List.setIfInBounds_toArray, List.set_cons_zero, List.set_cons_succ, Nat.reduceAdd]))
  refine wpGrow_eff' (by rfl) (by rfl) (fun w' hc hh => ?_) (fun v5 lo5 hi5 w' hap hc hh hv => ?_)
  · have HGC := Lib.hid hc
    clear hc hh
    go_simp
    go_at_call 33
    refine (HFLO.out _ HGC.out).mono ?_
    rintro e w2 ⟨V, rfl, hg, hown⟩
    exact EffPost.mk hg ⟨hown.mono (Nat.zero_le _), HGC.out.size, own_blk hown⟩
  obtain ⟨A6, n6, c6, rfl⟩ := VOwn.isSl (B := 0) hv.1
  clear hv
  clear hc hh hap w'
  simp only [Act.put, List.setIfInBounds_toArray, List.set_cons_zero, List.set_cons_succ, Nat.reduceAdd]
  repeat (first
    | (refine wpGrow_skip (by rfl) ?_; simp only [Act.put, List.setIfInBounds_toArray, List.set_cons_zero, List.set_cons_succ, Nat.reduceAdd])
    | (refine wpGrow_det' (by rfl) (by rfl) ?_; apply Exists.intro; refine ⟨fun w' hc hh => ?_, ?_⟩; (have hcell := grow_cell hc; clear hc hh; go_simp; rfl); simp only [Act.put, List.setIfInBounds_toArray, List.set_cons_zero, List.set_cons_succ, Nat.reduceAdd]))
  refine wpGrow_eff' (by rfl) (by rfl) (fun w' hc hh => ?_) (fun v11 lo11 hi11 w' hap hc hh hv => ?_)
  · have HSZ := Lib.hid hc.size
    clear hc hh
    go_simp
    exact EffVal.mk ((Grow.refl _).alloc _) ⟨_, rfl, HSZ.out, Nat.le_refl _, by simp, ⟨by go_simp, by go_simp, by go_simp, by go_simp, by go_simp, by go_simp, fun o => by go_simp⟩⟩
  obtain ⟨b11, rfl, -⟩ := hv
  have HA1 := Lib.hid (hap 5 lo5 hi5 (by rfl))
  clear hc hh hap w'
  simp only [Act.put, List.setIfInBounds_toArray, List.set_cons_zero, List.set_cons_succ, Nat.reduceAdd]
  repeat (first
    | (refine wpGrow_skip (by rfl) ?_; simp only [Act.put, List.setIfInBounds_toArray, List.set_cons_zero, List.set_cons_succ, Nat.reduceAdd])
    | (refine wpGrow_det' (by rfl) (by rfl) ?_; apply Exists.intro; refine ⟨fun w' hc hh => ?_, ?_⟩; (have hcell := grow_cell hc; clear hc hh; go_simp; rfl); simp only [Act.put, List.setIfInBounds_toArray, List.set_cons_zero, List.set_cons_succ, Nat.reduceAdd]))
  refine wpGrow_nil ?_
  intro w1 hg hh
  obtain ⟨kb, hkb, hkB, hlo11, hhi11, hC6⟩ := (hh 11).1
  cases hkb
  obtain ⟨hp60, -, hp6b⟩ := (hh 5).1
  have HP6 := Lib.hid hp60
  have HG1 := Lib.hid hg
  have hkB' : w.heap.size ≤ b11 := by omega
  have HP6' : Hid (∀ k ∈ blk (.slice A6 n6 c6), k ≠ b11) := fun k hk e => by
    have h1 := hp6b k hk
    have h2 := HA1.out
    have h1' : lo5 ≤ k ∧ k < hi5 := h1
    have h3 : lo11 ≤ b11 := hlo11
    have h4 : b11 < hi11 := hhi11
    omega
  clear HA1 hp60 hp6b hlo11 hhi11
  have hz6 := c6_set (u0 := .slice A6 n6 c6) (u1 := .int .i64 pl) (u2 := .int .i64 0) (u3 := .int .i64 0) (u4 := .slice none 0 0) (u5 := .slice none 0 0) hC6
  have hgw : Grow w ((((((w1.setCell ⟨b11, 0, none⟩ (.slice A6 n6 c6)).setCell ⟨b11, 1, none⟩ (.int .i64 pl)).setCell ⟨b11, 2, none⟩ (.int .i64 0)).setCell ⟨b11, 3, none⟩ (.int .i64 0)).setCell ⟨b11, 4, none⟩ (.slice none 0 0)).setCell ⟨b11, 5, none⟩ (.slice none 0 0)) := (((((hg.setCell hkB' _).setCell hkB' _).setCell hkB' _).setCell hkB' _).setCell hkB' _).setCell hkB' _
  have hp6 : FOwn 34 0 (.slice A6 n6 c6) p ((((((w1.setCell ⟨b11, 0, none⟩ (.slice A6 n6 c6)).setCell ⟨b11, 1, none⟩ (.int .i64 pl)).setCell ⟨b11, 2, none⟩ (.int .i64 0)).setCell ⟨b11, 3, none⟩ (.int .i64 0)).setCell ⟨b11, 4, none⟩ (.slice none 0 0)).setCell ⟨b11, 5, none⟩ (.slice none 0 0)) := own_far (own_far (own_far (own_far (own_far (own_far HP6.out HP6'.out) HP6'.out) HP6'.out) HP6'.out) HP6'.out) HP6'.out
  have HCSX := Lib.hid hz6
  clear hz6
  obtain ⟨x0, x1, x2, x3, x4, x5, xf⟩ := hC6
  have y0 := xf 0; have y1 := xf 1; have y2 := xf 2; have y3 := xf 3; have y4 := xf 4; have y5 := xf 5
  have m4 := up_cell n4 hg
  have hbk : b ≠ b11 := by omega
  have HPB := Lib.hid HP6'.out
  clear hh hg xf HP6 HP6' hkB
  go_upto_region 5 with (fail)
  have e4 := up_cell n4 hgw
  clear x0 x1 x2 x3 x4 x5 y0 y1 y2 y3 y4 y5 m4
  have HP6 := Lib.hid hp6
  have HGW := Lib.hid hgw
  clear hp6 hgw
  generalize ((((((w1.setCell ⟨b11, 0, none⟩ (.slice A6 n6 c6)).setCell ⟨b11, 1, none⟩ (.int .i64 pl)).setCell ⟨b11, 2, none⟩ (.int .i64 0)).setCell ⟨b11, 3, none⟩ (.int .i64 0)).setCell ⟨b11, 4, none⟩ (.slice none 0 0)).setCell ⟨b11, 5, none⟩ (.slice none 0 0)) = W2 at *
  cases bx with
  | none =>
    obtain ⟨rfl, -⟩ := HBX.out
    have HMN : Hid (FOwn 34 0 (.slice none 0 0) (bxMin none) W2) := VOwn.nil
    have HMX : Hid (FOwn 34 0 (.slice none 0 0) (bxMax none) W2) := VOwn.nil
    obtain ⟨z0, z1, z2, z3, z4, z5, -⟩ := HCSX.out
    have HBT : Hid (ByT [27] B w W2) := ByT.of_grow HGW.out
    have e2 := up_cell n2 HGW.out
    have e3 := up_cell n3 HGW.out
    have hwB := HGW.out.size
    obtain ⟨cs1, hk1, hkr1⟩ := RowI.up _ _ HRW.out (HGW.out.alloc (.cells #[.slice A6 n6 c6, .int .i64 pl, .int .i64 0, .int .i64 0, (.slice none 0 0), (.slice none 0 0)] 27))
    have HK1 := Lib.hid hk1; have HKR1 := Lib.hid hkr1
    have HNW : Hid (C6 W2.heap.size (.slice A6 n6 c6) (.int .i64 pl) (.int .i64 0) (.int .i64 0) (.slice none 0 0) (.slice none 0 0) (W2.alloc (.cells #[.slice A6 n6 c6, .int .i64 pl, .int .i64 0, .int .i64 0, (.slice none 0 0), (.slice none 0 0)] 27))) := ⟨by go_simp, by go_simp, by go_simp, by go_simp, by go_simp, by go_simp, fun o => by go_simp⟩
    have HNEWS := Lib.hid (news6 HNW.out)
    clear hk1 hkr1
    obtain ⟨k0, hk0⟩ : ∃ k0 : KN, k0 = ⟨p, pl, 0, 0, bxMin none, bxMax none⟩ := ⟨_, rfl⟩
    obtain ⟨ks1, hks1⟩ : ∃ ks1, ks1 = ks ++ [k0] := ⟨_, rfl⟩
    have HKS1 := Lib.hid hks1
    have HK0 := Lib.hid hk0
    have hl1 : ks1.length = ks.length + 1 := by rw [hks1]; simp
    have HL1 := Lib.hid hl1
    clear hks1 hk0 hl1
    go_wp2_with (at_builtin; refine wpList_append_k rfl _ _ 22 rfl B 6 27 i0 (.agg #[.slice none 0 0, .int .i64 0, .int .i64 0, .int .i64 0, .slice none 0 0, .slice none 0 0]) 96 undKn HI.out HZ0.out HZ1.out HZ2.out rfl (by decide) rfl HK1.out rfl rfl HNEWS.out (by intro x hx; simp at hx; rcases hx with rfl | rfl | rfl | rfl | rfl | rfl <;> rfl) (by simp [maxLen]; omega) (by omega) (by simp; omega) ?_; intro V' w5 hown5 hgrow5 hwh5; have HR5 := Lib.hid (show RowI B V' ks1 w5 by rw [HKS1.out, HK0.out]; exact RowI.app (k := ⟨p, pl, 0, 0, bxMin none, bxMax none⟩) HK1.out HKR1.out (VOwn.up _ _ HP6.out ((Grow.refl W2).alloc _)) (VOwn.up _ _ HMN.out ((Grow.refl W2).alloc _)) (VOwn.up _ _ HMX.out ((Grow.refl W2).alloc _)) hown5 hgrow5); have HB5 := Lib.hid (ByT.trans (ByT.of_grow (B := B) (HGW.out.alloc _)) (byT_k HK1.out hgrow5)); obtain ⟨A5, c5, rfl, hc5⟩ := hown5.isSl; have q2 := (World.cell?_of_block (HB5.out.block b lb (.inl hbB))).trans M2.out; have q3 := (World.cell?_of_block (HB5.out.block b lb (.inl hbB))).trans M3.out; clear hown5 hgrow5 hwh5)
    obtain ⟨il, hil⟩ : ∃ il, il = rootIx l (ks.length + 1) := ⟨_, rfl⟩
    obtain ⟨ks2, hks2⟩ : ∃ ks2, ks2 = ks1 ++ l.kns (ks.length + 1) := ⟨_, rfl⟩
    have HIL1 := Lib.hid hil
    have HKS2 := Lib.hid hks2
    have HL2 : Hid (ks2.length = ks.length + 1 + l.size) := by show _ = _; rw [hks2, List.length_append, kns_len, HL1.out]
    clear hil hks2
    have HCL : Hid (Calls Try.prog 39 #[.pointer al, .slice A5 (ks.length + 1) c5] w5 fun e w6 => ∃ V6, e = .returned (.tuple #[V6, .int .i64 il]) ∧ ByT [27] B w5 w6 ∧ RowI B V6 ks2 w6) := (HIL.out _ _ Fl ks1 w5 (HNL.out.move fun k hk => HB5.out.block k (HNL.out.lt k hk) (.inl (HFL.out k hk))) HFL.out (Nat.le_trans hB HB5.out.size) HR5.out (by rw [HL1.out]; omega)).mono fun e w6 ⟨V6, h1, h2, h3⟩ => ⟨V6, by rw [h1, HL1.out, HIL1.out], h2, by rw [HKS2.out]; rw [HL1.out] at h3; exact h3⟩
    go_wp2_with fail
    refine HCL.out.mono ?_
    rintro e w6 ⟨V6, rfl, hb6, hr6⟩
    obtain ⟨cs6, hk6, -⟩ := id hr6
    obtain ⟨A6', c6', rfl, hc6'⟩ := hk6.isSl
    have HR6 := Lib.hid hr6
    have HB6 := Lib.hid (HB5.out.trans hb6)
    have r3 := (World.cell?_of_block (HB6.out.block b lb (.inl hbB))).trans M3.out
    clear hb6 hr6 hk6 q2 q3
    obtain ⟨ir, hir⟩ : ∃ ir, ir = rootIx r (ks.length + 1 + l.size) := ⟨_, rfl⟩
    obtain ⟨ks3, hks3⟩ : ∃ ks3, ks3 = ks2 ++ r.kns (ks.length + 1 + l.size) := ⟨_, rfl⟩
    have HIR1 := Lib.hid hir
    have HKS3 := Lib.hid hks3
    have HL3 : Hid (ks3.length = ks.length + 1 + l.size + r.size) := by show _ = _; rw [hks3, List.length_append, kns_len, HL2.out]
    have HAT : Hid (ks3[ks.length]? = some k0) := by
      show _ = _
      rw [hks3, HKS2.out, HKS1.out, List.append_assoc, List.append_assoc, List.getElem?_append_right (Nat.le_refl _), Nat.sub_self]; rfl
    clear hir hks3
    have HCR : Hid (Calls Try.prog 39 #[.pointer ar, .slice A6' ks2.length c6'] w6 fun e w7 => ∃ V7, e = .returned (.tuple #[V7, .int .i64 ir]) ∧ ByT [27] B w6 w7 ∧ RowI B V7 ks3 w7) := (HIR.out _ _ Fr ks2 w6 (HNR.out.move fun k hk => HB6.out.block k (HNR.out.lt k hk) (.inl (HFR.out k hk))) HFR.out (Nat.le_trans hB HB6.out.size) HR6.out (by rw [HL2.out]; omega)).mono fun e w7 ⟨V7, h1, h2, h3⟩ => ⟨V7, by rw [h1, HL2.out, HIR1.out], h2, by rw [HKS3.out]; rw [HL2.out] at h3; exact h3⟩
    go_wp2_with fail
    refine HCR.out.mono ?_
    rintro e w7 ⟨V7, rfl, hb7, hr7⟩
    obtain ⟨g7, c7, rfl, hc7, hg7, d2, d3, dfz, hset⟩ := hr7.at HAT.out
    have HB7 := Lib.hid (HB6.out.trans hb7)
    obtain ⟨hrow, hbt⟩ := hset il ir
    have HROW := Lib.hid hrow; have HBT7 := Lib.hid (HB7.out.trans hbt)
    have y2 := dfz (ks.length * 6 + 2); have y3 := dfz (ks.length * 6 + 3)
    have hl3 := HL3.out
    have hi1 : (ks.length : Int) < (ks3.length : Int) := by omega
    have hi0' : (0 : Int) ≤ (ks.length : Int) := by omega
    clear hb7 hr7 hset dfz hrow hbt r3 hl3
    go_wp2
    go_ret2
    refine ⟨_, rfl, HBT7.out, ?_⟩
    have e : ks ++ (PT.node p pl none l r).kns ks.length = ks3.set ks.length { k0 with l := il, r := ir } := by
      rw [HKS3.out, HKS2.out, HKS1.out, HK0.out, HIL1.out, HIR1.out, PT.kns, List.append_assoc, List.append_assoc, List.set_append_right _ _ (Nat.le_refl _), Nat.sub_self]
      simp
    rw [e]; exact HROW.out
  | some mm =>
    obtain ⟨mn, mx⟩ := mm
    obtain ⟨bb, P1, P2, rfl, -, hbc, ho1, ho2⟩ := HBX.out
    have k0 := up_cell hbc.c0 HGW.out
    have k1 := up_cell hbc.c1 HGW.out
    have HFA := Lib.hid (fun w' (hg : Grow W2 w') => floats_calls44 P1 mn w' (FSl.up _ _ ho1.sl.f (HGW.out.trans hg)) (by have := HBL.out.1; omega))
    have HFB := Lib.hid (fun w' (hg : Grow W2 w') => floats_calls44 P2 mx w' (FSl.up _ _ ho2.sl.f (HGW.out.trans hg)) (by have := HBL.out.2; omega))
    obtain ⟨A1, m1, k1', rfl⟩ := VOwn.isSl (B := 0) ho1
    obtain ⟨A2, m2, k2', rfl⟩ := VOwn.isSl (B := 0) ho2
    have HLT : Hid (b11 < W2.heap.size) := cell_lt' HCSX.out.c0
    have lb2 : b < W2.heap.size := cell_lt' e4
    have lbb : bb < W2.heap.size := cell_lt' k0
    clear hbc ho1 ho2
    go_wp2
    refine wp_region_grow_tail 19 (fun i => if i = 8 then some (OneF W2.heap.size mn) else if i = 17 then some (OneF W2.heap.size mx) else none) (by kernel_rfl) (by kernel_rfl) ?_ ?_
    · intro i Φ h lo hi v
      (repeat' split at h) <;> cases h
      · exact OneF.up
      · exact OneF.up
    simp only [List.take_succ_cons, List.take_zero, List.drop_succ_cons, List.drop_zero]
    repeat (first
      | (refine wpGrow_skip (by rfl) ?_; simp only [Act.put, List.setIfInBounds_toArray, List.set_cons_zero, List.set_cons_succ, Nat.reduceAdd])
      | (refine wpGrow_det' (by rfl) (by rfl) ?_; apply Exists.intro; refine ⟨fun w' hc hh => ?_, ?_⟩; (have hcell := grow_cell hc; clear hc hh; go_simp; rfl); simp only [Act.put, List.setIfInBounds_toArray, List.set_cons_zero, List.set_cons_succ, Nat.reduceAdd]))
    refine wpGrow_eff' (by rfl) (by rfl) (fun w' hc hh => ?_) (fun v8 lo8 hi8 w' hap hc hh hv => ?_)
    · have HGC := Lib.hid hc
      clear hc hh
      go_simp
      go_at_call 33
      refine (HFA.out _ HGC.out).mono ?_
      rintro e w2 ⟨V, rfl, hg, hown⟩
      exact EffPost.mk hg ⟨hown.mono (Nat.zero_le _), HGC.out.size, own_blk hown⟩
    obtain ⟨A8, n8, c8, rfl⟩ := VOwn.isSl (B := 0) hv.1
    clear hv
    clear hc hh hap w'
    simp only [Act.put, List.setIfInBounds_toArray, List.set_cons_zero, List.set_cons_succ, Nat.reduceAdd]
    repeat (first
      | (refine wpGrow_skip (by rfl) ?_; simp only [Act.put, List.setIfInBounds_toArray, List.set_cons_zero, List.set_cons_succ, Nat.reduceAdd])
      | (refine wpGrow_det' (by rfl) (by rfl) ?_; apply Exists.intro; refine ⟨fun w' hc hh => ?_, ?_⟩; (have hcell := grow_cell hc; clear hc hh; go_simp; rfl); simp only [Act.put, List.setIfInBounds_toArray, List.set_cons_zero, List.set_cons_succ, Nat.reduceAdd]))
    refine wpGrow_eff' (by rfl) (by rfl) (fun w' hc hh => ?_) (fun v17 lo17 hi17 w' hap hc hh hv => ?_)
    · have HGC := Lib.hid hc
      clear hc hh
      go_simp
      go_at_call 33
      refine (HFB.out _ HGC.out).mono ?_
      rintro e w2 ⟨V, rfl, hg, hown⟩
      exact EffPost.mk hg ⟨hown.mono (Nat.zero_le _), HGC.out.size, own_blk hown⟩
    obtain ⟨A9, n9, c9, rfl⟩ := VOwn.isSl (B := 0) hv.1
    clear hv
    clear hc hh hap w'
    simp only [Act.put, List.setIfInBounds_toArray, List.set_cons_zero, List.set_cons_succ, Nat.reduceAdd]
    repeat (first
      | (refine wpGrow_skip (by rfl) ?_; simp only [Act.put, List.setIfInBounds_toArray, List.set_cons_zero, List.set_cons_succ, Nat.reduceAdd])
      | (refine wpGrow_det' (by rfl) (by rfl) ?_; apply Exists.intro; refine ⟨fun w' hc hh => ?_, ?_⟩; (have hcell := grow_cell hc; clear hc hh; go_simp; rfl); simp only [Act.put, List.setIfInBounds_toArray, List.set_cons_zero, List.set_cons_succ, Nat.reduceAdd]))
    refine wpGrow_nil ?_
    intro w1 hg hh
    obtain ⟨ho8, hB8, hb8⟩ := (hh 8).1
    obtain ⟨ho9, hB9, hb9⟩ := (hh 17).1
    have H8 : Hid (∀ k ∈ blk (.slice A8 n8 c8), k ≠ b11) := fun k hk e => by
      have h1 : lo8 ≤ k ∧ k < hi8 := hb8 k hk
      have h2 := HLT.out; have h3 : W2.heap.size ≤ lo8 := hB8
      omega
    have H9 : Hid (∀ k ∈ blk (.slice A9 n9 c9), k ≠ b11) := fun k hk e => by
      have h1 : lo17 ≤ k ∧ k < hi17 := hb9 k hk
      have h2 := HLT.out; have h3 : W2.heap.size ≤ lo17 := hB9
      omega
    obtain hC9 := C6.up _ _ HCSX.out hg
    have hz9 := c6_set2 (u4 := .slice A8 n8 c8) (u5 := .slice A9 n9 c9) hC9
    have hgw9 : Grow w ((w1.setCell ⟨b11, 4, none⟩ (.slice A8 n8 c8)).setCell ⟨b11, 5, none⟩ (.slice A9 n9 c9)) := ((HGW.out.trans hg).setCell hkB' _).setCell hkB' _
    have h6' : ∀ k ∈ blk (.slice A6 n6 c6), k ≠ b11 := HPB.out
    have hp9 : FOwn 34 0 (.slice A6 n6 c6) p ((w1.setCell ⟨b11, 4, none⟩ (.slice A8 n8 c8)).setCell ⟨b11, 5, none⟩ (.slice A9 n9 c9)) := own_far (own_far (VOwn.up _ _ HP6.out hg) h6') h6'
    have hmn9 : FOwn 34 0 (.slice A8 n8 c8) mn ((w1.setCell ⟨b11, 4, none⟩ (.slice A8 n8 c8)).setCell ⟨b11, 5, none⟩ (.slice A9 n9 c9)) := own_far (own_far ho8 H8.out) H8.out
    have hmx9 : FOwn 34 0 (.slice A9 n9 c9) mx ((w1.setCell ⟨b11, 4, none⟩ (.slice A8 n8 c8)).setCell ⟨b11, 5, none⟩ (.slice A9 n9 c9)) := own_far (own_far ho9 H9.out) H9.out
    have x4 := hC9.c4; have x5 := hC9.c5; have y4 := hC9.fz 4; have y5 := hC9.fz 5
    clear HP6 HGW HCSX e4 k0 k1 lb2 lbb hC9 hh hg ho8 ho9 hb8 hb9 hB8 hB9 h6'
    have HP6 := Lib.hid hp9; have HGW := Lib.hid hgw9; have HCSX := Lib.hid hz9
    have HMN : Hid (FOwn 34 0 (.slice A8 n8 c8) (bxMin (some (mn, mx))) ((w1.setCell ⟨b11, 4, none⟩ (.slice A8 n8 c8)).setCell ⟨b11, 5, none⟩ (.slice A9 n9 c9))) := hmn9
    have HMX : Hid (FOwn 34 0 (.slice A9 n9 c9) (bxMax (some (mn, mx))) ((w1.setCell ⟨b11, 4, none⟩ (.slice A8 n8 c8)).setCell ⟨b11, 5, none⟩ (.slice A9 n9 c9))) := hmx9
    clear hp9 hgw9 hz9 hmn9 hmx9 H8 H9
    go_upto_region 7 with (fail)
    clear x4 x5 y4 y5
    generalize ((w1.setCell ⟨b11, 4, none⟩ (.slice A8 n8 c8)).setCell ⟨b11, 5, none⟩ (.slice A9 n9 c9)) = W3 at *
    obtain ⟨z0, z1, z2, z3, z4, z5, -⟩ := HCSX.out
    have HBT : Hid (ByT [27] B w W3) := ByT.of_grow HGW.out
    have e2 := up_cell n2 HGW.out
    have e3 := up_cell n3 HGW.out
    have hwB := HGW.out.size
    obtain ⟨cs1, hk1, hkr1⟩ := RowI.up _ _ HRW.out (HGW.out.alloc (.cells #[.slice A6 n6 c6, .int .i64 pl, .int .i64 0, .int .i64 0, (.slice A8 n8 c8), (.slice A9 n9 c9)] 27))
    have HK1 := Lib.hid hk1; have HKR1 := Lib.hid hkr1
    have HNW : Hid (C6 W3.heap.size (.slice A6 n6 c6) (.int .i64 pl) (.int .i64 0) (.int .i64 0) (.slice A8 n8 c8) (.slice A9 n9 c9) (W3.alloc (.cells #[.slice A6 n6 c6, .int .i64 pl, .int .i64 0, .int .i64 0, (.slice A8 n8 c8), (.slice A9 n9 c9)] 27))) := ⟨by go_simp, by go_simp, by go_simp, by go_simp, by go_simp, by go_simp, fun o => by go_simp⟩
    have HNEWS := Lib.hid (news6 HNW.out)
    clear hk1 hkr1
    obtain ⟨k0, hk0⟩ : ∃ k0 : KN, k0 = ⟨p, pl, 0, 0, bxMin (some (mn, mx)), bxMax (some (mn, mx))⟩ := ⟨_, rfl⟩
    obtain ⟨ks1, hks1⟩ : ∃ ks1, ks1 = ks ++ [k0] := ⟨_, rfl⟩
    have HKS1 := Lib.hid hks1
    have HK0 := Lib.hid hk0
    have hl1 : ks1.length = ks.length + 1 := by rw [hks1]; simp
    have HL1 := Lib.hid hl1
    clear hks1 hk0 hl1
    go_wp2_with (at_builtin; refine wpList_append_k rfl _ _ 22 rfl B 6 27 i0 (.agg #[.slice none 0 0, .int .i64 0, .int .i64 0, .int .i64 0, .slice none 0 0, .slice none 0 0]) 96 undKn HI.out HZ0.out HZ1.out HZ2.out rfl (by decide) rfl HK1.out rfl rfl HNEWS.out (by intro x hx; simp at hx; rcases hx with rfl | rfl | rfl | rfl | rfl | rfl <;> rfl) (by simp [maxLen]; omega) (by omega) (by simp; omega) ?_; intro V' w5 hown5 hgrow5 hwh5; have HR5 := Lib.hid (show RowI B V' ks1 w5 by rw [HKS1.out, HK0.out]; exact RowI.app (k := ⟨p, pl, 0, 0, bxMin (some (mn, mx)), bxMax (some (mn, mx))⟩) HK1.out HKR1.out (VOwn.up _ _ HP6.out ((Grow.refl W3).alloc _)) (VOwn.up _ _ HMN.out ((Grow.refl W3).alloc _)) (VOwn.up _ _ HMX.out ((Grow.refl W3).alloc _)) hown5 hgrow5); have HB5 := Lib.hid (ByT.trans (ByT.of_grow (B := B) (HGW.out.alloc _)) (byT_k HK1.out hgrow5)); obtain ⟨A5, c5, rfl, hc5⟩ := hown5.isSl; have q2 := (World.cell?_of_block (HB5.out.block b lb (.inl hbB))).trans M2.out; have q3 := (World.cell?_of_block (HB5.out.block b lb (.inl hbB))).trans M3.out; clear hown5 hgrow5 hwh5)
    obtain ⟨il, hil⟩ : ∃ il, il = rootIx l (ks.length + 1) := ⟨_, rfl⟩
    obtain ⟨ks2, hks2⟩ : ∃ ks2, ks2 = ks1 ++ l.kns (ks.length + 1) := ⟨_, rfl⟩
    have HIL1 := Lib.hid hil
    have HKS2 := Lib.hid hks2
    have HL2 : Hid (ks2.length = ks.length + 1 + l.size) := by show _ = _; rw [hks2, List.length_append, kns_len, HL1.out]
    clear hil hks2
    have HCL : Hid (Calls Try.prog 39 #[.pointer al, .slice A5 (ks.length + 1) c5] w5 fun e w6 => ∃ V6, e = .returned (.tuple #[V6, .int .i64 il]) ∧ ByT [27] B w5 w6 ∧ RowI B V6 ks2 w6) := (HIL.out _ _ Fl ks1 w5 (HNL.out.move fun k hk => HB5.out.block k (HNL.out.lt k hk) (.inl (HFL.out k hk))) HFL.out (Nat.le_trans hB HB5.out.size) HR5.out (by rw [HL1.out]; omega)).mono fun e w6 ⟨V6, h1, h2, h3⟩ => ⟨V6, by rw [h1, HL1.out, HIL1.out], h2, by rw [HKS2.out]; rw [HL1.out] at h3; exact h3⟩
    go_wp2_with fail
    refine HCL.out.mono ?_
    rintro e w6 ⟨V6, rfl, hb6, hr6⟩
    obtain ⟨cs6, hk6, -⟩ := id hr6
    obtain ⟨A6', c6', rfl, hc6'⟩ := hk6.isSl
    have HR6 := Lib.hid hr6
    have HB6 := Lib.hid (HB5.out.trans hb6)
    have r3 := (World.cell?_of_block (HB6.out.block b lb (.inl hbB))).trans M3.out
    clear hb6 hr6 hk6 q2 q3
    obtain ⟨ir, hir⟩ : ∃ ir, ir = rootIx r (ks.length + 1 + l.size) := ⟨_, rfl⟩
    obtain ⟨ks3, hks3⟩ : ∃ ks3, ks3 = ks2 ++ r.kns (ks.length + 1 + l.size) := ⟨_, rfl⟩
    have HIR1 := Lib.hid hir
    have HKS3 := Lib.hid hks3
    have HL3 : Hid (ks3.length = ks.length + 1 + l.size + r.size) := by show _ = _; rw [hks3, List.length_append, kns_len, HL2.out]
    have HAT : Hid (ks3[ks.length]? = some k0) := by
      show _ = _
      rw [hks3, HKS2.out, HKS1.out, List.append_assoc, List.append_assoc, List.getElem?_append_right (Nat.le_refl _), Nat.sub_self]; rfl
    clear hir hks3
    have HCR : Hid (Calls Try.prog 39 #[.pointer ar, .slice A6' ks2.length c6'] w6 fun e w7 => ∃ V7, e = .returned (.tuple #[V7, .int .i64 ir]) ∧ ByT [27] B w6 w7 ∧ RowI B V7 ks3 w7) := (HIR.out _ _ Fr ks2 w6 (HNR.out.move fun k hk => HB6.out.block k (HNR.out.lt k hk) (.inl (HFR.out k hk))) HFR.out (Nat.le_trans hB HB6.out.size) HR6.out (by rw [HL2.out]; omega)).mono fun e w7 ⟨V7, h1, h2, h3⟩ => ⟨V7, by rw [h1, HL2.out, HIR1.out], h2, by rw [HKS3.out]; rw [HL2.out] at h3; exact h3⟩
    go_wp2_with fail
    refine HCR.out.mono ?_
    rintro e w7 ⟨V7, rfl, hb7, hr7⟩
    obtain ⟨g7, c7, rfl, hc7, hg7, d2, d3, dfz, hset⟩ := hr7.at HAT.out
    have HB7 := Lib.hid (HB6.out.trans hb7)
    obtain ⟨hrow, hbt⟩ := hset il ir
    have HROW := Lib.hid hrow; have HBT7 := Lib.hid (HB7.out.trans hbt)
    have y2 := dfz (ks.length * 6 + 2); have y3 := dfz (ks.length * 6 + 3)
    have hl3 := HL3.out
    have hi1 : (ks.length : Int) < (ks3.length : Int) := by omega
    have hi0' : (0 : Int) ≤ (ks.length : Int) := by omega
    clear hb7 hr7 hset dfz hrow hbt r3 hl3
    go_wp2
    go_ret2
    refine ⟨_, rfl, HBT7.out, ?_⟩
    have e : ks ++ (PT.node p pl (some (mn, mx)) l r).kns ks.length = ks3.set ks.length { k0 with l := il, r := ir } := by
      rw [HKS3.out, HKS2.out, HKS1.out, HK0.out, HIL1.out, HIR1.out, PT.kns, List.append_assoc, List.append_assoc, List.set_append_right _ _ (Nat.le_refl _), Nat.sub_self]
      simp
    rw [e]; exact HROW.out
end Go.Proofs.Ytcpdhkbmfgphpaa
