import Derived.Test.YtemobphkgbhhhaaPlainT
import Derived.Test.YtemobphkgbhhhaaPlainF
import Derived.Test.YtemobphkgbhhhaaPartAll
namespace Go.Proofs.Ytemobphkgbhhhaa
open Go.ChangeShapes Go.WideShapes Go.ChangeAt Go.RowKit Go.GrowR
set_option linter.unusedVariables false
set_option linter.unusedSimpArgs false

theorem infoGm : (Try.prog.info? 28).map (fun i => (i.zero, i.size, i.bytes)) = some (some (.agg #[.int .i64 0, .int .i64 0, .int .i64 0, .slice none 0 0, .slice none 0 0, .slice none 0 0, .slice none 0 0]), 7, 120) := by kernel_rfl
theorem undGm : Try.prog.underlying 26 = some (.slice 28) := by kernel_rfl
theorem colSRID (b : Nat) (r : Int) (w : World) (h : w.cell? ⟨b, 2, none⟩ = some (.int .i64 r)) : Calls Try.prog 162 #[.pointer (some ⟨b, 0, none⟩)] w fun e w' => e = .returned (.int .i64 r) ∧ w' = w := by
  go_enter Try.func162, Try.ntmps162
  go_wp2
  go_ret
  exact ⟨rfl, rfl⟩
theorem doorLay (b : Nat) (l : Int) (w : World) (h : w.cell? ⟨b, 0, none⟩ = some (.int .i64 l)) : Calls Try.prog 81 #[.pointer (some ⟨b, 0, none⟩)] w fun e w' => e = .returned (.int .i64 l) ∧ w' = w := by
  go_enter Try.func81, Try.ntmps81
  go_wp2
  go_ret
  exact ⟨rfl, rfl⟩
theorem colGeoms (b : Nat) (A : Option Addr) (n c : Nat) (w : World) (h : w.cell? ⟨b, 1, none⟩ = some (.slice A n c)) : Calls Try.prog 82 #[.pointer (some ⟨b, 0, none⟩)] w fun e w' => e = .returned (.slice A n c) ∧ w' = w := by
  go_enter Try.func82, Try.ntmps82
  go_wp2
  go_ret
  exact ⟨rfl, rfl⟩
theorem mSRID7 (b : Nat) (w : World) : (method 293 78 (.pointer (some ⟨b, 0, none⟩)) "SRID").run Try.prog w = .ok (162, .pointer (some ⟨b, 0, none⟩)) w := by kernel_rfl
theorem KOwn.stab {e : TypeId} {q B n lo hi : Nat} {v : Value} {xs : List Value} {w : World} (h : KOwn e q B v n xs w) (h1 : lo ≤ B) (h2 : w.heap.size ≤ hi) : Stab lo hi (KOwn e q B v n xs) w := fun w2 h3 => by
  refine ⟨h.1, ?_⟩
  rcases h.2 with h | ⟨g, cap, cur, rfl, hb, hh, hr⟩
  · exact .inl h
  · refine .inr ⟨g, cap, cur, rfl, hb, ?_, hr⟩
    rw [h3 g (by omega) ?_]; exact hh
    have : g < w.heap.size := by
      rcases Nat.lt_or_ge g w.heap.size with hlt | hge
      · exact hlt
      · rw [Array.getElem?_eq_none hge] at hh; cases hh
    omega
theorem kown_lt {e : TypeId} {q B n : Nat} {v : Value} {xs : List Value} {w : World} (h : KOwn e q B v n xs w) : ∀ g, v.ownBlock = some g → g < w.heap.size := fun g hg => (World.ownsRow.lt h g hg).2
/-- a part as the row of parts holds it -/
def KidP (B : Nat) (kid : GT) (lo hi : Nat) (V : Value) (w : World) : Prop := B ≤ lo ∧ hi ≤ w.heap.size ∧ Stab lo hi (GV kid V) w
theorem KidP.up {B : Nat} {kid : GT} {lo hi : Nat} {V : Value} : Up (KidP B kid lo hi V) := fun w w' ⟨h1, h2, h3⟩ hg => ⟨h1, Nat.le_trans h2 hg.size, h3.grow hg h2⟩
def OneA (vs : List Value) (V : Value) (w : World) : Prop := ∃ b v0 v1 v2 v3 v4 v5 v6, vs = [.agg #[v0, v1, v2, v3, v4, v5, v6]] ∧ V = .slice (some ⟨b, 0, none⟩) 1 1 ∧ C7 b v0 v1 v2 v3 v4 v5 v6 w
theorem OneA.up {vs : List Value} {V : Value} : Up (OneA vs V) := fun _ _ ⟨b, v0, v1, v2, v3, v4, v5, v6, h0, h1, h2⟩ hg => ⟨b, v0, v1, v2, v3, v4, v5, v6, h0, h1, C7.up _ _ h2 hg⟩
/-- a collection's plain data under way -/
structure PI (w : World) (b0 b : Nat) (l r : Int) (V : Value) (cs : List Value) (n : Nat) (kids : List GT) (wr : World) : Prop where
  z : C7 b0 (.int .i64 0) (.int .i64 0) (.int .i64 0) (.slice none 0 0) (.slice none 0 0) (.slice none 0 0) (.slice none 0 0) wr
  c : C7 b (.int .i64 7) (.int .i64 l) (.int .i64 r) (.slice none 0 0) (.slice none 0 0) (.slice none 0 0) V wr
  o : KOwn 28 7 (b + 1) V n cs wr
  b0 : w.heap.size ≤ b0 ∧ b0 < b
  g : Grow w wr
  s : ∀ (i : Nat) (kid : GT), i < n → kids[i]? = some kid → ∃ v0 v1 v2 v3 v4 v5 v6 lo hi, (∀ j, j < 7 → cs[i * 7 + j]? = [v0, v1, v2, v3, v4, v5, v6][j]?) ∧ b < lo ∧ hi ≤ wr.heap.size ∧ (∀ g, V.ownBlock = some g → ¬ (lo ≤ g ∧ g < hi)) ∧ Stab lo hi (GV kid (.agg #[v0, v1, v2, v3, v4, v5, v6])) wr
theorem PI.step {w : World} {b0 b : Nat} {l r : Int} {V V' : Value} {cs : List Value} {n : Nat} {kids : List GT} {wr w4 w5 : World} {kid : GT} {lo hi : Nat} {v0 v1 v2 v3 v4 v5 v6 : Value} (h : PI w b0 b l r V cs n kids wr) (hk : kids[n]? = some kid) (h4 : Grow wr w4) (hs : KidP wr.heap.size kid lo hi (.agg #[v0, v1, v2, v3, v4, v5, v6]) w4)
    (ho : KOwn 28 7 (b + 1) V' (n + 1) (cs ++ [v0, v1, v2, v3, v4, v5, v6]) w5) (hg : w4.grownBy w5 V.ownBlock) (hv : V'.ownBlock = V.ownBlock ∨ V'.ownBlock = some w4.heap.size) : PI w b0 b l r V' (cs ++ [v0, v1, v2, v3, v4, v5, v6]) (n + 1) kids (w5.setCell ⟨b, 6, none⟩ V') := by
  have hbl : b < wr.heap.size := cell_ltH h.c.1
  have s4 := h4.size; have s5 := hg.size
  have hVo : ∀ g, V.ownBlock = some g → b + 1 ≤ g := h.o.lt
  have hVh : ∀ g, V.ownBlock = some g → g < wr.heap.size := kown_lt h.o
  have hsz : (w5.setCell ⟨b, 6, none⟩ V').heap.size = w5.heap.size := by simp [World.setCell]
  obtain ⟨hb0, hb1⟩ := h.b0
  have kept : ∀ k, k < wr.heap.size → k ≠ b → (∀ g, V.ownBlock = some g → k ≠ g) → (w5.setCell ⟨b, 6, none⟩ V').heap[k]? = wr.heap[k]? := fun k h1 h2' h3' => by
    rw [Below.heap_setCell _ _ _ _ (fun e => h2' (by first | exact e | exact e.symm)), hg.block k (by omega) (fun e => h3' k e.symm rfl), h4.block k h1]
  have kept4 : ∀ k, wr.heap.size ≤ k → k < w4.heap.size → (w5.setCell ⟨b, 6, none⟩ V').heap[k]? = w4.heap[k]? := fun k h1 h2' => by
    rw [Below.heap_setCell _ _ _ _ (fun e => by simp only at e; omega), hg.block k h2' (fun e => by have := hVh k e.symm; omega)]
  have hlen := h.o.len
  refine ⟨h.z.same (kept b0 (by omega) (by omega) (fun g hg' => by have := hVo g hg'; omega)), ?_, ho.setCell (by simp) _, h.b0, ?_, fun i kid' hlt0 h5 => ?_⟩
  · refine C7.set6 (v6 := V) ((h.c.same (h4.block b hbl)).same (hg.block b (by omega) (fun e => by have := hVo b e.symm; omega))) V'
  · exact Grow.setCell (Below.grown (h.g.trans h4) hg (by have := h.g.size; omega) (fun g hg' => by have := hVo g hg'; omega)) (by simp; omega) _
  by_cases hin : i < n
  · obtain ⟨u0, u1, u2, u3, u4, u5, u6, lo', hi', a0, a2, a3, a4, a5⟩ := h.s i kid' hin h5
    refine ⟨u0, u1, u2, u3, u4, u5, u6, lo', hi', fun j hj => ?_, a2, by omega, fun g hg' => ?_, a5.move fun k k1 k2 => kept k (by omega) (by omega) (fun g e1 e2 => a4 g e1 ⟨by omega, by omega⟩)⟩
    · rw [List.getElem?_append_left (by rw [hlen]; omega)]; exact a0 j hj
    rcases hv with e | e
    · exact a4 g (e ▸ hg')
    · rw [e] at hg'; cases hg'; omega
  · obtain rfl : i = n := by omega
    rw [hk] at h5; cases h5
    obtain ⟨k1, k2, k3⟩ := hs
    refine ⟨v0, v1, v2, v3, v4, v5, v6, lo, hi, fun j hj => ?_, by omega, by omega, fun g hg' => ?_, k3.move fun k k4 k5 => kept4 k (by omega) (by omega)⟩
    · rw [List.getElem?_append_right (by rw [hlen]; omega), hlen, show i * 7 + j - i * 7 = j by omega]
    rcases hv with e | e
    · have := hVh g (e ▸ hg'); omega
    · rw [e] at hg'; cases hg'; omega
theorem PI.fin {w : World} {b0 b : Nat} {l r : Int} {V : Value} {cs : List Value} {kids : List GT} {wr wf : World} (h : PI w b0 b l r V cs kids.length kids wr) (hsz : wf.heap.size = wr.heap.size) (hf : ∀ k, b0 < k → k < wr.heap.size → wf.heap[k]? = wr.heap[k]?) : Stab w.heap.size wf.heap.size (GV (.mk 7 l r [] [] [] kids) (GeoF 7 l r (.slice none 0 0) (.slice none 0 0) (.slice none 0 0) V)) wf := fun w2 hw => by
  obtain ⟨hb0, hb1⟩ := h.b0
  have kept : ∀ k, b0 < k → k < wr.heap.size → w2.heap[k]? = wr.heap[k]? := fun k h1 h2 => by rw [hw k (by omega) (by omega)]; exact hf k h1 h2
  have ho : KOwn 28 7 (b + 1) V kids.length cs w2 := KOwn.stab h.o (lo := b + 1) (hi := wr.heap.size) (Nat.le_refl _) (Nat.le_refl _) w2 (fun k k1 k2 => kept k (by omega) k2)
  obtain ⟨A, c, rfl, hc, hA⟩ := ho.cells
  unfold GV
  refine ⟨_, _, _, A, c, rfl, hc, ⟨none, 0, rfl, Nat.le_refl _, .inl rfl⟩, ISl.nil, ISSl.nil, ?_⟩
  rcases hA with h0 | ⟨bV, rfl, hcell⟩
  · exact .inl (List.eq_nil_of_length_eq_zero h0)
  · refine .inr ⟨bV, 0, rfl, GK_mk fun i kid hi => ?_⟩
    have hlt := (List.getElem?_eq_some_iff.1 hi).1
    obtain ⟨u0, u1, u2, u3, u4, u5, u6, lo', hi', a0, a2, a3, a4, a5⟩ := h.s i kid hlt hi
    refine ⟨_, ⟨u0, u1, u2, u3, u4, u5, u6, rfl, ?_⟩, a5 w2 fun k k1 k2 => kept k (by omega) (by omega)⟩
    have g : ∀ j x, j < 7 → [u0, u1, u2, u3, u4, u5, u6][j]? = some x → w2.cell? ⟨bV, 0 + i * 7 + j, none⟩ = some x := fun j x hj hx => by
      have := hcell (i * 7 + j) x (by rw [a0 j hj]; exact hx)
      rwa [Nat.zero_add]
    exact ⟨g 0 _ (by omega) rfl, g 1 _ (by omega) rfl, g 2 _ (by omega) rfl, g 3 _ (by omega) rfl, g 4 _ (by omega) rfl, g 5 _ (by omega) rfl, g 6 _ (by omega) rfl⟩
theorem news7 {b : Nat} {v0 v1 v2 v3 v4 v5 v6 : Value} {w : World} (h0 : w.cell? ⟨b, 0, none⟩ = some v0) (h1 : w.cell? ⟨b, 1, none⟩ = some v1) (h2 : w.cell? ⟨b, 2, none⟩ = some v2) (h3 : w.cell? ⟨b, 3, none⟩ = some v3) (h4 : w.cell? ⟨b, 4, none⟩ = some v4) (h5 : w.cell? ⟨b, 5, none⟩ = some v5) (h6 : w.cell? ⟨b, 6, none⟩ = some v6) : ∀ j u, [v0, v1, v2, v3, v4, v5, v6][j]? = some u → w.cell? ((⟨b, 0, none⟩ : Addr).add j) = some u := fun j u hu => by
  rw [addr_add, Nat.zero_add]
  match j, hu with
  | 0, hu => cases hu; exact h0
  | 1, hu => cases hu; exact h1
  | 2, hu => cases hu; exact h2
  | 3, hu => cases hu; exact h3
  | 4, hu => cases hu; exact h4
  | 5, hu => cases hu; exact h5
  | 6, hu => cases hu; exact h6
  | n + 7, hu => simp at hu
theorem EvK.up {B : Nat} {k : Int} {en : List Int} {ens : List (List Int)} {b : Nat} : Up (EvK B k en ens b) := fun _ _ h hg => by
  rcases h with h | ⟨h, ev, h1, h2⟩ | ⟨h, ev, h1, h2⟩
  · exact .inl h
  · exact .inr (.inl ⟨h, ev, up_cell h1 hg, IOwn.up _ _ h2 hg⟩)
  · exact .inr (.inr ⟨h, ev, up_cell h1 hg, IIOwn.up _ _ h2 hg⟩)
theorem TV.up : ∀ g v, Up (TV g v) := by
  refine GT.ind fun k l r fl en ens kids ih v w w' hv hg => ?_
  unfold TV at hv ⊢
  rcases hv with ⟨h7, b, u, h1, h2, h3, h4⟩ | ⟨h7, b, V, us, h1, h2, h3, h4⟩
  · exact .inl ⟨h7, b, u, h1, Obj4.up _ _ h2 hg, FOwn.up _ _ h3 hg, EvK.up _ _ h4 hg⟩
  · exact .inr ⟨h7, b, V, us, h1, ColC.up _ _ h2 hg, VOwn.up _ _ h3 hg, TVs_mk (TVs_len h4) fun i g u h5 h6 => by
      obtain ⟨u', h7, h8⟩ := TVs_at h4 h5
      rw [h6] at h7; cases h7
      exact ih g (List.mem_of_getElem? h5) u w w' h8 hg⟩
set_option maxRecDepth 100000 in
set_option maxHeartbeats 8000000 in
theorem plain7 (l r : Int) (kids : List GT) (ih : ∀ g ∈ kids, ∀ (v : Value) (w : World), TV g v w → Calls Try.prog 37 #[v] w (PQ g w)) (b : Nat) (V : Value) (us : List Value) (w : World) (hc : ColC b l r V w) (hown : VOwn 63 0 V us w) (hus : TVs kids us w) (hl : kids.length ≤ 1172812402961) :
    Calls Try.prog 37 #[.iface 78 (.pointer (some ⟨b, 0, none⟩))] w (PQ (.mk 7 l r [] [] [] kids) w) := by
  obtain ⟨i0, hi, hz0, hz1, hz2⟩ := info_parts infoGm
  have HI := Lib.hid hi; have HZ0 := Lib.hid hz0; have HZ1 := Lib.hid hz1; have HZ2 := Lib.hid hz2; clear hi hz0 hz1 hz2
  have m1 := mSRID7 b
  have HLU := Lib.hid (TVs_len hus)
  obtain ⟨A, c, rfl, -, hA⟩ := VOwn.sl hown
  obtain ⟨x0, x1, x2, -⟩ := hc
  have X0 := Lib.hid x0; have X1 := Lib.hid x1; have X2 := Lib.hid x2
  have HA := Lib.hid hA; have IH := Lib.hid ih; have HUS := Lib.hid hus
  clear x0 x1 x2 hA ih hown hus
  go_enter Try.func37, Try.ntmps37
  go_wp2_with fail
  refine (colSRID b r _ (up_cell X2.out ((Grow.refl w).alloc _))).mono ?_
  rintro e w' ⟨rfl, rfl⟩
  have HW2 := Lib.hid ((((Grow.refl w).alloc (Obj.cells #[.int .i64 0, .int .i64 0, .int .i64 0, .slice none 0 0, .slice none 0 0, .slice none 0 0, .slice none 0 0] 28)).alloc (Obj.cells #[.int .i64 0, .int .i64 0, .int .i64 r, .slice none 0 0, .slice none 0 0, .slice none 0 0, .slice none 0 0] 28)))
  go_wp2_with fail
  refine (doorLay b l _ (up_cell X0.out HW2.out)).mono ?_
  rintro e w' ⟨rfl, rfl⟩
  have HW3 := Lib.hid ((((Grow.refl w).alloc (Obj.cells #[.int .i64 0, .int .i64 0, .int .i64 0, .slice none 0 0, .slice none 0 0, .slice none 0 0, .slice none 0 0] 28)).alloc (Obj.cells #[.int .i64 7, .int .i64 l, .int .i64 r, .slice none 0 0, .slice none 0 0, .slice none 0 0, .slice none 0 0] 28)))
  go_wp2_with fail
  refine (colGeoms b A _ c _ (up_cell X1.out HW3.out)).mono ?_
  rintro e w' ⟨rfl, rfl⟩
  have HP0 : Hid (PI w w.heap.size (w.heap.size + 1) l r (.slice none 0 0) [] 0 kids ((w.alloc (Obj.cells #[.int .i64 0, .int .i64 0, .int .i64 0, .slice none 0 0, .slice none 0 0, .slice none 0 0, .slice none 0 0] 28)).alloc (Obj.cells #[.int .i64 7, .int .i64 l, .int .i64 r, .slice none 0 0, .slice none 0 0, .slice none 0 0, .slice none 0 0] 28))) :=
    ⟨⟨by go_simp, by go_simp, by go_simp, by go_simp, by go_simp, by go_simp, by go_simp, fun o => by go_simp⟩, ⟨by go_simp, by go_simp, by go_simp, by go_simp, by go_simp, by go_simp, by go_simp, fun o => by go_simp⟩, KOwn.nil, ⟨Nat.le_refl _, by omega⟩, HW3.out, fun i kid h => by omega⟩
  have HUB := Lib.hid (show us.length ≤ 1172812402961 by have := HLU.out; omega)
  clear HW2 X0 X1 X2
  go_wp2
  go_loopw [13, 56] (fun _ i wr => ∃ V cs, ∃ q : Nat, q ≤ us.length ∧ i = .int .i64 q ∧ PI w w.heap.size (w.heap.size + 1) l r V cs q kids wr) (fun _ i _ => us.length - (intOf i).toNat)
  case atStart => exact ⟨_, [], 0, Nat.zero_le _, rfl, HP0.out⟩
  case round =>
    obtain ⟨V, cs, q, hq, rfl, hpi⟩ := hrel
    have HPI := Lib.hid hpi
    have HG := Lib.hid hpi.g
    obtain ⟨AV, cV, rfl, hcV⟩ := hpi.o.isSl
    obtain ⟨z0, z1, z2, z3, z4, z5, z6, z7⟩ := hpi.z
    obtain ⟨c0, c1, c2, c3, c4, c5, c6, c7⟩ := hpi.c
    have hsz : w.heap.size + 1 < wr.heap.size := cell_ltH c0
    clear hpi hcV HP0
    by_cases hlt : q < us.length
    · obtain ⟨kid, hkid⟩ : ∃ p, kids[q]? = some p := ⟨kids[q]'(by have := HLU.out; omega), by have := HLU.out; simp [show q < kids.length by omega]⟩
      obtain ⟨u, hu, htv⟩ := TVs_at HUS.out hkid
      rcases HA.out with h0 | ⟨bV, oV, rfl, hcell⟩
      · exfalso; rw [h0] at hlt; simp at hlt
      have hcu := up_cell (hcell q u hu) HG.out
      obtain ⟨tu, pu, rfl⟩ := htv.iface
      have HTV := Lib.hid htv; have HKK := Lib.hid hkid
      have hq1 : IntKind.i64.wrap ((q : Int) + 1) = (q : Int) + 1 := IntWalk.i64_in _ (by have := HUB.out; omega)
      clear hcell hu htv hkid
      have HKID := Lib.hid (fun w' (hw : Grow wr w') => IH.out kid (List.mem_of_getElem? HKK.out) _ w' (TV.up _ _ _ _ HTV.out (HG.out.trans hw)))
      go_wp2
      refine wp_region_rel_tail Grow 5 (fun i => if i = 3 then some (fun _ => (fun lo hi V ww => KidP wr.heap.size kid lo hi V ww)) else if i = 4 then some (fun vs _ _ V ww => OneA vs V ww) else none) (by kernel_rfl) (by kernel_rfl) (fun _ _ h => h.size) (fun _ _ _ h k => h.trans k) (fun _ _ h => h) ?_ ?_
      · intro i Φ h vs lo hi v
        (repeat' split at h) <;> cases h
        · exact KidP.up
        · exact OneA.up
      simp only [List.take_succ_cons, List.take_zero, List.drop_succ_cons, List.drop_zero]
      repeat (first
        | (refine wpGrow_skip (by rfl) ?_; simp only [Act.put, List.setIfInBounds_toArray, List.set_cons_zero, List.set_cons_succ, Nat.reduceAdd])
        | (refine wpGrow_det' (by rfl) (by rfl) ?_; apply Exists.intro; refine ⟨fun w' hc hh => ?_, ?_⟩; (have hcell := grow_cell hc; clear hc hh; go_simp; rfl); simp only [Act.put, List.setIfInBounds_toArray, List.set_cons_zero, List.set_cons_succ, Nat.reduceAdd]))
      refine wpGrow_eff' (by rfl) (by rfl) (fun w' hc hh => ?_) (fun v lo hi w' hap hc hh hv => ?_)
      · have HGC := Lib.hid hc
        clear hc hh
        go_simp
        go_at_call 37
        refine (HKID.out _ HGC.out).mono ?_
        rintro e w2 ⟨V, rfl, hg, hst⟩
        exact EffPost.mk hg ⟨HGC.out.size, Nat.le_refl _, hst⟩
      obtain ⟨k', l', r', A1', n1', c1', A2', n2', c2', A3', n3', c3', A4', n4', c4', rfl⟩ := hv.2.2.now.form
      clear hv
      clear hc hh hap w'
      simp only [Act.put, List.setIfInBounds_toArray, List.set_cons_zero, List.set_cons_succ, Nat.reduceAdd]
      repeat (first
        | (refine wpGrow_skip (by rfl) ?_; simp only [Act.put, List.setIfInBounds_toArray, List.set_cons_zero, List.set_cons_succ, Nat.reduceAdd])
        | (refine wpGrow_det' (by rfl) (by rfl) ?_; apply Exists.intro; refine ⟨fun w' hc hh => ?_, ?_⟩; (have hcell := grow_cell hc; clear hc hh; go_simp; rfl); simp only [Act.put, List.setIfInBounds_toArray, List.set_cons_zero, List.set_cons_succ, Nat.reduceAdd]))
      refine wpGrow_eff' (by rfl) (by rfl) (fun w' hc hh => ?_) (fun v lo hi w' hap hc hh hv => ?_)
      · clear hc hh
        go_simp
        exact EffVal.mk ((Grow.refl _).alloc _) ⟨_, _, _, _, _, _, _, _, rfl, rfl, by go_simp, by go_simp, by go_simp, by go_simp, by go_simp, by go_simp, by go_simp, fun o => by go_simp⟩
      obtain ⟨b4, -, -, -, -, -, -, -, -, rfl, -⟩ := hv
      clear hc hh hap w'
      simp only [Act.put, List.setIfInBounds_toArray, List.set_cons_zero, List.set_cons_succ, Nat.reduceAdd]
      repeat (first
        | (refine wpGrow_skip (by rfl) ?_; simp only [Act.put, List.setIfInBounds_toArray, List.set_cons_zero, List.set_cons_succ, Nat.reduceAdd])
        | (refine wpGrow_det' (by rfl) (by rfl) ?_; apply Exists.intro; refine ⟨fun w' hc hh => ?_, ?_⟩; (have hcell := grow_cell hc; clear hc hh; go_simp; rfl); simp only [Act.put, List.setIfInBounds_toArray, List.set_cons_zero, List.set_cons_succ, Nat.reduceAdd]))
      refine wpGrow_nil ?_
      intro w1 hg hh
      obtain ⟨b9, v0, v1, v2, v3, v4, v5, v6, hv9, hb4, d0, d1, d2, d3, d4, d5, d6, -⟩ := (hh 4).1
      cases hb4
      cases hv9
      have HKP := Lib.hid (show KidP wr.heap.size kid _ _ (Geo7 k' l' r' A1' n1' c1' A2' n2' c2' A3' n3' c3' A4' n4' c4') w1 from (hh 3).1)
      have HNEW := Lib.hid (news7 d0 d1 d2 d3 d4 d5 d6)
      clear d0 d1 d2 d3 d4 d5 d6
      have HOW := Lib.hid (KOwn.up _ _ HPI.out.o hg)
      have HGG := Lib.hid hg
      have e6 := up_cell c6 hg
      have g6 := (grow_frozen hg (w.heap.size + 1) 6 (by omega)).trans (c7 6)
      have hsz1 := hg.size
      clear hh c0 c1 c2 c3 c4 c5 c6 c7 z0 z1 z2 z3 z4 z5 z6 z7
      have HNE := Lib.hid (KOwn.lt HOW.out)
      go_wp2_with (at_builtin; refine wpList_append_k rfl _ _ 26 rfl (w.heap.size + 1 + 1) 7 28 i0 (.agg #[.int .i64 0, .int .i64 0, .int .i64 0, .slice none 0 0, .slice none 0 0, .slice none 0 0, .slice none 0 0]) 120 undGm HI.out HZ0.out HZ1.out HZ2.out rfl (by decide) rfl HOW.out rfl rfl HNEW.out (by intro x hx; simp at hx; rcases hx with rfl | rfl | rfl | rfl | rfl | rfl | rfl <;> rfl) (by have := HUB.out; simp [maxLen]; omega) (by have := HUB.out; simp; omega) (by omega) ?_; intro V' w5 hown5 hgrow5 hwh5; have H5 := Lib.hid hown5; have HGR := Lib.hid hgrow5; have HW5 := Lib.hid hwh5; have hbk := hgrow5.block (w.heap.size + 1) (by omega) (fun e => by have := HNE.out _ e.symm; omega); have y6 : w5.cell? ⟨w.heap.size + 1, 6, none⟩ = some (.slice AV q cV) := (World.cell?_of_block hbk).trans e6; have y7 : w5.frozen? ⟨w.heap.size + 1, 6, none⟩ = false := (World.frozen?_of_block hbk).trans g6; obtain ⟨A5, c5, rfl, -⟩ := hown5.isSl; clear hown5 hgrow5 hwh5 hbk)
      go_roundw
      case rel => exact ⟨_, _, q + 1, by omega, by go_num, PI.step HPI.out HKK.out HGG.out HKP.out H5.out HGR.out HW5.out⟩
      case measure => simp [intOf]; omega
    · have hqe : q = us.length := by omega
      have HQ := Lib.hid hqe
      clear hqe
      go_wp2
      refine bodyPost_ret (v := GeoF 7 l r (.slice none 0 0) (.slice none 0 0) (.slice none 0 0) (.slice AV q cV)) (by simp [results, Try.results37, go_sem, z0, z1, z2, z3, z4, z5, z6, c0, c1, c2, c3, c4, c5, c6]) rfl ?_
      have hql : q = kids.length := by have := HQ.out; have := HLU.out; omega
      subst hql
      refine ⟨_, rfl, (((((((HG.out).setCell (by simp) _).setCell (by simp) _).setCell (by simp) _).setCell (by simp) _).setCell (by simp) _).setCell (by simp) _).setCell (by simp) _, PI.fin HPI.out (by simp [World.setCell]) fun k k1 k2 => ?_⟩
      have hne : w.heap.size ≠ k := by omega
      have hne' : k ≠ w.heap.size := by omega
      iterate 7 rw [Below.heap_setCell _ _ _ _ (by first | exact hne | exact hne')]
/-- any good data's object as plain data -/
theorem implPlain : ∀ (g : GT) (v : Value) (w : World), GoodF g → Reach44 g → TV g v w → Calls Try.prog 37 #[v] w (PQ g w) := by
  refine GT.ind fun k l r fl en ens kids ih v w hgood hr hv => ?_
  cases hr with
  | mk r0 r1 r2 r3 r4 r5 r6 r7 rk r8 =>
  unfold TV at hv
  cases hgood with
  | plain hk hl1 hm hd =>
    rcases hv with ⟨-, b, u, rfl, h2, h3, h4⟩ | ⟨rfl, -⟩
    rotate_left
    · rcases hd with ⟨h, -⟩ | ⟨h | h, -⟩ | ⟨h | h | h, -⟩ | ⟨h, -⟩ <;> cases h
    obtain ⟨A, n, c, rfl⟩ := VOwn.isSl h3
    have hu := (VOwn.sl h3).f
    rcases hd with ⟨rfl, d2, d3, d4⟩ | ⟨rfl | rfl, d2, d3⟩ | ⟨rfl | rfl | rfl, d2, d3, d4⟩ | ⟨rfl, d2, d3, d4⟩
    · subst d2 d3; exact plain1 b l r _ A n c fl w h2 hu r0
    · subst d2 d3; exact plain2 b l r _ A n c fl w h2 hu r0
    · subst d2 d3; exact plain8 b l r _ A n c fl w h2 hu r0
    all_goals
      rcases h4 with h | ⟨h, ev, e1, e2⟩ | ⟨h, ev, e1, e2⟩
      · omega
      all_goals first
        | omega
        | (subst d2; obtain ⟨A2, n2, c2, rfl⟩ := VOwn.isSl e2; first | exact plain3 b l r _ A n c fl A2 n2 c2 en w h2 hu r0 e1 (IOwn.is e2) r1 | exact plain4 b l r _ A n c fl A2 n2 c2 en w h2 hu r0 e1 (IOwn.is e2) r1 | exact plain5 b l r _ A n c fl A2 n2 c2 en w h2 hu r0 e1 (IOwn.is e2) r1)
        | (subst d2; obtain ⟨us, e3, e4⟩ := e2; obtain ⟨A2, n2, c2, rfl⟩ := VOwn.isSl e3; exact plain6 b l r _ A n c fl A2 n2 c2 ens w h2 hu r0 e1 (IIOwn.is ⟨us, e3, e4⟩) r2 r5)
  | coll g0 g1 g2 =>
    rcases hv with ⟨h, -⟩ | ⟨-, b, V, us, rfl, h2, h3, h4⟩
    · exact absurd rfl h
    exact plain7 l r kids (fun g hg v w hv => ih g hg v w (g1 g hg) (r8 g hg) hv) b V us w h2 h3 h4 r3
end Go.Proofs.Ytemobphkgbhhhaa
