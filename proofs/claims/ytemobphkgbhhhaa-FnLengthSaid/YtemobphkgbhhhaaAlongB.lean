import Derived.Test.YtemobphkgbhhhaaAlongA
import Derived.BigQuiet
import Derived.Deep.QuietTactic
namespace Go.Proofs.Ytemobphkgbhhhaa
open Go.ChangeShapes Go.WideShapes Go.ChangeAt Go.RowKit Go.GrowR
set_option linter.unusedVariables false
set_option linter.unusedSimpArgs false

theorem gline_at {segs : List (List (List Nat))} {kk L r0 : Int} {a B b o : Nat} {ys : List Value} {w W w2 : World} (hcell : ∀ (j : Nat) (u : Value), ys[j]? = some u → W.cell? ⟨b, o + j, none⟩ = some u)
    (hs : ∀ (i : Nat) (g : GT), (segs.map (lineG kk L r0))[i]? = some g → ∃ v0 v1 v2 v3 v4 v5 v6, (∀ j, j < 7 → ys[i * 7 + j]? = [v0, v1, v2, v3, v4, v5, v6][j]?) ∧ Stab2 a B w.heap.size W.heap.size (GV g (.agg #[v0, v1, v2, v3, v4, v5, v6])) W)
    (hg : Grow W w2) {q : Nat} {rows : List (List Nat)} (hq : segs[q]? = some rows) :
    ∃ A1 c1 A2 n2 c2 A3 n3 c3 A4 n4 c4, Seven b (o + q * 7) kk L r0 A1 rows.flatten.length c1 A2 n2 c2 A3 n3 c3 A4 n4 c4 w2 ∧ FSl (.slice A1 rows.flatten.length c1) rows.flatten w2 := by
  obtain ⟨v0, v1, v2, v3, v4, v5, v6, h1, h2⟩ := hs q (lineG kk L r0 rows) (by rw [List.getElem?_map, hq]; rfl)
  have hgv := h2 W fun _ _ => rfl
  unfold lineG GV at hgv
  obtain ⟨u, e1, e2, A4, c4, he, -, hf, he1, he2, -⟩ := hgv
  obtain ⟨A2, c2, rfl, -, -⟩ := SlE.form he1
  obtain ⟨A3, c3, rfl, -, -⟩ := SlE.form he2
  have hf2 := hf
  obtain ⟨A1, c1, rfl, -, -⟩ := hf2
  simp only [GeoF, Value.agg.injEq, Array.mk.injEq, List.cons.injEq] at he
  obtain ⟨rfl, rfl, rfl, rfl, rfl, rfl, rfl, -⟩ := he
  have g : ∀ (j : Nat) (x : Value), j < 7 → [Value.int .i64 kk, .int .i64 L, .int .i64 r0, .slice A1 rows.flatten.length c1, .slice A2 _ c2, .slice A3 _ c3, .slice A4 _ c4][j]? = some x → w2.cell? ⟨b, o + q * 7 + j, none⟩ = some x := fun j x hj hx => by
    have := hcell (q * 7 + j) x (by rw [h1 j hj]; exact hx)
    rw [← Nat.add_assoc] at this
    exact up_cell this hg
  exact ⟨A1, c1, A2, _, c2, A3, _, c3, A4, _, c4, ⟨g 0 _ (by omega) rfl, g 1 _ (by omega) rfl, g 2 _ (by omega) rfl, g 3 _ (by omega) rfl, g 4 _ (by omega) rfl, g 5 _ (by omega) rfl, g 6 _ (by omega) rfl⟩, FSl.up _ _ hf hg⟩
theorem run_absI (x : Int) (ts : Array TypeId) (t : TypeId) (w : World) : (Builtin.max_ ts t #[.int .i64 x, .int .i64 (-x)]).run Try.prog w = .ok (.int .i64 (x.natAbs : Int)) w := by
  rw [run_maxI]
  have : max x (-x) = (x.natAbs : Int) := by omega
  rw [this]
theorem L1.up {rows : List (List Nat)} {V : Value} : Up (L1 rows V) := SlE.up fun _ _ => FSl.up
set_option maxRecDepth 100000 in
set_option maxHeartbeats 8000000 in
theorem gAlong_calls (k l r : Int) (A1 A2 A3 A4 : Option Addr) (n1 c1 n2 c2 n3 c3 n4 c4 : Nat) (segs : List (List (List Nat))) (s : Nat) (kk L r0 : Int) (a B : Nat) (w : World) (hls : strideN L = s) (s2 : 2 ≤ s) (hs9 : s ≤ 9) (hW : ∀ rows ∈ segs, WRow s rows) (hsl : segs.length ≤ 10000000) (hbs : bS segs ≤ 1125899906842624) (hrl : ∀ rows ∈ segs, rows.flatten.length ≤ 10000000)
    (hl : ∀ w', Grow w w' → Calls Try.prog 30 #[Geo7 k l r A1 n1 c1 A2 n2 c2 A3 n3 c3 A4 n4 c4] w' (GLQ a B (segs.map (lineG kk L r0)) w')) :
    Calls Try.prog 12 #[Geo7 k l r A1 n1 c1 A2 n2 c2 A3 n3 c3 A4 n4 c4] w (AlQ segs w) := by
  have HL := Lib.hid hl; have HW := Lib.hid hW; have HLS := Lib.hid hls; have HRL := Lib.hid hrl
  have HBS : Hid (∀ q, 0 ≤ lenS (segs.take q) ∧ lenS (segs.take q) ≤ 1125899906842624) := fun q => by
    have h1 := lenS_bound s2 (segs.take q) fun r h => hW r (List.mem_of_mem_take h)
    have h2 : bS segs = bS (segs.take q) + bS (segs.drop q) := by rw [← bS_append, List.take_append_drop]
    omega
  clear hl hW hls hrl hbs
  go_enter Try.func12, Try.ntmps12
  go_wp2_with fail
  refine (HL.out _ ((Grow.refl w).alloc _)).mono ?_
  rintro e W ⟨AV, cV, ys, rfl, hcV, hyl, hyu, -, hAV, hgW, hsW⟩
  have HAV := Lib.hid hAV; have HGW := Lib.hid hgW; have HSW := Lib.hid hsW; have HG0 := Lib.hid (((Grow.refl w).alloc _).trans hgW)
  have hlm : (segs.map (lineG kk L r0)).length = segs.length := List.length_map _
  rw [hlm] at hcV ⊢
  clear hyl hyu hAV hgW hsW hlm
  go_wp2
  go_loopw [2, 13] (fun nv vi wr => ∃ q : Nat, q ≤ segs.length ∧ vi = .int .i64 q ∧ nv = .int .i64 (lenS (segs.take q)) ∧ Hid (AlongS (segs.take q)) ∧ Grow W wr) (fun _ vi _ => (segs.length - intOf vi).toNat)
  case atStart => exact ⟨0, Nat.zero_le _, rfl, rfl, Lib.hid (by intro r h; simp at h), Grow.refl _⟩
  case round =>
    obtain ⟨q, hq, rfl, rfl, hal, hg⟩ := hrel
    have HG := Lib.hid hg
    clear hg
    by_cases hlt : q < segs.length
    · obtain ⟨rows, hrow⟩ : ∃ p, segs[q]? = some p := ⟨segs[q], by simp [hlt]⟩
      rcases HAV.out with h0 | ⟨b, o, rfl, hcell⟩
      · exfalso; have := congrArg List.length h0; simp at this; rw [this] at hlt; simp at hlt
      obtain ⟨B1, d1, B2, m2, d2, B3, m3, d3, B4, m4, d4, ⟨k0, k1, k2, k3, k4, k5, k6⟩, hf⟩ := gline_at hcell HSW.out HG.out hrow
      have HF := Lib.hid hf
      have hrm := List.mem_of_getElem? hrow
      have hwr := HW.out rows hrm
      have HWR := Lib.hid hwr
      have hfn := HRL.out rows hrm
      have hrr : ∀ r ∈ rows, r.length = s := fun r h => (hwr r h).1
      have HRR := Lib.hid hrr
      have htk : segs.take (q + 1) = segs.take q ++ [rows] := by rw [List.take_add_one, hrow]; rfl
      have HTK : Hid (lenS (segs.take (q + 1)) = lenS (segs.take q) + lenL rows) := by show _ = _; rw [htk, lenS_append]; simp [lenS]
      have HTA : Hid (AlongL rows → AlongS (segs.take (q + 1))) := fun h r hr => by
        rw [htk] at hr
        rcases List.mem_append.1 hr with hr | hr
        · exact hal.out r hr
        · simp at hr; subst hr; exact h
      have hrn : rows.length * 2 ≤ rows.flatten.length := by
        rw [flat_len hrr]; exact Nat.mul_le_mul_left _ s2
      have hN := HBS.out q
      clear hrow hcell hf hrm hwr hrr htk hal
      generalize hFL : rows.flatten.length = fl at *
      have HFL := Lib.hid hFL
      clear hFL
      generalize lenS (segs.take q) = N at *
      have hq1 : IntKind.i64.wrap ((q : Int) + 1) = (q : Int) + 1 := IntWalk.i64_in _ (by omega)
      go_wp2
      refine wp_region_grow (fun i => if i = 4 then some (fun _ _ => (fun V _ => V = .int .i64 s)) else if i = 5 then some (fun _ _ V ww => L1 rows V ww) else none) (by kernel_rfl) (by kernel_rfl) ?_ ?_
      · intro i Φ h lo hi v
        (repeat' split at h) <;> cases h
        · exact fun _ _ h _ => h
        · exact L1.up
      repeat (first
        | (refine wpGrow_skip (by rfl) ?_; simp only [Act.put, List.setIfInBounds_toArray, List.set_cons_zero, List.set_cons_succ, Nat.reduceAdd])
        | (refine wpGrow_det' (by rfl) (by rfl) ?_; apply Exists.intro; refine ⟨fun w' hc hh => ?_, ?_⟩; (have hcell := grow_cell hc; clear hc hh; go_simp; rfl); simp only [Act.put, List.setIfInBounds_toArray, List.set_cons_zero, List.set_cons_succ, Nat.reduceAdd]))
      refine wpGrow_eff' (by rfl) (by rfl) (fun w' hc hh => ?_) (fun v lo hi w' hap hc hh hv => ?_)
      · clear hc hh
        go_simp
        go_at_call 23
        refine (strideS L s _ HLS.out).mono ?_
        rintro e w2 ⟨rfl, rfl⟩
        exact EffPost.mk (Grow.refl _) rfl
      obtain rfl := hv
      clear hc hh hap w'
      simp only [Act.put, List.setIfInBounds_toArray, List.set_cons_zero, List.set_cons_succ, Nat.reduceAdd]
      repeat (first
        | (refine wpGrow_skip (by rfl) ?_; simp only [Act.put, List.setIfInBounds_toArray, List.set_cons_zero, List.set_cons_succ, Nat.reduceAdd])
        | (refine wpGrow_det' (by rfl) (by rfl) ?_; apply Exists.intro; refine ⟨fun w' hc hh => ?_, ?_⟩; (have hcell := grow_cell hc; clear hc hh; go_simp; rfl); simp only [Act.put, List.setIfInBounds_toArray, List.set_cons_zero, List.set_cons_succ, Nat.reduceAdd]))
      refine wpGrow_eff' (by rfl) (by rfl) (fun w' hc hh => ?_) (fun v lo hi w' hap hc hh hv => ?_)
      · have HFF := Lib.hid (FSl.up _ _ HF.out (((Grow.refl wr).alloc _).trans hc))
        clear hc hh
        go_simp
        go_at_call 31
        refine (rowsL_calls B1 fl d1 s rows _ HFF.out HRR.out (by omega) hs9 (by omega)).mono ?_
        rintro e w2 ⟨V, rfl, hg, hl1⟩
        exact EffPost.mk hg hl1
      obtain ⟨A9, c9, rfl, -, -⟩ := SlE.form hv
      clear hv
      clear hc hh hap w'
      simp only [Act.put, List.setIfInBounds_toArray, List.set_cons_zero, List.set_cons_succ, Nat.reduceAdd]
      repeat (first
        | (refine wpGrow_skip (by rfl) ?_; simp only [Act.put, List.setIfInBounds_toArray, List.set_cons_zero, List.set_cons_succ, Nat.reduceAdd])
        | (refine wpGrow_det' (by rfl) (by rfl) ?_; apply Exists.intro; refine ⟨fun w' hc hh => ?_, ?_⟩; (have hcell := grow_cell hc; clear hc hh; go_simp; rfl); simp only [Act.put, List.setIfInBounds_toArray, List.set_cons_zero, List.set_cons_succ, Nat.reduceAdd]))
      refine wpGrow_nil ?_
      intro w1 hg hh
      have hL1 : L1 rows _ w1 := (hh 5).1
      have HL1 := Lib.hid hL1
      have HG1 := Lib.hid (HG.out.trans (((Grow.refl wr).alloc _).trans hg))
      obtain ⟨-, hx⟩ := row_read hL1 HRR.out s2
      have HX := Lib.hid hx
      clear hh hg hx hL1
      go_wp2
      obtain ⟨wo, rfl⟩ : ∃ wo : World, wo = wr := ⟨_, rfl⟩
      go_loopw [2, 7] (fun nv vi wx => ∃ j : Nat, (j + 1 ≤ rows.length ∨ rows.length = 0 ∧ j = 0) ∧ vi = .int .i64 ((j : Int) + 1) ∧ nv = .int .i64 (N + ln rows j) ∧ Hid (Along rows j) ∧ Grow w1 wx) (fun _ vi _ => (rows.length + 1 - intOf vi).toNat)
      case atStart => exact ⟨0, by omega, by go_num, by simp [ln], Lib.hid (by intro k hk; omega), Grow.refl _⟩
      case round =>
        obtain ⟨j, hj, rfl, rfl, hal, hgx⟩ := hrel
        have HGX := Lib.hid hgx
        clear hgx
        by_cases hjl : j + 1 < rows.length
        · rcases HX.out with h0 | ⟨bR, oR, rfl, hxr⟩
          · exfalso; rw [h0] at hjl; simp at hjl
          obtain ⟨p1, t1, g1, hc1, hf1⟩ := hxr (j + 1) hjl
          obtain ⟨p0, t0, g0, hc0, hf0⟩ := hxr j (by omega)
          have c1 := up_cell hc1 HGX.out
          have c0 := up_cell hc0 HGX.out
          have x10 : wr.cell? ⟨p1, t1, none⟩ = some (.float .f64 ((rows.getD (j + 1) []).getD 0 0)) := up_cell (hf1 0 (by omega)) HGX.out
          have x11 := up_cell (hf1 1 (by omega)) HGX.out
          have x00 : wr.cell? ⟨p0, t0, none⟩ = some (.float .f64 ((rows.getD j []).getD 0 0)) := up_cell (hf0 0 (by omega)) HGX.out
          have x01 := up_cell (hf0 1 (by omega)) HGX.out
          obtain ⟨i10, l10, u10⟩ := HWR.out.at (k := j + 1) (j := 0) hjl (by omega)
          obtain ⟨i11, l11, u11⟩ := HWR.out.at (k := j + 1) (j := 1) hjl (by omega)
          obtain ⟨i00, l00, u00⟩ := HWR.out.at (k := j) (j := 0) (by omega) (by omega)
          obtain ⟨i01, l01, u01⟩ := HWR.out.at (k := j) (j := 1) (by omega) (by omega)
          have HLN : Hid (ln rows (j + 1) = ln rows j + (((dx rows j 0).natAbs : Int) + ((dx rows j 1).natAbs : Int))) := rfl
          have HAL : Hid (dx rows j 0 = 0 ∨ dx rows j 1 = 0 → Along rows (j + 1)) := fun h k hk => by
            by_cases e : k = j
            · rw [e]; exact h
            · exact hal.out k (by omega)
          have hXe : Fl.iv ((rows.getD (j + 1) []).getD 0 0) - Fl.iv ((rows.getD j []).getD 0 0) = dx rows j 0 := rfl
          have hYe : Fl.iv ((rows.getD (j + 1) []).getD 1 0) - Fl.iv ((rows.getD j []).getD 1 0) = dx rows j 1 := rfl
          have hlb := ln_bound HWR.out s2 j (by omega)
          have z1 := cell_ltH c1; have z2 := cell_ltH x10; have z3 := cell_ltH x00
          clear hxr hc1 hc0 hf1 hf0 hal
          generalize dx rows j 0 = x at *
          generalize dx rows j 1 = y at *
          generalize ln rows j = M at *
          generalize (rows.getD (j + 1) []).getD 0 0 = z10 at *
          generalize (rows.getD (j + 1) []).getD 1 0 = z11 at *
          generalize (rows.getD j []).getD 0 0 = z00 at *
          generalize (rows.getD j []).getD 1 0 = z01 at *
          generalize Fl.iv z10 = a10 at *
          generalize Fl.iv z11 = a11 at *
          generalize Fl.iv z00 = a00 at *
          generalize Fl.iv z01 = a01 at *
          have v1 := cvI i10 (by omega) (by omega)
          have v2 := cvI i11 (by omega) (by omega)
          have v3 := cvI i00 (by omega) (by omega)
          have v4 := cvI i01 (by omega) (by omega)
          have hxb : -2097152 ≤ x ∧ x ≤ 2097152 := by omega
          have hyb : -2097152 ≤ y ∧ y ≤ 2097152 := by omega
          have hM0 : 0 ≤ M := hlb.1
          have hMb : M ≤ 41943040000000 := by omega
          have wX : IntKind.i64.wrap (a10 - a00) = x := by rw [hXe]; exact wrap_of (by omega) (by omega)
          have wY : IntKind.i64.wrap (a11 - a01) = y := by rw [hYe]; exact wrap_of (by omega) (by omega)
          have wj : IntKind.i64.wrap ((j : Int) + 1 - 1) = (j : Int) := by rw [show (j : Int) + 1 - 1 = (j : Int) by omega]; exact wrap_of (by omega) (by omega)
          have wj0 : IntKind.i64.wrap (j : Int) = (j : Int) := wrap_of (by omega) (by omega)
          have wj2 : IntKind.i64.wrap ((j : Int) + 1 + 1) = (j : Int) + 1 + 1 := wrap_of (by omega) (by omega)
          have m1 := run_absI x
          have m2 := run_absI y
          have b1 : (j : Int) + 1 < (rows.length : Int) := by omega
          have b0 : (j : Int) < (rows.length : Int) := by omega
          have n1 : (0 : Int) ≤ (j : Int) + 1 := by omega
          have n2 : ((j : Int) + 1).toNat = j + 1 := by omega
          have s0 : (0 : Int) < (s : Int) := by omega
          have s1 : (1 : Int) < (s : Int) := by omega
          have s3 : 0 < s := by omega
          have s4 : 1 < s := by omega
          clear hXe hYe i10 i11 i00 i01 l10 l11 l00 l01 u10 u11 u00 u01 hlb
          by_cases hxy : x = 0 ∨ y = 0
          · have HXY := Lib.hid hxy
            by_cases hx0 : x = 0
            · have ex : (x != 0) = false := by simp [hx0]
              clear hxy hx0
              go_wp2
              refine wp_region_grow (fun i => none) (by kernel_rfl) (by kernel_rfl) ?_ ?_
              · intro i Φ h lo hi v
                cases h
              repeat (first
                | (refine wpGrow_skip (by rfl) ?_; simp only [Act.put, List.setIfInBounds_toArray, List.set_cons_zero, List.set_cons_succ, Nat.reduceAdd])
                | (refine wpGrow_det' (by rfl) (by rfl) ?_; apply Exists.intro; refine ⟨fun w' hc hh => ?_, ?_⟩; (have hcell := grow_cell hc; clear hc hh; go_simp; rfl); simp only [Act.put, List.setIfInBounds_toArray, List.set_cons_zero, List.set_cons_succ, Nat.reduceAdd]))
              refine wpGrow_nil ?_
              intro w1 hg hh
              have HGY := Lib.hid (HGX.out.trans hg)
              clear hg hh
              go_wp2
              go_roundw
              case rel => exact ⟨j + 1, by omega, by go_num, by rw [HLN.out]; go_num, Lib.hid (HAL.out HXY.out), HGY.out⟩
              case measure => simp [intOf]; omega
            · have ex : (x != 0) = true := by simp [hx0]
              have ey : (y != 0) = false := by have := hxy.resolve_left hx0; simp [this]
              clear hxy hx0
              go_wp2
              refine wp_region_grow (fun i => none) (by kernel_rfl) (by kernel_rfl) ?_ ?_
              · intro i Φ h lo hi v
                cases h
              repeat (first
                | (refine wpGrow_skip (by rfl) ?_; simp only [Act.put, List.setIfInBounds_toArray, List.set_cons_zero, List.set_cons_succ, Nat.reduceAdd])
                | (refine wpGrow_det' (by rfl) (by rfl) ?_; apply Exists.intro; refine ⟨fun w' hc hh => ?_, ?_⟩; (have hcell := grow_cell hc; clear hc hh; go_simp; rfl); simp only [Act.put, List.setIfInBounds_toArray, List.set_cons_zero, List.set_cons_succ, Nat.reduceAdd]))
              refine wpGrow_nil ?_
              intro w1 hg hh
              have HGY := Lib.hid (HGX.out.trans hg)
              clear hg hh
              go_wp2
              go_roundw
              case rel => exact ⟨j + 1, by omega, by go_num, by rw [HLN.out]; go_num, Lib.hid (HAL.out HXY.out), HGY.out⟩
              case measure => simp [intOf]; omega
          · have ex : (x != 0) = true := by simp; omega
            have ey : (y != 0) = true := by simp; omega
            clear hxy
            go_wp2
            refine wp_region_grow (fun i => none) (by kernel_rfl) (by kernel_rfl) ?_ ?_
            · intro i Φ h lo hi v
              cases h
            repeat (first
              | (refine wpGrow_skip (by rfl) ?_; simp only [Act.put, List.setIfInBounds_toArray, List.set_cons_zero, List.set_cons_succ, Nat.reduceAdd])
              | (refine wpGrow_det' (by rfl) (by rfl) ?_; apply Exists.intro; refine ⟨fun w' hc hh => ?_, ?_⟩; (have hcell := grow_cell hc; clear hc hh; go_simp; rfl); simp only [Act.put, List.setIfInBounds_toArray, List.set_cons_zero, List.set_cons_succ, Nat.reduceAdd]))
            refine wpGrow_nil ?_
            intro w1 hg hh
            have HGY := Lib.hid (HGX.out.trans hg)
            clear hg hh
            go_wp2
            go_ret2
            exact ⟨0, false, rfl, fun h => by simp at h, HG0.out.trans (HG1.out.trans HGY.out)⟩
        · have hje : j = rows.length - 1 := by omega
          have HJ := Lib.hid hje
          have hge : ¬ (j : Int) + 1 < (rows.length : Int) := by omega
          clear hje hj
          go_wp2
          go_roundw
          case rel => exact ⟨q + 1, by omega, by go_num, by rw [HTK.out, HJ.out]; rfl, Lib.hid (HTA.out (by have := hal.out; rw [HJ.out] at this; exact this)), HG1.out.trans HGX.out⟩
          case measure => simp [intOf]; omega
    · have hqe : q = segs.length := by omega
      have HQ := Lib.hid hqe
      clear hqe
      go_wp2
      go_ret2
      refine ⟨_, true, rfl, fun _ => ⟨?_, ?_⟩, HG0.out.trans HG.out⟩
      · have := hal.out; rwa [HQ.out, List.take_length] at this
      · rw [HQ.out, List.take_length]
end Go.Proofs.Ytemobphkgbhhhaa
