import Derived.Test.YtelfjglhmccecaaOctD
import Derived.Test.YtelfjglhmccecaaRowsOf
import Derived.BigRegion
namespace Go.Proofs.Ytelfjglhmccecaa
open Go.ChangeShapes Go.WideShapes Go.ChangeAt Go.RowKit Go.GrowR
set_option linter.unusedVariables false
set_option linter.unusedSimpArgs false
theorem isI_1 : Fl.IsI 4607182418800017408 1 := by
  refine ⟨false, 4503599627370496, -52, by decide +kernel, ?_⟩
  simp only [Fl.dv, Bool.false_eq_true, if_false]
  rw [show (4503599627370496 : Nat) = 1 * 2 ^ 52 from by decide, Rat.natCast_mul, ← Fl.p2_nat, Rat.mul_assoc, ← Fl.p2_add]
  rw [show ((52 : Nat) : Int) + -52 = 0 from by decide, Fl.p2_zero, Rat.mul_one]; rfl
theorem isI_m1 : Fl.IsI 13830554455654793216 (-1) := by
  have h := Fl.neg_I isI_1 (by decide)
  have e : Op.negFloat .f64 4607182418800017408 = 13830554455654793216 := by decide +kernel
  rw [e] at h; exact h
def bA : Nat → Nat
  | 0 => 13830554455654793216
  | 1 => 13830554455654793216
  | 2 => 0
  | 3 => 4607182418800017408
  | 4 => 4607182418800017408
  | 5 => 4607182418800017408
  | 6 => 0
  | _ => 13830554455654793216
def bB : Nat → Nat
  | 0 => 0
  | 1 => 4607182418800017408
  | 2 => 4607182418800017408
  | 3 => 4607182418800017408
  | 4 => 0
  | 5 => 13830554455654793216
  | 6 => 13830554455654793216
  | _ => 13830554455654793216
theorem zero_I : Fl.IsI 0 0 := ⟨false, 0, -1074, by decide +kernel, by simp [Fl.dv]⟩
theorem isI_bA (j : Nat) : Fl.IsI (bA j) (dA j) := by
  by_cases h : j < 8
  · have : j = 0 ∨ j = 1 ∨ j = 2 ∨ j = 3 ∨ j = 4 ∨ j = 5 ∨ j = 6 ∨ j = 7 := by omega
    rcases this with rfl | rfl | rfl | rfl | rfl | rfl | rfl | rfl <;> first | exact isI_m1 | exact isI_1 | exact zero_I
  · obtain ⟨m, rfl⟩ : ∃ m, j = m + 8 := ⟨j - 8, by omega⟩
    exact isI_m1
theorem isI_bB (j : Nat) : Fl.IsI (bB j) (dB j) := by
  by_cases h : j < 8
  · have : j = 0 ∨ j = 1 ∨ j = 2 ∨ j = 3 ∨ j = 4 ∨ j = 5 ∨ j = 6 ∨ j = 7 := by omega
    rcases this with rfl | rfl | rfl | rfl | rfl | rfl | rfl | rfl <;> first | exact isI_m1 | exact isI_1 | exact zero_I
  · obtain ⟨m, rfl⟩ : ∃ m, j = m + 8 := ⟨j - 8, by omega⟩
    exact isI_m1
theorem dA_bd (j : Nat) : dA j = -1 ∨ dA j = 0 ∨ dA j = 1 := by unfold dA; split <;> simp
theorem dB_bd (j : Nat) : dB j = -1 ∨ dB j = 0 ∨ dB j = 1 := by unfold dB; split <;> simp
theorem mulD {x d : Int} (h1 : -16777216 ≤ x) (h2 : x ≤ 16777216) (hd : d = -1 ∨ d = 0 ∨ d = 1) : -16777216 ≤ x * d ∧ x * d ≤ 16777216 := by rcases hd with rfl | rfl | rfl <;> omega
def rowV (b o c s i : Nat) : Value := .slice (some ⟨b, o + i * s, none⟩) s (c - i * s)
theorem rowsV_get {b o c s K i : Nat} (h : i < K) : (rowsV b o c s K)[i]? = some (rowV b o c s i) := by
  unfold rowsV; rw [List.getElem?_map, List.getElem?_range h]; rfl
def octV (b o c s : Nat) (a : Nat → Nat) (m : Nat) : List Value := (List.range m).map fun j => rowV b o c s (a j)
theorem octV_succ (b o c s : Nat) (a : Nat → Nat) (m : Nat) : octV b o c s a (m + 1) = octV b o c s a m ++ [rowV b o c s (a m)] := by
  unfold octV; rw [List.range_succ, List.map_append]; rfl
theorem octV_len (b o c s : Nat) (a : Nat → Nat) (m : Nat) : (octV b o c s a m).length = m := by simp [octV]
/-- the eight directions, in a block -/
def D8 (g : Nat) (w : World) : Prop := ∀ j, j < 8 → w.cell? ⟨g, j * 2, none⟩ = some (.float .f64 (bA j)) ∧ w.cell? ⟨g, j * 2 + 1, none⟩ = some (.float .f64 (bB j))
theorem D8.up {g : Nat} : Up (D8 g) := fun _ _ h hg j hj => ⟨up_cell (h j hj).1 hg, up_cell (h j hj).2 hg⟩
/-- what stays while a direction's best row is sought -/
def Kp (w : World) (O : Value) (os : List Value) (g h x y : Nat) (w' : World) : Prop := Grow w w' ∧ VOwn 28 (w.heap.size + 1) O os w' ∧ D8 g w' ∧ w'.cell? ⟨h, 0, none⟩ = some (.float .f64 x) ∧ w'.cell? ⟨h, 1, none⟩ = some (.float .f64 y)
theorem Kp.up {w : World} {O : Value} {os : List Value} {g h x y : Nat} : Up (Kp w O os g h x y) := fun _ _ ⟨h1, h2, h3, h4, h5⟩ hg => ⟨h1.trans hg, VOwn.up _ _ h2 hg, D8.up _ _ h3 hg, up_cell h4 hg, up_cell h5 hg⟩
def OctVP (b o c s K : Nat) (X Y : Nat → Int) (w : World) (e : Ending) (w' : World) : Prop := ∃ R, e = .returned R ∧ Grow w w' ∧ VOwn 28 w.heap.size R (octV b o c s (fun j => argF (sc X Y j) K) 8) w'
set_option maxRecDepth 100000 in
set_option maxHeartbeats 8000000 in
theorem octOf_calls (b o c s K : Nat) (xs : List Nat) (X Y : Nat → Int) (V : Value) (w : World) (hcell : FCells w b o xs) (hK : xs.length = K * s) (K1 : 1 ≤ K) (K60 : K ≤ 60) (s2 : 2 ≤ s) (s9 : s ≤ 9) (hi : Ints xs s K X Y) (hV : VSl V (rowsV b o c s K) w) :
    Calls Try.prog 18 #[V] w (OctVP b o c s K X Y w) := by
  obtain ⟨A, d, rfl, hd, hA⟩ := hV
  rw [rowsV_len] at hd ⊢
  obtain ⟨bV, oV, rfl, hvc⟩ : ∃ bV oV, A = some ⟨bV, oV, none⟩ ∧ ∀ i x, (rowsV b o c s K)[i]? = some x → w.cell? ⟨bV, oV + i, none⟩ = some x := by
    rcases hA with h | h
    · exfalso
      have := rowsV_len b o c s K
      rw [h] at this; simp at this; omega
    · exact h
  obtain ⟨i0, hi0, hz0, hz1, hz2⟩ := info_parts infoS
  have HI0 := Lib.hid hi0; have HZ0 := Lib.hid hz0; have HZ1 := Lib.hid hz1; have HZ2 := Lib.hid hz2; clear hi0 hz0 hz1 hz2
  have HV := Lib.hid (fun i (h : i < K) => hvc i _ (rowsV_get h)); clear hvc hA
  have HC := Lib.hid hcell; clear hcell
  have HI := Lib.hid hi; clear hi
  have HK := Lib.hid hK; clear hK
  go_enter Try.func18, Try.ntmps18
  go_wp2
  go_loopw [3, 19] (fun O i wr => ∃ j : Nat, i = .int .i64 j ∧ j ≤ 8 ∧ Grow w wr ∧ VOwn 28 (w.heap.size + 1) O (octV b o c s (fun j => argF (sc X Y j) K) j) wr ∧ D8 w.heap.size wr) (fun _ i _ => 8 - (intOf i).toNat)
  case atStart => 
    refine ⟨0, rfl, Nat.zero_le _, (Grow.refl w).alloc _, VOwn.nil, fun j hj => ?_⟩
    have : j = 0 ∨ j = 1 ∨ j = 2 ∨ j = 3 ∨ j = 4 ∨ j = 5 ∨ j = 6 ∨ j = 7 := by omega
    rcases this with rfl | rfl | rfl | rfl | rfl | rfl | rfl | rfl <;> constructor <;> (go_simp; try rfl)
  case round =>
    obtain ⟨j, rfl, hj, hg, hown, hd8⟩ := hrel
    have HG := Lib.hid hg; clear hg
    have HO := Lib.hid hown; clear hown
    have HD8 := Lib.hid hd8; clear hd8
    by_cases hj8 : j < 8
    case neg =>
      have e8 : j = 8 := by omega
      subst e8
      go_wp2
      go_ret
      exact ⟨_, rfl, HG.out, HO.out.mono (by omega)⟩
    case pos =>
      obtain ⟨wo, rfl⟩ : ∃ wo : World, wo = wr := ⟨_, rfl⟩
      have dx := (HD8.out j hj8).1
      have dy := (HD8.out j hj8).2
      have r0 := up_cell (HV.out 0 (by omega)) HG.out
      rw [Nat.add_zero] at r0
      have lb := cell_lt r0
      have lg := cell_lt dx
      dsimp only at lb lg
      obtain ⟨x, hxe⟩ : ∃ x, x = bA j := ⟨_, rfl⟩
      obtain ⟨y, hye⟩ : ∃ y, y = bB j := ⟨_, rfl⟩
      have IX : Hid (Fl.IsI x (dA j)) := by rw [hxe]; exact isI_bA j
      have IY : Hid (Fl.IsI y (dB j)) := by rw [hye]; exact isI_bB j
      rw [← hxe] at dx
      rw [← hye] at dy
      clear hxe hye
      go_wp2
      have HKP := Lib.hid (show Kp w u3 (octV b o c s (fun j => argF (sc X Y j) K) j) w.heap.size wo.heap.size x y (wo.alloc (Obj.cells #[.float .f64 x, .float .f64 y] 24)) from ⟨HG.out.alloc _, VOwn.up _ _ HO.out ((Grow.refl _).alloc _), D8.up _ _ HD8.out ((Grow.refl _).alloc _), by go_simp, by go_simp⟩)
      clear dx dy r0 lb lg
      go_loopw [6, 28] (fun bst i wi => ∃ k : Nat, i = .int .i64 k ∧ k ≤ K ∧ bst = rowV b o c s (argF (sc X Y j) k) ∧ Kp w u3 (octV b o c s (fun j => argF (sc X Y j) K) j) w.heap.size wo.heap.size x y wi) (fun _ i _ => K - (intOf i).toNat)
      case atStart => exact ⟨0, rfl, Nat.zero_le _, rfl, HKP.out⟩
      case round =>
        clear HKP
        obtain ⟨k, rfl, hk, hbst, hkp⟩ := hrel
        have HKP := Lib.hid hkp; clear hkp
        by_cases hkK : k < K
        case neg =>
          have ekK : k = K := by omega
          subst ekK
          subst hbst
          obtain ⟨br, hbr⟩ : ∃ r, r = o + argF (sc X Y j) k * s := ⟨_, rfl⟩
          obtain ⟨cr, hcr⟩ : ∃ r, r = c - argF (sc X Y j) k * s := ⟨_, rfl⟩
          have HRV : Hid (rowV b o c s (argF (sc X Y j) k) = .slice (some ⟨b, br, none⟩) s cr) := by show _ = _; unfold rowV; rw [← hbr, ← hcr]
          rw [HRV.out]
          clear hbr hcr
          have hsz := HKP.out.1.size
          go_wp2_with (at_builtin; refine wpList_append_vsl rfl _ _ 33 rfl (w.heap.size + 1) 28 i0 (.slice none 0 0) 24 undSS HI0.out HZ0.out HZ1.out HZ2.out rfl rfl (VOwn.up _ _ HKP.out.2.1 ((Grow.refl wr).alloc _)) rfl (VSl.one (u := .slice (some ⟨b, br, none⟩) s cr) (by go_simp)) (by intro x hx; simp at hx; subst hx; rfl) (by rw [octV_len]; simp [maxLen] at *; omega) (by rw [octV_len]; simp at *; omega) (by simp; omega) ?_; intro O5 w5 hown5 hgrow5 hwh5; have H5 := Lib.hid hown5; have HGR := Lib.hid hgrow5; clear hown5 hgrow5 hwh5)
          have HB := Lib.hid (Below.grown (HKP.out.1.alloc _) HGR.out (by simp; omega) (HKP.out.2.1.mono (B' := w.heap.size) (by omega)).lt)
          go_roundw
          case rel =>
            refine ⟨j + 1, by go_num, by omega, HB.out, by rw [octV_succ, HRV.out]; exact H5.out, ?_⟩
            intro i hi
            have h1 := D8.up _ _ HKP.out.2.2.1 ((Grow.refl wr).alloc (.cells #[.slice (some ⟨b, br, none⟩) s cr] 28)) i hi
            have hl := cell_lt h1.1
            have hb := HGR.out.block w.heap.size hl (by
              intro he
              have := HKP.out.2.1.lt _ he.symm
              omega)
            exact ⟨by rw [World.cell?_of_block hb]; exact h1.1, by rw [World.cell?_of_block hb]; exact h1.2⟩
          case measure => simp [intOf]; omega
        case pos =>
          have ha : argF (sc X Y j) k < K := by
            rcases Nat.eq_zero_or_pos k with h0 | h0
            · subst h0; simp [argF]; omega
            · have := argF_pos (sc X Y j) h0; omega
          obtain ⟨a, hae⟩ : ∃ a, a = argF (sc X Y j) k := ⟨_, rfl⟩
          rw [← hae] at hbst ha
          have HAE := Lib.hid hae; clear hae
          have hkl : k * s + s ≤ xs.length := by
            have h2 := HK.out
            have h3 : (k + 1) * s ≤ K * s := Nat.mul_le_mul_right s hkK
            rw [Nat.add_mul] at h3; omega
          have hal : a * s + s ≤ xs.length := by
            have h2 := HK.out
            have h3 : (a + 1) * s ≤ K * s := Nat.mul_le_mul_right s ha
            rw [Nat.add_mul] at h3; omega
          have cV := up_cell (HV.out k hkK) HKP.out.1
          have c0 := up_cell (HC.out (k * s) _ (getD_some (by omega))) HKP.out.1
          have c1 := up_cell (HC.out (k * s + 1) _ (getD_some (by omega))) HKP.out.1
          have e0 := up_cell (HC.out (a * s) _ (getD_some (by omega))) HKP.out.1
          have e1 := up_cell (HC.out (a * s + 1) _ (getD_some (by omega))) HKP.out.1
          obtain ⟨⟨i1, l1, u1⟩, i2, l2, u2⟩ := HI.out k hkK
          obtain ⟨⟨j1, m1, v1⟩, j2, m2, v2⟩ := HI.out a ha
          unfold rowV at cV hbst
          rw [← Nat.add_assoc] at c1 e1
          generalize xs.getD (k * s) 0 = p0 at c0 i1
          generalize xs.getD (k * s + 1) 0 = p1 at c1 i2
          generalize xs.getD (a * s) 0 = q0 at e0 j1
          generalize xs.getD (a * s + 1) 0 = q1 at e1 j2
          have d0 := HKP.out.2.2.2.1
          have d1 := HKP.out.2.2.2.2
          obtain ⟨z1, f1, k1⟩ := Fl.mul_I i1 IX.out (by have := mulD l1 u1 (dA_bd j); omega)
          obtain ⟨z2, f2, k2⟩ := Fl.mul_I i2 IY.out (by have := mulD l2 u2 (dB_bd j); omega)
          obtain ⟨z3, f3, k3⟩ := Fl.add_I k1 k2 (by have := mulD l1 u1 (dA_bd j); have := mulD l2 u2 (dB_bd j); omega)
          obtain ⟨z4, f4, k4⟩ := Fl.mul_I j1 IX.out (by have := mulD m1 v1 (dA_bd j); omega)
          obtain ⟨z5, f5, k5⟩ := Fl.mul_I j2 IY.out (by have := mulD m2 v2 (dB_bd j); omega)
          obtain ⟨z6, f6, k6⟩ := Fl.add_I k4 k5 (by have := mulD m1 v1 (dA_bd j); have := mulD m2 v2 (dB_bd j); omega)
          have HT : Hid ((FloatKind.f64.format.order z3 z6 == some .gt) = decide (sc X Y j (argF (sc X Y j) k) < sc X Y j k)) := by
            show _ = _
            rw [Fl.gt_V k3 k6, ← HAE.out]
            congr 1
            rw [Rat.intCast_lt_intCast]
            rfl
          have g1 := fop (P := Try.prog) f1
          have g2 := fop (P := Try.prog) f2
          have g3 := fop (P := Try.prog) f3
          have g4 := fop (P := Try.prog) f4
          have g5 := fop (P := Try.prog) f5
          have g6 := fop (P := Try.prog) f6
          obtain ⟨ks, hks⟩ : ∃ ks, ks = k * s := ⟨_, rfl⟩
          obtain ⟨as_, has⟩ : ∃ as_, as_ = a * s := ⟨_, rfl⟩
          rw [← hks] at cV c0 c1 hkl
          rw [← has] at e0 e1 hal hbst
          have HKS := Lib.hid hks
          have HAS := Lib.hid has
          clear hks has
          clear i1 l1 u1 i2 l2 u2 j1 m1 v1 j2 m2 v2 k1 k2 k3 k4 k5 k6 f1 f2 f3 f4 f5 f6
          have t0 : (0 : Int) < (s : Int) := by omega
          have t1 : (1 : Int) < (s : Int) := by omega
          have t2 : (k : Int) < (K : Int) := by omega
          subst hbst
          go_wp2
          go_quiet (fail)
          cases hb : (FloatKind.f64.format.order z3 z6 == some .gt) with
          | true =>
            have HD := Lib.hid (of_decide_eq_true (HT.out.symm.trans hb)); clear hb
            go_wp2
            exact ⟨⟨k + 1, by go_num, by omega, by
              show _ = rowV b o c s (if sc X Y j (argF (sc X Y j) k) < sc X Y j k then k else argF (sc X Y j) k)
              rw [if_pos HD.out, HKS.out]; rfl, Kp.up _ _ HKP.out ((Grow.refl _).drewN _)⟩, by simp [intOf]; omega⟩
          | false =>
            have HD := Lib.hid (of_decide_eq_false (HT.out.symm.trans hb)); clear hb
            go_wp2
            exact ⟨⟨k + 1, by go_num, by omega, by
              show _ = rowV b o c s (if sc X Y j (argF (sc X Y j) k) < sc X Y j k then k else argF (sc X Y j) k)
              rw [if_neg HD.out, ← HAE.out, HAS.out]; rfl, Kp.up _ _ HKP.out ((Grow.refl _).drewN _)⟩, by simp [intOf]; omega⟩
end Go.Proofs.Ytelfjglhmccecaa
