import Derived.Test.YtemobphkgbhhhaaLenF
import Derived.Test.YtemobphkgbhhhaaWhole
import Derived.Test.YtemobphkgbhhhaaSegB
import Derived.Laws.Externs
import Derived.Deep.QuietTactic
import Derived.BigQuiet
import Derived.Test.YtemobphkgbhhhaaSegC
import Derived.Defers
import Derived.Recover
namespace Go.Proofs.Ytemobphkgbhhhaa
open Go.ChangeShapes Go.WideShapes Go.ChangeAt Go.RowKit Go.GrowR
set_option linter.unusedVariables false
set_option linter.unusedSimpArgs false

theorem run_sqrt {x r : Nat} (h : Fl.D.sqrt x = some r) (w : World) : (callFunc 105 #[.float .f64 x]).run Try.prog w = .ok (.value (.float .f64 r)) w := by
  rw [run_callFunc_extern (fn := Try.f105) (e := Extern.MathSqrt.sqrt) Try.func105 (by kernel_rfl) (by kernel_rfl) (by kernel_rfl) (by rfl)]
  have h' : FloatKind.f64.format.sqrt x = some r := h
  have hE : Extern.MathSqrt.sqrt #[.float .f64 x] = (match FloatKind.f64.format.sqrt x with
    | some r => pure (.float .f64 r)
    | none => do pure (.float .f64 (← choose (.nanBits .f64 x x)))) := rfl
  rw [hE, h']
  rfl
theorem sqrt_calls {x r : Nat} (h : Fl.D.sqrt x = some r) (w : World) : Calls Try.prog 104 #[.float .f64 x] w fun e w' => e = .returned (.float .f64 r) ∧ w' = w := by
  have hs := run_sqrt h
  go_enter Try.func104, Try.ntmps104
  go_wp2
  go_ret
  exact ⟨rfl, rfl⟩
theorem getD_of {α : Type} {l : List α} {k : Nat} (d : α) (h : k < l.length) : l[k]? = some (l.getD k d) := by
  rw [List.getD_eq_getElem?_getD, List.getElem?_eq_getElem h]; rfl
/-- a float of rows that lie flat -/
theorem flat_get {s : Nat} {rows : List (List Nat)} (hr : ∀ r ∈ rows, r.length = s) (X Z : List Nat) {k j : Nat} (hk : k < rows.length) (hj : j < s) : (X ++ rows.flatten ++ Z)[X.length + k * s + j]? = some ((rows.getD k []).getD j 0) := by
  have hsp : rows = rows.take k ++ rows.getD k [] :: rows.drop (k + 1) := by
    have h1 : rows.getD k [] = rows[k] := by simp [List.getD_eq_getElem?_getD, hk]
    rw [h1, ← List.drop_eq_getElem_cons hk, List.take_append_drop]
  have hrk : (rows.getD k []).length = s := hr _ (by
    have h1 : rows.getD k [] = rows[k] := by simp [List.getD_eq_getElem?_getD, hk]
    rw [h1]; exact List.getElem_mem hk)
  have hfl : X ++ rows.flatten ++ Z = (X ++ (rows.take k).flatten) ++ (rows.getD k [] ++ ((rows.drop (k + 1)).flatten ++ Z)) := by
    conv => lhs; rw [hsp]
    simp [List.append_assoc]
  have hl : (X ++ (rows.take k).flatten).length = X.length + k * s := by
    rw [List.length_append, flat_len (s := s) (fun r h => hr r (List.mem_of_mem_take h))]
    rw [List.length_take, Nat.min_eq_left (by omega)]
  rw [hfl, List.getElem?_append_right (by omega), hl, show X.length + k * s + j - (X.length + k * s) = j by omega, List.getElem?_append_left (by omega)]
  exact getD_of 0 (by omega)
/-- a step: differences, squares, root, sum -/
theorem len_step {s : Nat} {rows : List (List Nat)} (hW : WRow s rows) (s2 : 2 ≤ s) {k z : Nat} (hk : k + 1 < rows.length) (hkk : k ≤ 10000000) (hz : LQ z (Along rows k) (ln rows k) (k * 8388608)) :
    ∃ d0 d1 m0 m1 a r z', floatBits .sub .f64 ((rows.getD (k + 1) []).getD 0 0) ((rows.getD k []).getD 0 0) = some d0 ∧ floatBits .sub .f64 ((rows.getD (k + 1) []).getD 1 0) ((rows.getD k []).getD 1 0) = some d1 ∧ floatBits .mul .f64 d0 d0 = some m0 ∧ floatBits .mul .f64 d1 d1 = some m1 ∧ floatBits .add .f64 m0 m1 = some a ∧ Fl.D.sqrt a = some r ∧ floatBits .add .f64 z r = some z' ∧ LQ z' (Along rows (k + 1)) (ln rows (k + 1)) ((k + 1 : Nat) * 8388608) := by
  obtain ⟨a0, a1, a2⟩ := hW.at (k := k) (j := 0) (by omega) (by omega)
  obtain ⟨b0, b1, b2⟩ := hW.at (k := k) (j := 1) (by omega) (by omega)
  obtain ⟨c0, c1, c2⟩ := hW.at (k := k + 1) (j := 0) (by omega) (by omega)
  obtain ⟨e0, e1, e2⟩ := hW.at (k := k + 1) (j := 1) (by omega) (by omega)
  obtain ⟨d0, f1, i1⟩ := Fl.sub_I c0 a0 (by omega)
  obtain ⟨d1, f2, i2⟩ := Fl.sub_I e0 b0 (by omega)
  have hX : Fl.iv ((rows.getD (k + 1) []).getD 0 0) - Fl.iv ((rows.getD k []).getD 0 0) = dx rows k 0 := rfl
  have hY : Fl.iv ((rows.getD (k + 1) []).getD 1 0) - Fl.iv ((rows.getD k []).getD 1 0) = dx rows k 1 := rfl
  have hxb : -2097152 ≤ dx rows k 0 ∧ dx rows k 0 ≤ 2097152 := by rw [← hX]; omega
  have hyb : -2097152 ≤ dx rows k 1 ∧ dx rows k 1 ≤ 2097152 := by rw [← hY]; omega
  rw [hX] at i1; rw [hY] at i2
  have hlb := ln_bound hW s2 k (by omega)
  have hln : ln rows (k + 1) = ln rows k + (((dx rows k 0).natAbs : Int) + ((dx rows k 1).natAbs : Int)) := rfl
  have hal : Along rows (k + 1) → Along rows k ∧ (dx rows k 0 = 0 ∨ dx rows k 1 = 0) := fun h => ⟨fun j hj => h j (by omega), h k (by omega)⟩
  generalize dx rows k 0 = x at *
  generalize dx rows k 1 = y at *
  have hxx := mul_bound (a := x) (b := x) (m := 2097152) (n := 2097152) (by omega) (by omega) (by omega) (by omega)
  have hyy := mul_bound (a := y) (b := y) (m := 2097152) (n := 2097152) (by omega) (by omega) (by omega) (by omega)
  have px : 0 ≤ x * x := by rw [← Int.natAbs_mul_self']; exact Int.natCast_nonneg _
  have py : 0 ≤ y * y := by rw [← Int.natAbs_mul_self']; exact Int.natCast_nonneg _
  obtain ⟨m0, f3, i3⟩ := Fl.mul_I i1 i1 (by omega)
  obtain ⟨m1, f4, i4⟩ := Fl.mul_I i2 i2 (by omega)
  obtain ⟨a, f5, i5⟩ := Fl.add_I i3 i4 (by omega)
  obtain ⟨r, f6, br⟩ := Fl.sqrt_Bd i5 (by omega) (by omega)
  obtain ⟨hz1, hz2⟩ := hz
  obtain ⟨z', f7, bz⟩ := Fl.add_Bd hz2 br (by omega)
  refine ⟨d0, d1, m0, m1, a, r, z', f1, f2, f3, f4, f5, f6, f7, fun ha => ?_, bz.mono (by omega)⟩
  obtain ⟨ha1, ha2⟩ := hal ha
  have hir : Fl.IsI r ((x.natAbs : Int) + (y.natAbs : Int)) := by
    rcases ha2 with rfl | rfl
    · obtain ⟨r', g1, g2⟩ := Fl.sqrt_sq (x := a) (d := y) (by simpa using i5) (by omega)
      rw [f6] at g1; cases g1; simpa using g2
    · obtain ⟨r', g1, g2⟩ := Fl.sqrt_sq (x := a) (d := x) (by simpa using i5) (by omega)
      rw [f6] at g1; cases g1; simpa using g2
  obtain ⟨z2, g1, g2⟩ := Fl.add_I (hz1 ha1) hir (by omega)
  rw [f7] at g1; cases g1
  rw [hln]; exact g2
set_option maxRecDepth 100000 in
set_option maxHeartbeats 4000000 in
theorem length1_calls (A : Option Addr) (n c s e : Nat) (X : List Nat) (rows : List (List Nat)) (Z : List Nat) (w : World) (hu : FSl (.slice A n c) (X ++ rows.flatten ++ Z) w) (hW : WRow s rows) (s2 : 2 ≤ s) (hs9 : s ≤ 9) (hn : n ≤ 10000000) (he : e = X.length + rows.length * s) :
    Calls Try.prog 102 #[.slice A n c, .int .i64 X.length, .int .i64 e, .int .i64 s] w (fun en w' => ∃ z, en = .returned (.float .f64 z) ∧ LQ z (AlongL rows) (lenL rows) (rows.length * 8388608) ∧ Grow w w') := by
  have hr : ∀ r ∈ rows, r.length = s := fun r h => (hW r h).1
  have hlen : n = X.length + rows.length * s + Z.length := by
    obtain ⟨A', c', he', -, -⟩ := hu
    simp only [Value.slice.injEq] at he'
    rw [he'.2.1]; simp only [List.length_append, flat_len hr]
  obtain ⟨A', c', he', hcc, hA⟩ := hu
  simp only [Value.slice.injEq] at he'
  obtain ⟨rfl, hnl, rfl⟩ := he'
  obtain ⟨b, o, hA', hcell⟩ : ∃ b o, (rows = [] ∨ A = some ⟨b, o, none⟩) ∧ FCells w b o (X ++ rows.flatten ++ Z) := by
    rcases hA with h | ⟨b, o, rfl, h⟩
    · refine ⟨0, 0, .inl ?_, by rw [h]; intro i x h; simp at h⟩
      have h1 := congrArg List.length h
      simp only [List.length_append, flat_len hr, List.length_nil] at h1
      rcases rows with _ | ⟨r, t⟩
      · rfl
      · exfalso
        have : s ≤ (r :: t).length * s := by rw [List.length_cons, Nat.add_mul]; omega
        omega
    · exact ⟨b, o, .inr rfl, h⟩
  have HC : Hid (∀ k j, k < rows.length → j < s → w.cell? ⟨b, o + (X.length + k * s + j), none⟩ = some (.float .f64 ((rows.getD k []).getD j 0))) := fun k j hk hj => hcell _ _ (flat_get hr X Z hk hj)
  have HW := Lib.hid hW; have HA := Lib.hid hA'; have HE := Lib.hid he; have HN := Lib.hid hlen
  have hcn : n ≤ c := by rw [hnl]; exact hcc
  have hxl : X.length ≤ n := by omega
  have hz0 : LQ 0 (Along rows 0) (ln rows 0) ((0 : Nat) * 8388608) := by
    have hI : Fl.IsI 0 0 := ⟨false, 0, -1074, by decide +kernel, by simp [Fl.dv]⟩
    exact ⟨fun _ => hI, Fl.Bd.of_I hI (by decide) (by decide)⟩
  have HZ := Lib.hid hz0
  have hrl : rows.length * 2 ≤ n := by
    have := Nat.mul_le_mul_left rows.length s2; omega
  clear hW hA hA' he hlen hcell hr hz0 hnl hcc
  generalize X.length = x at *
  go_enter Try.func102, Try.ntmps102
  go_wp2
  go_loopw [9, 10] (fun a i wr => ∃ (k p z : Nat), i = .int .i64 p ∧ p = x + k * s + s ∧ (k + 1 ≤ rows.length ∨ rows.length = 0 ∧ k = 0) ∧ a = .float .f64 z ∧ LQ z (Along rows k) (ln rows k) (k * 8388608) ∧ Grow w wr ∧ p ≤ n + 9) (fun _ i _ => n + 9 - (intOf i).toNat)
  case atStart => exact ⟨0, x + s, 0, by go_num, by simp, by omega, rfl, HZ.out, Grow.refl w, by omega⟩
  case round =>
    obtain ⟨k, p, z, rfl, hp, hk, rfl, hz, hg, hpn⟩ := hrel
    have HP := Lib.hid hp; have HZ' := Lib.hid hz; have HG := Lib.hid hg
    clear hp hz hg HZ
    by_cases hlt : k + 1 < rows.length
    case neg =>
      have hge : ¬ p < e := by
        have h1 := HP.out; have h2 := HE.out
        rcases hk with hk | ⟨h0, hk⟩
        · have : rows.length = k + 1 := by omega
          rw [this, Nat.add_mul] at h2; omega
        · rw [h0] at h2; omega
      have HKK : Hid (k = rows.length - 1) := by show k = rows.length - 1; omega
      have HKL : Hid ((k : Int) ≤ rows.length) := by show (k : Int) ≤ rows.length; omega
      clear hk hlt
      go_wp2
      go_ret
      refine ⟨z, rfl, ⟨fun h => ?_, HZ'.out.2.mono (by have := HKL.out; omega)⟩, HG.out⟩
      unfold lenL; rw [← HKK.out]; exact HZ'.out.1 (by rw [HKK.out]; exact h)
    case pos =>
      have hle : x + k * s + s + s ≤ e ∧ e ≤ n := by
        have h2 := HE.out; have h4 := HN.out
        have h3 : (k + 2) * s ≤ rows.length * s := Nat.mul_le_mul_right s hlt
        rw [Nat.add_mul] at h3; omega
      obtain rfl : A = some ⟨b, o, none⟩ := by
        rcases HA.out with rfl | h
        · simp at hlt
        · exact h
      have c1 := up_cell (HC.out (k + 1) 0 hlt (by omega)) HG.out
      have c2 := up_cell (HC.out k 0 (by omega) (by omega)) HG.out
      have c3 := up_cell (HC.out (k + 1) 1 hlt (by omega)) HG.out
      have c4 := up_cell (HC.out k 1 (by omega) (by omega)) HG.out
      obtain ⟨d0, d1, m0, m1, a, r, z', f1, f2, f3, f4, f5, f6, f7, hz'⟩ := len_step HW.out s2 hlt (by omega) HZ'.out
      have HJ := Lib.hid hz'; have HR := Lib.hid f6
      have g1 := fop (P := Try.prog) f1
      have g2 := fop (P := Try.prog) f2
      have g3 := fop (P := Try.prog) f3
      have g4 := fop (P := Try.prog) f4
      have g5 := fop (P := Try.prog) f5
      have g7 := fop (P := Try.prog) f7
      obtain ⟨q, hq⟩ : ∃ q, q = x + k * s := ⟨_, rfl⟩
      have HQ := Lib.hid hq
      have hpq : p = q + s := by have := HP.out; omega
      rw [show x + (k + 1) * s + 0 = q + s by rw [Nat.add_mul]; omega] at c1
      rw [show x + k * s + 0 = q by omega] at c2
      rw [show x + (k + 1) * s + 1 = q + s + 1 by rw [Nat.add_mul]; omega] at c3
      rw [show x + k * s + 1 = q + 1 by omega] at c4
      rw [← hq] at hle
      clear f1 f2 f3 f4 f5 f6 f7 hz' hk hq
      subst hpq
      generalize (rows.getD (k + 1) []).getD 0 0 = v1 at *
      generalize (rows.getD k []).getD 0 0 = v2 at *
      generalize (rows.getD (k + 1) []).getD 1 0 = v3 at *
      generalize (rows.getD k []).getD 1 0 = v4 at *
      obtain ⟨hle1, hle2⟩ := hle
      have e1 : (q : Int) + (s : Int) + 1 - (s : Int) = (q : Int) + 1 := by omega
      have e2 : (q : Int) + (s : Int) - (s : Int) = (q : Int) := by omega
      have b0 : q + s < e := by omega
      have b1 : (q : Int) + (s : Int) + 1 < (n : Int) := by omega
      have b2 : (q : Int) + 1 < (n : Int) := by omega
      have b3 : (q : Int) + (s : Int) < (n : Int) := by omega
      have b4 : (q : Int) < (n : Int) := by omega
      go_wp2
      go_quiet (fail)
      go_wp2
      go_quiet (fail)
      go_wp2_with (go_at_call 104; refine (sqrt_calls HR.out _).mono ?_; rintro e9 w9 ⟨rfl, rfl⟩)
      exact ⟨⟨k + 1, q + s + s, z', by go_num, by rw [Nat.add_mul, HQ.out]; omega, by omega, rfl, HJ.out, HG.out.drewN _, by omega⟩, by simp [intOf]; omega⟩
end Go.Proofs.Ytemobphkgbhhhaa
namespace Go.Proofs.Ytemobphkgbhhhaa
open Go.ChangeShapes Go.WideShapes Go.ChangeAt Go.RowKit Go.GrowR
set_option linter.unusedVariables false
set_option linter.unusedSimpArgs false

theorem lenS_append : ∀ (a b : List (List (List Nat))), lenS (a ++ b) = lenS a + lenS b
  | [], b => by simp [lenS]
  | x :: t, b => by simp only [List.cons_append, lenS, lenS_append t b]; omega
/-- the bound of parts in a row -/
def bS : List (List (List Nat)) → Nat
  | [] => 0
  | rows :: t => rows.length * 8388608 + 1 + bS t
theorem bS_append : ∀ (a b : List (List (List Nat))), bS (a ++ b) = bS a + bS b
  | [], b => by simp [bS]
  | x :: t, b => by simp only [List.cons_append, bS, bS_append t b]; omega
theorem bS_le {s : Nat} (hs : 0 < s) : ∀ (segs : List (List (List Nat))), (∀ rows ∈ segs, WRow s rows) → bS segs ≤ (fwd segs).length * 8388608 + segs.length
  | [], _ => by simp [bS]
  | rows :: t, h => by
    have h1 := bS_le hs t fun r hr => h r (List.mem_cons_of_mem _ hr)
    have h2 : (fwd (rows :: t)).length = rows.length * s + (fwd t).length := by
      have : fwd (rows :: t) = rows.flatten ++ fwd t := by simp [fwd]
      rw [this, List.length_append, flat_len (s := s) fun r hr => (h rows (List.mem_cons_self ..) r hr).1]
    have h3 := Nat.le_mul_of_pos_right rows.length hs
    rw [h2]; simp only [bS, List.length_cons]; omega
theorem lenL_bound {s : Nat} {rows : List (List Nat)} (h : WRow s rows) (s2 : 2 ≤ s) : 0 ≤ lenL rows ∧ lenL rows ≤ (rows.length : Int) * 4194304 := by
  have := ln_bound h s2 (rows.length - 1) (Nat.le_refl _)
  unfold lenL; omega
theorem lenS_bound {s : Nat} (s2 : 2 ≤ s) : ∀ (segs : List (List (List Nat))), (∀ rows ∈ segs, WRow s rows) → 0 ≤ lenS segs ∧ lenS segs ≤ (bS segs : Int)
  | [], _ => by simp [lenS, bS]
  | rows :: t, h => by
    have h1 := lenS_bound s2 t fun r hr => h r (List.mem_cons_of_mem _ hr)
    have h2 := lenL_bound (h rows (List.mem_cons_self ..)) s2
    simp only [lenS, bS]; omega
theorem LQ.add {x y : Nat} {a b c : Prop} {m n k A B C : Int} (hx : LQ x a m A) (hy : LQ y b n B) (hc : c → a ∧ b) (hk : k = m + n) (hkb : k.natAbs ≤ 2 ^ 53) (hC : A + B + 1 ≤ C) (hAB : A + B ≤ 1125899906842624) : ∃ z, floatBits .add .f64 x y = some z ∧ LQ z c k C := by
  obtain ⟨z, hz, hb⟩ := Fl.add_Bd hx.2 hy.2 hAB
  refine ⟨z, hz, fun h => ?_, hb.mono hC⟩
  obtain ⟨z2, g1, g2⟩ := Fl.add_I (hx.1 (hc h).1) (hy.1 (hc h).2) (by rw [← hk]; exact hkb)
  rw [hz] at g1; cases g1
  rw [hk]; exact g2
theorem LQ.zero : LQ 0 (AlongS []) (lenS []) (bS []) := by
  have hI : Fl.IsI 0 0 := ⟨false, 0, -1074, by decide +kernel, by simp [Fl.dv]⟩
  exact ⟨fun _ => hI, Fl.Bd.of_I hI (by decide) (by decide)⟩
set_option maxRecDepth 100000 in
set_option maxHeartbeats 4000000 in
theorem length2_calls (A E : Option Addr) (n c s ce : Nat) (X : List Nat) (segs : List (List (List Nat))) (Z : List Nat) (w : World) (hu : FSl (.slice A n c) (X ++ fwd segs ++ Z) w) (hW : ∀ rows ∈ segs, WRow s rows) (s2 : 2 ≤ s) (hs9 : s ≤ 9) (hn : n ≤ 10000000) (hE : EndR E (cum s X.length segs) w) (hsl : segs.length ≤ 10000000) :
    Calls Try.prog 97 #[.slice A n c, .int .i64 X.length, .slice E segs.length ce, .int .i64 s] w (fun en w' => ∃ z, en = .returned (.float .f64 z) ∧ LQ z (AlongS segs) (lenS segs) (bS segs) ∧ Grow w w') := by
  have hr : ∀ rows ∈ segs, ∀ r ∈ rows, r.length = s := fun rows h r h' => (hW rows h r h').1
  have HU := Lib.hid hu; have HR := Lib.hid hr; have HE := Lib.hid hE; have HW := Lib.hid hW
  have hlen : n = X.length + (fwd segs).length + Z.length := by
    obtain ⟨A', c', he', -, -⟩ := hu
    simp only [Value.slice.injEq] at he'
    rw [he'.2.1]; simp only [List.length_append]
  have HN := Lib.hid hlen
  have HB := Lib.hid (bS_le (by omega) segs hW)
  clear hr hu hlen hE hW
  go_enter Try.func97, Try.ntmps97
  go_wp2
  go_loopw [1, 9, 11, 14] (fun vo va _ vi wr => ∃ q z : Nat, q ≤ segs.length ∧ vi = .int .i64 q ∧ vo = .int .i64 ((X ++ fwd (segs.take q)).length : Nat) ∧ va = .float .f64 z ∧ LQ z (AlongS (segs.take q)) (lenS (segs.take q)) (bS (segs.take q)) ∧ Grow w wr) (fun _ _ _ vi _ => (segs.length - intOf vi).toNat)
  case atStart => exact ⟨0, 0, Nat.zero_le _, rfl, by simp [fwd], rfl, LQ.zero, Grow.refl w⟩
  case round =>
    obtain ⟨q, z, hq, rfl, rfl, rfl, hz, hg⟩ := hrel
    have HZ := Lib.hid hz; have HG := Lib.hid hg
    clear hz hg
    by_cases hlt : q < segs.length
    · obtain ⟨rows, hrow⟩ : ∃ p, segs[q]? = some p := ⟨segs[q], by simp [hlt]⟩
      have hrw := HR.out rows (List.mem_of_getElem? hrow)
      have hww := HW.out rows (List.mem_of_getElem? hrow)
      have hend := cum_at (o := X.length) HR.out hrow
      have hfl := seg_flat hrow
      rcases EndR.up _ _ HE.out HG.out with h0 | ⟨be, oe, rfl, hce⟩
      · exfalso; have := congrArg List.length h0; rw [cum_len] at this; simp at this; rw [this] at hlt; simp at hlt
      have hcell := hce q _ hend
      have hxq : X.length + (fwd (segs.take q)).length + rows.length * s ≤ n := by
        have h1 := congrArg List.length hfl
        have h2 := HN.out
        simp only [List.length_append, flat_len hrw] at h1
        omega
      have hx0 : (X ++ fwd (segs.take q)).length = X.length + (fwd (segs.take q)).length := List.length_append
      have hrn : rows.length ≤ 10000000 := by
        have := Nat.le_mul_of_pos_right rows.length (show 0 < s by omega)
        omega
      have HC := Lib.hid (length1_calls A n c s (X.length + (fwd (segs.take q)).length + rows.length * s) (X ++ fwd (segs.take q)) rows (fwd (segs.drop (q + 1)) ++ Z) wr (by have := FSl.up _ _ HU.out HG.out; rw [hfl] at this; simpa [List.append_assoc] using this) hww s2 hs9 hn (by rw [hx0]))
      have htk : segs.take (q + 1) = segs.take q ++ [rows] := by rw [List.take_add_one, hrow]; rfl
      have HADD : Hid (∀ y, LQ y (AlongL rows) (lenL rows) (rows.length * 8388608) → ∃ z', floatBits .add .f64 z y = some z' ∧ LQ z' (AlongS (segs.take (q + 1))) (lenS (segs.take (q + 1))) (bS (segs.take (q + 1)))) := by
        intro y hy
        have hb1 := lenS_bound s2 (segs.take (q + 1)) fun r h => HW.out r (List.mem_of_mem_take h)
        have hb2 := bS_le (s := s) (by omega) (segs.take (q + 1)) fun r h => HW.out r (List.mem_of_mem_take h)
        have hf : (fwd (segs.take (q + 1))).length ≤ n := by
          rw [fwd_snoc hrow]; simp only [List.length_append, flat_len hrw]; omega
        have hln : (segs.take (q + 1)).length ≤ 10000000 := by rw [List.length_take]; omega
        have hbb : bS (segs.take (q + 1)) = bS (segs.take q) + (rows.length * 8388608 + 1) := by rw [htk, bS_append]; simp [bS]
        have hll : lenS (segs.take (q + 1)) = lenS (segs.take q) + lenL rows := by rw [htk, lenS_append]; simp [lenS]
        exact LQ.add HZ.out hy (fun h => ⟨fun r hr => h r (by rw [htk]; exact List.mem_append_left _ hr), h rows (by rw [htk]; simp)⟩) hll (by omega) (by omega) (by omega)
      have HXE : Hid ((X ++ fwd (segs.take (q + 1))).length = X.length + (fwd (segs.take q)).length + rows.length * s) := by
        show _ = _
        rw [fwd_snoc hrow]
        simp only [List.length_append, flat_len hrw]; omega
      have hq1 : IntKind.i64.wrap ((q : Int) + 1) = (q : Int) + 1 := IntWalk.i64_in _ (by omega)
      clear hrow hrw hfl hx0 hce hend htk hww
      generalize (X ++ fwd (segs.take q)).length = x at *
      generalize X.length + (fwd (segs.take q)).length + rows.length * s = y at *
      go_wp2_with (go_at_call 102; refine (HC.out).mono ?_; rintro e w2 ⟨z2, rfl, hz2, hg2⟩; have HG2 := Lib.hid (HG.out.trans hg2); obtain ⟨z3, hf3, hz3⟩ := HADD.out _ hz2; have HZ3 := Lib.hid hz3; have hfo := fop (P := Try.prog) hf3; clear hg2 hz2 hf3 hz3)
      go_roundw
      case rel => exact ⟨q + 1, z3, by omega, by go_num, by rw [HXE.out], rfl, HZ3.out, HG2.out⟩
      case measure => simp [intOf]; omega
    · have hqe : q = segs.length := by omega
      have HQ := Lib.hid hqe
      clear hqe
      go_wp2
      go_ret
      have h1 := HZ.out
      rw [HQ.out, List.take_length] at h1
      exact ⟨_, rfl, h1, HG.out⟩
end Go.Proofs.Ytemobphkgbhhhaa
namespace Go.Proofs.Ytemobphkgbhhhaa
open Go.ChangeShapes Go.WideShapes Go.ChangeAt Go.RowKit Go.GrowR
set_option linter.unusedVariables false
set_option linter.unusedSimpArgs false
theorem idleF3 (p0 p1 : Addr) (w : World) :
    CallsD Try.prog 32 #[.pointer (some p0), .pointer (some p1)] .returning w fun e u' w' => e = .returned (.tuple #[]) ∧ u' = .returning ∧ w' = w := by
  refine callsD_of_wpS Try.func32 rfl fun c₀ cs hu => ?_
  apply wpS_seq
  apply wpS_region
  simp [wpOpsS, go_sem, recoverD, hu, Try.ntmps32, Exit.thenS]
  refine wpS_cond (t := false) (by simp [Act.eval, Array.replicate]) ?_
  simp only [Bool.false_eq_true, if_false]
  refine wpS_of_wp ?_
  go_wp2
  cases c₀
  simp_all [bodyPostS, results, Try.results32, Exit.thenS]

set_option maxRecDepth 100000 in
set_option maxHeartbeats 4000000 in
theorem length3_calls (A E : Option Addr) (n c s ce : Nat) (X : List Nat) (segss : List (List (List (List Nat)))) (Z : List Nat) (w : World) (hu : FSl (.slice A n c) (X ++ fwd segss.flatten ++ Z) w) (hW : ∀ rows ∈ segss.flatten, WRow s rows) (s2 : 2 ≤ s) (hs9 : s ≤ 9) (hn : n ≤ 10000000) (hE : EndRR E (cums s X.length segss) w) (hsl : segss.length ≤ 10000000) (hsl2 : segss.flatten.length ≤ 10000000) (hne : ∀ segs ∈ segss, segs ≠ []) :
    Calls Try.prog 58 #[.slice A n c, .int .i64 X.length, .slice E segss.length ce, .int .i64 s] w (fun en w' => ∃ z, en = .returned (.float .f64 z) ∧ LQ z (AlongS segss.flatten) (lenS segss.flatten) ((bS segss.flatten : Nat) + (segss.length : Nat)) ∧ Grow w w') := by
  have HU := Lib.hid hu; have HE := Lib.hid hE; have HW := Lib.hid hW; have HNE := Lib.hid hne; have H2 := Lib.hid hsl2
  have hlen : n = X.length + (fwd segss.flatten).length + Z.length := by
    obtain ⟨A', c', he', -, -⟩ := hu
    simp only [Value.slice.injEq] at he'
    rw [he'.2.1]; simp only [List.length_append]
  have HN := Lib.hid hlen
  clear hu hlen hE hW hne hsl2
  go_enter Try.func58, Try.ntmps58
  go_wp2
  go_loopw [1, 9, 11, 14] (fun vo va _ vi wr => ∃ q z : Nat, q ≤ segss.length ∧ vi = .int .i64 q ∧ vo = .int .i64 ((X ++ fwd (segss.take q).flatten).length : Nat) ∧ va = .float .f64 z ∧ LQ z (AlongS (segss.take q).flatten) (lenS (segss.take q).flatten) ((bS (segss.take q).flatten : Nat) + (q : Nat)) ∧ Grow w wr) (fun _ _ _ vi _ => (segss.length - intOf vi).toNat)
  case atStart => exact ⟨0, 0, Nat.zero_le _, rfl, by simp [fwd], rfl, by have := LQ.zero; simpa using this, Grow.refl w⟩
  case round =>
    obtain ⟨q, z, hq, rfl, rfl, rfl, hz, hg⟩ := hrel
    have HZ := Lib.hid hz; have HG := Lib.hid hg
    clear hz hg
    by_cases hlt : q < segss.length
    · obtain ⟨segs, hseg⟩ : ∃ p, segss[q]? = some p := ⟨segss[q], by simp [hlt]⟩
      have hmem := List.mem_of_getElem? hseg
      have hww : ∀ rows ∈ segs, WRow s rows := fun rows h => HW.out rows (List.mem_flatten.2 ⟨segs, hmem, h⟩)
      have hrw : ∀ rows ∈ segs, ∀ r ∈ rows, r.length = s := fun rows h r h' => (hww rows h r h').1
      have hend := cums_at (s := s) (o := X.length) hseg
      have hdr : segss.drop q = segs :: segss.drop (q + 1) := by
        obtain ⟨hq', rfl⟩ := List.getElem?_eq_some_iff.1 hseg
        exact List.drop_eq_getElem_cons hq'
      have hff : segss.flatten = (segss.take q).flatten ++ (segs ++ (segss.drop (q + 1)).flatten) := by
        conv => lhs; rw [← List.take_append_drop q segss, hdr]
        simp
      have hfl : fwd segss.flatten = fwd (segss.take q).flatten ++ fwd segs ++ fwd (segss.drop (q + 1)).flatten := by
        rw [hff]; simp [fwd_append, List.append_assoc]
      have htk0 : (segss.take (q + 1)).flatten = (segss.take q).flatten ++ segs := by
        rw [List.take_add_one, hseg]; simp
      have htk : fwd (segss.take (q + 1)).flatten = fwd (segss.take q).flatten ++ fwd segs := by
        rw [htk0]; simp [fwd_append]
      have hcnt : (segss.take q).flatten.length + segs.length ≤ 10000000 := by
        have h1 := congrArg List.length hff
        have h2 := H2.out
        simp only [List.length_append] at h1; omega
      rcases EndRR.up _ _ HE.out HG.out with h0 | ⟨be, oe, rfl, hce⟩
      · exfalso; have := congrArg List.length h0; rw [cums_len] at this; simp at this; rw [this] at hlt; simp at hlt
      obtain ⟨A2, c2, hcell, hec⟩ := hce q _ hend
      rw [cum_len] at hcell
      have hxq : X.length + (fwd (segss.take q).flatten).length + (fwd segs).length ≤ n := by
        have h1 := congrArg List.length hfl
        have h2 := HN.out
        simp only [List.length_append] at h1
        omega
      have hx0 : (X ++ fwd (segss.take q).flatten).length = X.length + (fwd (segss.take q).flatten).length := List.length_append
      have HEC := Lib.hid hec
      have HC := Lib.hid (length2_calls A A2 n c s c2 (X ++ fwd (segss.take q).flatten) segs (fwd (segss.drop (q + 1)).flatten ++ Z) wr (by have := FSl.up _ _ HU.out HG.out; rw [hfl] at this; simpa [List.append_assoc] using this) hww s2 hs9 hn (by rw [hx0]; exact hec) (by omega))
      have HADD : Hid (∀ y, LQ y (AlongS segs) (lenS segs) (bS segs) → ∃ z', floatBits .add .f64 z y = some z' ∧ LQ z' (AlongS (segss.take (q + 1)).flatten) (lenS (segss.take (q + 1)).flatten) ((bS (segss.take (q + 1)).flatten : Nat) + ((q + 1 : Nat) : Nat))) := by
        intro y hy
        have hWt : ∀ r ∈ (segss.take (q + 1)).flatten, WRow s r := fun r h => HW.out r (by
          obtain ⟨l, h1, h2⟩ := List.mem_flatten.1 h
          exact List.mem_flatten.2 ⟨l, List.mem_of_mem_take h1, h2⟩)
        have hb1 := lenS_bound s2 _ hWt
        have hb2 := bS_le (s := s) (by omega) _ hWt
        have hf : (fwd (segss.take (q + 1)).flatten).length ≤ n := by
          rw [htk]; simp only [List.length_append]; omega
        have hln : (segss.take (q + 1)).flatten.length ≤ 10000000 := by rw [htk0, List.length_append]; exact hcnt
        have hbb : bS (segss.take (q + 1)).flatten = bS (segss.take q).flatten + bS segs := by rw [htk0, bS_append]
        have hll : lenS (segss.take (q + 1)).flatten = lenS (segss.take q).flatten + lenS segs := by rw [htk0, lenS_append]
        exact LQ.add HZ.out hy (fun h => ⟨fun r hr => h r (by rw [htk0]; exact List.mem_append_left _ hr), fun r hr => h r (by rw [htk0]; exact List.mem_append_right _ hr)⟩) hll (by omega) (by omega) (by omega)
      have HXE : Hid ((X ++ fwd (segss.take (q + 1)).flatten).length = X.length + (fwd (segss.take q).flatten).length + (fwd segs).length) := by
        show _ = _
        rw [htk]
        simp only [List.length_append]; omega
      have hq1 : IntKind.i64.wrap ((q : Int) + 1) = (q : Int) + 1 := IntWalk.i64_in _ (by omega)
      have h0 := HNE.out segs hmem
      obtain ⟨m, hm⟩ : ∃ m, segs.length = m + 1 := ⟨segs.length - 1, by have : segs.length ≠ 0 := fun h => h0 (List.eq_nil_of_length_eq_zero h); omega⟩
      have hlast := cum_last (o := X.length + (fwd (segss.take q).flatten).length) hrw hm
      rcases HEC.out with h1 | ⟨b2, o2, rfl, hc2⟩
      · exfalso; have := congrArg List.length h1; rw [cum_len] at this; simp at this; exact h0 this
      have hl2 := hc2 m _ hlast
      have hsl0 : (0 : Int) < (segs.length : Int) := by omega
      have hsm : IntKind.i64.wrap ((segs.length : Int) - 1) = (m : Int) := by rw [hm]; exact (wrapM (by omega) (by omega)).trans (by omega)
      have hsm2 : (segs.length : Int) - 1 = (m : Int) := by omega
      have hmlt : (m : Int) < (segs.length : Int) := by omega
      have hne : 0 < segs.length := by omega
      have hmb : segs.length ≤ 10000000 := by omega
      have HL2 := Lib.hid hl2
      clear hseg hrw hfl hx0 hce hend hdr htk htk0 hec hff hww hmem h0 hm hlast hc2 hcnt
      generalize (X ++ fwd (segss.take q).flatten).length = x at *
      generalize X.length + (fwd (segss.take q).flatten).length + (fwd segs).length = y at *
      go_wp2_with (go_at_call 97; refine (HC.out).mono ?_; rintro e w2 ⟨z2, rfl, hz2, hg2⟩; have HG2 := Lib.hid (HG.out.trans hg2); have y0 := up_cell HL2.out hg2; obtain ⟨z3, hf3, hz3⟩ := HADD.out _ hz2; have HZ3 := Lib.hid hz3; have hfo := fop (P := Try.prog) hf3; clear hg2 hz2 hf3 hz3)
      go_roundw
      case rel => exact ⟨q + 1, z3, by omega, by go_num, by rw [HXE.out], rfl, HZ3.out, HG2.out⟩
      case measure => simp [intOf]; omega
    · have hqe : q = segss.length := by omega
      have HQ := Lib.hid hqe
      clear hqe
      go_wp2
      go_ret
      have h1 := HZ.out
      rw [HQ.out, List.take_length] at h1
      exact ⟨_, rfl, h1, HG.out⟩
theorem doorLen3 (A E : Option Addr) (n c s ce m : Nat) (segss : List (List (List (List Nat)))) (w : World) (hm : m = segss.length) (hu : FSl (.slice A n c) (fwd segss.flatten) w) (hE : EndRR E (cums s 0 segss) w) (hW : ∀ rows ∈ segss.flatten, WRow s rows) (s2 : 2 ≤ s) (hs9 : s ≤ 9) (hn : n ≤ 10000000) (hsl : segss.length ≤ 10000000) (hsl2 : segss.flatten.length ≤ 10000000) (hne : ∀ segs ∈ segss, segs ≠ []) :
    Calls Try.prog 33 #[.slice A n c, .slice E m ce, .int .i64 s] w (fun en w' => ∃ z, en = .returned (.float .f64 z) ∧ LQ z (AlongS segss.flatten) (lenS segss.flatten) ((bS segss.flatten : Nat) + (segss.length : Nat)) ∧ Grow w w') := by
  have HC : Hid (Calls Try.prog 58 #[.slice A n c, .int .i64 0, .slice E m ce, .int .i64 s] w (fun en w' => ∃ z, en = .returned (.float .f64 z) ∧ LQ z (AlongS segss.flatten) (lenS segss.flatten) ((bS segss.flatten : Nat) + (segss.length : Nat)) ∧ Grow w w')) := by
    refine Lib.hid ?_
    subst hm
    have := length3_calls A E n c s ce [] segss [] w (by simpa using hu) hW s2 hs9 hn (by simpa using hE) hsl hsl2 hne
    simpa using this
  clear hm hu hE hW hsl2 hne
  go_enter Try.func33, Try.ntmps33
  go_wp2_with (go_at_call 58; refine (HC.out).mono ?_; rintro e w' ⟨z, rfl, hz1, hg1⟩; have HG1 := Lib.hid hg1; have HZ := Lib.hid hz1; clear hg1 hz1)
  go_ret
  exact ⟨_, rfl, HZ.out, HG1.out⟩
def FL3 (segss : List (List (List (List Nat)))) (w : World) (e : Ending) (w' : World) : Prop := ∃ z, e = .returned (.tuple #[.float .f64 z, .bool true]) ∧ LQ z (AlongS segss.flatten) (lenS segss.flatten) ((bS segss.flatten : Nat) + (segss.length : Nat)) ∧ Grow w w'
set_option maxRecDepth 100000 in
set_option maxHeartbeats 8000000 in
theorem flatLen3_calls (A E : Option Addr) (n c s ce m : Nat) (segss : List (List (List (List Nat)))) (w : World) (hm : m = segss.length) (hu : FSl (.slice A n c) (fwd segss.flatten) w) (hE : EndRR E (cums s 0 segss) w) (hW : ∀ rows ∈ segss.flatten, WRow s rows) (s2 : 2 ≤ s) (hs9 : s ≤ 9) (hn : n ≤ 10000000) (hsl : segss.length ≤ 10000000) (hsl2 : segss.flatten.length ≤ 10000000) (hne : ∀ segs ∈ segss, segs ≠ []) :
    Calls Try.prog 13 #[.slice A n c, .slice E m ce, .int .i64 s] w (FL3 segss w) := by
  have hmf : ∀ (fn : Fn) (first cap : Array Value) (w : World), (Instr.makeFunc fn first cap).run Try.prog w = .ok (.func fn first cap) w := fun _ _ _ _ => rfl
  have HC := Lib.hid (fun w' (hw : Grow w w') => doorLen3 A E n c s ce m segss w' hm (FSl.up _ _ hu hw) (EndRR.up _ _ hE hw) hW s2 hs9 hn hsl hsl2 hne)
  clear hm hu hE hW hsl2 hne
  go_enter_defers Try.func13, Try.ntmps13
  go_wp2_with fail
  refine (HC.out _ (((Grow.refl w).alloc _).alloc _)).mono ?_
  rintro e w3 ⟨z, rfl, hz, hg⟩
  have y0 := up_cell (a := ⟨w.heap.size, 0, none⟩) (v := .float .f64 0) (by go_simp) hg
  have y7 := up_cell (a := ⟨w.heap.size + 1, 0, none⟩) (v := .bool false) (by go_simp) hg
  have f1 : w3.frozen? ⟨w.heap.size, 0, none⟩ = false := (grow_frozen hg _ _ (by simp <;> omega)).trans (by go_simp)
  have f2 : w3.frozen? ⟨w.heap.size + 1, 0, none⟩ = false := (grow_frozen hg _ _ (by simp <;> omega)).trans (by go_simp)
  have HG := Lib.hid (((((Grow.refl w).alloc _).alloc _)).trans hg)
  have HZ := Lib.hid hz
  clear hg hz
  go_wp2
  refine leaves_cons (f := 32) (args := #[.pointer (some ⟨w.heap.size, 0, none⟩), .pointer (some ⟨w.heap.size + 1, 0, none⟩)]) (by simp) (by simp [go_sem]) ?_
  refine (idleF3 ⟨w.heap.size, 0, none⟩ ⟨w.heap.size + 1, 0, none⟩ _).mono ?_
  rintro e u' w'' ⟨rfl, rfl, rfl⟩
  have k1 : ((w3.setCell ⟨w.heap.size, 0, none⟩ (.float .f64 z)).setCell ⟨w.heap.size + 1, 0, none⟩ (.bool true)).cell? ⟨w.heap.size, 0, none⟩ = some (.float .f64 z) := by go_simp
  have k2 : ((w3.setCell ⟨w.heap.size, 0, none⟩ (.float .f64 z)).setCell ⟨w.heap.size + 1, 0, none⟩ (.bool true)).cell? ⟨w.heap.size + 1, 0, none⟩ = some (.bool true) := by go_simp
  exact ⟨.tuple #[.float .f64 z, .bool true], by simp [results, Try.results13, go_sem, k1, k2], z, rfl, HZ.out, (HG.out.setCell (by simp <;> omega) _).setCell (by simp <;> omega) _⟩
end Go.Proofs.Ytemobphkgbhhhaa
