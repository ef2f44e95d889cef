import Derived.Test.YtelfjglhmccecaaOctD
import Derived.Deep.Cut
import Derived.Deep.CutRange
import Derived.Test.YtelfjglhmccecaaRowsOf
import Derived.BigRegion
import Derived.Deep.OwnRows
namespace Go.Proofs.Ytelfjglhmccecaa
open Go.ChangeShapes Go.WideShapes Go.ChangeAt Go.RowKit Go.GrowR
set_option linter.unusedVariables false
set_option linter.unusedSimpArgs false

theorem infoF_ : (Try.prog.info? 22).map (fun i => (i.zero, i.size, i.bytes)) = some (some (.float .f64 0), 1, 8) := by kernel_rfl
theorem undF_ : Try.prog.underlying 28 = some (.slice 22) := by kernel_rfl
theorem make_floats (n : Nat) (hn : n ≤ 35184372088832) (w : World) : (Instr.makeSlice 28 (.int .i64 (n : Int)) (.int .i64 (n : Int))).run Try.prog w = .ok (.slice (some ⟨w.heap.size, 0, none⟩) n n) (w.alloc (.cells (madeCells #[.float .f64 0] n) 22)) := by
  obtain ⟨i, hi, hz, hs, hb⟩ := info_parts infoF_
  exact run_make_row _ _ i (.float .f64 0) undF_ hi hz hs rfl _ _ n (by rw [hb]; omega) (by omega) w
theorem C8.made (s n : Nat) (hn : n = 8 * s) (w : World) : C8 w.heap.size s (fun _ _ => 0) (w.alloc (.cells (madeCells #[.float .f64 0] n) 22)) := by
  have h := World.rowIs_made w (.float .f64 0) n 22
  refine ⟨fun j u hj hu => h.cell ?_, fun o => h.frozen o⟩
  have : (j + 1) * s ≤ 8 * s := Nat.mul_le_mul_right s hj
  rw [Nat.add_mul] at this; omega
def OctP (xs : List Nat) (s K : Nat) (X Y : Nat → Int) (w : World) (e : Ending) (w' : World) : Prop := ∃ V, e = .returned V ∧ FSl V (octN xs s (fun j => argF (sc X Y j) K) 8) w' ∧ Grow w w'
/-- what the rows have while the first place is laid: rows ahead of r, and t numbers of row r -/
def F0 (xs : List Nat) (r t j u : Nat) : Nat := if j < r ∨ j = r ∧ u < t then xs.getD u 0 else 0
/-- while place k is laid in row r, whose first t numbers are laid -/
def F1 (xs : List Nat) (s k : Nat) (a : Nat → Nat) (r t j u : Nat) : Nat := if j = r ∧ u < t then xs.getD (k * s + u) 0 else xs.getD (a j * s + u) 0
/-- the choice of each row while place k is asked: rows ahead of r have been asked -/
def AK (X Y : Nat → Int) (k r j : Nat) : Nat := if j < r then argF (sc X Y j) (k + 1) else argF (sc X Y j) k
def FA (xs : List Nat) (s : Nat) (X Y : Nat → Int) (k r j u : Nat) : Nat := xs.getD (AK X Y k r j * s + u) 0
theorem F1_zero (xs : List Nat) (s : Nat) (X Y : Nat → Int) (k r j u : Nat) : FA xs s X Y k r j u = F1 xs s k (AK X Y k r) r 0 j u := by unfold F1 FA; rw [if_neg (by omega)]
theorem F1_step (xs : List Nat) (s k : Nat) (a : Nat → Nat) (r t j u : Nat) : F1 xs s k a r (t + 1) j u = if j = r ∧ u = t then xs.getD (k * s + t) 0 else F1 xs s k a r t j u := by
  unfold F1
  by_cases he : j = r ∧ u = t
  · obtain ⟨rfl, rfl⟩ := he; rw [if_pos (by omega), if_pos ⟨rfl, rfl⟩]
  · rw [if_neg he]; simp only [show (j = r ∧ u < t + 1) ↔ (j = r ∧ u < t) from by omega]
theorem FA_true {xs : List Nat} {s : Nat} {X Y : Nat → Int} {k r : Nat} (h : sc X Y r (argF (sc X Y r) k) < sc X Y r k) (j u t : Nat) (hu : u < s) (ht : t = s) : F1 xs s k (AK X Y k r) r t j u = FA xs s X Y k (r + 1) j u := by
  subst ht
  unfold F1 FA AK
  by_cases he : j = r
  · subst he
    rw [if_pos ⟨rfl, hu⟩, if_pos (by omega)]
    show _ = xs.getD ((if sc X Y j (argF (sc X Y j) k) < sc X Y j k then k else argF (sc X Y j) k) * t + u) 0
    rw [if_pos h]
  · rw [if_neg (by omega)]; simp only [show (j < r + 1) ↔ (j < r) from by omega]
theorem FA_false {xs : List Nat} {s : Nat} {X Y : Nat → Int} {k r : Nat} (h : ¬ sc X Y r (argF (sc X Y r) k) < sc X Y r k) (j u : Nat) : FA xs s X Y k r j u = FA xs s X Y k (r + 1) j u := by
  unfold FA AK
  by_cases he : j = r
  · subst he
    rw [if_neg (by omega), if_pos (by omega)]
    show _ = xs.getD ((if sc X Y j (argF (sc X Y j) k) < sc X Y j k then k else argF (sc X Y j) k) * s + u) 0
    rw [if_neg h]
  · simp only [show (j < r + 1) ↔ (j < r) from by omega]
theorem FA_next (xs : List Nat) (s : Nat) (X Y : Nat → Int) (k j u : Nat) (hj : j < 8) : FA xs s X Y k 8 j u = FA xs s X Y (k + 1) 0 j u := by
  unfold FA AK; rw [if_pos hj, if_neg (by omega)]
set_option maxRecDepth 100000 in
set_option maxHeartbeats 8000000 in
theorem octPts_calls (cb : Nat) (u : Value) (xs : List Nat) (s K : Nat) (X Y : Nat → Int) (w : World) (hcb : w.cell? ⟨cb, 1, none⟩ = some (.int .i64 s)) (hu : FSl u xs w) (hK : xs.length = K * s) (K1 : 1 ≤ K) (K60 : K ≤ 60) (s2 : 2 ≤ s) (s9 : s ≤ 9) (hi : Ints xs s K X Y) :
    Calls Try.prog 125 #[.pointer (some ⟨cb, 0, none⟩), u] w (OctP xs s K X Y w) := by
  obtain ⟨A, c, rfl, hc, hA⟩ := hu
  have hpos : s ≤ xs.length := by rw [hK]; exact Nat.le_mul_of_pos_left s (by omega)
  obtain ⟨b, o, rfl, hcell⟩ : ∃ b o, A = some ⟨b, o, none⟩ ∧ FCells w b o xs := by
    rcases hA with h | h
    · exfalso; rw [h] at hpos; simp at hpos; omega
    · exact h
  have hlen : xs.length ≤ 540 := by
    rw [hK]
    exact Nat.mul_le_mul K60 s9
  have hlb : b < w.heap.size := by
    have h := hcell 0 (xs.getD 0 0) (getD_some (by omega))
    exact cell_lt h
  have HC := Lib.hid hcell; clear hcell hA
  have HI := Lib.hid hi; clear hi
  have HK := Lib.hid hK; clear hK
  obtain ⟨n, hn⟩ : ∃ n : Nat, n = 8 * s := ⟨_, rfl⟩
  have e8 : (8 : Int) * (s : Int) = (n : Int) := by omega
  have HM := Lib.hid (C8.made s n hn w)
  have HN := Lib.hid hn; clear hn
  have hmk := make_floats n (by have := HN.out; omega)
  have hG0 : GB w.heap.size w (w.alloc (.cells (madeCells #[.float .f64 0] n) 22)) := GX.of_grow (fun _ h => h.elim) ((Grow.refl w).alloc _)
  have HG0 := Lib.hid hG0; clear hG0
  go_enter Try.func125, Try.ntmps125
  go_wp2
  clear hmk hcb
  go_loopw [7] (fun i wr => ∃ r p : Nat, i = .int .i64 p ∧ p = r * s ∧ r ≤ 8 ∧ GB w.heap.size w wr ∧ C8 w.heap.size s (F0 xs r 0) wr) (fun i _ => n - (intOf i).toNat)
  case atStart => exact ⟨0, 0, rfl, by simp, by omega, HG0.out, C8.congr HM.out (fun j u hj hu => by unfold F0; rw [if_neg (by omega)])⟩
  case round =>
    obtain ⟨r, p, rfl, hp, hr, hg, h8⟩ := hrel
    have HP := Lib.hid hp; clear hp
    have HG := Lib.hid hg; clear hg
    have H8 := Lib.hid h8; clear h8
    by_cases hlt : r < 8
    case pos =>
      have hpn : p < n := by
        have h1 := HP.out; have h2 := HN.out
        have h3 : (r + 1) * s ≤ 8 * s := Nat.mul_le_mul_right s hlt
        rw [Nat.add_mul] at h3; omega
      go_wp2
      go_loopw [33] (fun i wi => ∃ t : Nat, i = .int .i64 t ∧ t ≤ s ∧ GB w.heap.size w wi ∧ C8 w.heap.size s (F0 xs r t) wi) (fun i _ => s - (intOf i).toNat)
      case atStart => exact ⟨0, rfl, Nat.zero_le _, HG.out, H8.out⟩
      case round =>
        obtain ⟨t, rfl, ht, hg1, h81⟩ := hrel
        have HG1 := Lib.hid hg1; clear hg1
        have H81 := Lib.hid h81; clear h81
        by_cases hlt1 : t < s
        case neg =>
          have hts : t = s := by omega
          subst hts
          go_wp2
          go_roundw
          case rel => exact ⟨r + 1, p + t, by go_num, by rw [HP.out, Nat.add_mul]; omega, by omega, HG1.out, H81.out.congr (fun j u hj hu => by unfold F0; simp only [show (j < r ∨ j = r ∧ u < t) ↔ (j < r + 1 ∨ j = r + 1 ∧ u < 0) from by omega])⟩
          case measure => simp [intOf]; omega
        case pos =>
          have hx : b < w.heap.size := hlb
          have c0 := (HG1.out.cell b (o + t) hlb (by omega)).trans (HC.out t _ (getD_some (xs := xs) (by omega)))
          have c1 := H81.out.1 r t hlt hlt1
          have f1 := H81.out.2 (p + t)
          have hq : r * s + t = p + t := by rw [HP.out]
          rw [hq] at c1
          have b1 : p + t < n := by
            have h1 := HP.out; have h2 := HN.out
            have h3 : (r + 1) * s ≤ 8 * s := Nat.mul_le_mul_right s hlt
            rw [Nat.add_mul] at h3; omega
          have b2 : (t : Int) < (xs.length : Int) := by omega
          have hn72 : n ≤ 72 := by have := HN.out; omega
          have HS := Lib.hid (fun v => H81.out.set hlt hlt1 v (F0 xs r (t + 1)))
          obtain ⟨x, hxe⟩ : ∃ x, x = xs.getD t 0 := ⟨_, rfl⟩
          rw [← hxe] at c0
          have HX := Lib.hid hxe; clear hxe
          generalize F0 xs r t r t = x0 at c1
          clear hq
          go_wp2
          exact ⟨⟨t + 1, by go_num, by omega, gxSet HG1.out (Nat.le_refl _) _, by
            have h := HS.out x (fun j u hj hu => by
              unfold F0
              by_cases he : j = r ∧ u = t
              · obtain ⟨rfl, rfl⟩ := he; rw [if_pos (by omega), if_pos ⟨rfl, rfl⟩]; exact HX.out.symm
              · rw [if_neg he]; simp only [show (j < r ∨ j = r ∧ u < t + 1) ↔ (j < r ∨ j = r ∧ u < t) from by omega])
            rw [← HP.out] at h; exact h⟩, by simp [intOf]; omega⟩
    case neg =>
      have hr8 : r = 8 := by omega
      subst hr8
      have hpn : ¬ p < n := by have h1 := HP.out; have h2 := HN.out; omega
      have H9 := Lib.hid (C8.congr (F' := FA xs s X Y 1 0) H8.out (fun j u hj hu => by unfold F0 FA AK; rw [if_pos (by omega), if_neg (by omega), argF_one, Nat.zero_mul, Nat.zero_add]))
      clear HP HM HG0 H8
      go_wp2
      go_loopw [9] (fun i wr => ∃ k p : Nat, i = .int .i64 p ∧ p = k * s ∧ 1 ≤ k ∧ k ≤ K ∧ GB w.heap.size w wr ∧ C8 w.heap.size s (FA xs s X Y k 0) wr) (fun i _ => xs.length - (intOf i).toNat)
      case atStart => exact ⟨1, s, rfl, by simp, by omega, K1, HG.out, H9.out⟩
      case round =>
        clear HG H9
        obtain ⟨k, p, rfl, hp, hk1, hk, hg, h8⟩ := hrel
        have HP := Lib.hid hp; clear hp
        have HG := Lib.hid hg; clear hg
        have H8 := Lib.hid h8; clear h8
        by_cases hlt : k < K
        case neg =>
          have hkK : k = K := by omega
          subst hkK
          have hpn : ¬ p < xs.length := by have h1 := HP.out; have h2 := HK.out; omega
          have HS := Lib.hid (C8.sl (a := fun j => argF (sc X Y j) k) (by omega) (C8.congr H8.out (fun j u hj hu => by unfold FA AK; rw [if_neg (by omega)])) n (by have := HN.out; omega))
          rw [← HN.out] at HS
          go_wp2
          go_ret
          exact ⟨_, rfl, HS.out, HG.out.grow (Grow.refl _) (fun k hk => hk)⟩
        case pos =>
          have hle : p + s ≤ xs.length := by
            have h1 := HP.out; have h2 := HK.out
            have h3 : (k + 1) * s ≤ K * s := Nat.mul_le_mul_right s hlt
            rw [Nat.add_mul] at h3; omega
          obtain ⟨⟨ix, lx, ux⟩, iy, ly, uy⟩ := HI.out k hlt
          have c0 := HC.out p _ (getD_some (xs := xs) (by omega))
          have c1 := HC.out (p + 1) _ (getD_some (xs := xs) (by omega))
          rw [← HP.out] at ix iy
          generalize hxe : xs.getD p 0 = x at c0 ix
          generalize hye : xs.getD (p + 1) 0 = y at c1 iy
          clear hxe hye
          have IX := Lib.hid ix; have IY := Lib.hid iy
          have CX := Lib.hid c0; have CY := Lib.hid c1
          clear ix iy c0 c1
          have b1 : (p : Int) < (xs.length : Int) := by omega
          have b2 : (p : Int) + 1 < (xs.length : Int) := by omega
          have b3 : (0 : Int) ≤ (p : Int) + 1 := by omega
          have b4 : ((p : Int) + 1).toNat = p + 1 := by omega
          have b5 : IntKind.i64.wrap ((p : Int) + 1) = (p : Int) + 1 := IntWalk.i64_in _ ⟨by omega, by omega⟩
          have ha : argF (sc X Y 0) k < k := argF_pos _ hk1
          obtain ⟨a, hae⟩ : ∃ a, a = argF (sc X Y 0) k := ⟨_, rfl⟩
          rw [← hae] at ha
          obtain ⟨⟨jx, mx, vx⟩, jy, my, vy⟩ := HI.out a (by omega)
          have HA := Lib.hid hae
          have d0 := H8.out.1 0 0 (by omega) (by omega)
          have d1 := H8.out.1 0 1 (by omega) (by omega)
          simp only [FA, AK, Nat.lt_irrefl, if_false, Nat.add_zero] at d0 d1
          rw [← hae] at d0 d1
          generalize hxe : xs.getD (a * s) 0 = u0 at d0 jx
          generalize hye : xs.getD (a * s + 1) 0 = u1 at d1 jy
          clear hxe hye hae
          rw [Nat.zero_mul] at d0 d1
          have hmn : 0 + s ≤ n := by have := HN.out; omega
          have hn72 : n ≤ 72 := by have := HN.out; omega
          have c0 := (HG.out.cell b (o + p) hlb (by omega)).trans CX.out
          have c1 := (HG.out.cell b (o + (p + 1)) hlb (by omega)).trans CY.out
          have HT : Hid ((FloatKind.f64.format.order x u0 == some .lt) = decide (sc X Y 0 (argF (sc X Y 0) k) < sc X Y 0 k)) := by
            show _ = _
            rw [Fl.lt_V IX.out jx, ← HA.out]
            congr 1
            rw [Rat.intCast_lt_intCast]
            simp only [sc, dA, dB]
            apply propext; constructor <;> intro h <;> omega
          clear jx jy mx vx my vy
          go_upto_if 61 with fail
          go_quiet (fail)
          go_upto_if 61 with fail
          go_cut [10] from 54 to 76 (fun sv wx => GB w.heap.size w wx ∧ C8 w.heap.size s (FA xs s X Y k 1) wx)
          case first =>
            as_aux_lemma =>
            clear d0 d1 c0 c1
            cases hb : (FloatKind.f64.format.order x u0 == some .lt) with
            | true =>
              have HD := Lib.hid (of_decide_eq_true (HT.out.symm.trans hb))
              clear hb
              go_wp2_with fail
              go_loopw [63] (fun i wi => ∃ t : Nat, i = .int .i64 t ∧ t ≤ s ∧ GB w.heap.size w wi ∧ C8 w.heap.size s (F1 xs s k (AK X Y k 0) 0 t) wi) (fun i _ => s - (intOf i).toNat)
              case atStart => exact ⟨0, rfl, Nat.zero_le _, HG.out.trans (GX.of_grow (fun _ h => h.elim) ((Grow.refl _).drewN _)), C8.up (C8.congr H8.out (fun j u hj hu => F1_zero _ _ _ _ _ _ _ _)) (by omega) ((Grow.refl _).drewN _)⟩
              case round =>
                obtain ⟨t, rfl, ht, hg1, h81⟩ := hrel
                have HG1 := Lib.hid hg1; clear hg1
                have H81 := Lib.hid h81; clear h81
                by_cases hlt1 : t < s
                case neg =>
                  have H9 := Lib.hid (C8.congr H81.out (fun j u hj hu => FA_true HD.out j u t hu (by omega)))
                  go_wp2_with fail
                  go_meet
                  exact ⟨HG1.out, H9.out⟩
                case pos =>
                  have c0 := (HG1.out.cell b (o + (p + t)) hlb (by omega)).trans (HC.out (p + t) _ (getD_some (xs := xs) (by omega)))
                  have c1 := H81.out.1 0 t (by omega) hlt1
                  have f1 := H81.out.2 (t)
                  rw [Nat.zero_mul, Nat.zero_add] at c1
                  have t1 : t < n := by omega
                  have t2 : (p : Int) + (t : Int) < (xs.length : Int) := by omega
                  have HS := Lib.hid (fun v => H81.out.set (r := 0) (by omega) hlt1 v (F1 xs s k (AK X Y k 0) 0 (t + 1)))
                  obtain ⟨x, hxe⟩ : ∃ x, x = xs.getD (p + t) 0 := ⟨_, rfl⟩
                  rw [← hxe] at c0
                  have HX := Lib.hid hxe; clear hxe
                  generalize F1 xs s k (AK X Y k 0) 0 t 0 t = x0 at c1
                  go_wp2
                  exact ⟨⟨t + 1, by go_num, by omega, gxSet HG1.out (Nat.le_refl _) _, by
                    have h := HS.out x (fun j u hj hu => by rw [F1_step, ← HP.out, ← HX.out])
                    rw [Nat.zero_mul, Nat.zero_add] at h
                    exact h⟩, by simp [intOf]; omega⟩
            | false =>
              have HD := Lib.hid (of_decide_eq_false (HT.out.symm.trans hb))
              clear hb
              have H9 := Lib.hid (C8.congr H8.out (fun j u hj hu => FA_false HD.out j u))
              go_wp2_with fail
              go_meet
              exact ⟨HG.out.trans (GX.of_grow (fun _ h => h.elim) ((Grow.refl _).drewN _)), C8.up H9.out (by omega) ((Grow.refl _).drewN _)⟩
          case rest =>
          obtain ⟨hg_, h8_⟩ := hcut
          clear HG H8 HT HA ha hmn hn72 d0 d1 c0 c1
          have HG := Lib.hid hg_
          have H8 := Lib.hid h8_
          clear hg_ h8_
          have ha : argF (sc X Y 1) k < k := argF_pos _ hk1
          obtain ⟨a, hae⟩ : ∃ a, a = argF (sc X Y 1) k := ⟨_, rfl⟩
          rw [← hae] at ha
          obtain ⟨⟨jx, mx, vx⟩, jy, my, vy⟩ := HI.out a (by omega)
          have HA := Lib.hid hae
          have d0 := H8.out.1 1 0 (by omega) (by omega)
          have d1 := H8.out.1 1 1 (by omega) (by omega)
          simp only [FA, AK, Nat.lt_irrefl, if_false, Nat.add_zero] at d0 d1
          rw [← hae] at d0 d1
          generalize hxe : xs.getD (a * s) 0 = u0 at d0 jx
          generalize hye : xs.getD (a * s + 1) 0 = u1 at d1 jy
          clear hxe hye hae
          rw [Nat.one_mul] at d0 d1
          have hmn : s + s ≤ n := by have := HN.out; omega
          have hn72 : n ≤ 72 := by have := HN.out; omega
          have c0 := (HG.out.cell b (o + p) hlb (by omega)).trans CX.out
          have c1 := (HG.out.cell b (o + (p + 1)) hlb (by omega)).trans CY.out
          have a1 : (s : Int) < (n : Int) := by omega
          have a2 : (s : Int) + 1 < (n : Int) := by omega
          have a3 : (0 : Int) ≤ (s : Int) + 1 := by omega
          have a4 : ((s : Int) + 1).toNat = s + 1 := by omega
          have a5 : IntKind.i64.wrap ((s : Int) + 1) = (s : Int) + 1 := IntWalk.i64_in _ ⟨by omega, by omega⟩
          obtain ⟨z1, f1, i1⟩ := Fl.sub_I IX.out IY.out (by omega)
          obtain ⟨z2, f2, i2⟩ := Fl.sub_I jx jy (by omega)
          have g1 := fop (P := Try.prog) f1
          have g2 := fop (P := Try.prog) f2
          clear f1 f2
          have HT : Hid ((FloatKind.f64.format.order z1 z2 == some .lt) = decide (sc X Y 1 (argF (sc X Y 1) k) < sc X Y 1 k)) := by
            show _ = _
            rw [Fl.lt_V i1 i2, ← HA.out]
            congr 1
            rw [Rat.intCast_lt_intCast]
            simp only [sc, dA, dB]
            apply propext; constructor <;> intro h <;> omega
          clear jx jy mx vx my vy i1 i2
          go_upto_if 96 with fail
          go_quiet (fail)
          go_upto_if 96 with fail
          go_cut [11] from 76 to 113 (fun sv wx => GB w.heap.size w wx ∧ C8 w.heap.size s (FA xs s X Y k 2) wx)
          case first =>
            as_aux_lemma =>
            clear d0 d1 c0 c1
            cases hb : (FloatKind.f64.format.order z1 z2 == some .lt) with
            | true =>
              have HD := Lib.hid (of_decide_eq_true (HT.out.symm.trans hb))
              clear hb
              go_wp2_with fail
              go_loopw [98] (fun i wi => ∃ t : Nat, i = .int .i64 t ∧ t ≤ s ∧ GB w.heap.size w wi ∧ C8 w.heap.size s (F1 xs s k (AK X Y k 1) 1 t) wi) (fun i _ => s - (intOf i).toNat)
              case atStart => exact ⟨0, rfl, Nat.zero_le _, HG.out.trans (GX.of_grow (fun _ h => h.elim) ((Grow.refl _).drewN _)), C8.up (C8.congr H8.out (fun j u hj hu => F1_zero _ _ _ _ _ _ _ _)) (by omega) ((Grow.refl _).drewN _)⟩
              case round =>
                obtain ⟨t, rfl, ht, hg1, h81⟩ := hrel
                have HG1 := Lib.hid hg1; clear hg1
                have H81 := Lib.hid h81; clear h81
                by_cases hlt1 : t < s
                case neg =>
                  have H9 := Lib.hid (C8.congr H81.out (fun j u hj hu => FA_true HD.out j u t hu (by omega)))
                  go_wp2_with fail
                  go_meet
                  exact ⟨HG1.out, H9.out⟩
                case pos =>
                  have c0 := (HG1.out.cell b (o + (p + t)) hlb (by omega)).trans (HC.out (p + t) _ (getD_some (xs := xs) (by omega)))
                  have c1 := H81.out.1 1 t (by omega) hlt1
                  have f1 := H81.out.2 (s + t)
                  rw [Nat.one_mul] at c1
                  have t1 : s + t < n := by omega
                  have t2 : (p : Int) + (t : Int) < (xs.length : Int) := by omega
                  have HS := Lib.hid (fun v => H81.out.set (r := 1) (by omega) hlt1 v (F1 xs s k (AK X Y k 1) 1 (t + 1)))
                  obtain ⟨x, hxe⟩ : ∃ x, x = xs.getD (p + t) 0 := ⟨_, rfl⟩
                  rw [← hxe] at c0
                  have HX := Lib.hid hxe; clear hxe
                  generalize F1 xs s k (AK X Y k 1) 1 t 1 t = x0 at c1
                  go_wp2
                  exact ⟨⟨t + 1, by go_num, by omega, gxSet HG1.out (Nat.le_refl _) _, by
                    have h := HS.out x (fun j u hj hu => by rw [F1_step, ← HP.out, ← HX.out])
                    rw [Nat.one_mul] at h
                    exact h⟩, by simp [intOf]; omega⟩
            | false =>
              have HD := Lib.hid (of_decide_eq_false (HT.out.symm.trans hb))
              clear hb
              have H9 := Lib.hid (C8.congr H8.out (fun j u hj hu => FA_false HD.out j u))
              go_wp2_with fail
              go_meet
              exact ⟨HG.out.trans (GX.of_grow (fun _ h => h.elim) ((Grow.refl _).drewN _)), C8.up H9.out (by omega) ((Grow.refl _).drewN _)⟩
          case rest =>
          obtain ⟨hg_, h8_⟩ := hcut
          clear HG H8 HT HA ha hmn hn72 d0 d1 c0 c1 a1 a2 a3 a4 a5 g1 g2
          have HG := Lib.hid hg_
          have H8 := Lib.hid h8_
          clear hg_ h8_
          have ha : argF (sc X Y 2) k < k := argF_pos _ hk1
          obtain ⟨a, hae⟩ : ∃ a, a = argF (sc X Y 2) k := ⟨_, rfl⟩
          rw [← hae] at ha
          obtain ⟨⟨jx, mx, vx⟩, jy, my, vy⟩ := HI.out a (by omega)
          have HA := Lib.hid hae
          have d0 := H8.out.1 2 0 (by omega) (by omega)
          have d1 := H8.out.1 2 1 (by omega) (by omega)
          simp only [FA, AK, Nat.lt_irrefl, if_false, Nat.add_zero] at d0 d1
          rw [← hae] at d0 d1
          generalize hxe : xs.getD (a * s) 0 = u0 at d0 jx
          generalize hye : xs.getD (a * s + 1) 0 = u1 at d1 jy
          clear hxe hye hae
          obtain ⟨m, hm⟩ : ∃ m : Nat, m = 2 * s := ⟨_, rfl⟩
          have em : (2 : Int) * (s : Int) = (m : Int) := by omega
          rw [← hm] at d0 d1
          have hmn : m + s ≤ n := by have := HN.out; omega
          have HM := Lib.hid hm; clear hm
          have hn72 : n ≤ 72 := by have := HN.out; omega
          have c0 := (HG.out.cell b (o + p) hlb (by omega)).trans CX.out
          have c1 := (HG.out.cell b (o + (p + 1)) hlb (by omega)).trans CY.out
          have a1 : (m : Int) < (n : Int) := by omega
          have a2 : (m : Int) + 1 < (n : Int) := by omega
          have a3 : (0 : Int) ≤ (m : Int) + 1 := by omega
          have a4 : ((m : Int) + 1).toNat = m + 1 := by omega
          have a5 : IntKind.i64.wrap ((m : Int) + 1) = (m : Int) + 1 := IntWalk.i64_in _ ⟨by omega, by omega⟩
          have HT : Hid ((FloatKind.f64.format.order y u1 == some .gt) = decide (sc X Y 2 (argF (sc X Y 2) k) < sc X Y 2 k)) := by
            show _ = _
            rw [Fl.gt_V IY.out jy, ← HA.out]
            congr 1
            rw [Rat.intCast_lt_intCast]
            simp only [sc, dA, dB]
            apply propext; constructor <;> intro h <;> omega
          clear jx jy mx vx my vy
          go_upto_if 124 with fail
          go_quiet (fail)
          go_upto_if 124 with fail
          go_cut [12] from 113 to 142 (fun sv wx => GB w.heap.size w wx ∧ C8 w.heap.size s (FA xs s X Y k 3) wx)
          case first =>
            as_aux_lemma =>
            clear d0 d1 c0 c1
            cases hb : (FloatKind.f64.format.order y u1 == some .gt) with
            | true =>
              have HD := Lib.hid (of_decide_eq_true (HT.out.symm.trans hb))
              clear hb
              go_wp2_with fail
              go_loopw [126] (fun i wi => ∃ t : Nat, i = .int .i64 t ∧ t ≤ s ∧ GB w.heap.size w wi ∧ C8 w.heap.size s (F1 xs s k (AK X Y k 2) 2 t) wi) (fun i _ => s - (intOf i).toNat)
              case atStart => exact ⟨0, rfl, Nat.zero_le _, HG.out.trans (GX.of_grow (fun _ h => h.elim) ((Grow.refl _).drewN _)), C8.up (C8.congr H8.out (fun j u hj hu => F1_zero _ _ _ _ _ _ _ _)) (by omega) ((Grow.refl _).drewN _)⟩
              case round =>
                obtain ⟨t, rfl, ht, hg1, h81⟩ := hrel
                have HG1 := Lib.hid hg1; clear hg1
                have H81 := Lib.hid h81; clear h81
                by_cases hlt1 : t < s
                case neg =>
                  have H9 := Lib.hid (C8.congr H81.out (fun j u hj hu => FA_true HD.out j u t hu (by omega)))
                  go_wp2_with fail
                  go_meet
                  exact ⟨HG1.out, H9.out⟩
                case pos =>
                  have c0 := (HG1.out.cell b (o + (p + t)) hlb (by omega)).trans (HC.out (p + t) _ (getD_some (xs := xs) (by omega)))
                  have c1 := H81.out.1 2 t (by omega) hlt1
                  have f1 := H81.out.2 (m + t)
                  rw [← HM.out] at c1
                  have t1 : m + t < n := by omega
                  have t2 : (p : Int) + (t : Int) < (xs.length : Int) := by omega
                  have HS := Lib.hid (fun v => H81.out.set (r := 2) (by omega) hlt1 v (F1 xs s k (AK X Y k 2) 2 (t + 1)))
                  obtain ⟨x, hxe⟩ : ∃ x, x = xs.getD (p + t) 0 := ⟨_, rfl⟩
                  rw [← hxe] at c0
                  have HX := Lib.hid hxe; clear hxe
                  generalize F1 xs s k (AK X Y k 2) 2 t 2 t = x0 at c1
                  go_wp2
                  exact ⟨⟨t + 1, by go_num, by omega, gxSet HG1.out (Nat.le_refl _) _, by
                    have h := HS.out x (fun j u hj hu => by rw [F1_step, ← HP.out, ← HX.out])
                    rw [← HM.out] at h
                    exact h⟩, by simp [intOf]; omega⟩
            | false =>
              have HD := Lib.hid (of_decide_eq_false (HT.out.symm.trans hb))
              clear hb
              have H9 := Lib.hid (C8.congr H8.out (fun j u hj hu => FA_false HD.out j u))
              go_wp2_with fail
              go_meet
              exact ⟨HG.out.trans (GX.of_grow (fun _ h => h.elim) ((Grow.refl _).drewN _)), C8.up H9.out (by omega) ((Grow.refl _).drewN _)⟩
          case rest =>
          obtain ⟨hg_, h8_⟩ := hcut
          clear HG H8 HT HA ha hmn hn72 d0 d1 c0 c1 em HM a1 a2 a3 a4 a5
          have HG := Lib.hid hg_
          have H8 := Lib.hid h8_
          clear hg_ h8_
          have ha : argF (sc X Y 3) k < k := argF_pos _ hk1
          obtain ⟨a, hae⟩ : ∃ a, a = argF (sc X Y 3) k := ⟨_, rfl⟩
          rw [← hae] at ha
          obtain ⟨⟨jx, mx, vx⟩, jy, my, vy⟩ := HI.out a (by omega)
          have HA := Lib.hid hae
          have d0 := H8.out.1 3 0 (by omega) (by omega)
          have d1 := H8.out.1 3 1 (by omega) (by omega)
          simp only [FA, AK, Nat.lt_irrefl, if_false, Nat.add_zero] at d0 d1
          rw [← hae] at d0 d1
          generalize hxe : xs.getD (a * s) 0 = u0 at d0 jx
          generalize hye : xs.getD (a * s + 1) 0 = u1 at d1 jy
          clear hxe hye hae
          obtain ⟨m, hm⟩ : ∃ m : Nat, m = 3 * s := ⟨_, rfl⟩
          have em : (3 : Int) * (s : Int) = (m : Int) := by omega
          rw [← hm] at d0 d1
          have hmn : m + s ≤ n := by have := HN.out; omega
          have HM := Lib.hid hm; clear hm
          have hn72 : n ≤ 72 := by have := HN.out; omega
          have c0 := (HG.out.cell b (o + p) hlb (by omega)).trans CX.out
          have c1 := (HG.out.cell b (o + (p + 1)) hlb (by omega)).trans CY.out
          have a1 : (m : Int) < (n : Int) := by omega
          have a2 : (m : Int) + 1 < (n : Int) := by omega
          have a3 : (0 : Int) ≤ (m : Int) + 1 := by omega
          have a4 : ((m : Int) + 1).toNat = m + 1 := by omega
          have a5 : IntKind.i64.wrap ((m : Int) + 1) = (m : Int) + 1 := IntWalk.i64_in _ ⟨by omega, by omega⟩
          obtain ⟨z1, f1, i1⟩ := Fl.add_I IX.out IY.out (by omega)
          obtain ⟨z2, f2, i2⟩ := Fl.add_I jx jy (by omega)
          have g1 := fop (P := Try.prog) f1
          have g2 := fop (P := Try.prog) f2
          clear f1 f2
          have HT : Hid ((FloatKind.f64.format.order z1 z2 == some .gt) = decide (sc X Y 3 (argF (sc X Y 3) k) < sc X Y 3 k)) := by
            show _ = _
            rw [Fl.gt_V i1 i2, ← HA.out]
            congr 1
            rw [Rat.intCast_lt_intCast]
            simp only [sc, dA, dB]
            apply propext; constructor <;> intro h <;> omega
          clear jx jy mx vx my vy i1 i2
          go_upto_if 164 with fail
          go_quiet (fail)
          go_upto_if 164 with fail
          go_cut [13] from 142 to 182 (fun sv wx => GB w.heap.size w wx ∧ C8 w.heap.size s (FA xs s X Y k 4) wx)
          case first =>
            as_aux_lemma =>
            clear d0 d1 c0 c1
            cases hb : (FloatKind.f64.format.order z1 z2 == some .gt) with
            | true =>
              have HD := Lib.hid (of_decide_eq_true (HT.out.symm.trans hb))
              clear hb
              go_wp2_with fail
              go_loopw [166] (fun i wi => ∃ t : Nat, i = .int .i64 t ∧ t ≤ s ∧ GB w.heap.size w wi ∧ C8 w.heap.size s (F1 xs s k (AK X Y k 3) 3 t) wi) (fun i _ => s - (intOf i).toNat)
              case atStart => exact ⟨0, rfl, Nat.zero_le _, HG.out.trans (GX.of_grow (fun _ h => h.elim) ((Grow.refl _).drewN _)), C8.up (C8.congr H8.out (fun j u hj hu => F1_zero _ _ _ _ _ _ _ _)) (by omega) ((Grow.refl _).drewN _)⟩
              case round =>
                obtain ⟨t, rfl, ht, hg1, h81⟩ := hrel
                have HG1 := Lib.hid hg1; clear hg1
                have H81 := Lib.hid h81; clear h81
                by_cases hlt1 : t < s
                case neg =>
                  have H9 := Lib.hid (C8.congr H81.out (fun j u hj hu => FA_true HD.out j u t hu (by omega)))
                  go_wp2_with fail
                  go_meet
                  exact ⟨HG1.out, H9.out⟩
                case pos =>
                  have c0 := (HG1.out.cell b (o + (p + t)) hlb (by omega)).trans (HC.out (p + t) _ (getD_some (xs := xs) (by omega)))
                  have c1 := H81.out.1 3 t (by omega) hlt1
                  have f1 := H81.out.2 (m + t)
                  rw [← HM.out] at c1
                  have t1 : m + t < n := by omega
                  have t2 : (p : Int) + (t : Int) < (xs.length : Int) := by omega
                  have HS := Lib.hid (fun v => H81.out.set (r := 3) (by omega) hlt1 v (F1 xs s k (AK X Y k 3) 3 (t + 1)))
                  obtain ⟨x, hxe⟩ : ∃ x, x = xs.getD (p + t) 0 := ⟨_, rfl⟩
                  rw [← hxe] at c0
                  have HX := Lib.hid hxe; clear hxe
                  generalize F1 xs s k (AK X Y k 3) 3 t 3 t = x0 at c1
                  go_wp2
                  exact ⟨⟨t + 1, by go_num, by omega, gxSet HG1.out (Nat.le_refl _) _, by
                    have h := HS.out x (fun j u hj hu => by rw [F1_step, ← HP.out, ← HX.out])
                    rw [← HM.out] at h
                    exact h⟩, by simp [intOf]; omega⟩
            | false =>
              have HD := Lib.hid (of_decide_eq_false (HT.out.symm.trans hb))
              clear hb
              have H9 := Lib.hid (C8.congr H8.out (fun j u hj hu => FA_false HD.out j u))
              go_wp2_with fail
              go_meet
              exact ⟨HG.out.trans (GX.of_grow (fun _ h => h.elim) ((Grow.refl _).drewN _)), C8.up H9.out (by omega) ((Grow.refl _).drewN _)⟩
          case rest =>
          obtain ⟨hg_, h8_⟩ := hcut
          clear HG H8 HT HA ha hmn hn72 d0 d1 c0 c1 em HM a1 a2 a3 a4 a5 g1 g2
          have HG := Lib.hid hg_
          have H8 := Lib.hid h8_
          clear hg_ h8_
          have ha : argF (sc X Y 4) k < k := argF_pos _ hk1
          obtain ⟨a, hae⟩ : ∃ a, a = argF (sc X Y 4) k := ⟨_, rfl⟩
          rw [← hae] at ha
          obtain ⟨⟨jx, mx, vx⟩, jy, my, vy⟩ := HI.out a (by omega)
          have HA := Lib.hid hae
          have d0 := H8.out.1 4 0 (by omega) (by omega)
          have d1 := H8.out.1 4 1 (by omega) (by omega)
          simp only [FA, AK, Nat.lt_irrefl, if_false, Nat.add_zero] at d0 d1
          rw [← hae] at d0 d1
          generalize hxe : xs.getD (a * s) 0 = u0 at d0 jx
          generalize hye : xs.getD (a * s + 1) 0 = u1 at d1 jy
          clear hxe hye hae
          obtain ⟨m, hm⟩ : ∃ m : Nat, m = 4 * s := ⟨_, rfl⟩
          have em : (4 : Int) * (s : Int) = (m : Int) := by omega
          rw [← hm] at d0 d1
          have hmn : m + s ≤ n := by have := HN.out; omega
          have HM := Lib.hid hm; clear hm
          have hn72 : n ≤ 72 := by have := HN.out; omega
          have c0 := (HG.out.cell b (o + p) hlb (by omega)).trans CX.out
          have c1 := (HG.out.cell b (o + (p + 1)) hlb (by omega)).trans CY.out
          have a1 : (m : Int) < (n : Int) := by omega
          have a2 : (m : Int) + 1 < (n : Int) := by omega
          have a3 : (0 : Int) ≤ (m : Int) + 1 := by omega
          have a4 : ((m : Int) + 1).toNat = m + 1 := by omega
          have a5 : IntKind.i64.wrap ((m : Int) + 1) = (m : Int) + 1 := IntWalk.i64_in _ ⟨by omega, by omega⟩
          have HT : Hid ((FloatKind.f64.format.order x u0 == some .gt) = decide (sc X Y 4 (argF (sc X Y 4) k) < sc X Y 4 k)) := by
            show _ = _
            rw [Fl.gt_V IX.out jx, ← HA.out]
            congr 1
            rw [Rat.intCast_lt_intCast]
            simp only [sc, dA, dB]
            apply propext; constructor <;> intro h <;> omega
          clear jx jy mx vx my vy
          go_upto_if 191 with fail
          go_quiet (fail)
          go_upto_if 191 with fail
          go_cut [14] from 182 to 209 (fun sv wx => GB w.heap.size w wx ∧ C8 w.heap.size s (FA xs s X Y k 5) wx)
          case first =>
            as_aux_lemma =>
            clear d0 d1 c0 c1
            cases hb : (FloatKind.f64.format.order x u0 == some .gt) with
            | true =>
              have HD := Lib.hid (of_decide_eq_true (HT.out.symm.trans hb))
              clear hb
              go_wp2_with fail
              go_loopw [193] (fun i wi => ∃ t : Nat, i = .int .i64 t ∧ t ≤ s ∧ GB w.heap.size w wi ∧ C8 w.heap.size s (F1 xs s k (AK X Y k 4) 4 t) wi) (fun i _ => s - (intOf i).toNat)
              case atStart => exact ⟨0, rfl, Nat.zero_le _, HG.out.trans (GX.of_grow (fun _ h => h.elim) ((Grow.refl _).drewN _)), C8.up (C8.congr H8.out (fun j u hj hu => F1_zero _ _ _ _ _ _ _ _)) (by omega) ((Grow.refl _).drewN _)⟩
              case round =>
                obtain ⟨t, rfl, ht, hg1, h81⟩ := hrel
                have HG1 := Lib.hid hg1; clear hg1
                have H81 := Lib.hid h81; clear h81
                by_cases hlt1 : t < s
                case neg =>
                  have H9 := Lib.hid (C8.congr H81.out (fun j u hj hu => FA_true HD.out j u t hu (by omega)))
                  go_wp2_with fail
                  go_meet
                  exact ⟨HG1.out, H9.out⟩
                case pos =>
                  have c0 := (HG1.out.cell b (o + (p + t)) hlb (by omega)).trans (HC.out (p + t) _ (getD_some (xs := xs) (by omega)))
                  have c1 := H81.out.1 4 t (by omega) hlt1
                  have f1 := H81.out.2 (m + t)
                  rw [← HM.out] at c1
                  have t1 : m + t < n := by omega
                  have t2 : (p : Int) + (t : Int) < (xs.length : Int) := by omega
                  have HS := Lib.hid (fun v => H81.out.set (r := 4) (by omega) hlt1 v (F1 xs s k (AK X Y k 4) 4 (t + 1)))
                  obtain ⟨x, hxe⟩ : ∃ x, x = xs.getD (p + t) 0 := ⟨_, rfl⟩
                  rw [← hxe] at c0
                  have HX := Lib.hid hxe; clear hxe
                  generalize F1 xs s k (AK X Y k 4) 4 t 4 t = x0 at c1
                  go_wp2
                  exact ⟨⟨t + 1, by go_num, by omega, gxSet HG1.out (Nat.le_refl _) _, by
                    have h := HS.out x (fun j u hj hu => by rw [F1_step, ← HP.out, ← HX.out])
                    rw [← HM.out] at h
                    exact h⟩, by simp [intOf]; omega⟩
            | false =>
              have HD := Lib.hid (of_decide_eq_false (HT.out.symm.trans hb))
              clear hb
              have H9 := Lib.hid (C8.congr H8.out (fun j u hj hu => FA_false HD.out j u))
              go_wp2_with fail
              go_meet
              exact ⟨HG.out.trans (GX.of_grow (fun _ h => h.elim) ((Grow.refl _).drewN _)), C8.up H9.out (by omega) ((Grow.refl _).drewN _)⟩
          case rest =>
          obtain ⟨hg_, h8_⟩ := hcut
          clear HG H8 HT HA ha hmn hn72 d0 d1 c0 c1 em HM a1 a2 a3 a4 a5
          have HG := Lib.hid hg_
          have H8 := Lib.hid h8_
          clear hg_ h8_
          have ha : argF (sc X Y 5) k < k := argF_pos _ hk1
          obtain ⟨a, hae⟩ : ∃ a, a = argF (sc X Y 5) k := ⟨_, rfl⟩
          rw [← hae] at ha
          obtain ⟨⟨jx, mx, vx⟩, jy, my, vy⟩ := HI.out a (by omega)
          have HA := Lib.hid hae
          have d0 := H8.out.1 5 0 (by omega) (by omega)
          have d1 := H8.out.1 5 1 (by omega) (by omega)
          simp only [FA, AK, Nat.lt_irrefl, if_false, Nat.add_zero] at d0 d1
          rw [← hae] at d0 d1
          generalize hxe : xs.getD (a * s) 0 = u0 at d0 jx
          generalize hye : xs.getD (a * s + 1) 0 = u1 at d1 jy
          clear hxe hye hae
          obtain ⟨m, hm⟩ : ∃ m : Nat, m = 5 * s := ⟨_, rfl⟩
          have em : (5 : Int) * (s : Int) = (m : Int) := by omega
          rw [← hm] at d0 d1
          have hmn : m + s ≤ n := by have := HN.out; omega
          have HM := Lib.hid hm; clear hm
          have hn72 : n ≤ 72 := by have := HN.out; omega
          have c0 := (HG.out.cell b (o + p) hlb (by omega)).trans CX.out
          have c1 := (HG.out.cell b (o + (p + 1)) hlb (by omega)).trans CY.out
          have a1 : (m : Int) < (n : Int) := by omega
          have a2 : (m : Int) + 1 < (n : Int) := by omega
          have a3 : (0 : Int) ≤ (m : Int) + 1 := by omega
          have a4 : ((m : Int) + 1).toNat = m + 1 := by omega
          have a5 : IntKind.i64.wrap ((m : Int) + 1) = (m : Int) + 1 := IntWalk.i64_in _ ⟨by omega, by omega⟩
          obtain ⟨z1, f1, i1⟩ := Fl.sub_I IX.out IY.out (by omega)
          obtain ⟨z2, f2, i2⟩ := Fl.sub_I jx jy (by omega)
          have g1 := fop (P := Try.prog) f1
          have g2 := fop (P := Try.prog) f2
          clear f1 f2
          have HT : Hid ((FloatKind.f64.format.order z1 z2 == some .gt) = decide (sc X Y 5 (argF (sc X Y 5) k) < sc X Y 5 k)) := by
            show _ = _
            rw [Fl.gt_V i1 i2, ← HA.out]
            congr 1
            rw [Rat.intCast_lt_intCast]
            simp only [sc, dA, dB]
            apply propext; constructor <;> intro h <;> omega
          clear jx jy mx vx my vy i1 i2
          go_upto_if 231 with fail
          go_quiet (fail)
          go_upto_if 231 with fail
          go_cut [15] from 209 to 249 (fun sv wx => GB w.heap.size w wx ∧ C8 w.heap.size s (FA xs s X Y k 6) wx)
          case first =>
            as_aux_lemma =>
            clear d0 d1 c0 c1
            cases hb : (FloatKind.f64.format.order z1 z2 == some .gt) with
            | true =>
              have HD := Lib.hid (of_decide_eq_true (HT.out.symm.trans hb))
              clear hb
              go_wp2_with fail
              go_loopw [233] (fun i wi => ∃ t : Nat, i = .int .i64 t ∧ t ≤ s ∧ GB w.heap.size w wi ∧ C8 w.heap.size s (F1 xs s k (AK X Y k 5) 5 t) wi) (fun i _ => s - (intOf i).toNat)
              case atStart => exact ⟨0, rfl, Nat.zero_le _, HG.out.trans (GX.of_grow (fun _ h => h.elim) ((Grow.refl _).drewN _)), C8.up (C8.congr H8.out (fun j u hj hu => F1_zero _ _ _ _ _ _ _ _)) (by omega) ((Grow.refl _).drewN _)⟩
              case round =>
                obtain ⟨t, rfl, ht, hg1, h81⟩ := hrel
                have HG1 := Lib.hid hg1; clear hg1
                have H81 := Lib.hid h81; clear h81
                by_cases hlt1 : t < s
                case neg =>
                  have H9 := Lib.hid (C8.congr H81.out (fun j u hj hu => FA_true HD.out j u t hu (by omega)))
                  go_wp2_with fail
                  go_meet
                  exact ⟨HG1.out, H9.out⟩
                case pos =>
                  have c0 := (HG1.out.cell b (o + (p + t)) hlb (by omega)).trans (HC.out (p + t) _ (getD_some (xs := xs) (by omega)))
                  have c1 := H81.out.1 5 t (by omega) hlt1
                  have f1 := H81.out.2 (m + t)
                  rw [← HM.out] at c1
                  have t1 : m + t < n := by omega
                  have t2 : (p : Int) + (t : Int) < (xs.length : Int) := by omega
                  have HS := Lib.hid (fun v => H81.out.set (r := 5) (by omega) hlt1 v (F1 xs s k (AK X Y k 5) 5 (t + 1)))
                  obtain ⟨x, hxe⟩ : ∃ x, x = xs.getD (p + t) 0 := ⟨_, rfl⟩
                  rw [← hxe] at c0
                  have HX := Lib.hid hxe; clear hxe
                  generalize F1 xs s k (AK X Y k 5) 5 t 5 t = x0 at c1
                  go_wp2
                  exact ⟨⟨t + 1, by go_num, by omega, gxSet HG1.out (Nat.le_refl _) _, by
                    have h := HS.out x (fun j u hj hu => by rw [F1_step, ← HP.out, ← HX.out])
                    rw [← HM.out] at h
                    exact h⟩, by simp [intOf]; omega⟩
            | false =>
              have HD := Lib.hid (of_decide_eq_false (HT.out.symm.trans hb))
              clear hb
              have H9 := Lib.hid (C8.congr H8.out (fun j u hj hu => FA_false HD.out j u))
              go_wp2_with fail
              go_meet
              exact ⟨HG.out.trans (GX.of_grow (fun _ h => h.elim) ((Grow.refl _).drewN _)), C8.up H9.out (by omega) ((Grow.refl _).drewN _)⟩
          case rest =>
          obtain ⟨hg_, h8_⟩ := hcut
          clear HG H8 HT HA ha hmn hn72 d0 d1 c0 c1 em HM a1 a2 a3 a4 a5 g1 g2
          have HG := Lib.hid hg_
          have H8 := Lib.hid h8_
          clear hg_ h8_
          have ha : argF (sc X Y 6) k < k := argF_pos _ hk1
          obtain ⟨a, hae⟩ : ∃ a, a = argF (sc X Y 6) k := ⟨_, rfl⟩
          rw [← hae] at ha
          obtain ⟨⟨jx, mx, vx⟩, jy, my, vy⟩ := HI.out a (by omega)
          have HA := Lib.hid hae
          have d0 := H8.out.1 6 0 (by omega) (by omega)
          have d1 := H8.out.1 6 1 (by omega) (by omega)
          simp only [FA, AK, Nat.lt_irrefl, if_false, Nat.add_zero] at d0 d1
          rw [← hae] at d0 d1
          generalize hxe : xs.getD (a * s) 0 = u0 at d0 jx
          generalize hye : xs.getD (a * s + 1) 0 = u1 at d1 jy
          clear hxe hye hae
          obtain ⟨m, hm⟩ : ∃ m : Nat, m = 6 * s := ⟨_, rfl⟩
          have em : (6 : Int) * (s : Int) = (m : Int) := by omega
          rw [← hm] at d0 d1
          have hmn : m + s ≤ n := by have := HN.out; omega
          have HM := Lib.hid hm; clear hm
          have hn72 : n ≤ 72 := by have := HN.out; omega
          have c0 := (HG.out.cell b (o + p) hlb (by omega)).trans CX.out
          have c1 := (HG.out.cell b (o + (p + 1)) hlb (by omega)).trans CY.out
          have a1 : (m : Int) < (n : Int) := by omega
          have a2 : (m : Int) + 1 < (n : Int) := by omega
          have a3 : (0 : Int) ≤ (m : Int) + 1 := by omega
          have a4 : ((m : Int) + 1).toNat = m + 1 := by omega
          have a5 : IntKind.i64.wrap ((m : Int) + 1) = (m : Int) + 1 := IntWalk.i64_in _ ⟨by omega, by omega⟩
          have HT : Hid ((FloatKind.f64.format.order y u1 == some .lt) = decide (sc X Y 6 (argF (sc X Y 6) k) < sc X Y 6 k)) := by
            show _ = _
            rw [Fl.lt_V IY.out jy, ← HA.out]
            congr 1
            rw [Rat.intCast_lt_intCast]
            simp only [sc, dA, dB]
            apply propext; constructor <;> intro h <;> omega
          clear jx jy mx vx my vy
          go_upto_if 260 with fail
          go_quiet (fail)
          go_upto_if 260 with fail
          go_cut [16] from 249 to 278 (fun sv wx => GB w.heap.size w wx ∧ C8 w.heap.size s (FA xs s X Y k 7) wx)
          case first =>
            as_aux_lemma =>
            clear d0 d1 c0 c1
            cases hb : (FloatKind.f64.format.order y u1 == some .lt) with
            | true =>
              have HD := Lib.hid (of_decide_eq_true (HT.out.symm.trans hb))
              clear hb
              go_wp2_with fail
              go_loopw [262] (fun i wi => ∃ t : Nat, i = .int .i64 t ∧ t ≤ s ∧ GB w.heap.size w wi ∧ C8 w.heap.size s (F1 xs s k (AK X Y k 6) 6 t) wi) (fun i _ => s - (intOf i).toNat)
              case atStart => exact ⟨0, rfl, Nat.zero_le _, HG.out.trans (GX.of_grow (fun _ h => h.elim) ((Grow.refl _).drewN _)), C8.up (C8.congr H8.out (fun j u hj hu => F1_zero _ _ _ _ _ _ _ _)) (by omega) ((Grow.refl _).drewN _)⟩
              case round =>
                obtain ⟨t, rfl, ht, hg1, h81⟩ := hrel
                have HG1 := Lib.hid hg1; clear hg1
                have H81 := Lib.hid h81; clear h81
                by_cases hlt1 : t < s
                case neg =>
                  have H9 := Lib.hid (C8.congr H81.out (fun j u hj hu => FA_true HD.out j u t hu (by omega)))
                  go_wp2_with fail
                  go_meet
                  exact ⟨HG1.out, H9.out⟩
                case pos =>
                  have c0 := (HG1.out.cell b (o + (p + t)) hlb (by omega)).trans (HC.out (p + t) _ (getD_some (xs := xs) (by omega)))
                  have c1 := H81.out.1 6 t (by omega) hlt1
                  have f1 := H81.out.2 (m + t)
                  rw [← HM.out] at c1
                  have t1 : m + t < n := by omega
                  have t2 : (p : Int) + (t : Int) < (xs.length : Int) := by omega
                  have HS := Lib.hid (fun v => H81.out.set (r := 6) (by omega) hlt1 v (F1 xs s k (AK X Y k 6) 6 (t + 1)))
                  obtain ⟨x, hxe⟩ : ∃ x, x = xs.getD (p + t) 0 := ⟨_, rfl⟩
                  rw [← hxe] at c0
                  have HX := Lib.hid hxe; clear hxe
                  generalize F1 xs s k (AK X Y k 6) 6 t 6 t = x0 at c1
                  go_wp2
                  exact ⟨⟨t + 1, by go_num, by omega, gxSet HG1.out (Nat.le_refl _) _, by
                    have h := HS.out x (fun j u hj hu => by rw [F1_step, ← HP.out, ← HX.out])
                    rw [← HM.out] at h
                    exact h⟩, by simp [intOf]; omega⟩
            | false =>
              have HD := Lib.hid (of_decide_eq_false (HT.out.symm.trans hb))
              clear hb
              have H9 := Lib.hid (C8.congr H8.out (fun j u hj hu => FA_false HD.out j u))
              go_wp2_with fail
              go_meet
              exact ⟨HG.out.trans (GX.of_grow (fun _ h => h.elim) ((Grow.refl _).drewN _)), C8.up H9.out (by omega) ((Grow.refl _).drewN _)⟩
          case rest =>
          obtain ⟨hg_, h8_⟩ := hcut
          clear HG H8 HT HA ha hmn hn72 d0 d1 c0 c1 em HM a1 a2 a3 a4 a5
          have HG := Lib.hid hg_
          have H8 := Lib.hid h8_
          clear hg_ h8_
          have ha : argF (sc X Y 7) k < k := argF_pos _ hk1
          obtain ⟨a, hae⟩ : ∃ a, a = argF (sc X Y 7) k := ⟨_, rfl⟩
          rw [← hae] at ha
          obtain ⟨⟨jx, mx, vx⟩, jy, my, vy⟩ := HI.out a (by omega)
          have HA := Lib.hid hae
          have d0 := H8.out.1 7 0 (by omega) (by omega)
          have d1 := H8.out.1 7 1 (by omega) (by omega)
          simp only [FA, AK, Nat.lt_irrefl, if_false, Nat.add_zero] at d0 d1
          rw [← hae] at d0 d1
          generalize hxe : xs.getD (a * s) 0 = u0 at d0 jx
          generalize hye : xs.getD (a * s + 1) 0 = u1 at d1 jy
          clear hxe hye hae
          obtain ⟨m, hm⟩ : ∃ m : Nat, m = 7 * s := ⟨_, rfl⟩
          have em : (7 : Int) * (s : Int) = (m : Int) := by omega
          rw [← hm] at d0 d1
          have hmn : m + s ≤ n := by have := HN.out; omega
          have HM := Lib.hid hm; clear hm
          have hn72 : n ≤ 72 := by have := HN.out; omega
          have c0 := (HG.out.cell b (o + p) hlb (by omega)).trans CX.out
          have c1 := (HG.out.cell b (o + (p + 1)) hlb (by omega)).trans CY.out
          have a1 : (m : Int) < (n : Int) := by omega
          have a2 : (m : Int) + 1 < (n : Int) := by omega
          have a3 : (0 : Int) ≤ (m : Int) + 1 := by omega
          have a4 : ((m : Int) + 1).toNat = m + 1 := by omega
          have a5 : IntKind.i64.wrap ((m : Int) + 1) = (m : Int) + 1 := IntWalk.i64_in _ ⟨by omega, by omega⟩
          obtain ⟨z1, f1, i1⟩ := Fl.add_I IX.out IY.out (by omega)
          obtain ⟨z2, f2, i2⟩ := Fl.add_I jx jy (by omega)
          have g1 := fop (P := Try.prog) f1
          have g2 := fop (P := Try.prog) f2
          clear f1 f2
          have HT : Hid ((FloatKind.f64.format.order z1 z2 == some .lt) = decide (sc X Y 7 (argF (sc X Y 7) k) < sc X Y 7 k)) := by
            show _ = _
            rw [Fl.lt_V i1 i2, ← HA.out]
            congr 1
            rw [Rat.intCast_lt_intCast]
            simp only [sc, dA, dB]
            apply propext; constructor <;> intro h <;> omega
          clear jx jy mx vx my vy i1 i2
          go_upto_if 300 with fail
          go_quiet (fail)
          go_upto_if 300 with fail
          as_aux_lemma =>
            clear d0 d1 c0 c1
            cases hb : (FloatKind.f64.format.order z1 z2 == some .lt) with
            | true =>
              have HD := Lib.hid (of_decide_eq_true (HT.out.symm.trans hb))
              clear hb
              go_wp2_with fail
              go_loopw [302] (fun i wi => ∃ t : Nat, i = .int .i64 t ∧ t ≤ s ∧ GB w.heap.size w wi ∧ C8 w.heap.size s (F1 xs s k (AK X Y k 7) 7 t) wi) (fun i _ => s - (intOf i).toNat)
              case atStart => exact ⟨0, rfl, Nat.zero_le _, HG.out.trans (GX.of_grow (fun _ h => h.elim) ((Grow.refl _).drewN _)), C8.up (C8.congr H8.out (fun j u hj hu => F1_zero _ _ _ _ _ _ _ _)) (by omega) ((Grow.refl _).drewN _)⟩
              case round =>
                obtain ⟨t, rfl, ht, hg1, h81⟩ := hrel
                have HG1 := Lib.hid hg1; clear hg1
                have H81 := Lib.hid h81; clear h81
                by_cases hlt1 : t < s
                case neg =>
                  have H9 := Lib.hid (C8.congr H81.out (fun j u hj hu => FA_true HD.out j u t hu (by omega)))
                  go_wp2_with fail
                  go_roundw
                  case rel => exact ⟨k + 1, p + s, by go_num, by rw [HP.out, Nat.add_mul]; omega, by omega, by omega, HG1.out, C8.congr H9.out (fun j u hj hu => FA_next _ _ _ _ _ _ _ hj)⟩
                  case measure => simp [intOf]; omega
                case pos =>
                  have c0 := (HG1.out.cell b (o + (p + t)) hlb (by omega)).trans (HC.out (p + t) _ (getD_some (xs := xs) (by omega)))
                  have c1 := H81.out.1 7 t (by omega) hlt1
                  have f1 := H81.out.2 (m + t)
                  rw [← HM.out] at c1
                  have t1 : m + t < n := by omega
                  have t2 : (p : Int) + (t : Int) < (xs.length : Int) := by omega
                  have HS := Lib.hid (fun v => H81.out.set (r := 7) (by omega) hlt1 v (F1 xs s k (AK X Y k 7) 7 (t + 1)))
                  obtain ⟨x, hxe⟩ : ∃ x, x = xs.getD (p + t) 0 := ⟨_, rfl⟩
                  rw [← hxe] at c0
                  have HX := Lib.hid hxe; clear hxe
                  generalize F1 xs s k (AK X Y k 7) 7 t 7 t = x0 at c1
                  go_wp2
                  exact ⟨⟨t + 1, by go_num, by omega, gxSet HG1.out (Nat.le_refl _) _, by
                    have h := HS.out x (fun j u hj hu => by rw [F1_step, ← HP.out, ← HX.out])
                    rw [← HM.out] at h
                    exact h⟩, by simp [intOf]; omega⟩
            | false =>
              have HD := Lib.hid (of_decide_eq_false (HT.out.symm.trans hb))
              clear hb
              have H9 := Lib.hid (C8.congr H8.out (fun j u hj hu => FA_false HD.out j u))
              go_wp2_with fail
              go_roundw
              case rel => exact ⟨k + 1, p + s, by go_num, by rw [HP.out, Nat.add_mul]; omega, by omega, by omega, HG.out.trans (GX.of_grow (fun _ h => h.elim) ((Grow.refl _).drewN _)), C8.up (C8.congr H9.out (fun j u hj hu => FA_next _ _ _ _ _ _ _ hj)) (by omega) ((Grow.refl _).drewN _)⟩
              case measure => simp [intOf]; omega
end Go.Proofs.Ytelfjglhmccecaa
