import Derived.Test.YtpnmcmpeecpjeaaDoorMatF
namespace Go.Proofs.YtpnmcmpeecpjeaaDoor
open Go.ChangeShapes Go.WideShapes Go.ChangeAt Go.RowKit Go.GrowR
set_option linter.unusedVariables false
set_option linter.unusedSimpArgs false

def C9 (g : Nat) (ds : Nat → Nat) (w : World) : Prop := ∀ k, k < 9 → w.cell? ⟨g, k, none⟩ = some (.float .f64 (ds k))
theorem C9.up {g : Nat} {ds : Nat → Nat} : Up (C9 g ds) := fun _ _ h hg k hk => up_cell (h k hk) hg
def Nine (ds : Nat → Nat) (a : Nat → Int) : Prop := ∀ k, k < 9 → Fl.IsI (ds k) (a k) ∧ -1024 ≤ a k ∧ a k ≤ 1024
theorem nine_of {ds : Nat → Nat} (h : m9B ds = true) : ∃ a, Nine ds a := by
  have h1 : ∀ k, ∃ n : Int, k < 9 → Fl.IsI (ds k) n ∧ -1024 ≤ n ∧ n ≤ 1024 := by
    intro k
    by_cases hk : k < 9
    · have hm : ds k ∈ L9 ds := by rcases lit9 hk with rfl | rfl | rfl | rfl | rfl | rfl | rfl | rfl | rfl <;> simp [L9]
      obtain ⟨n, hn⟩ := Fl.wholeB_true (List.all_eq_true.1 h _ hm)
      exact ⟨n, fun _ => hn⟩
    · exact ⟨0, fun h => absurd h hk⟩
  obtain ⟨a, ha⟩ := Classical.skolem.1 h1
  exact ⟨a, ha⟩
def fbM (op : BinOp) (x y : Nat) : Nat := (floatBits op .f64 x y).getD 0
theorem fbM_some {op : BinOp} {x y z : Nat} (h : floatBits op .f64 x y = some z) : fbM op x y = z := by unfold fbM; rw [h]; rfl
def mmF (A C : Nat → Nat) (i j l : Nat) : Nat := fbM .mul (A (3 * i + l)) (C (3 * l + j))
def ssF (A C : Nat → Nat) (i j : Nat) : Nat := fbM .add (mmF A C i j 0) (mmF A C i j 1)
def ppF (A C : Nat → Nat) (k : Nat) : Nat := fbM .add (ssF A C (k / 3) (k % 3)) (mmF A C (k / 3) (k % 3) 2)
theorem mm_I {A C : Nat → Nat} {a c : Nat → Int} (hA : Nine A a) (hC : Nine C c) {i j l : Nat} (hi : i < 3) (hj : j < 3) (hl : l < 3) :
    floatBits .mul .f64 (A (3 * i + l)) (C (3 * l + j)) = some (mmF A C i j l) ∧ ∃ n, Fl.IsI (mmF A C i j l) n ∧ -1048576 ≤ n ∧ n ≤ 1048576 := by
  obtain ⟨i1, l1, u1⟩ := hA (3 * i + l) (by omega)
  obtain ⟨i2, l2, u2⟩ := hC (3 * l + j) (by omega)
  have hb := mul_bound l1 u1 l2 u2
  obtain ⟨z, f, hz⟩ := Fl.mul_I i1 i2 (by omega)
  have e : mmF A C i j l = z := fbM_some f
  rw [e]
  exact ⟨f, _, hz, by omega, by omega⟩
theorem mulF {A C : Nat → Nat} {a c : Nat → Int} (hA : Nine A a) (hC : Nine C c) : MulF A C (ppF A C) (mmF A C) (ssF A C) ∧ ∀ i j, i < 3 → j < 3 → (FloatKind.f64.format.order (ppF A C (3 * i + j)) (ppF A C (3 * i + j)) == some .eq) = true := by
  have hs : ∀ i j, i < 3 → j < 3 → floatBits .add .f64 (mmF A C i j 0) (mmF A C i j 1) = some (ssF A C i j) ∧ ∃ n, Fl.IsI (ssF A C i j) n ∧ -2097152 ≤ n ∧ n ≤ 2097152 := by
    intro i j hi hj
    obtain ⟨-, n0, h0, l0, u0⟩ := mm_I hA hC hi hj (l := 0) (by omega)
    obtain ⟨-, n1, h1, l1, u1⟩ := mm_I hA hC hi hj (l := 1) (by omega)
    obtain ⟨z, f, hz⟩ := Fl.add_I h0 h1 (by omega)
    have e : ssF A C i j = z := fbM_some f
    rw [e]
    exact ⟨f, _, hz, by omega, by omega⟩
  have hp : ∀ i j, i < 3 → j < 3 → floatBits .add .f64 (ssF A C i j) (mmF A C i j 2) = some (ppF A C (3 * i + j)) ∧ ∃ n, Fl.IsI (ppF A C (3 * i + j)) n := by
    intro i j hi hj
    obtain ⟨-, n0, h0, l0, u0⟩ := hs i j hi hj
    obtain ⟨-, n1, h1, l1, u1⟩ := mm_I hA hC hi hj (l := 2) (by omega)
    obtain ⟨z, f, hz⟩ := Fl.add_I h0 h1 (by omega)
    have e1 : (3 * i + j) / 3 = i := by omega
    have e2 : (3 * i + j) % 3 = j := by omega
    have e : ppF A C (3 * i + j) = z := by
      show fbM .add (ssF A C ((3 * i + j) / 3) ((3 * i + j) % 3)) (mmF A C ((3 * i + j) / 3) ((3 * i + j) % 3) 2) = z
      rw [e1, e2]; exact fbM_some f
    rw [e]
    exact ⟨f, _, hz⟩
  refine ⟨⟨fun i j l hi hj hl => (mm_I hA hC hi hj hl).1, fun i j hi hj => (hs i j hi hj).1, fun i j hi hj => (hp i j hi hj).1⟩, fun i j hi hj => ?_⟩
  obtain ⟨-, n, hn⟩ := hp i j hi hj
  exact Fl.eqB hn hn
set_option maxRecDepth 100000 in
set_option maxHeartbeats 8000000 in
theorem law_calls (A C : Nat → Nat) (w : World) : Calls Tryd.prog 4 #[MatV A, MatV C] w fun e w' => e = .returned (.bool true) ∧ Grow w w' := by
  have HS := Lib.hid (fun v w' h => entries_calls v [A, C] w' h (by simp))
  obtain ⟨w1, hw1⟩ : ∃ w1, w1 = ((w.alloc (Obj.cells #[.float .f64 (A 0), .float .f64 (A 1), .float .f64 (A 2), .float .f64 (A 3), .float .f64 (A 4), .float .f64 (A 5), .float .f64 (A 6), .float .f64 (A 7), .float .f64 (A 8)] 27)).alloc (Obj.cells #[.float .f64 (C 0), .float .f64 (C 1), .float .f64 (C 2), .float .f64 (C 3), .float .f64 (C 4), .float .f64 (C 5), .float .f64 (C 6), .float .f64 (C 7), .float .f64 (C 8)] 27)).alloc (Obj.cells #[.float .f64 (A 0), .float .f64 (A 1), .float .f64 (A 2), .float .f64 (A 3), .float .f64 (A 4), .float .f64 (A 5), .float .f64 (A 6), .float .f64 (A 7), .float .f64 (A 8), .float .f64 (C 0), .float .f64 (C 1), .float .f64 (C 2), .float .f64 (C 3), .float .f64 (C 4), .float .f64 (C 5), .float .f64 (C 6), .float .f64 (C 7), .float .f64 (C 8)] 27) := ⟨_, rfl⟩
  have HP : Hid (P9l (.slice (some ⟨w.heap.size + 1 + 1, 0, none⟩) 2 2) [A, C] w1) := by
    rw [hw1]
    refine ⟨_, rfl, fun i ds hi t ht => ?_⟩
    match i, hi with
    | 0, hi => cases hi; rcases lit9 ht with rfl | rfl | rfl | rfl | rfl | rfl | rfl | rfl | rfl <;> go_simp
    | 1, hi => cases hi; rcases lit9 ht with rfl | rfl | rfl | rfl | rfl | rfl | rfl | rfl | rfl <;> go_simp
  have HA1 : Hid (C9 w.heap.size A w1) := by rw [hw1]; intro k hk; rcases lit9 hk with rfl | rfl | rfl | rfl | rfl | rfl | rfl | rfl | rfl <;> go_simp
  have HC1 : Hid (C9 (w.heap.size + 1) C w1) := by rw [hw1]; intro k hk; rcases lit9 hk with rfl | rfl | rfl | rfl | rfl | rfl | rfl | rfl | rfl <;> go_simp
  have HG1 : Hid (Grow w w1) := by rw [hw1]; exact (((Grow.refl _).alloc _).alloc _).alloc _
  have HW1 := Lib.hid hw1; clear hw1
  cases hb : [A, C].all m9B with
  | false =>
    have HB := Lib.hid hb; clear hb
    go_enter Tryd.func4, Tryd.ntmps4
    go_wp2_with fail
    rw [← HW1.out]
    refine (HS.out _ _ HP.out).mono ?_
    rw [HB.out]
    rintro e w2 ⟨rfl, hg⟩
    have HG := Lib.hid (HG1.out.trans hg); clear hg
    go_wp2
    go_ret
    exact ⟨rfl, HG.out⟩
  | true =>
    have HB := Lib.hid hb
    simp only [List.all_cons, List.all_nil, Bool.and_true, Bool.and_eq_true] at hb
    obtain ⟨a, ha⟩ := nine_of hb.1
    obtain ⟨c, hc⟩ := nine_of hb.2
    obtain ⟨hF, hE⟩ := mulF ha hc
    clear hb ha hc
    have HF := Lib.hid hF; have HE := Lib.hid hE; clear hF hE
    generalize ppF A C = p at HF HE
    generalize mmF A C = mm at HF
    generalize ssF A C = ss at HF
    have HMM := Lib.hid (fun w' => matMul_calls A C p mm ss w' HF.out)
    go_enter Tryd.func4, Tryd.ntmps4
    go_wp2_with fail
    rw [← HW1.out]
    refine (HS.out _ _ HP.out).mono ?_
    rw [HB.out]
    rintro e w2 ⟨rfl, hg⟩
    have HG := Lib.hid (HG1.out.trans hg)
    have HA2 := Lib.hid (C9.up _ _ HA1.out hg); have HC2 := Lib.hid (C9.up _ _ HC1.out hg)
    clear hg
    have u0 : w2.cell? ⟨w.heap.size, 0, none⟩ = some (.float .f64 (A 0)) := HA2.out 0 (by decide)
    have v0 : w2.cell? ⟨w.heap.size + 1, 0, none⟩ = some (.float .f64 (C 0)) := HC2.out 0 (by decide)
    have u1 : w2.cell? ⟨w.heap.size, 1, none⟩ = some (.float .f64 (A 1)) := HA2.out 1 (by decide)
    have v1 : w2.cell? ⟨w.heap.size + 1, 1, none⟩ = some (.float .f64 (C 1)) := HC2.out 1 (by decide)
    have u2 : w2.cell? ⟨w.heap.size, 2, none⟩ = some (.float .f64 (A 2)) := HA2.out 2 (by decide)
    have v2 : w2.cell? ⟨w.heap.size + 1, 2, none⟩ = some (.float .f64 (C 2)) := HC2.out 2 (by decide)
    have u3 : w2.cell? ⟨w.heap.size, 3, none⟩ = some (.float .f64 (A 3)) := HA2.out 3 (by decide)
    have v3 : w2.cell? ⟨w.heap.size + 1, 3, none⟩ = some (.float .f64 (C 3)) := HC2.out 3 (by decide)
    have u4 : w2.cell? ⟨w.heap.size, 4, none⟩ = some (.float .f64 (A 4)) := HA2.out 4 (by decide)
    have v4 : w2.cell? ⟨w.heap.size + 1, 4, none⟩ = some (.float .f64 (C 4)) := HC2.out 4 (by decide)
    have u5 : w2.cell? ⟨w.heap.size, 5, none⟩ = some (.float .f64 (A 5)) := HA2.out 5 (by decide)
    have v5 : w2.cell? ⟨w.heap.size + 1, 5, none⟩ = some (.float .f64 (C 5)) := HC2.out 5 (by decide)
    have u6 : w2.cell? ⟨w.heap.size, 6, none⟩ = some (.float .f64 (A 6)) := HA2.out 6 (by decide)
    have v6 : w2.cell? ⟨w.heap.size + 1, 6, none⟩ = some (.float .f64 (C 6)) := HC2.out 6 (by decide)
    have u7 : w2.cell? ⟨w.heap.size, 7, none⟩ = some (.float .f64 (A 7)) := HA2.out 7 (by decide)
    have v7 : w2.cell? ⟨w.heap.size + 1, 7, none⟩ = some (.float .f64 (C 7)) := HC2.out 7 (by decide)
    have u8 : w2.cell? ⟨w.heap.size, 8, none⟩ = some (.float .f64 (A 8)) := HA2.out 8 (by decide)
    have v8 : w2.cell? ⟨w.heap.size + 1, 8, none⟩ = some (.float .f64 (C 8)) := HC2.out 8 (by decide)
    go_wp2_with fail
    refine (HMM.out _).mono ?_
    rintro e w3 ⟨rfl, hg⟩
    have HG3 := Lib.hid (HG.out.trans hg)
    have HA3 := Lib.hid (C9.up _ _ HA2.out hg); have HC3 := Lib.hid (C9.up _ _ HC2.out hg)
    clear hg u0 v0 u1 v1 u2 v2 u3 v3 u4 v4 u5 v5 u6 v6 u7 v7 u8 v8
    go_wp2
    go_loopw [6] (fun i wr => ∃ k : Nat, i = .int .i64 k ∧ k ≤ 3 ∧ Grow w wr ∧ C9 w3.heap.size p wr ∧ C9 w.heap.size A wr ∧ C9 (w.heap.size + 1) C wr) (fun i _ => 3 - (intOf i).toNat)
    case atStart =>
      refine ⟨0, rfl, Nat.zero_le _, HG3.out.alloc _, fun k hk => ?_, C9.up _ _ HA3.out ((Grow.refl _).alloc _), C9.up _ _ HC3.out ((Grow.refl _).alloc _)⟩
      rcases lit9 hk with rfl | rfl | rfl | rfl | rfl | rfl | rfl | rfl | rfl <;> go_simp
    case round =>
      clear HA3 HC3
      obtain ⟨i, rfl, hi, hg, h9, hA, hC⟩ := hrel
      have HG4 := Lib.hid hg; have H9 := Lib.hid h9; have HA := Lib.hid hA; have HC := Lib.hid hC
      clear hg h9 hA hC
      by_cases hi3 : i < 3
      case neg =>
        have e : i = 3 := by omega
        subst e
        go_wp2
        go_ret
        exact ⟨rfl, HG4.out⟩
      case pos =>
        clear hi
        go_wp2
        try rw [show decide ((i : Int) < 3) = true from decide_eq_true (by omega)]
        have HI3 := Lib.hid hi3
        clear hi3
        go_loopw [7] (fun v wr => ∃ j : Nat, v = .int .i64 j ∧ j ≤ 3 ∧ Grow w wr ∧ C9 w3.heap.size p wr ∧ C9 w.heap.size A wr ∧ C9 (w.heap.size + 1) C wr) (fun v _ => 3 - (intOf v).toNat)
        case atStart => exact ⟨0, rfl, Nat.zero_le _, HG4.out, H9.out, HA.out, HC.out⟩
        case round =>
          clear HG4 H9 HA HC
          obtain ⟨j, rfl, hj, hg, h9, hA, hC⟩ := hrel
          have HG4 := Lib.hid hg; have H9 := Lib.hid h9; have HA := Lib.hid hA; have HC := Lib.hid hC
          clear hg h9 hA hC
          by_cases hj3 : j < 3
          case neg =>
            have e : j = 3 := by omega
            subst e
            go_wp2
            exact ⟨⟨i + 1, by go_num, HI3.out, HG4.out, H9.out, HA.out, HC.out⟩, by have := HI3.out; simp [intOf]; omega⟩
          case pos =>
            clear hj
            have c0 := H9.out (3 * i + j) (by have := HI3.out; omega)
            have x0 := HA.out (3 * i) (by have := HI3.out; omega)
            have x1 := HA.out (3 * i + 1) (by have := HI3.out; omega)
            have x2 := HA.out (3 * i + 2) (by have := HI3.out; omega)
            have y0 := HC.out j (by omega)
            have y1 := HC.out (3 + j) (by omega)
            have y2 := HC.out (6 + j) (by omega)
            have f0 : floatBits .mul .f64 (A (3 * i)) (C j) = some (mm i j 0) := by simpa using HF.out.1 i j 0 HI3.out hj3 (by decide)
            have f1 : floatBits .mul .f64 (A (3 * i + 1)) (C (3 + j)) = some (mm i j 1) := by simpa using HF.out.1 i j 1 HI3.out hj3 (by decide)
            have f2 : floatBits .mul .f64 (A (3 * i + 2)) (C (6 + j)) = some (mm i j 2) := by simpa using HF.out.1 i j 2 HI3.out hj3 (by decide)
            have f3 := HF.out.2.1 i j HI3.out hj3
            have f4 := HF.out.2.2 i j HI3.out hj3
            have HEE := Lib.hid (HE.out i j HI3.out hj3)
            have g0 := fop (P := Tryd.prog) f0; have g1 := fop (P := Tryd.prog) f1; have g2 := fop (P := Tryd.prog) f2; have g3 := fop (P := Tryd.prog) f3; have g4 := fop (P := Tryd.prog) f4
            clear f0 f1 f2 f3 f4
            generalize p (3 * i + j) = pp at *
            generalize A (3 * i) = a0 at *
            generalize A (3 * i + 1) = a1 at *
            generalize A (3 * i + 2) = a2 at *
            generalize C j = k0 at *
            generalize C (3 + j) = k1 at *
            generalize C (6 + j) = k2 at *
            have b1 : 3 * i + j < 9 := by have := HI3.out; omega
            have b2 : 3 * i < 9 := by have := HI3.out; omega
            have b3 : 3 * i + 1 < 9 := by have := HI3.out; omega
            have b4 : 3 * i + 2 < 9 := by have := HI3.out; omega
            have b5 : j < 9 := by omega
            have b6 : 3 + j < 9 := by omega
            have b7 : 6 + j < 9 := by omega
            have HJ4 : Hid (j + 1 ≤ 3) := hj3
            go_wp2
            go_quiet (fail)
            cases hb : (FloatKind.f64.format.order pp pp != some .eq) with
            | true => have h := HEE.out; rw [bne, h] at hb; cases hb
            | false =>
              go_wp2
              exact ⟨⟨j + 1, by go_num, HJ4.out, HG4.out.drewN _, C9.up _ _ H9.out ((Grow.refl _).drewN _), C9.up _ _ HA.out ((Grow.refl _).drewN _), C9.up _ _ HC.out ((Grow.refl _).drewN _)⟩, by have := HJ4.out; simp [intOf]; omega⟩
end Go.Proofs.YtpnmcmpeecpjeaaDoor
