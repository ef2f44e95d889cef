import Derived.Test.YtlkoaanagbgpkaaSortC
import Derived.Defers
import Derived.Recover
namespace Go.Proofs.Ytlkoaanagbgpkaa
open Go.ChangeShapes Go.WideShapes Go.ChangeAt Go.RowKit Go.GrowR
set_option linter.unusedVariables false
set_option linter.unusedSimpArgs false
theorem idleSL (p0 p1 : Addr) (w : World) :
    CallsD Try.prog 79 #[.pointer (some p0), .pointer (some p1)] .returning w fun e u' w' => e = .returned (.tuple #[]) ∧ u' = .returning ∧ w' = w := by
  refine callsD_of_wpS Try.func79 rfl fun c₀ cs hu => ?_
  apply wpS_seq
  apply wpS_region
  simp [wpOpsS, go_sem, recoverD, hu, Try.ntmps79, Exit.thenS]
  refine wpS_cond (t := false) (by simp [Act.eval, Array.replicate]) ?_
  simp only [Bool.false_eq_true, if_false]
  refine wpS_of_wp ?_
  go_wp2
  cases c₀
  simp_all [bodyPostS, results, Try.results79, Exit.thenS]

set_option maxHeartbeats 2000000 in
theorem sortLess_calls (b o c n s i j p q x0 x1 y0 y1 : Nat) (lay : Int) (w : World) (h1 : 1 ≤ lay) (h9 : lay ≤ 9) (hs : strideN lay = s) (s2 : 2 ≤ s) (s9 : s ≤ 9) (hn : n ≤ 1000) (hc : n ≤ c) (hp : (i : Int) * (s : Int) = p) (hq : (j : Int) * (s : Int) = q) (hpn : p + s ≤ n) (hqn : q + s ≤ n)
    (h0 : w.cell? ⟨b, o + p, none⟩ = some (.float .f64 x0)) (h1' : w.cell? ⟨b, o + p + 1, none⟩ = some (.float .f64 x1)) (k0 : w.cell? ⟨b, o + q, none⟩ = some (.float .f64 y0)) (k1 : w.cell? ⟨b, o + q + 1, none⟩ = some (.float .f64 y1)) (hx : numB x0 = true) (hy : numB y0 = true) :
    Calls Try.prog 36 #[.int .i64 lay, .slice (some ⟨b, o, none⟩) n c, .int .i64 i, .int .i64 j] w fun e w' => e = .returned (.tuple #[.bool (less2 x0 x1 y0 y1), .bool true]) ∧ Grow w w' := by
  have hmf : ∀ (fn : Fn) (first cap : Array Value) (w : World), (Instr.makeFunc fn first cap).run Try.prog w = .ok (.func fn first cap) w := fun _ _ _ _ => rfl
  have HN := Lib.hid (fun w' => newFlat2 lay s (some ⟨b, o, none⟩) n c w' h1 h9 hs)
  have HL := Lib.hid (fun w' (hg : Grow w w') => less_calls b o c n s i j p q x0 x1 y0 y1 lay w' s2 s9 hn hc hp hq hpn hqn (up_cell h0 hg) (up_cell h1' hg) (up_cell k0 hg) (up_cell k1 hg) hx hy)
  clear hs h0 h1' k0 k1 hp hq
  go_enter_defers Try.func36, Try.ntmps36
  go_wp2_with fail
  refine (HN.out _).mono ?_
  rintro e w1 ⟨rfl, hg⟩
  have c0 := up_cell (a := ⟨w.heap.size, 0, none⟩) (v := .bool false) (by go_simp) hg
  have c1 := up_cell (a := ⟨w.heap.size + 1, 0, none⟩) (v := .bool false) (by go_simp) hg
  have f0 : w1.frozen? ⟨w.heap.size, 0, none⟩ = false := by rw [grow_frozen hg _ _ (by simp <;> omega)]; go_simp
  have f1 : w1.frozen? ⟨w.heap.size + 1, 0, none⟩ = false := by rw [grow_frozen hg _ _ (by simp <;> omega)]; go_simp
  have hz := hg.size
  simp at hz
  have HG1 := Lib.hid ((((Grow.refl w).alloc _).alloc _).trans hg); clear hg
  go_wp2_with fail
  refine (HL.out _ HG1.out).mono ?_
  rintro e w2 ⟨rfl, hg⟩
  have d0 := up_cell c0 hg
  have d1 := up_cell c1 hg
  have g0 : w2.frozen? ⟨w.heap.size, 0, none⟩ = false := (grow_frozen hg _ _ (by omega)).trans f0
  have g1 : w2.frozen? ⟨w.heap.size + 1, 0, none⟩ = false := (grow_frozen hg _ _ (by omega)).trans f1
  have HG2 := Lib.hid (HG1.out.trans hg); clear hg c0 c1 f0 f1
  go_wp2
  refine leaves_cons (f := 79) (args := #[.pointer (some ⟨w.heap.size, 0, none⟩), .pointer (some ⟨w.heap.size + 1, 0, none⟩)]) (by simp) (by simp [go_sem]) ?_
  refine (idleSL ⟨w.heap.size, 0, none⟩ ⟨w.heap.size + 1, 0, none⟩ _).mono ?_
  rintro e u' w'' ⟨rfl, rfl, rfl⟩
  exact ⟨.tuple #[.bool (less2 x0 x1 y0 y1), .bool true], by simp [results, Try.results36, go_sem, d0, d1], rfl, (HG2.out.setCell (by simp) _).setCell (by simp <;> omega) _⟩
theorem rows_empty (A : Option Addr) (c s : Nat) (w : World) (hs : 1 ≤ s) (hs9 : s ≤ 9) : Calls Try.prog 34 #[.slice A 0 c, .int .i64 s] w fun e w' => e = .returned (.slice none 0 0) ∧ w' = w := by
  have hd1 : decide ((s : Int) ≤ 0) = false := by simp; omega
  have hd2 : decide (s ≤ 0) = false := by simp; omega
  have hd3 : ((s : Int) ≤ 0) = False := eq_false (by omega)
  have hd4 : (s ≤ 0) = False := eq_false (by omega)
  go_enter Try.func34, Try.ntmps34
  go_wp2
  go_loop [5, 6] (fun O i => O = .slice none 0 0 ∧ i = .int .i64 0) (fun _ _ => 0)
  case atStart => exact ⟨rfl, rfl⟩
  case round =>
    obtain ⟨rfl, rfl⟩ := hrel
    go_wp2
    go_ret
    exact ⟨rfl, rfl⟩

theorem cell_lt {w : World} {a : Addr} {v : Value} (h : w.cell? a = some v) : a.block < w.heap.size := by
  rcases Nat.lt_or_ge a.block w.heap.size with h1 | h1
  · exact h1
  · unfold World.cell? at h
    rw [Array.getElem?_eq_none h1] at h
    simp at h
theorem rows_at (b o c s K k : Nat) (hk : k < K) : (rowsV b o c s K)[k]? = some (.slice (some ⟨b, o + k * s, none⟩) s (c - k * s)) := by
  unfold rowsV; rw [List.getElem?_map, List.getElem?_range hk]; rfl
theorem mul_cast (i s : Nat) : (i : Int) * (s : Int) = ((i * s : Nat) : Int) := by simp
theorem rows_div {n s : Nat} (hs : 0 < s) (h : (n : Int) % (s : Int) = 0) : n = n / s * s := by
  have h' : n % s = 0 := by omega
  have := Nat.div_add_mod n s
  rw [h'] at this; rw [Nat.mul_comm]; omega
theorem all_at {xs : List Nat} {P : Nat → Bool} (h : xs.all P = true) {k x : Nat} (hx : xs[k]? = some x) : P x = true := List.all_eq_true.1 h x (List.mem_of_getElem? hx)
set_option maxRecDepth 100000 in
set_option maxHeartbeats 4000000 in
theorem law_calls (lay : Int) (u : Value) (xs : List Nat) (i j : Int) (w : World) (hu : FSl u xs w) :
    Calls Try.prog 9 #[.int .i64 lay, u, .int .i64 i, .int .i64 j] w (Told true w) := by
  have HU := Lib.hid hu
  obtain ⟨A, c, rfl, hc, hA⟩ := hu
  have HA := Lib.hid hA; clear hA
  by_cases hn : xs.length ≤ 2147483647
  case neg =>
    go_enter Try.func9, Try.ntmps9
    go_wp2
    go_ret
    exact Told.mk rfl (Grow.refl _)
  have HK := Lib.hid (sRow_calls lay _ xs w HU.out hn)
  go_enter Try.func9, Try.ntmps9
  go_wp2_with fail
  refine HK.out.mono ?_
  rintro e w1 ⟨r, rfl, hg1, hr⟩
  have HG1 := Lib.hid hg1; clear hg1
  cases r with
  | false =>
    go_wp2
    go_ret
    exact Told.mk rfl HG1.out
  | true =>
    obtain ⟨l1, l9, hn2, hrem, hall⟩ := hr rfl
    clear hr
    obtain ⟨s, hs, s2, s9⟩ := stride_nat lay l1 l9
    rw [hs] at hrem
    have HS := Lib.hid hs; clear hs
    have HALL := Lib.hid hall; clear hall
    have hdiv := rows_div (by omega) hrem
    have HD := Lib.hid hdiv; clear hdiv hrem
    rcases HA.out with h0 | ⟨b, o, rfl, hcell⟩
    · subst h0
      go_wp2_with (first
        | (go_at_call 35; refine (strideS _ _ _ HS.out).mono ?_; rintro e w' ⟨rfl, rfl⟩)
        | (go_at_call 34; refine (rows_empty _ _ _ _ (by omega) s9).mono ?_; rintro e w' ⟨rfl, rfl⟩))
      all_goals (go_ret; exact Told.mk rfl HG1.out)
    have HC := Lib.hid hcell; clear hcell
    obtain ⟨K, hK⟩ : ∃ K, K = xs.length / s := ⟨_, rfl⟩
    rw [← hK] at HD
    have HR := Lib.hid (rows_calls b o c xs.length s K w1 (by omega) s9 HD.out hn hc)
    clear hK
    go_wp2_with fail
    refine (strideS _ _ _ HS.out).mono ?_
    rintro e w' ⟨rfl, rfl⟩
    go_wp2_with fail
    refine HR.out.mono ?_
    rintro e w2 ⟨V, rfl, hg2, hV⟩
    have HG2 := Lib.hid (HG1.out.trans hg2)
    have HV := Lib.hid hV
    obtain ⟨AV, cV, rfl, -, hVc⟩ := hV.sl
    rw [rowsV_len] at *
    have HVC := Lib.hid hVc
    clear hg2 hV hVc
    by_cases ha : i < 0
    · go_wp2
      go_ret
      exact Told.mk rfl HG2.out
    obtain ⟨i, rfl⟩ : ∃ k : Nat, i = k := ⟨i.toNat, by omega⟩
    clear ha
    by_cases ha : j < 0
    · go_wp2
      go_ret
      exact Told.mk rfl HG2.out
    obtain ⟨j, rfl⟩ : ∃ k : Nat, j = k := ⟨j.toNat, by omega⟩
    clear ha
    by_cases hi : K ≤ i
    · have hi' : decide (K ≤ i) = true := by simpa using hi
      go_wp2
      all_goals (go_ret; exact Told.mk rfl HG2.out)
    have hi' : decide (K ≤ i) = false := by simpa using hi
    by_cases hj : K ≤ j
    · have hj' : decide (K ≤ j) = true := by simpa using hj
      go_wp2
      go_ret; exact Told.mk rfl HG2.out
    have hj' : decide (K ≤ j) = false := by simpa using hj
    have bi : i * s + s ≤ xs.length := by
      have h1 := HD.out
      have h3 : (i + 1) * s ≤ K * s := Nat.mul_le_mul_right s (by omega)
      rw [Nat.add_mul] at h3; omega
    have bj : j * s + s ≤ xs.length := by
      have h1 := HD.out
      have h3 : (j + 1) * s ≤ K * s := Nat.mul_le_mul_right s (by omega)
      rw [Nat.add_mul] at h3; omega
    obtain ⟨x0, hx0⟩ : ∃ x, xs[i * s]? = some x := ⟨xs[i * s]'(by omega), by simp⟩
    obtain ⟨x1, hx1⟩ : ∃ x, xs[i * s + 1]? = some x := ⟨xs[i * s + 1]'(by omega), by simp⟩
    obtain ⟨y0, hy0⟩ : ∃ x, xs[j * s]? = some x := ⟨xs[j * s]'(by omega), by simp⟩
    obtain ⟨y1, hy1⟩ : ∃ x, xs[j * s + 1]? = some x := ⟨xs[j * s + 1]'(by omega), by simp⟩
    have nx := all_at HALL.out hx0
    have ny := all_at HALL.out hy0
    have NX := Lib.hid nx; have NY := Lib.hid ny
    have cx0 := HC.out _ _ hx0
    have cx1 := HC.out _ _ hx1
    have cy0 := HC.out _ _ hy0
    have cy1 := HC.out _ _ hy1
    rw [← Nat.add_assoc] at cx1 cy1
    have CX0 := Lib.hid cx0; have CX1 := Lib.hid cx1; have CY0 := Lib.hid cy0; have CY1 := Lib.hid cy1
    have HL := Lib.hid (sortLess_calls b o c xs.length s i j (i * s) (j * s) x0 x1 y0 y1 lay w2 l1 l9 HS.out s2 s9 hn2 hc (mul_cast i s) (mul_cast j s) bi bj (up_cell cx0 HG2.out) (up_cell cx1 HG2.out) (up_cell cy0 HG2.out) (up_cell cy1 HG2.out) nx ny)
    have hik : i < K := by omega
    have hjk : j < K := by omega
    rcases HVC.out with h0 | ⟨bV, oV, rfl, hvc⟩
    · exfalso; have := rowsV_len b o c s K; rw [h0] at this; simp at this; omega
    have ci := hvc i _ (rows_at b o c s K i hik)
    have cj := hvc j _ (rows_at b o c s K j hjk)
    have CI := Lib.hid ci; have CJ := Lib.hid cj
    clear cx0 cx1 cy0 cy1 hx0 hx1 hy0 hy1 nx ny hvc ci cj
    have i1 : (i : Int) < (K : Int) := by omega
    have j1 : (j : Int) < (K : Int) := by omega
    have i0 : (0 : Int) ≤ (i : Int) := by omega
    have j0 : (0 : Int) ≤ (j : Int) := by omega
    clear hi hj
    go_wp2_with (go_at_call 36; refine HL.out.mono ?_; rintro e w3 ⟨rfl, hg3⟩; have HG3 := Lib.hid (HG2.out.trans hg3); have c3i := up_cell CI.out hg3; have c3j := up_cell CJ.out hg3; have hlt := cell_lt c3i; clear hg3)
    refine wp_region_grow (fun i => if i = 11 then some (fun _ _ V _ => V = .bool (less2 x0 x1 y0 y1)) else none) (by kernel_rfl) (by kernel_rfl) ?_ ?_
    · intro i Φ h lo hi v
      (repeat' split at h) <;> cases h
      · exact fun _ _ h _ => h
    repeat (first
      | (refine wpGrow_skip (by rfl) ?_; simp only [Act.put, List.setIfInBounds_toArray, List.set_cons_zero, List.set_cons_succ, Nat.reduceAdd])
      | (refine wpGrow_det' (by rfl) (by rfl) ?_; apply Exists.intro; refine ⟨fun w' hc' hh => ?_, ?_⟩; (have hcell := grow_cell hc'; clear hc' hh; go_simp; rfl); simp only [Act.put, List.setIfInBounds_toArray, List.set_cons_zero, List.set_cons_succ, Nat.reduceAdd]))
    refine wpGrow_eff' (by rfl) (by rfl) (fun w' hc' hh => ?_) (fun v lo hi w' hap hc' hh hv => ?_)
    · have HB := Lib.hid (before0_calls b (o + i * s) s (c - i * s) b (o + j * s) s (c - j * s) x0 x1 y0 y1 w' s2 s2 (up_cell CX0.out (HG3.out.trans hc')) (up_cell CX1.out (HG3.out.trans hc')) (up_cell CY0.out (HG3.out.trans hc')) (up_cell CY1.out (HG3.out.trans hc')) NX.out NY.out)
      clear hc' hh
      go_simp
      go_at_call 37
      refine HB.out.mono ?_
      rintro e w4 ⟨rfl, hg⟩
      exact EffPost.mk hg rfl
    subst hv
    clear hc' hh hap w'
    simp only [Act.put, List.setIfInBounds_toArray, List.set_cons_zero, List.set_cons_succ, Nat.reduceAdd]
    repeat (first
      | (refine wpGrow_skip (by rfl) ?_; simp only [Act.put, List.setIfInBounds_toArray, List.set_cons_zero, List.set_cons_succ, Nat.reduceAdd])
      | (refine wpGrow_det' (by rfl) (by rfl) ?_; apply Exists.intro; refine ⟨fun w' hc' hh => ?_, ?_⟩; (have hcell := grow_cell hc'; clear hc' hh; go_simp; rfl); simp only [Act.put, List.setIfInBounds_toArray, List.set_cons_zero, List.set_cons_succ, Nat.reduceAdd]))
    refine wpGrow_nil ?_
    intro w4 hg4 hh
    have HG4 := Lib.hid (HG3.out.trans hg4)
    clear hg4 hh
    go_wp2
    go_ret
    exact Told.mk (by simp) HG4.out
end Go.Proofs.Ytlkoaanagbgpkaa
