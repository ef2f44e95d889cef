import Derived.Test.YtlkoaanagbgpkaaWhole
import Derived.Test.YtlkoaanagbgpkaaFRow
import Derived.Deep.QuietTactic
import Derived.BigQuiet
import Derived.Defers
import Derived.Recover
namespace Go.Proofs.Ytlkoaanagbgpkaa
open Go.ChangeShapes Go.WideShapes Go.ChangeAt Go.RowKit Go.GrowR
set_option linter.unusedVariables false
set_option linter.unusedSimpArgs false
/-- a list of floats that are these whole numbers, small -/
def Are (xs : List Nat) (ns : List Int) : Prop := ns.length = xs.length ∧ ∀ (i x : Nat), xs[i]? = some x → Fl.IsI x (ns.getD i 0) ∧ -1048576 ≤ ns.getD i 0 ∧ ns.getD i 0 ≤ 1048576
theorem are_of {xs : List Nat} (h : xs.all w20 = true) : ∃ ns, Are xs ns := by
  induction xs with
  | nil => exact ⟨[], rfl, by simp⟩
  | cons x xs ih =>
    rw [List.all_cons, Bool.and_eq_true] at h
    obtain ⟨ns, hl, hn⟩ := ih h.2
    obtain ⟨n, h0, h1, h2⟩ := Fl.wholeB_true h.1
    refine ⟨n :: ns, by simp [hl], fun i y hy => ?_⟩
    cases i with
    | zero => simp at hy; subst hy; exact ⟨h0, h1, h2⟩
    | succ i => simp at hy; simpa using hn i y (by simpa using hy)
def tm (ns : List Int) (s k : Nat) : Int := (ns.getD (k * s + s + 1) 0 - ns.getD (k * s + 1) 0) * (ns.getD (k * s + s) 0 + ns.getD (k * s) 0)
def area (ns : List Int) (s : Nat) : Nat → Int
  | 0 => 0
  | k + 1 => area ns s k + tm ns s k
def Small (ns : List Int) : Prop := ∀ i, -1048576 ≤ ns.getD i 0 ∧ ns.getD i 0 ≤ 1048576
theorem Are.small {xs : List Nat} {ns : List Int} (h : Are xs ns) : Small ns := fun i => by
  rcases Nat.lt_or_ge i xs.length with hi | hi
  · exact (h.2 i xs[i] (by simp [hi])).2
  · rw [List.getD_eq_getElem?_getD, List.getElem?_eq_none (by rw [h.1]; exact hi)]; simp
theorem tm_bound {ns : List Int} (h : Small ns) (s k : Nat) : -4398046511104 ≤ tm ns s k ∧ tm ns s k ≤ 4398046511104 := by
  have h1 := h (k * s + s + 1); have h2 := h (k * s + 1); have h3 := h (k * s + s); have h4 := h (k * s)
  unfold tm
  have := mul_bound (a := ns.getD (k * s + s + 1) 0 - ns.getD (k * s + 1) 0) (b := ns.getD (k * s + s) 0 + ns.getD (k * s) 0) (m := 2097152) (n := 2097152) (by omega) (by omega) (by omega) (by omega)
  omega
theorem area_bound {ns : List Int} (h : Small ns) (s : Nat) (k : Nat) : -((k : Int) * 4398046511104) ≤ area ns s k ∧ area ns s k ≤ (k : Int) * 4398046511104 := by
  induction k with
  | zero => simp [area]
  | succ k ih => have := tm_bound h s k; unfold area; omega
set_option maxRecDepth 100000 in
set_option maxHeartbeats 4000000 in
theorem doubleArea1_calls (A : Option Addr) (b o c n s K : Nat) (xs : List Nat) (ns : List Int) (w : World) (hA : n = 0 ∨ A = some ⟨b, o, none⟩) (hx : xs.length = n) (hcell : FCells w b o xs) (ha : Are xs ns) (s2 : 2 ≤ s) (s9 : s ≤ 9) (hK : n = K * s) (hn : n ≤ 2000) (hc : n ≤ c) :
    Calls Try.prog 112 #[.slice A n c, .int .i64 0, .int .i64 n, .int .i64 s] w fun e w' => ∃ z, e = .returned (.float .f64 z) ∧ Fl.IsI z (area ns s (K - 1)) ∧ Grow w w' := by
  have HC := Lib.hid hcell; clear hcell
  have HA := Lib.hid ha
  have HSM := Lib.hid ha.small; clear ha
  have HK := Lib.hid hK; clear hK
  have HAA := Lib.hid hA; clear hA
  have HX := Lib.hid hx; clear hx
  have hz : Fl.IsI 0 0 := by
    refine ⟨false, 0, -1074, by decide +kernel, by simp [Fl.dv]⟩
  have HZ := Lib.hid hz; clear hz
  go_enter Try.func112, Try.ntmps112
  go_wp2
  go_loopw [9, 10] (fun a i wr => ∃ (k p z : Nat), i = .int .i64 p ∧ p = k * s + s ∧ (k + 1 ≤ K ∨ K = 0 ∧ k = 0) ∧ a = .float .f64 z ∧ Fl.IsI z (area ns s k) ∧ Grow w wr ∧ p ≤ n + 9) (fun _ i _ => n + 9 - (intOf i).toNat)
  case atStart => exact ⟨0, s, 0, rfl, by simp, by omega, rfl, HZ.out, Grow.refl w, by omega⟩
  case round =>
    obtain ⟨k, p, z, rfl, hp, hk, rfl, hz, hg, hpn⟩ := hrel
    have HP := Lib.hid hp; clear hp
    have HZ' := Lib.hid hz; clear hz
    have HG := Lib.hid hg; clear hg
    by_cases hlt : k + 1 < K
    case neg =>
      have hge : ¬ p < n := by
        have h1 := HP.out; have h2 := HK.out
        rcases hk with hk | ⟨h0, hk⟩
        · have : K = k + 1 := by omega
          rw [this, Nat.add_mul] at h2; omega
        · rw [h0] at h2; omega
      have HKK : Hid (k = K - 1) := by show k = K - 1; omega
      clear hk
      go_wp2
      go_ret
      exact ⟨z, rfl, by rw [← HKK.out]; exact HZ'.out, HG.out⟩
    case pos =>
      have hle : k * s + s + s ≤ n := by
        have h2 := HK.out
        have h3 : (k + 2) * s ≤ K * s := Nat.mul_le_mul_right s hlt
        rw [Nat.add_mul] at h3; omega
      obtain ⟨q, hq⟩ : ∃ q, q = k * s := ⟨_, rfl⟩
      have HQ := Lib.hid hq
      have hpq : p = q + s := by have := HP.out; omega
      rw [← hq] at hle
      clear hq hk
      have hlen := HX.out
      rcases HAA.out with h0 | rfl
      · exfalso; omega
      obtain ⟨x1, hx1⟩ : ∃ x, xs[q + s + 1]? = some x := ⟨xs[q + s + 1]'(by omega), by simp⟩
      obtain ⟨x2, hx2⟩ : ∃ x, xs[q + 1]? = some x := ⟨xs[q + 1]'(by omega), by simp⟩
      obtain ⟨x3, hx3⟩ : ∃ x, xs[q + s]? = some x := ⟨xs[q + s]'(by omega), by simp⟩
      obtain ⟨x4, hx4⟩ : ∃ x, xs[q]? = some x := ⟨xs[q]'(by omega), by simp⟩
      have c1 := up_cell (HC.out _ _ hx1) HG.out
      have c2 := up_cell (HC.out _ _ hx2) HG.out
      have c3 := up_cell (HC.out _ _ hx3) HG.out
      have c4 := up_cell (HC.out _ _ hx4) HG.out
      obtain ⟨i1, l1, u1⟩ := HA.out.2 _ _ hx1
      obtain ⟨i2, l2, u2⟩ := HA.out.2 _ _ hx2
      obtain ⟨i3, l3, u3⟩ := HA.out.2 _ _ hx3
      obtain ⟨i4, l4, u4⟩ := HA.out.2 _ _ hx4
      obtain ⟨z1, f1, j1⟩ := Fl.sub_I i1 i2 (by omega)
      obtain ⟨z2, f2, j2⟩ := Fl.add_I i3 i4 (by omega)
      have htb := tm_bound HSM.out s k
      have hab := area_bound HSM.out s k
      have hkk : (k : Int) ≤ 2000 := by
        have h2 := HK.out
        have : K ≤ n := by rw [h2]; exact Nat.le_mul_of_pos_right K (by omega)
        omega
      have htm : tm ns s k = (ns.getD (q + s + 1) 0 - ns.getD (q + 1) 0) * (ns.getD (q + s) 0 + ns.getD q 0) := by unfold tm; rw [HQ.out]
      rw [htm] at htb
      obtain ⟨z3, f3, j3⟩ := Fl.mul_I j1 j2 (by omega)
      obtain ⟨z4, f4, j4⟩ := Fl.add_I HZ'.out j3 (by omega)
      have HJ : Hid (Fl.IsI z4 (area ns s (k + 1))) := by show Fl.IsI z4 (area ns s k + tm ns s k); rw [htm]; exact j4
      have g1 := fop (P := Try.prog) f1
      have g2 := fop (P := Try.prog) f2
      have g3 := fop (P := Try.prog) f3
      have g4 := fop (P := Try.prog) f4
      clear hx1 hx2 hx3 hx4 i1 i2 i3 i4 l1 l2 l3 l4 u1 u2 u3 u4 f1 f2 f3 f4 j1 j2 j3 j4 htb hab htm hkk
      subst hpq
      have e1 : (q : Int) + (s : Int) + 1 - (s : Int) = (q : Int) + 1 := by omega
      have e2 : (q : Int) + (s : Int) - (s : Int) = (q : Int) := by omega
      have b1 : (q : Int) + (s : Int) + 1 < (n : Int) := by omega
      have b2 : (q : Int) + 1 < (n : Int) := by omega
      have b3 : (q : Int) + (s : Int) < (n : Int) := by omega
      have b4 : (q : Int) < (n : Int) := by omega
      clear hlen
      go_wp2
      go_quiet (fail)
      go_wp2
      exact ⟨⟨k + 1, q + s + s, z4, by go_num, by rw [Nat.add_mul, ← HQ.out]; omega, by omega, rfl, HJ.out, HG.out.drewN _, by omega⟩, by simp [intOf]; omega⟩
theorem doorDouble_calls (A : Option Addr) (b o c n s K : Nat) (xs : List Nat) (ns : List Int) (w : World) (hA : n = 0 ∨ A = some ⟨b, o, none⟩) (hx : xs.length = n) (hcell : FCells w b o xs) (ha : Are xs ns) (s2 : 2 ≤ s) (s9 : s ≤ 9) (hK : n = K * s) (hn : n ≤ 2000) (hc : n ≤ c) :
    Calls Try.prog 77 #[.slice A n c, .int .i64 s] w fun e w' => ∃ z, e = .returned (.float .f64 z) ∧ Fl.IsI z (area ns s (K - 1)) ∧ Grow w w' := by
  have HD := Lib.hid (doubleArea1_calls A b o c n s K xs ns w hA hx hcell ha s2 s9 hK hn hc)
  clear hx hcell ha hK hA
  go_enter Try.func77, Try.ntmps77
  go_wp2_with (go_at_call 112; refine HD.out.mono ?_; rintro e w1 ⟨z, rfl, hz, hg⟩)
  go_ret
  exact ⟨z, rfl, hz, hg⟩
theorem idleDA (p0 p1 : Addr) (w : World) :
    CallsD Try.prog 76 #[.pointer (some p0), .pointer (some p1)] .returning w fun e u' w' => e = .returned (.tuple #[]) ∧ u' = .returning ∧ w' = w := by
  refine callsD_of_wpS Try.func76 rfl fun c₀ cs hu => ?_
  apply wpS_seq
  apply wpS_region
  simp [wpOpsS, go_sem, recoverD, hu, Try.ntmps76, Exit.thenS]
  refine wpS_cond (t := false) (by simp [Act.eval, Array.replicate]) ?_
  simp only [Bool.false_eq_true, if_false]
  refine wpS_of_wp ?_
  go_wp2
  cases c₀
  simp_all [bodyPostS, results, Try.results76, Exit.thenS]
def DAP (ns : List Int) (s K : Nat) (w : World) (e : Ending) (w' : World) : Prop := ∃ z, e = .returned (.tuple #[.float .f64 z, .bool true]) ∧ Fl.IsI z (area ns s (K - 1)) ∧ Grow w w'
set_option maxHeartbeats 2000000 in
theorem implDouble_calls (A : Option Addr) (b o c n s K : Nat) (xs : List Nat) (ns : List Int) (w : World) (hA : n = 0 ∨ A = some ⟨b, o, none⟩) (hx : xs.length = n) (hcell : FCells w b o xs) (ha : Are xs ns) (s2 : 2 ≤ s) (s9 : s ≤ 9) (hK : n = K * s) (hn : n ≤ 2000) (hc : n ≤ c) :
    Calls Try.prog 31 #[.slice A n c, .int .i64 s] w (DAP ns s K w) := by
  have hmf : ∀ (fn : Fn) (first cap : Array Value) (w : World), (Instr.makeFunc fn first cap).run Try.prog w = .ok (.func fn first cap) w := fun _ _ _ _ => rfl
  have HD := Lib.hid (fun w' (hg : Grow w w') => doorDouble_calls A b o c n s K xs ns w' hA hx (hcell.up hg) ha s2 s9 hK hn hc)
  clear hx hcell ha hK hA
  go_enter_defers Try.func31, Try.ntmps31
  go_wp2_with fail
  refine (HD.out _ (((Grow.refl w).alloc _).alloc _)).mono ?_
  rintro e w1 ⟨z, rfl, hz, hg⟩
  have HZ := Lib.hid hz; clear hz
  have c0 := up_cell (a := ⟨w.heap.size, 0, none⟩) (v := .float .f64 0) (by go_simp) hg
  have c1 := up_cell (a := ⟨w.heap.size + 1, 0, none⟩) (v := .bool false) (by go_simp) hg
  have f0 : w1.frozen? ⟨w.heap.size, 0, none⟩ = false := by rw [grow_frozen hg _ _ (by simp <;> omega)]; go_simp
  have f1 : w1.frozen? ⟨w.heap.size + 1, 0, none⟩ = false := by rw [grow_frozen hg _ _ (by simp <;> omega)]; go_simp
  have HG1 := Lib.hid ((((Grow.refl w).alloc _).alloc _).trans hg); clear hg
  go_wp2
  refine leaves_cons (f := 76) (args := #[.pointer (some ⟨w.heap.size, 0, none⟩), .pointer (some ⟨w.heap.size + 1, 0, none⟩)]) (by simp) (by simp [go_sem]) ?_
  refine (idleDA ⟨w.heap.size, 0, none⟩ ⟨w.heap.size + 1, 0, none⟩ _).mono ?_
  rintro e u' w'' ⟨rfl, rfl, rfl⟩
  exact ⟨.tuple #[.float .f64 z, .bool true], by simp [results, Try.results31, go_sem, c0, c1], z, rfl, HZ.out, (HG1.out.setCell (by simp) _).setCell (by simp <;> omega) _⟩
set_option maxRecDepth 100000 in
set_option maxHeartbeats 4000000 in
theorem gTwice_calls (l r : Int) (A : Option Addr) (b o c n s K : Nat) (xs : List Nat) (ns : List Int) (w : World) (hA : n = 0 ∨ A = some ⟨b, o, none⟩) (hs : strideN l = s) (hx : xs.length = n) (hcell : FCells w b o xs) (ha : Are xs ns) (s2 : 2 ≤ s) (s9 : s ≤ 9) (hK : n = K * s) (hn : n ≤ 2000) (hc : n ≤ c) :
    Calls Try.prog 32 #[GeoE 8 l r (.slice A n c) nilS nilS] w (Told' (.int .i64 (area ns s (K - 1))) w) := by
  have HC := Lib.hid (hcell.up ((Grow.refl w).alloc (Obj.cells #[.int .i64 8, .int .i64 l, .int .i64 r, .slice A n c, .slice none 0 0, .slice none 0 0, .slice none 0 0] 56))); clear hcell
  have HA := Lib.hid ha
  have HSM := Lib.hid ha.small; clear ha
  have HK := Lib.hid hK; clear hK
  have HAA := Lib.hid hA; clear hA
  have HX := Lib.hid hx; clear hx
  have HS := Lib.hid hs; clear hs
  go_enter Try.func32, Try.ntmps32
  go_wp2_with (go_at_call 35; refine (strideS _ _ _ HS.out).mono ?_; rintro e w' ⟨rfl, rfl⟩)
  go_loopw [3, 5] (fun a i wr => ∃ (k p : Nat), i = .int .i64 p ∧ p = k * s + s ∧ (k + 1 ≤ K ∨ K = 0 ∧ k = 0) ∧ a = .int .i64 (area ns s k) ∧ Grow (w.alloc (Obj.cells #[.int .i64 8, .int .i64 l, .int .i64 r, .slice A n c, .slice none 0 0, .slice none 0 0, .slice none 0 0] 56)) wr ∧ p ≤ n + 9) (fun _ i _ => n + 9 - (intOf i).toNat)
  case atStart => exact ⟨0, s, rfl, by simp, by omega, rfl, Grow.refl _, by omega⟩
  case round =>
    obtain ⟨k, p, rfl, hp, hk, rfl, hg, hpn⟩ := hrel
    have HP := Lib.hid hp; clear hp
    have HG := Lib.hid hg
    have g3 := up_cell (a := ⟨w.heap.size, 3, none⟩) (v := .slice A n c) (by go_simp) hg
    clear hg
    by_cases hlt : k + 1 < K
    case neg =>
      have hge : ¬ p < n := by
        have h1 := HP.out; have h2 := HK.out
        rcases hk with hk | ⟨h0, hk⟩
        · have : K = k + 1 := by omega
          rw [this, Nat.add_mul] at h2; omega
        · rw [h0] at h2; omega
      have HKK : Hid (k = K - 1) := by show k = K - 1; omega
      clear hk
      go_wp2
      go_ret
      exact Told'.mk (by rw [← HKK.out]; rfl) (((Grow.refl w).alloc _).trans HG.out)
    case pos =>
      have hle : k * s + s + s ≤ n := by
        have h2 := HK.out
        have h3 : (k + 2) * s ≤ K * s := Nat.mul_le_mul_right s hlt
        rw [Nat.add_mul] at h3; omega
      obtain ⟨q, hq⟩ : ∃ q, q = k * s := ⟨_, rfl⟩
      have HQ := Lib.hid hq
      have hpq : p = q + s := by have := HP.out; omega
      rw [← hq] at hle
      clear hq hk
      have hlen := HX.out
      rcases HAA.out with h0 | rfl
      · exfalso; omega
      obtain ⟨x1, hx1⟩ : ∃ x, xs[q + s + 1]? = some x := ⟨xs[q + s + 1]'(by omega), by simp⟩
      obtain ⟨x2, hx2⟩ : ∃ x, xs[q + 1]? = some x := ⟨xs[q + 1]'(by omega), by simp⟩
      obtain ⟨x3, hx3⟩ : ∃ x, xs[q + s]? = some x := ⟨xs[q + s]'(by omega), by simp⟩
      obtain ⟨x4, hx4⟩ : ∃ x, xs[q]? = some x := ⟨xs[q]'(by omega), by simp⟩
      have c1 := up_cell (HC.out _ _ hx1) HG.out
      have c2 := up_cell (HC.out _ _ hx2) HG.out
      have c3 := up_cell (HC.out _ _ hx3) HG.out
      have c4 := up_cell (HC.out _ _ hx4) HG.out
      obtain ⟨i1, l1, u1⟩ := HA.out.2 _ _ hx1
      obtain ⟨i2, l2, u2⟩ := HA.out.2 _ _ hx2
      obtain ⟨i3, l3, u3⟩ := HA.out.2 _ _ hx3
      obtain ⟨i4, l4, u4⟩ := HA.out.2 _ _ hx4
      have htb := tm_bound HSM.out s k
      have hab := area_bound HSM.out s k
      have hkk : (k : Int) ≤ 2000 := by
        have h2 := HK.out
        have : K ≤ n := by rw [h2]; exact Nat.le_mul_of_pos_right K (by omega)
        omega
      have htm : tm ns s k = (ns.getD (q + s + 1) 0 - ns.getD (q + 1) 0) * (ns.getD (q + s) 0 + ns.getD q 0) := by unfold tm; rw [HQ.out]
      rw [htm] at htb
      have HJ : Hid (area ns s (k + 1) = area ns s k + (ns.getD (q + s + 1) 0 - ns.getD (q + 1) 0) * (ns.getD (q + s) 0 + ns.getD q 0)) := by show area ns s k + tm ns s k = _; rw [htm]
      generalize ns.getD (q + s + 1) 0 = a1 at *
      generalize ns.getD (q + 1) 0 = a2 at *
      generalize ns.getD (q + s) 0 = a3 at *
      generalize ns.getD q 0 = a4 at *
      have v1 := cvI i1 (by omega) (by omega)
      have v2 := cvI i2 (by omega) (by omega)
      have v3 := cvI i3 (by omega) (by omega)
      have v4 := cvI i4 (by omega) (by omega)
      generalize area ns s k = ar at *
      have w1 := wrap_of (n := a1 - a2) (by omega) (by omega)
      have w2 := wrap_of (n := a3 + a4) (by omega) (by omega)
      have w3 := wrap_of (n := (a1 - a2) * (a3 + a4)) (by omega) (by omega)
      have w4 := wrap_of (n := ar + (a1 - a2) * (a3 + a4)) (by omega) (by omega)
      clear hx1 hx2 hx3 hx4 i1 i2 i3 i4 l1 l2 l3 l4 u1 u2 u3 u4 htb hab htm hkk
      subst hpq
      have e1 : (q : Int) + (s : Int) - (s : Int) + 1 = (q : Int) + 1 := by omega
      have e2 : (q : Int) + (s : Int) - (s : Int) = (q : Int) := by omega
      have b1 : (q : Int) + (s : Int) + 1 < (n : Int) := by omega
      have b2 : (q : Int) + 1 < (n : Int) := by omega
      have b3 : (q : Int) + (s : Int) < (n : Int) := by omega
      have b4 : (q : Int) < (n : Int) := by omega
      clear hlen
      go_wp2
      go_quiet (fail)
      go_wp2
      exact ⟨⟨k + 1, q + s + s, by go_num, by rw [Nat.add_mul, ← HQ.out]; omega, by omega, by rw [HJ.out], HG.out.drewN _, by omega⟩, by simp [intOf]; omega⟩
end Go.Proofs.Ytlkoaanagbgpkaa
