import Derived.Test.YtpnmcmpeecpjeaaDoorMatG
import Derived.Test.YtpnmcmpeecpjeaaDoorMatI
import Derived.Test.YtpnmcmpeecpjeaaDoorEqS
import Derived.ChangeKeysEq
namespace Go.Proofs.YtpnmcmpeecpjeaaDoor
open Go.ChangeShapes Go.WideShapes Go.ChangeAt Go.RowKit Go.GrowR
set_option linter.unusedVariables false
set_option linter.unusedSimpArgs false

def NB (ds : Nat → Nat) (a : Nat → Int) (M : Int) : Prop := ∀ k, k < 9 → Fl.IsI (ds k) (a k) ∧ -M ≤ a k ∧ a k ≤ M
def fbM (op : BinOp) (x y : Nat) : Nat := (floatBits op .f64 x y).getD 0
theorem fbM_some {op : BinOp} {x y z : Nat} (h : floatBits op .f64 x y = some z) : fbM op x y = z := by unfold fbM; rw [h]; rfl
def mmF (A C : Nat → Nat) (i j l : Nat) : Nat := fbM .mul (A (3 * i + l)) (C (3 * l + j))
def ssF (A C : Nat → Nat) (i j : Nat) : Nat := fbM .add (mmF A C i j 0) (mmF A C i j 1)
def ppF (A C : Nat → Nat) (k : Nat) : Nat := fbM .add (ssF A C (k / 3) (k % 3)) (mmF A C (k / 3) (k % 3) 2)
def mulZ (a c : Nat → Int) (k : Nat) : Int := a (3 * (k / 3)) * c (k % 3) + a (3 * (k / 3) + 1) * c (3 + k % 3) + a (3 * (k / 3) + 2) * c (6 + k % 3)
theorem mulG {A C : Nat → Nat} {a c : Nat → Int} {M N R : Int} (hA : NB A a M) (hC : NB C c N) (hR : M * N = R) (hb : R ≤ 1000000000000) (hR0 : 0 ≤ R) : MulF A C (ppF A C) (mmF A C) (ssF A C) ∧ NB (ppF A C) (mulZ a c) (3 * R) := by
  have hm : ∀ i j l, i < 3 → j < 3 → l < 3 → floatBits .mul .f64 (A (3 * i + l)) (C (3 * l + j)) = some (mmF A C i j l) ∧ Fl.IsI (mmF A C i j l) (a (3 * i + l) * c (3 * l + j)) ∧ -R ≤ a (3 * i + l) * c (3 * l + j) ∧ a (3 * i + l) * c (3 * l + j) ≤ R := by
    intro i j l hi hj hl
    obtain ⟨i1, l1, u1⟩ := hA (3 * i + l) (by omega)
    obtain ⟨i2, l2, u2⟩ := hC (3 * l + j) (by omega)
    have h := mul_bound l1 u1 l2 u2
    rw [hR] at h
    obtain ⟨z, f, hz⟩ := Fl.mul_I i1 i2 (by omega)
    have e : mmF A C i j l = z := fbM_some f
    rw [e]
    exact ⟨f, hz, h⟩
  have hs : ∀ i j, i < 3 → j < 3 → floatBits .add .f64 (mmF A C i j 0) (mmF A C i j 1) = some (ssF A C i j) ∧ Fl.IsI (ssF A C i j) (a (3 * i + 0) * c (3 * 0 + j) + a (3 * i + 1) * c (3 * 1 + j)) := by
    intro i j hi hj
    obtain ⟨-, h0, l0, u0⟩ := hm i j 0 hi hj (by omega)
    obtain ⟨-, h1, l1, u1⟩ := hm i j 1 hi hj (by omega)
    obtain ⟨z, f, hz⟩ := Fl.add_I h0 h1 (by omega)
    have e : ssF A C i j = z := fbM_some f
    rw [e]
    exact ⟨f, hz⟩
  have hp : ∀ i j, i < 3 → j < 3 → floatBits .add .f64 (ssF A C i j) (mmF A C i j 2) = some (ppF A C (3 * i + j)) ∧ Fl.IsI (ppF A C (3 * i + j)) (mulZ a c (3 * i + j)) ∧ -(3 * R) ≤ mulZ a c (3 * i + j) ∧ mulZ a c (3 * i + j) ≤ 3 * R := by
    intro i j hi hj
    obtain ⟨-, -, l0, u0⟩ := hm i j 0 hi hj (by omega)
    obtain ⟨-, -, l1, u1⟩ := hm i j 1 hi hj (by omega)
    obtain ⟨-, h0⟩ := hs i j hi hj
    obtain ⟨-, h2, l2, u2⟩ := hm i j 2 hi hj (by omega)
    obtain ⟨z, f, hz⟩ := Fl.add_I h0 h2 (by omega)
    have e1 : (3 * i + j) / 3 = i := by omega
    have e2 : (3 * i + j) % 3 = j := by omega
    have e : ppF A C (3 * i + j) = z := by
      show fbM .add (ssF A C ((3 * i + j) / 3) ((3 * i + j) % 3)) (mmF A C ((3 * i + j) / 3) ((3 * i + j) % 3) 2) = z
      rw [e1, e2]; exact fbM_some f
    have ez : mulZ a c (3 * i + j) = a (3 * i + 0) * c (3 * 0 + j) + a (3 * i + 1) * c (3 * 1 + j) + a (3 * i + 2) * c (3 * 2 + j) := by
      unfold mulZ; rw [e1, e2]; simp
    rw [e, ez]
    exact ⟨f, hz, by omega, by omega⟩
  refine ⟨⟨fun i j l hi hj hl => (hm i j l hi hj hl).1, fun i j hi hj => (hs i j hi hj).1, fun i j hi hj => (hp i j hi hj).1⟩, fun k hk => ?_⟩
  have e : k = 3 * (k / 3) + k % 3 := by omega
  have h := (hp (k / 3) (k % 3) (by omega) (by omega)).2
  rw [← e] at h
  exact h
def aaF (A C : Nat → Nat) (k : Nat) : Nat := fbM .add (A k) (C k)
theorem addG {A C : Nat → Nat} {a c : Nat → Int} {M N : Int} (hA : NB A a M) (hC : NB C c N) (h1 : M + N ≤ 1000000000000) : AddF A C (aaF A C) ∧ NB (aaF A C) (fun k => a k + c k) (M + N) := by
  have h : ∀ k, k < 9 → floatBits .add .f64 (A k) (C k) = some (aaF A C k) ∧ Fl.IsI (aaF A C k) (a k + c k) ∧ -(M + N) ≤ a k + c k ∧ a k + c k ≤ M + N := by
    intro k hk
    obtain ⟨i1, l1, u1⟩ := hA k hk
    obtain ⟨i2, l2, u2⟩ := hC k hk
    obtain ⟨z, f, hz⟩ := Fl.add_I i1 i2 (by omega)
    have e : aaF A C k = z := fbM_some f
    rw [e]
    exact ⟨f, hz, by omega, by omega⟩
  exact ⟨fun k hk => (h k hk).1, fun k hk => (h k hk).2⟩
def qqF (A x : Nat → Nat) (i j : Nat) : Nat := fbM .mul (x j) (A (3 * i + j))
def ttF (A x : Nat → Nat) (i : Nat) : Nat := fbM .add (qqF A x i 0) (qqF A x i 1)
def vvF (A x : Nat → Nat) (i : Nat) : Nat := fbM .add (ttF A x i) (qqF A x i 2)
def VB (x : Nat → Nat) (ξ : Nat → Int) (M : Int) : Prop := ∀ j, j < 3 → Fl.IsI (x j) (ξ j) ∧ -M ≤ ξ j ∧ ξ j ≤ M
def vecZ (a ξ : Nat → Int) (i : Nat) : Int := ξ 0 * a (3 * i) + ξ 1 * a (3 * i + 1) + ξ 2 * a (3 * i + 2)
theorem vecG {A x : Nat → Nat} {a ξ : Nat → Int} {M N R : Int} (hA : NB A a M) (hx : VB x ξ N) (hR : N * M = R) (hb : R ≤ 1000000000000) (hR0 : 0 ≤ R) : VecF A x (vvF A x) (qqF A x) (ttF A x) ∧ VB (vvF A x) (vecZ a ξ) (3 * R) := by
  have hm : ∀ i j, i < 3 → j < 3 → floatBits .mul .f64 (x j) (A (3 * i + j)) = some (qqF A x i j) ∧ Fl.IsI (qqF A x i j) (ξ j * a (3 * i + j)) ∧ -R ≤ ξ j * a (3 * i + j) ∧ ξ j * a (3 * i + j) ≤ R := by
    intro i j hi hj
    obtain ⟨i1, l1, u1⟩ := hA (3 * i + j) (by omega)
    obtain ⟨i2, l2, u2⟩ := hx j hj
    have h := mul_bound l2 u2 l1 u1
    rw [hR] at h
    obtain ⟨z, f, hz⟩ := Fl.mul_I i2 i1 (by omega)
    have e : qqF A x i j = z := fbM_some f
    rw [e]
    exact ⟨f, hz, h⟩
  have hs : ∀ i, i < 3 → floatBits .add .f64 (qqF A x i 0) (qqF A x i 1) = some (ttF A x i) ∧ Fl.IsI (ttF A x i) (ξ 0 * a (3 * i + 0) + ξ 1 * a (3 * i + 1)) := by
    intro i hi
    obtain ⟨-, h0, l0, u0⟩ := hm i 0 hi (by omega)
    obtain ⟨-, h1, l1, u1⟩ := hm i 1 hi (by omega)
    obtain ⟨z, f, hz⟩ := Fl.add_I h0 h1 (by omega)
    have e : ttF A x i = z := fbM_some f
    rw [e]
    exact ⟨f, hz⟩
  have hp : ∀ i, i < 3 → floatBits .add .f64 (ttF A x i) (qqF A x i 2) = some (vvF A x i) ∧ Fl.IsI (vvF A x i) (vecZ a ξ i) ∧ -(3 * R) ≤ vecZ a ξ i ∧ vecZ a ξ i ≤ 3 * R := by
    intro i hi
    obtain ⟨-, -, l0, u0⟩ := hm i 0 hi (by omega)
    obtain ⟨-, -, l1, u1⟩ := hm i 1 hi (by omega)
    obtain ⟨-, h0⟩ := hs i hi
    obtain ⟨-, h2, l2, u2⟩ := hm i 2 hi (by omega)
    obtain ⟨z, f, hz⟩ := Fl.add_I h0 h2 (by omega)
    have e : vvF A x i = z := fbM_some f
    have ez : vecZ a ξ i = ξ 0 * a (3 * i + 0) + ξ 1 * a (3 * i + 1) + ξ 2 * a (3 * i + 2) := by unfold vecZ; simp
    rw [e, ez]
    exact ⟨f, hz, by omega, by omega⟩
  exact ⟨⟨fun i j hi hj => (hm i j hi hj).1, fun i hi => (hs i hi).1, fun i hi => (hp i hi).1⟩, fun i hi => (hp i hi).2⟩
theorem mulZ_assoc (a c d : Nat → Int) (k : Nat) (hk : k < 9) : mulZ (mulZ a c) d k = mulZ a (mulZ c d) k := by
  rcases lit9 hk with rfl | rfl | rfl | rfl | rfl | rfl | rfl | rfl | rfl <;> (simp [mulZ]; grind)
theorem mulZ_add (a c d : Nat → Int) (k : Nat) (hk : k < 9) : mulZ a (fun k => c k + d k) k = mulZ a c k + mulZ a d k := by
  rcases lit9 hk with rfl | rfl | rfl | rfl | rfl | rfl | rfl | rfl | rfl <;> (simp [mulZ]; grind)
theorem vecZ_mul (a c d ξ : Nat → Int) (i : Nat) (hi : i < 3) : vecZ (mulZ (mulZ a c) d) ξ i = vecZ a (vecZ c (vecZ d ξ)) i := by
  rcases lit3 hi with rfl | rfl | rfl <;> (simp [mulZ, vecZ]; grind)
/-- '==' on arrays of nine floats -/
def eq9 (A C : Nat → Nat) : Bool := (List.range 9).all fun k => eqF (A k) (C k)
theorem infoF9 : (Tryd.prog.info? 22).map (fun i => (i.zero, i.size, i.bytes)) = some (some (.float .f64 0), 1, 8) := by kernel_rfl
theorem run_items (A C : Nat → Nat) (w : World) : ∀ (is : List Nat), (∀ i ∈ is, i < 9) → (Op.eqItems 9999 22 1 #[.float .f64 (A 0), .float .f64 (A 1), .float .f64 (A 2), .float .f64 (A 3), .float .f64 (A 4), .float .f64 (A 5), .float .f64 (A 6), .float .f64 (A 7), .float .f64 (A 8)] #[.float .f64 (C 0), .float .f64 (C 1), .float .f64 (C 2), .float .f64 (C 3), .float .f64 (C 4), .float .f64 (C 5), .float .f64 (C 6), .float .f64 (C 7), .float .f64 (C 8)] is).run Tryd.prog w = .ok (is.all fun k => eqF (A k) (C k)) w
  | [], _ => by simp [Op.eqItems]
  | i :: is, h => by
    have ih := run_items A C w is (fun j hj => h j (List.mem_cons_of_mem _ hj))
    have hi : i < 9 := h i (List.mem_cons_self ..)
    have p1 := run_part_f (P := Tryd.prog) (tf := 22) Tryd.underlying22 infoF9 #[.float .f64 (A 0), .float .f64 (A 1), .float .f64 (A 2), .float .f64 (A 3), .float .f64 (A 4), .float .f64 (A 5), .float .f64 (A 6), .float .f64 (A 7), .float .f64 (A 8)] i (A i) w (by rcases lit9 hi with rfl | rfl | rfl | rfl | rfl | rfl | rfl | rfl | rfl <;> rfl)
    have p2 := run_part_f (P := Tryd.prog) (tf := 22) Tryd.underlying22 infoF9 #[.float .f64 (C 0), .float .f64 (C 1), .float .f64 (C 2), .float .f64 (C 3), .float .f64 (C 4), .float .f64 (C 5), .float .f64 (C 6), .float .f64 (C 7), .float .f64 (C 8)] i (C i) w (by rcases lit9 hi with rfl | rfl | rfl | rfl | rfl | rfl | rfl | rfl | rfl <;> rfl)
    have p3 := run_equalIn_f (P := Tryd.prog) (tf := 22) Tryd.underlying22 9998 (A i) (C i) w
    unfold Op.eqItems
    rw [Nat.mul_one, Sem.run_bind, p1, Result.andThen_ok, Sem.run_bind, p2, Result.andThen_ok, Sem.run_bind, p3, Result.andThen_ok]
    cases he : eqF (A i) (C i)
    · simp [he]
    · simp [he, ih]
theorem run_eq9 (A C : Nat → Nat) (w : World) : (Op.equalIn 10000 27 (MatV A) (MatV C)).run Tryd.prog w = .ok (eq9 A C) w := by
  obtain ⟨i, hi, -⟩ := info_parts infoF9
  have hc : Tryd.prog.cellsOf 22 = 1 := by kernel_rfl
  rw [show (10000 : Nat) = 9999 + 1 from rfl, run_equalIn_array (P := Tryd.prog) w 9999 _ _ Tryd.underlying27 hi, hc]
  exact run_items A C w (List.range 9) (fun i h => List.mem_range.1 h)
theorem eq9_true {A C : Nat → Nat} {a : Nat → Int} (hA : ∀ k, k < 9 → Fl.IsI (A k) (a k)) (hC : ∀ k, k < 9 → Fl.IsI (C k) (a k)) : eq9 A C = true := by
  unfold eq9
  rw [List.all_eq_true]
  intro k hk
  have hk' := List.mem_range.1 hk
  exact Fl.eqB (hA k hk') (hC k hk')
end Go.Proofs.YtpnmcmpeecpjeaaDoor
