import Derived.Test.YtemobphkgbhhhaaSl
import Derived.Test.YtemobphkgbhhhaaStrideN
namespace Go.Proofs.Ytemobphkgbhhhaa
open Go.ChangeShapes Go.WideShapes Go.ChangeAt Go.RowKit Go.GrowR
set_option linter.unusedVariables false
set_option linter.unusedSimpArgs false
/-! whole numbers in slices; geometries without kids -/
def IntE (n : Int) (u : Value) (_ : World) : Prop := u = .int .i64 n
theorem IntE.up {n : Int} {u : Value} : Up (IntE n u) := fun _ _ h _ => h
def ISl (v : Value) (ns : List Int) (w : World) : Prop := SlE IntE v ns w
theorem ISl.up {v : Value} {ns : List Int} : Up (ISl v ns) := SlE.up fun _ _ => IntE.up
def ISSl (v : Value) (nss : List (List Int)) (w : World) : Prop := SlE (fun ns u w => ISl u ns w) v nss w
theorem ISSl.up {v : Value} {nss : List (List Int)} : Up (ISSl v nss) := SlE.up fun _ _ => ISl.up
theorem ISl.nil {w : World} : ISl (.slice none 0 0) [] w := ⟨[], ⟨none, 0, rfl, Nat.le_refl _, .inl rfl⟩, All2.nil⟩
theorem ISSl.nil {w : World} : ISSl (.slice none 0 0) [] w := ⟨[], ⟨none, 0, rfl, Nat.le_refl _, .inl rfl⟩, All2.nil⟩
abbrev GeoE (k l r : Int) (u e1 e2 : Value) : Value := .agg #[.int .i64 k, .int .i64 l, .int .i64 r, u, e1, e2, .slice none 0 0]
def Told' (v : Value) (w : World) (e : Ending) (w' : World) : Prop := e = .returned v ∧ Grow w w'
theorem Told'.mk {v v' : Value} {w w' : World} (h : v = v') (hg : Grow w w') : Told' v w (.returned v') w' := by subst h; exact ⟨rfl, hg⟩
/-- how many ends, lists and numbers -/
def lens (nss : List (List Int)) : Nat := (nss.map fun l => 1 + l.length).sum
theorem lens_succ {nss : List (List Int)} {k : Nat} {p : List Int} (hp : nss[k]? = some p) : lens (nss.take (k + 1)) = lens (nss.take k) + (1 + p.length) := by
  unfold lens; rw [List.take_add_one, hp]; simp
theorem lens_le {nss : List (List Int)} {M : Nat} (h : ∀ (i : Nat) (xs : List Int), nss[i]? = some xs → xs.length ≤ M) (k : Nat) : lens (nss.take k) ≤ k * (1 + M) := by
  induction k with
  | zero => simp [lens]
  | succ k ih =>
    rw [Nat.add_mul, Nat.one_mul]
    cases hp : nss[k]? with
    | none =>
      have : nss.take (k + 1) = nss.take k := by rw [List.take_add_one, hp]; simp
      rw [this]; omega
    | some p => rw [lens_succ hp]; have := h k p hp; omega
def weightD (n m : Nat) (nss : List (List Int)) : Nat := 1 + n + m + lens nss
set_option maxHeartbeats 2000000 in
theorem weight_calls (k l r most : Int) (A B : Option Addr) (n c m d : Nat) (e2 : Value) (nss : List (List Int)) (w : World) (he2 : ISSl e2 nss w) (hn : n ≤ 2147483647) (hm : m ≤ 2147483647) (hl : nss.length ≤ 2147483647)
    (hl2 : ∀ (i : Nat) (xs : List Int), nss[i]? = some xs → xs.length ≤ 2147483647) :
    Calls Try.prog 88 #[GeoE k l r (.slice A n c) (.slice B m d) e2, .int .i64 most] w (Told' (.int .i64 (weightD n m nss : Nat)) w) := by
  obtain ⟨E, c2, rfl, -, hE⟩ := SlE.form he2
  have HE := Lib.hid hE; clear hE he2
  have hb : ∀ k, lens (nss.take k) ≤ k * 2147483648 := fun k => lens_le (M := 2147483647) hl2 k
  have HB := Lib.hid hb; clear hb
  have HL2 := Lib.hid hl2; clear hl2
  go_enter Try.func88, Try.ntmps88
  go_wp2
  go_loop [5, 21] (fun s i => ∃ k : Nat, k ≤ nss.length ∧ i = .int .i64 k ∧ s = .int .i64 ((1 + n + m + lens (nss.take k) : Nat) : Int)) (fun _ i => nss.length - (intOf i).toNat)
  case atStart => exact ⟨0, Nat.zero_le _, rfl, by simp [lens]⟩
  case round =>
    obtain ⟨j, hj, rfl, rfl⟩ := hrel
    by_cases hlt : j < nss.length
    · obtain ⟨p, hp⟩ : ∃ p, nss[j]? = some p := ⟨nss[j], by simp [hlt]⟩
      rcases HE.out with h0 | ⟨b, o, rfl, hcell⟩
      · exfalso; subst h0; simp at hlt
      obtain ⟨z, hz, hzz⟩ := hcell j p hp
      obtain ⟨A1, c1, rfl, -, -⟩ := SlE.form hzz
      have hz' := up_cell hz ((Grow.refl w).alloc (Obj.cells #[.int .i64 k, .int .i64 l, .int .i64 r, .slice A n c, .slice B m d, .slice (some ⟨b, o, none⟩) nss.length c2, .slice none 0 0] 28))
      have hpl := HL2.out j p hp
      have hbj := HB.out j
      have HS := Lib.hid (lens_succ hp)
      clear hcell hp hzz hz
      go_wp2
      go_round
      case rel => exact ⟨j + 1, by omega, by go_num, by rw [HS.out]; go_num⟩
      case measure => simp [intOf]; omega
    · have hje : j = nss.length := by omega
      have HJ := Lib.hid hje; clear hje
      have hbj := HB.out j
      go_wp2
      go_loop [5, 34] (fun s i => i = .int .i64 0 ∧ s = .int .i64 ((1 + n + m + lens (nss.take j) : Nat) : Int)) (fun _ _ => 0)
      case atStart => exact ⟨rfl, rfl⟩
      case round =>
        obtain ⟨rfl, rfl⟩ := hrel
        go_wp2
        go_ret
        refine Told'.mk ?_ ((Grow.refl w).alloc _)
        have ht : nss.take j = nss := List.take_of_length_le (by have := HJ.out; omega)
        unfold weightD
        rw [ht]; rfl
end Go.Proofs.Ytemobphkgbhhhaa
