import Derived.Test.YtpnmcmpeecpjeaaDoorGrow
import Derived.Test.YtpnmcmpeecpjeaaDoorMem
import Derived.Laws.StructEq
import Derived.WalkKit
import Derived.WalkLawsBesides
namespace Go
open Go.RowKit Go.GrowR
set_option linter.unusedSimpArgs false
/-! '==' on structs of floats -/
abbrev eqF (a b : Nat) : Bool := FloatKind.f64.format.order a b == some .eq
theorem run_equalIn_f {P : Program} {tf : TypeId} (hu : P.underlying tf = some (.float .f64)) (d : Nat) (a b : Nat) (w : World) : (Op.equalIn (d + 1) tf (.float .f64 a) (.float .f64 b)).run P w = .ok (eqF a b) w := by
  simp [Op.equalIn, run_underlying hu]
  rfl
theorem run_eqFields_f {P : Program} {tf : TypeId} (hu : P.underlying tf = some (.float .f64)) (xs ys : Array Value) (d : Nat) (w : World) :
    ∀ (fs : List Field) (ab : List (Nat × Nat)), fs.length = ab.length → (∀ (i : Nat) (f : Field), fs[i]? = some f → f.name ≠ "_" ∧ f.type = tf) →
      (∀ (i : Nat) (f : Field) (a b : Nat), fs[i]? = some f → ab[i]? = some (a, b) → (part tf xs f.offset).run P w = .ok (.float .f64 a) w ∧ (part tf ys f.offset).run P w = .ok (.float .f64 b) w) →
      (Op.eqFields (d + 1) xs ys fs).run P w = .ok (ab.all fun p => eqF p.1 p.2) w
  | [], [], _, _, _ => by simp [Op.eqFields]
  | f :: fs, (a, b) :: ab, hl, h1, h2 => by
    obtain ⟨hn, ht⟩ := h1 0 f rfl
    obtain ⟨ha, hb⟩ := h2 0 f a b rfl rfl
    have ih := run_eqFields_f hu xs ys d w fs ab (by simpa using hl) (fun i f hi => h1 (i + 1) f (by simpa using hi)) (fun i f a b hi hj => h2 (i + 1) f a b (by simpa using hi) (by simpa using hj))
    unfold Op.eqFields
    rw [if_pos hn, ht, Sem.run_bind, ha, Result.andThen_ok, Sem.run_bind, hb, Result.andThen_ok, Sem.run_bind, run_equalIn_f hu, Result.andThen_ok]
    cases h : eqF a b
    · simp [h]
    · simp [h, ih]
  | [], _ :: _, hl, _, _ => by simp at hl
  | _ :: _, [], hl, _, _ => by simp at hl
theorem run_part_f {P : Program} {tf : TypeId} {z : Value} {n : Nat} (hu : P.underlying tf = some (.float .f64)) (hi : (P.info? tf).map (fun i => (i.zero, i.size, i.bytes)) = some (some z, 1, n)) (xs : Array Value) (k u : Nat) (w : World) (hk : xs[k]? = some (.float .f64 u)) :
    (part tf xs k).run P w = .ok (.float .f64 u) w := by
  obtain ⟨i, h1, h2, h3, h4⟩ : ∃ i, P.info? tf = some i ∧ i.zero = some z ∧ i.size = 1 ∧ i.bytes = n := by
    obtain ⟨i, hi', hzz⟩ := Option.map_eq_some_iff.1 hi
    simp only [Prod.mk.injEq] at hzz
    exact ⟨i, hi', hzz.1, hzz.2.1, hzz.2.2⟩
  simp [part, go_sem, h1, h3, hk, isAgg, run_underlying hu]
theorem run_eqS {P : Program} {t tf : TypeId} {z : Value} {n : Nat} (hu : P.underlying tf = some (.float .f64)) (hi : (P.info? tf).map (fun i => (i.zero, i.size, i.bytes)) = some (some z, 1, n))
    (ht : P.underlying t = some (.struct (P.fieldsOf t))) (hp : P.stoodInHeld t = false) {l : List (String × Nat)} (hf : (P.fieldsOf t).toList.map (fun f => (f.name, f.type, f.offset)) = l.map fun p => (p.1, tf, p.2)) (hl : ∀ p ∈ l, p.1 ≠ "_")
    (xs ys : List Nat) (ho : l.map (·.2) = List.range xs.length) (hxy : xs.length = ys.length) (w : World) :
    (Op.equalIn 10000 t (.agg (xs.map (Value.float .f64)).toArray) (.agg (ys.map (Value.float .f64)).toArray)).run P w = .ok ((xs.zip ys).all fun p => eqF p.1 p.2) w := by
  rw [run_equalIn_agg w 9999 t _ _ ht hp]
  generalize (P.fieldsOf t).toList = fs at hf
  have e1 : ∀ (i : Nat) (f : Field), fs[i]? = some f → ∃ p, l[i]? = some p ∧ f.name = p.1 ∧ f.type = tf ∧ f.offset = p.2 := by
    intro i f hif
    have h := congrArg (·[i]?) hf
    simp only [List.getElem?_map, hif, Option.map_some] at h
    cases hp : l[i]? with
    | none => rw [hp] at h; cases h
    | some p =>
      rw [hp] at h
      simp only [Option.map_some, Option.some.injEq, Prod.mk.injEq] at h
      exact ⟨p, rfl, h⟩
  have e2 : ∀ (i : Nat) (p : String × Nat), l[i]? = some p → p.2 = i := by
    intro i p hip
    have h := congrArg (·[i]?) ho
    simp only [List.getElem?_map, hip, Option.map_some] at h
    have hlt : i < xs.length := by
      rcases Nat.lt_or_ge i xs.length with h' | h'
      · exact h'
      · rw [List.getElem?_eq_none (by simpa using h')] at h; cases h
    rw [List.getElem?_range hlt] at h
    exact Option.some.inj h
  have hlen : fs.length = xs.length := by
    have h1 := congrArg List.length hf
    have h2 := congrArg List.length ho
    simp only [List.length_map, List.length_range] at h1 h2
    omega
  refine run_eqFields_f hu _ _ 9998 w fs (xs.zip ys) (by rw [List.length_zip]; omega) (fun i f hif => ?_) (fun i f a b hif hab => ?_)
  · obtain ⟨p, h1, h2, h3, h4⟩ := e1 i f hif
    exact ⟨by rw [h2]; exact hl p (List.mem_of_getElem? h1), h3⟩
  · obtain ⟨p, h1, h2, h3, h4⟩ := e1 i f hif
    have h5 := e2 i p h1
    rw [List.getElem?_zip_eq_some] at hab
    rw [h4, h5]
    exact ⟨run_part_f hu hi _ i a w (by simp [hab.1]), run_part_f hu hi _ i b w (by simp [hab.2])⟩
end Go
