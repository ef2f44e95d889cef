/- The law FnKInsert is true of every input: the tree with the point put in is a k-d tree of the points and the new one, the others in their order. No condition. -/
import Derived.Test.YtcpdhkbmfgphpaaFnKInsert
import Derived.Test.YtcpdhkbmfgphpaaRow
namespace Go.Proofs.Ytcpdhkbmfgphpaa.fnKInsert
open Go.ChangeShapes Go.WideShapes Go.ChangeAt Go.RowKit Go.GrowR
open Go.ChangeMaps (open_string shut_string)
set_option linter.unusedVariables false
set_option linter.unusedSimpArgs false
theorem laidOut : laidOutB Try.prog = true := by kernel_rfl
theorem own : ownKnob Try.prog.godebug = none := by kernel_rfl
theorem nodeT : ∃ fs, NodeTypes Try.prog 27 3 34 23 22 fs :=
  ⟨_, Try.underlying27, by kernel_rfl, rfl, fun i f hf => by
    match i, hf with
    | 0, hf => cases hf; exact ⟨rfl, by kernel_rfl, rfl⟩
    | 1, hf => cases hf; exact ⟨rfl, by kernel_rfl, rfl⟩
    | 2, hf => cases hf; exact ⟨rfl, by kernel_rfl, rfl⟩
    | 3, hf => cases hf; exact ⟨rfl, by kernel_rfl, rfl⟩
    | 4, hf => cases hf; exact ⟨rfl, by kernel_rfl, rfl⟩
    | 5, hf => cases hf; exact ⟨rfl, by kernel_rfl, rfl⟩
    | n + 6, hf => simp at hf, by kernel_rfl, by kernel_rfl, by kernel_rfl, by kernel_rfl, by kernel_rfl⟩
set_option maxRecDepth 100000 in
theorem lifted (os : Os) (started : os.Started) (H : Type) (enc : TypeId × Value → H) :
    ReturnsInHanded {} Try.checked os 5 .any (Rows.fnKInsertSpec.pre6 enc Try.prog Try.f5 Rows.fnKInsertRow.domain false) (Rows.fnKInsertSpec.post enc Try.prog Try.f5 false true false false) := by
  refine returnsInHanded_of_change_sized (C := Try.checked) own started (by kernel_rfl) Try.func5
    (ChangeSpec.witness6 (enc := enc) (C := Try.checked) false ⟨#[], #[.slice none 0 0, .int .i64 0, .slice none 0 0, .bool false], []⟩ 8 (by kernel_rfl) (by kernel_rfl) (by kernel_rfl) (by kernel_rfl)) ?_
  intro W base args ds gs before hval0 hW hcnd hsz0 _
  have hsz : (DataW.weightsEach Try.prog (Try.f5.params.toList ++ Rows.fnKInsertSpec.plain.varTypes Try.prog) (ds ++ gs)).all (· ≤ reachBytes) = true := hsz0
  have hval : ∀ (j : Nat) t v, Try.f5.params[j]? = some t → args[j]? = some v → Value.okWide Try.prog W .any base t v := hval0
  have hW' := hW
  obtain ⟨p, q, hA0, hV, rfl, hfz, hnd⟩ := hW
  have hA : DataW.TrodAll enc Try.prog W 0 (fun _ => true) true Try.f5.params.toList args.toList ds p := hA0
  rw [Try.params5] at hA hval hsz
  obtain ⟨v0, vs0, d0, ds0, p0, q0, hargs, rfl, rfl, h0, r0⟩ := trodAll_cons hA
  obtain ⟨v1, vs1, d1, ds1, p1, q1, rfl, rfl, rfl, h1, r1⟩ := trodAll_cons r0
  obtain ⟨v2, vs2, d2, ds2, p2, q2, rfl, rfl, rfl, h2, r2⟩ := trodAll_cons r1
  obtain ⟨v3, vs3, d3, ds3, p3, q3, rfl, rfl, rfl, h3, r3⟩ := trodAll_cons r2
  obtain ⟨rfl, rfl, rfl⟩ := trodAll_nil r3
  obtain rfl : args = #[v0, v1, v2, v3] := by cases args; simp_all
  obtain ⟨rfl, rfl⟩ := trodVars_none hV
  have lt0 : ∀ x ∈ p0, x.block < W.heap.size := by obtain ⟨m, hm⟩ := h0; exact DataW.trod_lt m _ _ _ hm
  have k0 := h0
  obtain ⟨ns0, hs0, hw0, hm0⟩ := open_kn nodeT.choose_spec (hval 0 22 v0 rfl rfl) h0
  have lt1 : ∀ x ∈ p1, x.block < W.heap.size := by obtain ⟨m, hm⟩ := h1; exact DataW.trod_lt m _ _ _ hm
  have k1 := h1
  obtain ⟨n1, rfl, _wf_n1⟩ := open_i (by kernel_rfl) (hval 1 3 v1 rfl rfl) h1
  have lt2 : ∀ x ∈ p2, x.block < W.heap.size := by obtain ⟨m, hm⟩ := h2; exact DataW.trod_lt m _ _ _ hm
  have k2 := h2
  obtain ⟨xs2, hs2, _wf_xs2, hm2⟩ := open_f (e := 34) (by kernel_rfl) (by kernel_rfl) (by kernel_rfl) (hval 2 23 v2 rfl rfl) h2
  have lt3 : ∀ x ∈ p3, x.block < W.heap.size := by obtain ⟨m, hm⟩ := h3; exact DataW.trod_lt m _ _ _ hm
  have k3 := h3
  obtain ⟨n3, rfl, -, -⟩ := Go.RowKit.open_bool (by kernel_rfl) (hval 3 4 v3 rfl rfl) h3
  clear hA0 hval0 hsz0
  refine (law_calls v0 v2 ns0 n1 xs2 n3 W hs0 hw0 hs2).mono fun e W' ⟨he, bel⟩ => ?_
  subst he
  exact ⟨_, rfl, _, _, _, [], _, [], hW', trodAll_mk1 (shut_bool Try.underlying4 _), (trodAll_cons_mk (Below.trod laidOut (by kernel_rfl) (of_decide_eq_true (by kernel_rfl)) k0 bel lt0) (trodAll_cons_mk (Below.trod laidOut (by kernel_rfl) (of_decide_eq_true (by kernel_rfl)) k1 bel lt1) (trodAll_cons_mk (Below.trod laidOut (by kernel_rfl) (of_decide_eq_true (by kernel_rfl)) k2 bel lt2) (trodAll_cons_mk (Below.trod laidOut (by kernel_rfl) (of_decide_eq_true (by kernel_rfl)) k3 bel lt3) trodAll_mk0)))), rfl, bel.frame _, fun h => by cases h⟩
theorem over : Rows.fnKInsertRow.holds Try.pinned (OpenSpec.ofChange Rows.fnKInsertSpec) :=
  OpenClaim.holds_of_wide 5 Try.f5 rfl rfl rfl rfl rfl rfl rfl ⟨rfl, rfl, rfl, rfl, rfl⟩ rfl rfl rfl rfl rfl (by kernel_rfl) Try.func5 (by kernel_rfl)
    (of_decide_eq_true (by kernel_rfl)) (by unfold Func.isWrapper; first | (rw [if_pos (by decide +kernel)]; kernel_rfl) | (rw [if_neg (by decide +kernel)]; exact ⟨rfl, rfl⟩))
    (fun os started H enc _ => lifted os started H enc)
end Go.Proofs.Ytcpdhkbmfgphpaa.fnKInsert
namespace Go.Proofs.Ytcpdhkbmfgphpaa
theorem fnKInsert_holds : Rows.FnKInsertSaid := fnKInsert.over
#print axioms fnKInsert_holds
end Go.Proofs.Ytcpdhkbmfgphpaa
