import Derived.Test.YtegknlnkkoeahaaExtC
namespace Go.Proofs.Ytegknlnkkoeahaa
open Go.ChangeShapes Go.WideShapes Go.ChangeAt Go.RowKit Go.GrowR
set_option linter.unusedVariables false
set_option linter.unusedSimpArgs false

theorem doorExt_calls (B : Nat) (n : Int) (b b1 c1 b2 c2 s K N : Nat) (xs ys fl : List Nat) (A : Option Addr) (cf : Nat) (w : World) (h : BO B n b b1 c1 b2 c2 s xs ys w) (h1 : 1 ≤ n) (h9 : n ≤ 9) (hs : strideN n = s) (hs2 : 2 ≤ s)
    (hx : xs.length = s) (hy : ys.length = s) (nx : AllNum xs) (ny : AllNum ys) (nf : AllNum fl) (hN : fl.length = N) (hK : N = K * s) (hle : N ≤ 2147483647) (hs9 : s ≤ 9) (hA : fl = [] ∨ ∃ bf o, A = some ⟨bf, o, none⟩ ∧ bf < B ∧ FCells w bf o fl) (hB : B ≤ w.heap.size) :
    Calls Try.prog 46 #[.pointer (some ⟨b, 0, none⟩), .slice A N cf, .int .i64 s] w fun e w' => e = .returned (.tuple #[]) ∧ ExtQ B n b b1 c1 b2 c2 s xs ys fl N w w' := by
  have HE := Lib.hid (extFlat_calls B n b b1 c1 b2 c2 s K N xs ys fl A cf w h h1 h9 hs hs2 hx hy nx ny nf hN hK hle hs9 hA hB)
  clear h h1 h9 hs hs2 hx hy nx ny nf hN hK hle hs9 hA hB
  go_enter Try.func46, Try.ntmps46
  go_wp2_with (go_at_call 73; refine HE.out.mono ?_; rintro e w1 ⟨rfl, hq⟩; have HQ := Lib.hid hq; clear hq)
  exact bodyPost_end (results_none rfl _ _ _) rfl ⟨rfl, HQ.out⟩
theorem idleBE (p0 p1 : Addr) (w : World) :
    CallsD Try.prog 44 #[.pointer (some p0), .pointer (some p1)] .returning w fun e u' w' => e = .returned (.tuple #[]) ∧ u' = .returning ∧ w' = w := by
  refine callsD_of_wpS Try.func44 rfl fun c₀ cs hu => ?_
  apply wpS_seq
  apply wpS_region
  simp [wpOpsS, go_sem, recoverD, hu, Try.ntmps44, Exit.thenS]
  refine wpS_cond (t := false) (by simp [Act.eval, Array.replicate]) ?_
  simp only [Bool.false_eq_true, if_false]
  refine wpS_of_wp ?_
  go_wp2
  cases c₀
  simp_all [bodyPostS, results, Try.results44, Exit.thenS]

def BEP (n : Int) (s : Nat) (xs ys fl : List Nat) (w : World) (e : Ending) (w' : World) : Prop := ∃ u v zs us, e = .returned (.tuple #[BxV n u v, .bool true]) ∧ Fl.XL zs (mnL xs fl s fl.length) ∧ Fl.XL us (mxL ys fl s fl.length) ∧ VOwn 42 w.heap.size u (zs.map (.float .f64)) w' ∧ VOwn 42 w.heap.size v (us.map (.float .f64)) w' ∧ Grow w w'
theorem FSl.setB {v : Value} {xs : List Nat} {w : World} {B : Nat} (h : VOwn 42 B v (xs.map (.float .f64)) w) : FSl v xs w := h.sl.f
set_option maxHeartbeats 4000000 in
theorem implExt_calls (n : Int) (s K : Nat) (u v uf : Value) (xs ys fl : List Nat) (w : World) (hu : FSl u xs w) (hv : FSl v ys w) (hf : FSl uf fl w) (h1 : 1 ≤ n) (h9 : n ≤ 9) (hs : strideN n = s) (hs2 : 2 ≤ s)
    (hx : xs.length = s) (hy : ys.length = s) (nx : AllNum xs) (ny : AllNum ys) (nf : AllNum fl) (hK : fl.length = K * s) (hle : fl.length ≤ 2147483647) (hs9 : s ≤ 9) :
    Calls Try.prog 21 #[BxV n u v, uf, .int .i64 s] w (BEP n s xs ys fl w) := by
  have hmf : ∀ (fn : Fn) (first cap : Array Value) (w : World), (Instr.makeFunc fn first cap).run Try.prog w = .ok (.func fn first cap) w := fun _ _ _ _ => rfl
  obtain ⟨A, cf, rfl, hcf, hA⟩ := hf
  have HB := Lib.hid (fun w' (hg : Grow w w') => boxO_calls n u v xs ys w' (FSl.up _ _ hu hg) (FSl.up _ _ hv hg) s (by omega) hx hy (by omega))
  have HE := Lib.hid (fun B b b1 c1 b2 c2 w' (h : BO B n b b1 c1 b2 c2 s xs ys w') hA hB => doorExt_calls B n b b1 c1 b2 c2 s K fl.length xs ys fl A cf w' h h1 h9 hs hs2 hx hy nx ny nf rfl hK hle hs9 hA hB)
  have HS9 := Lib.hid hs9
  have HX := Lib.hid hx; have HY := Lib.hid hy; have HA := Lib.hid hA
  have hltA : fl = [] ∨ ∃ bf o, A = some ⟨bf, o, none⟩ ∧ bf < w.heap.size ∧ FCells w bf o fl := by
    rcases hA with h0 | ⟨b, o, rfl, hc⟩
    · exact .inl h0
    · cases hfl : fl with
      | nil => exact .inl rfl
      | cons x l => exact .inr ⟨b, o, rfl, cell_ltH (hc 0 x (by rw [hfl]; rfl)), by rw [← hfl]; exact hc⟩
  have HAL := Lib.hid hltA
  obtain ⟨A1, cu, rfl, -, -⟩ := hu
  obtain ⟨A2, cv, rfl, -, -⟩ := hv
  clear h1 h9 hs hs2 hx hy nx ny nf hK hle hs9 hA hcf hltA
  go_enter_defers Try.func21, Try.ntmps21
  go_wp2_with fail
  refine (HB.out _ ((((Grow.refl w).alloc _).alloc _).alloc _)).mono ?_
  rintro e w1 ⟨V, rfl, hg, b, b1, c1, b2, c2, rfl, hbo⟩
  have HG1 := Lib.hid hg
  have HBO := Lib.hid hbo
  have hsz := hg.size
  simp at hsz
  clear hg hbo
  go_wp2_with fail
  refine (HE.out _ b b1 c1 b2 c2 w1 HBO.out ?_ (by have := HG1.out.size; simp at *; omega)).mono ?_
  · rcases HAL.out with h0 | ⟨bf, o, rfl, hb, hc⟩
    · exact .inl h0
    · exact .inr ⟨bf, o, rfl, by simp; omega, hc.up (((((Grow.refl w).alloc _).alloc _).alloc _).trans HG1.out)⟩
  rintro e w2 ⟨rfl, zs, us, hz, huu, hbo, hgb⟩
  have HZ := Lib.hid hz; have HU := Lib.hid huu; have HBO2 := Lib.hid hbo
  have hzl : zs.length = s := by have h1 := hz.1; rw [Fl.extL_len, HX.out] at h1; exact h1
  have hul : us.length = s := by have h1 := huu.1; rw [Fl.extL_len, HY.out] at h1; exact h1
  have HZL := Lib.hid hzl; have HUL := Lib.hid hul
  have HG2 := Lib.hid (gb_grow hgb HG1.out (by simp))
  clear hz huu hbo hgb hzl hul
  go_wp2_with fail
  refine (plainBox_calls _ n b b1 c1 b2 c2 s zs us w2 HBO2.out HZL.out HUL.out (by have := HS9.out; omega)).mono ?_
  rintro e w3 ⟨u', v', rfl, hu', hv', hg3⟩
  have hg := HG2.out.trans hg3
  have HU' := Lib.hid hu'; have HV' := Lib.hid hv'
  obtain ⟨A3, n3, c3, rfl⟩ := hu'.isSl
  obtain ⟨A4, n4, c4, rfl⟩ := hv'.isSl
  have hsz2 := HG2.out.size
  simp at hsz2
  have c0 := up_cell (a := ⟨w.heap.size + 1, 0, none⟩) (v := .int .i64 0) (by go_simp) hg
  have c1' := up_cell (a := ⟨w.heap.size + 1, 1, none⟩) (v := .slice none 0 0) (by go_simp) hg
  have c2' := up_cell (a := ⟨w.heap.size + 1, 2, none⟩) (v := .slice none 0 0) (by go_simp) hg
  have c3' := up_cell (a := ⟨w.heap.size + 1 + 1, 0, none⟩) (v := .bool false) (by go_simp) hg
  have f1 : ∀ o, w3.frozen? ⟨w.heap.size + 1, o, none⟩ = false := fun o => (grow_frozen hg _ _ (by simp <;> omega)).trans (by go_simp)
  have f2 : ∀ o, w3.frozen? ⟨w.heap.size + 1 + 1, o, none⟩ = false := fun o => (grow_frozen hg _ _ (by simp <;> omega)).trans (by go_simp)
  have HG := Lib.hid ((((((Grow.refl w).alloc _).alloc _).alloc _)).trans hg)
  have HSZ := Lib.hid hsz2
  clear hg hg3 hu' hv' hsz hsz2
  go_wp2
  refine leaves_cons (f := 44) (args := #[.pointer (some ⟨w.heap.size + 1, 0, none⟩), .pointer (some ⟨w.heap.size + 1 + 1, 0, none⟩)]) (by simp) (by simp [go_sem]) ?_
  refine (idleBE ⟨w.heap.size + 1, 0, none⟩ ⟨w.heap.size + 1 + 1, 0, none⟩ _).mono ?_
  rintro e u' w'' ⟨rfl, rfl, rfl⟩
  have hB := HSZ.out
  refine ⟨.tuple #[BxV n (.slice A3 n3 c3) (.slice A4 n4 c4), .bool true], by simp [results, Try.results21, go_sem, c0, c1', c2', c3'], _, _, zs, us, rfl, HZ.out, HU.out, ?_, ?_, ?_⟩
  · exact ((((HU'.out.setCell (by simp; omega) _).setCell (by simp; omega) _).setCell (by simp; omega) _).setCell (by simp; omega) _).mono (by omega)
  · exact ((((HV'.out.setCell (by simp; omega) _).setCell (by simp; omega) _).setCell (by simp; omega) _).setCell (by simp; omega) _).mono (by omega)
  · exact (((HG.out.setCell (by simp <;> omega) _).setCell (by simp <;> omega) _).setCell (by simp <;> omega) _).setCell (by simp <;> omega) _
end Go.Proofs.Ytegknlnkkoeahaa
