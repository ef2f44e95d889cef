import Derived.Test.YtemobphkgbhhhaaBndA
import Derived.Test.YtemobphkgbhhhaaPlainF
namespace Go.Proofs.Ytemobphkgbhhhaa
open Go.ChangeShapes Go.WideShapes Go.ChangeAt Go.RowKit Go.GrowR
set_option linter.unusedVariables false
set_option linter.unusedSimpArgs false

abbrev inf1 (s : Nat) : List Nat := List.replicate s pInfN
abbrev inf2 (s : Nat) : List Nat := List.replicate s nInfN
theorem num_inf1 (s : Nat) : AllNum (inf1 s) := fun k x h => by rw [List.getElem?_replicate] at h; split at h <;> cases h; exact Fl.isNum_inf.1
theorem num_inf2 (s : Nat) : AllNum (inf2 s) := fun k x h => by rw [List.getElem?_replicate] at h; split at h <;> cases h; exact Fl.isNum_inf.2
/-- the least and greatest numbers of places *)-/
def Lims (s : Nat) (fl zs us : List Nat) : Prop := Fl.XL zs (mnL (inf1 s) fl s fl.length) ∧ Fl.XL us (mxL (inf2 s) fl s fl.length)
theorem Lims.len {s : Nat} {fl zs us : List Nat} (h : Lims s fl zs us) : zs.length = s ∧ us.length = s := by
  have h1 := h.1.1; have h2 := h.2.1
  rw [Fl.extL_len, List.length_replicate] at h1 h2
  exact ⟨h1, h2⟩
def BdQ (l : Int) (s : Nat) (fl : List Nat) (w : World) (e : Ending) (w' : World) : Prop := ∃ b b1 c1 b2 c2 zs us, e = .returned (.pointer (some ⟨b, 0, none⟩)) ∧ BO w.heap.size l b b1 c1 b2 c2 s zs us w' ∧ Lims s fl zs us ∧ Grow w w'
def NBv (B : Nat) (n : Int) (s : Nat) (V : Value) (w : World) : Prop := ∃ b b1 c1 b2 c2, V = .pointer (some ⟨b, 0, none⟩) ∧ BO B n b b1 c1 b2 c2 s (inf1 s) (inf2 s) w
theorem NBv.up {B : Nat} {n : Int} {s : Nat} {V : Value} : Up (NBv B n s V) := fun _ _ ⟨b, b1, c1, b2, c2, h0, h1⟩ hg => ⟨b, b1, c1, b2, c2, h0, BO.up _ _ h1 hg⟩
set_option maxRecDepth 100000 in
set_option maxHeartbeats 4000000 in
theorem g0Bounds (b0 : Nat) (l r : Int) (s K N : Nat) (A : Option Addr) (cf : Nat) (fl : List Nat) (w : World) (ho : Obj4 b0 l s r (.slice A N cf) w) (hf : FSl (.slice A N cf) fl w) (h1 : 1 ≤ l) (h9 : l ≤ 9) (hs : strideN l = s) (s2 : 2 ≤ s) (s9 : s ≤ 9) (nf : AllNum fl) (hK : fl.length = K * s) (hle : fl.length ≤ 2147483647) :
    Calls Try.prog 121 #[.pointer (some ⟨b0, 0, none⟩)] w (BdQ l s fl w) := by
  obtain ⟨A', c', he, hcc, hA⟩ := hf
  simp only [Value.slice.injEq] at he
  obtain ⟨rfl, rfl, rfl⟩ := he
  have hltA : fl = [] ∨ ∃ bf o, A = some ⟨bf, o, none⟩ ∧ bf < w.heap.size ∧ FCells w bf o fl := by
    rcases hA with h0 | ⟨b, o, rfl, hc⟩
    · exact .inl h0
    · cases hfl : fl with
      | nil => exact .inl rfl
      | cons x l => exact .inr ⟨b, o, rfl, cell_ltH (hc 0 x (by rw [hfl]; rfl)), by rw [← hfl]; exact hc⟩
  have HAL := Lib.hid hltA
  have HNB := Lib.hid (fun w' (hw : Grow w w') => newBounds_calls w.heap.size l s w' h1 h9 hs s9 hw.size)
  have HEX := Lib.hid (fun b b1 c1 b2 c2 w' (hw : Grow w w') (h : BO w.heap.size l b b1 c1 b2 c2 s (inf1 s) (inf2 s) w') => extFlat_calls w.heap.size l b b1 c1 b2 c2 s K fl.length (inf1 s) (inf2 s) fl A cf w' h h1 h9 hs s2 (List.length_replicate ..) (List.length_replicate ..) (num_inf1 s) (num_inf2 s) nf rfl hK hle s9 (HAL.out.imp id fun ⟨bf, o, e, hb, hc⟩ => ⟨bf, o, e, hb, hc.up hw⟩) hw.size)
  obtain ⟨x0, x1, x2, x3, -⟩ := ho
  have hb := cell_ltH x1
  clear h1 h9 hs s2 s9 nf hK hle hA hltA
  generalize hN : fl.length = N at *
  have HN := Lib.hid hN
  clear hN
  go_enter Try.func121, Try.ntmps121
  go_wp2
  refine wp_region_grow_tail 18 (fun i => if i = 4 then some (fun _ _ V ww => NBv w.heap.size l s V ww) else none) (by kernel_rfl) (by kernel_rfl) ?_ ?_
  · intro i Φ h lo hi v
    (repeat' split at h) <;> cases h
    · exact NBv.up
  simp only [List.take_succ_cons, List.take_zero, List.drop_succ_cons, List.drop_zero]
  repeat (first
    | (refine wpGrow_skip (by rfl) ?_; simp only [Act.put, List.setIfInBounds_toArray, List.set_cons_zero, List.set_cons_succ, Nat.reduceAdd])
    | (refine wpGrow_det' (by rfl) (by rfl) ?_; apply Exists.intro; refine ⟨fun w' hc hh => ?_, ?_⟩; (have hcell := grow_cell hc; clear hc hh; go_simp; rfl); simp only [Act.put, List.setIfInBounds_toArray, List.set_cons_zero, List.set_cons_succ, Nat.reduceAdd]))
  refine wpGrow_eff' (by rfl) (by rfl) (fun w' hc hh => ?_) (fun v lo hi w' hap hc hh hv => ?_)
  · have HC := Lib.hid hc
    clear hc hh
    go_simp
    go_at_call 131
    refine (HNB.out _ HC.out).mono ?_
    rintro e w2 ⟨b, b1, c1, b2, c2, rfl, hg, hbo⟩
    exact EffPost.mk hg ⟨b, b1, c1, b2, c2, rfl, hbo⟩
  obtain ⟨b, b1, c1, b2, c2, rfl, -⟩ := hv
  clear hc hh hap w'
  simp only [Act.put, List.setIfInBounds_toArray, List.set_cons_zero, List.set_cons_succ, Nat.reduceAdd]
  repeat (first
    | (refine wpGrow_skip (by rfl) ?_; simp only [Act.put, List.setIfInBounds_toArray, List.set_cons_zero, List.set_cons_succ, Nat.reduceAdd])
    | (refine wpGrow_det' (by rfl) (by rfl) ?_; apply Exists.intro; refine ⟨fun w' hc hh => ?_, ?_⟩; (have hcell := grow_cell hc; clear hc hh; go_simp; rfl); simp only [Act.put, List.setIfInBounds_toArray, List.set_cons_zero, List.set_cons_succ, Nat.reduceAdd]))
  refine wpGrow_nil ?_
  intro w1 hg hh
  obtain ⟨b', b1', c1', b2', c2', e', hbo⟩ := (hh 4).1
  cases e'
  have HBO := Lib.hid hbo
  have HG := Lib.hid hg
  clear hh hg hbo
  go_wp2_with fail
  refine (HEX.out _ _ _ _ _ _ HG.out HBO.out).mono ?_
  rintro e w2 ⟨rfl, zs, us, hz, hu, hbo2, hgb⟩
  have HZ := Lib.hid hz; have HU := Lib.hid hu; have HB2 := Lib.hid hbo2; have HG2 := Lib.hid (gb_grow hgb HG.out (Nat.le_refl _))
  clear hz hu hbo2 hgb
  go_wp2
  go_ret
  exact ⟨_, _, _, _, _, zs, us, rfl, HB2.out, ⟨by have := HZ.out; rwa [← HN.out] at this, by have := HU.out; rwa [← HN.out] at this⟩, HG2.out⟩
theorem mBd (k : Int) (h : k = 1 ∨ k = 2 ∨ k = 3 ∨ k = 4 ∨ k = 5 ∨ k = 6 ∨ k = 8) (b : Nat) (w : World) : (method 293 (tyK k) (.pointer (some ⟨b, 0, none⟩)) "Bounds").run Try.prog w = .ok (121, .pointer (some ⟨b, 0, none⟩)) w := by
  rcases h with rfl | rfl | rfl | rfl | rfl | rfl | rfl <;> kernel_rfl
def BdP (l : Int) (s : Nat) (fl : List Nat) (w : World) (e : Ending) (w' : World) : Prop := ∃ u v zs us, e = .returned (.tuple #[BxV l u v, .bool true]) ∧ Lims s fl zs us ∧ FSl u zs w' ∧ FSl v us w' ∧ Grow w w'
set_option maxRecDepth 100000 in
set_option maxHeartbeats 4000000 in
theorem bounds_calls (k l r : Int) (A1 : Option Addr) (n1 c1 : Nat) (A2 : Option Addr) (n2 c2 : Nat) (A3 : Option Addr) (n3 c3 : Nat) (A4 : Option Addr) (n4 c4 : Nat) (s : Nat) (fl : List Nat) (en : List Int) (ens : List (List Int)) (w : World) (hp : PlainG k l fl en ens [] s) (nf : AllNum fl) (hge : ∀ w', Grow w w' → Calls Try.prog 35 #[Geo7 k l r A1 n1 c1 A2 n2 c2 A3 n3 c3 A4 n4 c4] w' (GQ (.mk k l r fl en ens []) w')) :
    Calls Try.prog 24 #[Geo7 k l r A1 n1 c1 A2 n2 c2 A3 n3 c3 A4 n4 c4] w (BdP l s fl w) := by
  have hmf : ∀ (fn : Fn) (first cap : Array Value) (w : World), (Instr.makeFunc fn first cap).run Try.prog w = .ok (.func fn first cap) w := fun _ _ _ _ => rfl
  have HGE := Lib.hid hge
  have hk7 : k = 1 ∨ k = 2 ∨ k = 3 ∨ k = 4 ∨ k = 5 ∨ k = 6 ∨ k = 8 := by
    rcases hp.dk with ⟨h, _⟩ | ⟨h, _⟩ | ⟨h, _⟩ | ⟨h, _⟩ <;> omega
  have hm := mBd k hk7
  have hs9 := hp.s9
  have HGB := Lib.hid (fun b0 A N cf w' (ho : Obj4 b0 l s r (.slice A N cf) w') (hf : FSl (.slice A N cf) fl w') => g0Bounds b0 l r s (fl.length / s) N A cf fl w' ho hf hp.l1 hp.l9 hp.st hp.s2 hp.s9 nf hp.div (by have := hp.flat; omega))
  have HST := Lib.hid hp.st
  clear hge hp nf
  go_enter_defers Try.func24, Try.ntmps24
  go_wp2_with fail
  refine (HGE.out _ ((((Grow.refl w).alloc _).alloc _).alloc _)).mono ?_
  rintro e w1 ⟨v, rfl, hg1, hst⟩
  have htv := hst.now
  unfold TV at htv
  rcases htv with ⟨-, b0, u, rfl, ho, hown, -⟩ | ⟨h7, -⟩
  rotate_left
  · exfalso; omega
  rw [HST.out] at ho
  obtain ⟨A, N, cf, rfl⟩ := VOwn.isSl hown
  have HO := Lib.hid ho; have HF := Lib.hid (VOwn.sl hown).f
  have HG1 := Lib.hid hg1
  have hsz := hg1.size
  simp at hsz
  have HSZ0 := Lib.hid hsz
  clear ho hown hg1 hst hk7 hsz
  go_wp2_with fail
  refine (HGB.out b0 A N cf _ HO.out HF.out).mono ?_
  rintro e w2 ⟨b, b1, cc1, b2, cc2, zs, us, rfl, hbo, hlim, hg2⟩
  have HBO := Lib.hid hbo; have HLM := Lib.hid hlim
  have HG2 := Lib.hid (HG1.out.trans hg2)
  clear hbo hlim hg2
  go_wp2_with fail
  refine (plainBox_calls _ l b b1 cc1 b2 cc2 s zs us w2 HBO.out HLM.out.len.1 HLM.out.len.2 (by omega)).mono ?_
  rintro e w3 ⟨u', v', rfl, hu', hv', hg3⟩
  have hg := HG2.out.trans hg3
  have HU' := Lib.hid hu'; have HV' := Lib.hid hv'
  obtain ⟨A3', n3', d3, rfl⟩ := hu'.isSl
  obtain ⟨A4', n4', d4, rfl⟩ := hv'.isSl
  have hsz2 := HG2.out.size
  simp at hsz2
  have c0 := up_cell (a := ⟨w.heap.size + 1, 0, none⟩) (v := .int .i64 0) (by go_simp) hg
  have c1' := up_cell (a := ⟨w.heap.size + 1, 1, none⟩) (v := .slice none 0 0) (by go_simp) hg
  have c2' := up_cell (a := ⟨w.heap.size + 1, 2, none⟩) (v := .slice none 0 0) (by go_simp) hg
  have c3' := up_cell (a := ⟨w.heap.size + 1 + 1, 0, none⟩) (v := .bool false) (by go_simp) hg
  have f1 : ∀ o, w3.frozen? ⟨w.heap.size + 1, o, none⟩ = false := fun o => (grow_frozen hg _ _ (by simp <;> omega)).trans (by go_simp)
  have f2 : ∀ o, w3.frozen? ⟨w.heap.size + 1 + 1, o, none⟩ = false := fun o => (grow_frozen hg _ _ (by simp <;> omega)).trans (by go_simp)
  have HG := Lib.hid ((((((Grow.refl w).alloc _).alloc _).alloc _)).trans hg)
  have HSZ := Lib.hid hsz2
  clear hg hg3 hu' hv' hsz2
  go_wp2
  refine leaves_cons (f := 49) (args := #[.pointer (some ⟨w.heap.size + 1, 0, none⟩), .pointer (some ⟨w.heap.size + 1 + 1, 0, none⟩)]) (by simp) (by simp [go_sem]) ?_
  refine (idleBd ⟨w.heap.size + 1, 0, none⟩ ⟨w.heap.size + 1 + 1, 0, none⟩ _).mono ?_
  rintro e u' w'' ⟨rfl, rfl, rfl⟩
  have hB := HSZ.out
  refine ⟨.tuple #[BxV l (.slice A3' n3' d3) (.slice A4' n4' d4), .bool true], by simp [results, Try.results24, go_sem, c0, c1', c2', c3'], _, _, zs, us, rfl, HLM.out, ?_, ?_, ?_⟩
  · exact ((((HU'.out.setCell (by simp; omega) _).setCell (by simp; omega) _).setCell (by simp; omega) _).setCell (by simp; omega) _).sl.f
  · exact ((((HV'.out.setCell (by simp; omega) _).setCell (by simp; omega) _).setCell (by simp; omega) _).setCell (by simp; omega) _).sl.f
  · exact (((HG.out.setCell (by simp <;> omega) _).setCell (by simp <;> omega) _).setCell (by simp <;> omega) _).setCell (by simp <;> omega) _
end Go.Proofs.Ytemobphkgbhhhaa
