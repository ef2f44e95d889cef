import Derived.Test.YtcpdhkbmfgphpaaKnG
namespace Go.Proofs.Ytcpdhkbmfgphpaa
open Go.ChangeShapes Go.WideShapes Go.ChangeAt Go.RowKit Go.GrowR
set_option linter.unusedVariables false
set_option linter.unusedSimpArgs false

theorem put_sorted {ys : List Nat} {x j : Nat} (h : Put ys x j) (hs : ys.Pairwise fun a b => Fl.ival a ≤ Fl.ival b) : (ys.take j ++ x :: ys.drop j).Pairwise fun a b => Fl.ival a ≤ Fl.ival b := by
  have h0 : ys.take j ++ ys.drop j = ys := List.take_append_drop j ys
  have hp := hs
  rw [← h0, List.pairwise_append] at hp
  obtain ⟨p1, p2, p3⟩ := hp
  refine List.pairwise_append.2 ⟨p1, List.pairwise_cons.2 ⟨fun b hb => Int.le_of_lt (h.gt b hb), p2⟩, fun a ha b hb => ?_⟩
  rcases List.mem_cons.1 hb with rfl | hb
  · rcases h.lo with rfl | ⟨y, hy, hyx⟩
    · simp at ha
    · refine Int.le_trans ?_ hyx
      obtain ⟨i, hi⟩ := List.mem_iff_getElem?.1 ha
      rw [List.getElem?_take] at hi
      split at hi
      · next hij =>
        by_cases e : i = j - 1
        · subst e; rw [hy] at hi; cases hi; exact Int.le_refl _
        · have hl := (List.getElem?_eq_some_iff.1 hy).1
          have := List.pairwise_iff_getElem.1 hs i (j - 1) (by omega) hl (by omega)
          rw [(List.getElem?_eq_some_iff.1 hi).2, (List.getElem?_eq_some_iff.1 hy).2] at this
          exact this
      · cases hi
  · exact p3 a ha b hb
def SqT (pts : List (List Nat)) (Q : Nat → Int) (d : Nat) (w : World) (e : Ending) (w' : World) : Prop := ∃ (V : Value) (L : List Nat), e = .returned V ∧ Grow w w' ∧ VOwn 34 w.heap.size V (L.map (.float .f64)) w' ∧ (L.map Fl.ival).Perm (pts.map fun p => sqN (iv p) Q d) ∧ (L.Pairwise fun a b => Fl.ival a ≤ Fl.ival b) ∧ ∀ y ∈ L, Fl.IsI y (Fl.ival y)
set_option maxRecDepth 100000 in
set_option maxHeartbeats 8000000 in
theorem squaresTo_calls (v u : Value) (pts : List (List Nat)) (xs : List Nat) (d : Nat) (Q : Nat → Int) (w : World) (hv : FSSl v pts w) (hu : FSl u xs w) (hQ : Num xs d Q) (hp : ∀ p ∈ pts, Num p d (iv p)) (h6 : d ≤ 6) (hl : pts.length ≤ 1000000) :
    Calls Try.prog 15 #[v, u] w (SqT pts Q d w) := by
  have HU := Lib.hid hu; have HQ := Lib.hid hQ; have HP := Lib.hid hp
  obtain ⟨A, c, rfl, hc, hA⟩ := hv
  have HA := Lib.hid hA
  obtain ⟨Au, cu, rfl, -, -⟩ := hu
  clear hQ hp hA
  go_enter Try.func15, Try.ntmps15
  go_wp2
  go_loopw [5, 10] (fun O i wr => ∃ (k : Nat) (L : List Nat), i = .int .i64 k ∧ k ≤ pts.length ∧ Grow w wr ∧ VOwn 34 w.heap.size O (L.map (.float .f64)) wr ∧ (L.map Fl.ival).Perm ((pts.take k).map fun p => sqN (iv p) Q d) ∧ (L.Pairwise fun a b => Fl.ival a ≤ Fl.ival b) ∧ ∀ y ∈ L, Fl.IsI y (Fl.ival y)) (fun _ i _ => pts.length - (intOf i).toNat)
  case atStart => exact ⟨0, [], rfl, Nat.zero_le _, Grow.refl _, VOwn.nil, by simp, .nil, fun y hy => by cases hy⟩
  case round =>
    obtain ⟨k, L, rfl, hk, hg, hown, hperm, hsort, hI⟩ := hrel
    have HG := Lib.hid hg; have HO := Lib.hid hown; have HPE := Lib.hid hperm; have HSO := Lib.hid hsort; have HI := Lib.hid hI
    obtain ⟨A0, n0, c0, rfl⟩ := hown.isSl
    have hLl : L.length ≤ 1000000 := by have := hperm.length_eq; simp at this; omega
    clear hg hown hperm hsort hI
    by_cases hlt : k < pts.length
    case neg =>
      have hp := HPE.out
      rw [List.take_of_length_le (by omega)] at hp
      have HPE2 := Lib.hid hp
      clear hp
      go_wp2
      go_ret
      exact ⟨_, L, rfl, HG.out, HO.out, HPE2.out, HSO.out, HI.out⟩
    case pos =>
      obtain ⟨p, hp⟩ : ∃ p, pts[k]? = some p := ⟨pts[k], by simp [hlt]⟩
      have hpm := List.mem_of_getElem? hp
      rcases HA.out with h0 | ⟨b, o, rfl, hcell⟩
      · exfalso; subst h0; simp at hlt
      obtain ⟨z, hz, hzz⟩ := hcell k p hp
      have hz' := up_cell hz HG.out
      have HNP := Lib.hid (HP.out p hpm)
      obtain ⟨sx, hsx⟩ : ∃ sx, sumX p xs d = sx := ⟨_, rfl⟩
      have HSQ : Hid (∀ w', Grow w w' → Calls Try.prog 34 #[z, .slice Au xs.length cu] w' fun e w2 => e = .returned (.float .f64 sx) ∧ Grow w' w2) := fun w' hg => (squareN_calls z _ p xs d (iv p) Q w' (FSl.up _ _ hzz hg) (FSl.up _ _ HU.out hg) (HP.out p hpm) HQ.out h6).mono fun e w2 ⟨h1, h2⟩ => ⟨by rw [h1, hsx], h2⟩
      have HSI : Hid (Fl.IsI sx (sqN (iv p) Q d)) := by have := sum_I (HP.out p hpm) HQ.out h6 d (Nat.le_refl _); rw [hsx] at this; exact this
      have HPK := Lib.hid hp
      have HWN := Lib.hid (fun w1 (hg : Grow w w1) (ho : VOwn 34 w.heap.size (.slice A0 n0 c0) (L.map (.float .f64)) w1) => withNumber_calls w.heap.size (.slice A0 n0 c0) L sx w1 ho hg.size (by omega) (fun y hy => ⟨_, HI.out y hy⟩) ⟨_, HSI.out⟩)
      obtain ⟨A1, c1, rfl, -, -⟩ := hzz
      clear hcell hz hp hpm
      clear hsx
      go_wp2_with (first
        | (go_at_call 34; refine (HSQ.out _ HG.out).mono ?_; rintro e w1 ⟨rfl, hg1⟩; have HG1 := Lib.hid (HG.out.trans hg1); have HO1 := Lib.hid (VOwn.up _ _ HO.out hg1); clear hg1)
        | (go_at_call 36; refine (HWN.out _ HG1.out HO1.out).mono ?_; rintro e w2 ⟨V2, j, rfl, hput, hown2, hbel⟩; have HPU := Lib.hid hput; have HO2 := Lib.hid hown2; have HG2 : Hid (Grow w w2) := Below.trans HG1.out hbel; clear hput hown2 hbel))
      go_roundw
      case rel =>
        refine ⟨k + 1, _, by go_num, by omega, HG2.out, HO2.out, ?_, put_sorted HPU.out HSO.out, fun y hy => ?_⟩
        · rw [List.take_add_one, HPK.out]
          simp only [Option.toList_some, List.map_append, List.map_cons, List.map_nil]
          have h1 : (List.map Fl.ival (L.take j) ++ Fl.ival sx :: List.map Fl.ival (L.drop j)).Perm (Fl.ival sx :: (List.map Fl.ival (L.take j) ++ List.map Fl.ival (L.drop j))) := List.perm_middle
          rw [← List.map_append, List.take_append_drop, Fl.ival_eq HSI.out] at h1
          rw [Fl.ival_eq HSI.out]
          refine h1.trans ((List.Perm.cons _ HPE.out).trans ?_)
          exact (List.perm_append_comm (l₁ := [sqN (iv p) Q d])).trans (List.Perm.refl _)
        · simp only [List.mem_append, List.mem_cons] at hy
          rcases hy with hy | rfl | hy
          · exact HI.out y (List.mem_of_mem_take hy)
          · rw [Fl.ival_eq HSI.out]; exact HSI.out
          · exact HI.out y (List.mem_of_mem_drop hy)
      case measure => simp [intOf]; omega
end Go.Proofs.Ytcpdhkbmfgphpaa
