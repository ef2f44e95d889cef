import Derived.Test.YtegknlnkkoeahaaGood8
namespace Go.Proofs.Ytegknlnkkoeahaa
open Go.ChangeShapes Go.WideShapes Go.ChangeAt Go.RowKit Go.GrowR
set_option linter.unusedVariables false
set_option linter.unusedSimpArgs false
set_option maxRecDepth 100000 in
set_option maxHeartbeats 2000000 in
theorem good2 (l r : Int) (s : Nat) (A : Option Addr) (n c : Nat) (w : World) (hs : strideN l = s) (s2 : 2 ≤ s) (s9 : s ≤ 9) (hn : n ≤ 2147483647) :
    Calls Try.prog 62 #[GeoE 2 l r (.slice A n c) nilS nilS] w (ReadP ((n : Int) % (s : Int) == 0) w) := by
  have HS := Lib.hid hs; clear hs
  have hz : ((s : Int) == 0) = false := by rw [beq_eq_false_iff_ne]; omega
  have hz2 : (s == 0) = false := by rw [beq_eq_false_iff_ne]; omega
  have hsp : (0 : Int) < (s : Int) := by omega
  cases hq : ((n : Int) % (s : Int) == 0)
  all_goals
    have hq' : ((n : Int) % (s : Int) != 0) = !((n : Int) % (s : Int) == 0) := rfl
    rw [hq] at hq'
    simp only [Bool.not_true, Bool.not_false] at hq'
    have HQ := Lib.hid hq
    go_enter Try.func62, Try.ntmps62
    go_wp2_with (go_at_call 22; refine (strideS _ _ _ HS.out).mono ?_; rintro e w' ⟨rfl, rfl⟩)
    go_ret
    exact ⟨rfl, (Grow.refl w).alloc _⟩
set_option maxRecDepth 100000 in
set_option maxHeartbeats 2000000 in
theorem gGood2 (b c0 : Nat) (l r : Int) (s : Nat) (A : Option Addr) (n c : Nat) (w : World) (hg : GeoAt b 0 2 l r (.slice A n c) nilS nilS w) (h1 : 1 ≤ l) (h9 : l ≤ 9) (hs : strideN l = s) (s2 : 2 ≤ s) (s9 : s ≤ 9) (hn : n ≤ 2147483647) :
    Calls Try.prog 32 #[.slice (some ⟨b, 0, none⟩) 1 c0] w (ReadP (decide (1 + n ≤ 2000) && ((n : Int) % (s : Int) == 0)) w) := by
  have hw : weightD n 0 [] = 1 + n := by simp [weightD, lens]
  have hs1 := gSmall1 b c0 2 l r A none n c 0 0 nilS [] w hg ISSl.nil h1 h9 hn (by omega) (by simp) (by simp) (by rw [hw]; omega)
  rw [hw] at hs1
  have HS1 := Lib.hid hs1; clear hs1 hw
  have HGD := Lib.hid (fun w' => good2 l r s A n c w' hs s2 s9 hn)
  have HG := Lib.hid hg
  clear hg hs
  cases hq : decide (1 + n ≤ 2000) <;> cases hr : ((n : Int) % (s : Int) == 0)
  all_goals
    have HQ := Lib.hid hq; have HR := Lib.hid hr; clear hq hr
    go_enter Try.func32, Try.ntmps32
    go_wp2_with fail
    refine HS1.out.mono ?_
    rw [HQ.out]
    rintro e w1 ⟨rfl, hg1⟩
    obtain ⟨g0, g1, g2, g3, g4, g5, g6⟩ := GeoAt.up _ _ HG.out hg1
    simp only [Nat.zero_add] at g1 g2 g3 g4 g5 g6
    have HG1 := Lib.hid hg1; clear hg1
    go_wp2
  · go_ret
    exact ⟨rfl, HG1.out⟩
  · go_ret
    exact ⟨rfl, HG1.out⟩
  all_goals
    go_loopw [10] (fun i wr => (i = .int .i64 0 ∧ wr = w1) ∨ (i = .int .i64 1 ∧ Grow w wr ∧ ((n : Int) % (s : Int) == 0) = true)) (fun i _ => 1 - (intOf i).toNat)
    case atStart => exact .inl ⟨rfl, rfl⟩
    case round =>
      rcases hrel with ⟨rfl, rfl⟩ | ⟨rfl, hg, hq⟩
      · go_wp2_with fail
        refine (HGD.out _).mono ?_
        rw [HR.out]
        rintro e w2 ⟨rfl, hg2⟩
        have HG2 := Lib.hid (HG1.out.trans (((Grow.refl _).alloc _).trans hg2)); clear hg2
        go_wp2
        first
          | (go_ret; exact ⟨rfl, HG2.out⟩)
          | exact ⟨.inr ⟨rfl, HG2.out, HR.out⟩, by simp [intOf]⟩
          | (go_roundw; case rel => exact .inr ⟨rfl, HG2.out, HR.out⟩; case measure => simp [intOf])
      · first
          | (exfalso; have := HR.out; rw [hq] at this; exact absurd this (by decide))
          | (clear hq; go_wp2; go_ret; exact ⟨rfl, hg⟩)
set_option maxRecDepth 100000 in
set_option maxHeartbeats 2000000 in
theorem gPlain2 (l r : Int) (s : Nat) (A : Option Addr) (n c : Nat) (w : World) (h1 : 1 ≤ l) (h9 : l ≤ 9) (hs : strideN l = s) (s2 : 2 ≤ s) (s9 : s ≤ 9) (hn : n ≤ 2147483647) :
    Calls Try.prog 19 #[GeoE 2 l r (.slice A n c) nilS nilS] w (ReadP (decide (1 + n ≤ 2000) && ((n : Int) % (s : Int) == 0)) w) := by
  have HG := Lib.hid (fun b w' (hg : GeoAt b 0 2 l r (.slice A n c) nilS nilS w') => gGood2 b 1 l r s A n c w' hg h1 h9 hs s2 s9 hn)
  cases hb : (decide (1 + n ≤ 2000) && ((n : Int) % (s : Int) == 0))
  all_goals
    have HB := Lib.hid hb
    clear hb hs
    go_enter Try.func19, Try.ntmps19
    go_wp2_with fail
    refine (HG.out (w.heap.size + 1) _ ⟨by go_simp, by go_simp, by go_simp, by go_simp, by go_simp, by go_simp, by go_simp⟩).mono ?_
    rw [HB.out]
    rintro e w1 ⟨rfl, hg⟩
    have c0 := up_cell (a := ⟨w.heap.size, 0, none⟩) (v := .int .i64 2) (by go_simp) hg
    have HG1 := Lib.hid ((((Grow.refl w).alloc _).alloc _).trans hg); clear hg
    go_wp2
    go_ret
    exact ⟨rfl, HG1.out⟩
end Go.Proofs.Ytegknlnkkoeahaa
