import Derived.Test.YtegknlnkkoeahaaGoodA
namespace Go.Proofs.Ytegknlnkkoeahaa
open Go.ChangeShapes Go.WideShapes Go.ChangeAt Go.RowKit Go.GrowR
set_option linter.unusedVariables false
set_option linter.unusedSimpArgs false
abbrev nilS : Value := .slice none 0 0
set_option maxHeartbeats 1000000 in
theorem gLayouts_in (k l r most : Int) (A B E : Option Addr) (n c m d q e : Nat) (w : World) (h1 : 1 ≤ l) (h9 : l ≤ most) :
    Calls Try.prog 82 #[GeoE k l r (.slice A n c) (.slice B m d) (.slice E q e), .int .i64 most] w (Told' (.bool true) w) := by
  go_enter Try.func82, Try.ntmps82
  go_wp2
  go_loop [10] (fun i => i = .int .i64 0) (fun _ => 0)
  case atStart => rfl
  case round =>
    subst hrel
    go_wp2
    go_ret
    exact Told'.mk rfl ((Grow.refl w).alloc _)
/-- the seven cells of a geometry -/
def GeoAt (b o : Nat) (k l r : Int) (u e1 e2 : Value) (w : World) : Prop := w.cell? ⟨b, o, none⟩ = some (.int .i64 k) ∧ w.cell? ⟨b, o + 1, none⟩ = some (.int .i64 l) ∧ w.cell? ⟨b, o + 2, none⟩ = some (.int .i64 r) ∧ w.cell? ⟨b, o + 3, none⟩ = some u ∧ w.cell? ⟨b, o + 4, none⟩ = some e1 ∧ w.cell? ⟨b, o + 5, none⟩ = some e2 ∧ w.cell? ⟨b, o + 6, none⟩ = some (.slice none 0 0)
theorem GeoAt.up {b o : Nat} {k l r : Int} {u e1 e2 : Value} : Up (GeoAt b o k l r u e1 e2) := fun _ _ ⟨h0, h1, h2, h3, h4, h5, h6⟩ hg => ⟨up_cell h0 hg, up_cell h1 hg, up_cell h2 hg, up_cell h3 hg, up_cell h4 hg, up_cell h5 hg, up_cell h6 hg⟩
def ReadP (b : Bool) (w : World) (e : Ending) (w' : World) : Prop := e = .returned (.bool b) ∧ Grow w w'
set_option maxRecDepth 100000 in
set_option maxHeartbeats 2000000 in
theorem gSmall1 (b c0 : Nat) (k l r : Int) (A B : Option Addr) (n c m d : Nat) (e2 : Value) (nss : List (List Int)) (w : World) (hg : GeoAt b 0 k l r (.slice A n c) (.slice B m d) e2 w) (he2 : ISSl e2 nss w) (h1 : 1 ≤ l) (h9 : l ≤ 9)
    (hn : n ≤ 2147483647) (hm : m ≤ 2147483647) (hl : nss.length ≤ 2147483647) (hl2 : ∀ (i : Nat) (xs : List Int), nss[i]? = some xs → xs.length ≤ 2147483647) (hw : weightD n m nss ≤ 9223372036854775807) :
    Calls Try.prog 61 #[.slice (some ⟨b, 0, none⟩) 1 c0] w (ReadP (decide (weightD n m nss ≤ 2000)) w) := by
  obtain ⟨g0, g1, g2, g3, g4, g5, g6⟩ := hg
  simp only [Nat.zero_add] at g1 g2 g3 g4 g5 g6
  have HE := Lib.hid he2
  obtain ⟨E, ce, rfl, -, -⟩ := SlE.form he2
  clear he2
  have HK := Lib.hid (fun w' (hg : Grow w w') (most : Int) => weight_calls k l r most A B n c m d _ nss w' (ISSl.up _ _ HE.out hg) hn hm hl hl2)
  clear hl2
  obtain ⟨W, hW⟩ : ∃ W, W = weightD n m nss := ⟨_, rfl⟩
  rw [← hW] at hw ⊢
  rw [← hW] at HK
  clear hW
  go_enter Try.func61, Try.ntmps61
  go_wp2
  go_loopw [3, 8] (fun s i wr => (i = .int .i64 0 ∧ s = .int .i64 2000 ∧ wr = w) ∨ (i = .int .i64 1 ∧ W ≤ 2000 ∧ Grow w wr)) (fun _ i _ => 1 - (intOf i).toNat)
  case atStart => exact .inl ⟨rfl, rfl, rfl⟩
  case round =>
    rcases hrel with ⟨rfl, rfl, rfl⟩ | ⟨rfl, hw2, hg⟩
    · by_cases hw2 : W ≤ 2000
      · have hd : decide ((2000 : Int) - (W : Int) < 0) = false := by simp; omega
        go_wp2_with (first
          | (go_at_call 81; refine (HK.out _ ((Grow.refl _).alloc _) _).mono ?_; rintro e w1 ⟨rfl, hg1⟩; have hcell := grow_cell hg1; have HG1 := Lib.hid (((Grow.refl wr).alloc _).trans hg1); clear hg1)
          | (go_at_call 82; refine (gLayouts_in _ _ _ _ _ _ _ _ _ _ _ _ _ _ h1 h9).mono ?_; rintro e w2 ⟨rfl, hg2⟩; have HG2 := Lib.hid (HG1.out.trans hg2); clear hg2 hcell))
        exact ⟨.inr ⟨rfl, hw2, HG2.out⟩, by simp [intOf]⟩
      · have hd : (2000 : Int) - (W : Int) < 0 := by omega
        go_wp2_with (go_at_call 81; refine (HK.out _ ((Grow.refl _).alloc _) _).mono ?_; rintro e w1 ⟨rfl, hg1⟩; have hcell := grow_cell hg1; have HG1 := Lib.hid (((Grow.refl wr).alloc _).trans hg1); clear hg1)
        go_ret
        exact ⟨by simp [hw2], HG1.out⟩
    · go_wp2
      go_ret
      exact ⟨by simp [hw2], hg⟩
set_option maxRecDepth 100000 in
set_option maxHeartbeats 2000000 in
theorem good8 (l r : Int) (s : Nat) (A : Option Addr) (n c : Nat) (w : World) (hs : strideN l = s) (s2 : 2 ≤ s) (s9 : s ≤ 9) (hn : n ≤ 2147483647) :
    Calls Try.prog 62 #[GeoE 8 l r (.slice A n c) nilS nilS] w (ReadP ((n : Int) % (s : Int) == 0) w) := by
  have HS := Lib.hid hs; clear hs
  have hz : ((s : Int) == 0) = false := by rw [beq_eq_false_iff_ne]; omega
  have hz2 : (s == 0) = false := by rw [beq_eq_false_iff_ne]; omega
  have hsp : (0 : Int) < (s : Int) := by omega
  cases hq : ((n : Int) % (s : Int) == 0)
  all_goals
    have hq' : ((n : Int) % (s : Int) != 0) = !((n : Int) % (s : Int) == 0) := rfl
    rw [hq] at hq'
    simp only [Bool.not_true, Bool.not_false] at hq'
    have HQ := Lib.hid hq
    go_enter Try.func62, Try.ntmps62
    go_wp2_with (go_at_call 22; refine (strideS _ _ _ HS.out).mono ?_; rintro e w' ⟨rfl, rfl⟩)
    go_ret
    exact ⟨rfl, (Grow.refl w).alloc _⟩
set_option maxRecDepth 100000 in
set_option maxHeartbeats 2000000 in
theorem gGood8 (b c0 : Nat) (l r : Int) (s : Nat) (A : Option Addr) (n c : Nat) (w : World) (hg : GeoAt b 0 8 l r (.slice A n c) nilS nilS w) (h1 : 1 ≤ l) (h9 : l ≤ 9) (hs : strideN l = s) (s2 : 2 ≤ s) (s9 : s ≤ 9) (hn : n ≤ 2147483647) :
    Calls Try.prog 32 #[.slice (some ⟨b, 0, none⟩) 1 c0] w (ReadP (decide (1 + n ≤ 2000) && ((n : Int) % (s : Int) == 0)) w) := by
  have hw : weightD n 0 [] = 1 + n := by simp [weightD, lens]
  have hs1 := gSmall1 b c0 8 l r A none n c 0 0 nilS [] w hg ISSl.nil h1 h9 hn (by omega) (by simp) (by simp) (by rw [hw]; omega)
  rw [hw] at hs1
  have HS1 := Lib.hid hs1; clear hs1 hw
  have HGD := Lib.hid (fun w' => good8 l r s A n c w' hs s2 s9 hn)
  have HG := Lib.hid hg
  clear hg hs
  cases hq : decide (1 + n ≤ 2000) <;> cases hr : ((n : Int) % (s : Int) == 0)
  all_goals
    have HQ := Lib.hid hq; have HR := Lib.hid hr; clear hq hr
    go_enter Try.func32, Try.ntmps32
    go_wp2_with fail
    refine HS1.out.mono ?_
    rw [HQ.out]
    rintro e w1 ⟨rfl, hg1⟩
    obtain ⟨g0, g1, g2, g3, g4, g5, g6⟩ := GeoAt.up _ _ HG.out hg1
    simp only [Nat.zero_add] at g1 g2 g3 g4 g5 g6
    have HG1 := Lib.hid hg1; clear hg1
    go_wp2
  · go_ret
    exact ⟨rfl, HG1.out⟩
  · go_ret
    exact ⟨rfl, HG1.out⟩
  all_goals
    go_loopw [10] (fun i wr => (i = .int .i64 0 ∧ wr = w1) ∨ (i = .int .i64 1 ∧ Grow w wr ∧ ((n : Int) % (s : Int) == 0) = true)) (fun i _ => 1 - (intOf i).toNat)
    case atStart => exact .inl ⟨rfl, rfl⟩
    case round =>
      rcases hrel with ⟨rfl, rfl⟩ | ⟨rfl, hg, hq⟩
      · go_wp2_with fail
        refine (HGD.out _).mono ?_
        rw [HR.out]
        rintro e w2 ⟨rfl, hg2⟩
        have HG2 := Lib.hid (HG1.out.trans (((Grow.refl _).alloc _).trans hg2)); clear hg2
        go_wp2
        first
          | (go_ret; exact ⟨rfl, HG2.out⟩)
          | exact ⟨.inr ⟨rfl, HG2.out, HR.out⟩, by simp [intOf]⟩
          | (go_roundw; case rel => exact .inr ⟨rfl, HG2.out, HR.out⟩; case measure => simp [intOf])
      · first
          | (exfalso; have := HR.out; rw [hq] at this; exact absurd this (by decide))
          | (clear hq; go_wp2; go_ret; exact ⟨rfl, hg⟩)
end Go.Proofs.Ytegknlnkkoeahaa
