import Derived.Test.YtemobphkgbhhhaaPrtA
import Derived.Deep.RegionHeld
namespace Go.Proofs.Ytemobphkgbhhhaa
open Go.ChangeShapes Go.WideShapes Go.ChangeAt Go.RowKit Go.GrowR
set_option linter.unusedVariables false
set_option linter.unusedSimpArgs false

theorem ObE.nil {b : Nat} {l : Int} {s : Nat} {r : Int} {A : Option Addr} {n c : Nat} {E : Option Addr} {ce : Nat} {segs : List (List (List Nat))} {w : World} (h : ObE b l s r A n c E ce segs w) : E = none → segs.length = 0 := by
  rintro rfl
  rcases h.en with h0 | ⟨be, oe, h1, -⟩
  · have := congrArg List.length h0; rw [cum_len] at this; exact this
  · cases h1
theorem ObE.last {b : Nat} {l : Int} {s : Nat} {r : Int} {A : Option Addr} {n c : Nat} {E : Option Addr} {ce : Nat} {segs : List (List (List Nat))} {w : World} (h : ObE b l s r A n c E ce segs w) (hp : 0 < segs.length) : ∃ be oe x, E = some ⟨be, oe, none⟩ ∧ w.cell? ⟨be, oe + (segs.length - 1), none⟩ = some (.int .i64 x) := by
  rcases h.en with h0 | ⟨be, oe, rfl, hce⟩
  · have := congrArg List.length h0; rw [cum_len, List.length_nil] at this; omega
  · have hl : segs.length - 1 < (cum s 0 segs).length := by rw [cum_len]; omega
    exact ⟨be, oe, _, rfl, hce _ _ (by rw [List.getElem?_eq_getElem hl])⟩

set_option maxRecDepth 100000 in
set_option maxHeartbeats 4000000 in
theorem ringOut (b : Nat) (l : Int) (s : Nat) (r : Int) (A : Option Addr) (n c : Nat) (E : Option Addr) (ce : Nat) (i : Int) (segs : List (List (List Nat))) (w : World) (hO : ObE b l s r A n c E ce segs w) (hi : i < 0 ∨ (segs.length : Int) ≤ i) (hwi : -9223372036854775808 ≤ i ∧ i ≤ 9223372036854775807) :
    Calls Try.prog 38 #[.pointer (some ⟨b, 0, none⟩), .int .i64 i] w (Fell w) := by
  obtain ⟨c0, -, c2, -, -⟩ := hO.o
  have c4 := hO.e
  have hb := cell_ltH c0
  have hnil := hO.nil
  have hmb := hO.n2
  by_cases h0 : i ≤ 0
  · obtain ⟨V1, W1, hg1, hv1, hr1⟩ := indexAt_outs (P := Try.prog) 25 E segs.length ce i (by kernel_rfl) hnil (by omega)
    have hgt : decide ((0 : Int) < i) = false := by simp; omega
    clear hO hi hnil
    go_enter Try.func38, Try.ntmps38
    go_wp2
    refine wp_region_any (by kernel_rfl) ?_
    change wpAny _ _ _ _ _ _ _ (World.drew _)
    refine wpAny_take (i := 0) (v := ?_) rfl (by kernel_rfl) (by kernel_rfl) (by kernel_rfl) (fun _ _ _ h => h) (Or.inl ⟨by rfl, fun w => ?_⟩) ?_
    rotate_left
    · go_simp <;> rfl
    refine wpAny_take (i := 1) (v := ?_) rfl (by kernel_rfl) (by kernel_rfl) (by kernel_rfl) (fun _ _ _ h => h) (Or.inl ⟨by rfl, fun w => ?_⟩) ?_
    rotate_left
    · go_simp <;> rfl
    refine wpAny_take (i := 2) (v := ?_) rfl (by kernel_rfl) (by kernel_rfl) (by kernel_rfl) (fun _ _ _ h => h) (Or.inl ⟨by rfl, fun w => ?_⟩) ?_
    rotate_left
    · go_simp <;> rfl
    refine wpAny_take (i := 3) (v := ?_) rfl (by kernel_rfl) (by kernel_rfl) (by kernel_rfl) (fun _ _ _ h => h) (Or.inl ⟨by rfl, fun w => ?_⟩) ?_
    rotate_left
    · go_simp <;> rfl
    refine wpAny_take (i := 4) (v := ?_) rfl (by kernel_rfl) (by kernel_rfl) (by kernel_rfl) (fun _ _ _ h => h) (Or.inl ⟨by rfl, fun w => ?_⟩) ?_
    rotate_left
    · go_simp <;> rfl
    refine wpAny_take (i := 5) (v := ?_) rfl (by kernel_rfl) (by kernel_rfl) (by kernel_rfl) (fun _ _ _ h => h) (Or.inl ⟨by rfl, fun w => ?_⟩) ?_
    rotate_left
    · go_simp <;> rfl
    refine wpAny_take (i := 7) (v := ?_) rfl (by kernel_rfl) (by kernel_rfl) (by kernel_rfl) (fun _ _ _ h => h) (Or.inl ⟨by rfl, fun w => ?_⟩) ?_
    rotate_left
    · go_simp <;> rfl
    refine wpAny_take (i := 8) (v := ?_) rfl (by kernel_rfl) (by kernel_rfl) (by kernel_rfl) (fun _ _ _ h => h) (Or.inl ⟨by rfl, fun w => ?_⟩) ?_
    rotate_left
    · go_simp <;> rfl
    refine wpAny_take (i := 9) (v := ?_) rfl (by kernel_rfl) (by kernel_rfl) (by kernel_rfl) (fun _ _ _ h => h) (Or.inl ⟨by rfl, fun w => ?_⟩) ?_
    rotate_left
    · go_simp <;> rfl
    refine wpAny_take (i := 10) (v := ?_) rfl (by kernel_rfl) (by kernel_rfl) (by kernel_rfl) (fun _ _ _ h => h) (Or.inl ⟨by rfl, fun w => ?_⟩) ?_
    rotate_left
    · go_simp <;> rfl
    refine wpAny_take (i := 11) (v := ?_) rfl (by kernel_rfl) (by kernel_rfl) (by kernel_rfl) (fun _ _ _ h => h) (Or.inl ⟨by rfl, fun w => ?_⟩) ?_
    rotate_left
    · go_simp <;> rfl
    refine wpAny_take (i := 12) (v := ?_) rfl (by kernel_rfl) (by kernel_rfl) (by kernel_rfl) (fun _ _ _ h => h) (Or.inl ⟨by rfl, fun w => ?_⟩) ?_
    rotate_left
    · go_simp <;> rfl
    refine wpAny_take (i := 14) (v := ?_) rfl (by kernel_rfl) (by kernel_rfl) (by kernel_rfl) (fun _ _ _ h => h) (Or.inl ⟨by rfl, fun w => ?_⟩) ?_
    rotate_left
    · go_simp <;> rfl
    refine wpAny_take (i := 15) (v := ?_) rfl (by kernel_rfl) (by kernel_rfl) (by kernel_rfl) (fun _ _ _ h => h) (Or.inl ⟨by rfl, fun w => ?_⟩) ?_
    rotate_left
    · go_simp <;> rfl
    refine wpAny_take (i := 16) (v := ?_) rfl (by kernel_rfl) (by kernel_rfl) (by kernel_rfl) (fun _ _ _ h => h) (Or.inl ⟨by rfl, fun w => ?_⟩) ?_
    rotate_left
    · go_simp <;> rfl
    refine wpAny_take (i := 17) (v := ?_) rfl (by kernel_rfl) (by kernel_rfl) (by kernel_rfl) (fun _ _ _ h => h) (Or.inl ⟨by rfl, fun w => ?_⟩) ?_
    rotate_left
    · go_simp <;> rfl
    refine wpAny_take (i := 18) (v := ?_) rfl (by kernel_rfl) (by kernel_rfl) (by kernel_rfl) (fun _ _ _ h => h) (Or.inl ⟨by rfl, fun w => ?_⟩) ?_
    rotate_left
    · go_simp <;> rfl
    refine wpAny_take (i := 20) (v := ?_) rfl (by kernel_rfl) (by kernel_rfl) (by kernel_rfl) (fun _ _ _ h => h) (Or.inl ⟨by rfl, fun w => ?_⟩) ?_
    rotate_left
    · go_simp <;> rfl
    refine wpAny_ready (rs := [6, 13, 19]) (by kernel_rfl) (by simp) ?_
    refine AllReady.cons rfl (fun K hK => ?_) ?_
    · go_simp
      refine hK _ _ ?_
      clear hK K
      refine wpAny_ready (rs := [13, 19]) (by kernel_rfl) (by simp) ?_
      refine AllReady.cons rfl (fun K hK => ?_) ?_
      · go_simp
        refine hK _ _ ?_
        clear hK K
        refine wpAny_ready (rs := [19]) (by kernel_rfl) (by simp) ?_
        refine AllReady.cons rfl (fun K hK => ?_) ?_
        · go_simp
          refine hK _ _ ?_
          clear hK K
          refine wpAny_ready (rs := [21]) (by kernel_rfl) (by simp) ?_
          refine AllReady.cons rfl (fun K hK => ?_) ?_
          · go_simp
            exact ⟨rfl, fell_mk (hv1 _) (((Grow.refl w).drew).trans (hg1 _))⟩
          exact AllReady.nil
        exact AllReady.nil
      refine AllReady.cons rfl (fun K hK => ?_) ?_
      · go_simp
        refine hK _ _ ?_
        clear hK K
        refine wpAny_ready (rs := [13, 21]) (by kernel_rfl) (by simp) ?_
        refine AllReady.cons rfl (fun K hK => ?_) ?_
        · go_simp
          refine hK _ _ ?_
          clear hK K
          refine wpAny_ready (rs := [21]) (by kernel_rfl) (by simp) ?_
          refine AllReady.cons rfl (fun K hK => ?_) ?_
          · go_simp
            exact ⟨rfl, fell_mk (hv1 _) (((Grow.refl w).drew).trans (hg1 _))⟩
          exact AllReady.nil
        refine AllReady.cons rfl (fun K hK => ?_) ?_
        · go_simp
          exact ⟨rfl, fell_mk (hv1 _) (((Grow.refl w).drew).trans (hg1 _))⟩
        exact AllReady.nil
      exact AllReady.nil
    refine AllReady.cons rfl (fun K hK => ?_) ?_
    · go_simp
      refine hK _ _ ?_
      clear hK K
      refine wpAny_ready (rs := [6, 19]) (by kernel_rfl) (by simp) ?_
      refine AllReady.cons rfl (fun K hK => ?_) ?_
      · go_simp
        refine hK _ _ ?_
        clear hK K
        refine wpAny_ready (rs := [19]) (by kernel_rfl) (by simp) ?_
        refine AllReady.cons rfl (fun K hK => ?_) ?_
        · go_simp
          refine hK _ _ ?_
          clear hK K
          refine wpAny_ready (rs := [21]) (by kernel_rfl) (by simp) ?_
          refine AllReady.cons rfl (fun K hK => ?_) ?_
          · go_simp
            exact ⟨rfl, fell_mk (hv1 _) (((Grow.refl w).drew).trans (hg1 _))⟩
          exact AllReady.nil
        exact AllReady.nil
      refine AllReady.cons rfl (fun K hK => ?_) ?_
      · go_simp
        refine hK _ _ ?_
        clear hK K
        refine wpAny_ready (rs := [6, 21]) (by kernel_rfl) (by simp) ?_
        refine AllReady.cons rfl (fun K hK => ?_) ?_
        · go_simp
          refine hK _ _ ?_
          clear hK K
          refine wpAny_ready (rs := [21]) (by kernel_rfl) (by simp) ?_
          refine AllReady.cons rfl (fun K hK => ?_) ?_
          · go_simp
            exact ⟨rfl, fell_mk (hv1 _) (((Grow.refl w).drew).trans (hg1 _))⟩
          exact AllReady.nil
        refine AllReady.cons rfl (fun K hK => ?_) ?_
        · go_simp
          exact ⟨rfl, fell_mk (hv1 _) (((Grow.refl w).drew).trans (hg1 _))⟩
        exact AllReady.nil
      exact AllReady.nil
    refine AllReady.cons rfl (fun K hK => ?_) ?_
    · go_simp
      refine hK _ _ ?_
      clear hK K
      refine wpAny_ready (rs := [6, 13, 21]) (by kernel_rfl) (by simp) ?_
      refine AllReady.cons rfl (fun K hK => ?_) ?_
      · go_simp
        refine hK _ _ ?_
        clear hK K
        refine wpAny_ready (rs := [13, 21]) (by kernel_rfl) (by simp) ?_
        refine AllReady.cons rfl (fun K hK => ?_) ?_
        · go_simp
          refine hK _ _ ?_
          clear hK K
          refine wpAny_ready (rs := [21]) (by kernel_rfl) (by simp) ?_
          refine AllReady.cons rfl (fun K hK => ?_) ?_
          · go_simp
            exact ⟨rfl, fell_mk (hv1 _) (((Grow.refl w).drew).trans (hg1 _))⟩
          exact AllReady.nil
        refine AllReady.cons rfl (fun K hK => ?_) ?_
        · go_simp
          exact ⟨rfl, fell_mk (hv1 _) (((Grow.refl w).drew).trans (hg1 _))⟩
        exact AllReady.nil
      refine AllReady.cons rfl (fun K hK => ?_) ?_
      · go_simp
        refine hK _ _ ?_
        clear hK K
        refine wpAny_ready (rs := [6, 21]) (by kernel_rfl) (by simp) ?_
        refine AllReady.cons rfl (fun K hK => ?_) ?_
        · go_simp
          refine hK _ _ ?_
          clear hK K
          refine wpAny_ready (rs := [21]) (by kernel_rfl) (by simp) ?_
          refine AllReady.cons rfl (fun K hK => ?_) ?_
          · go_simp
            exact ⟨rfl, fell_mk (hv1 _) (((Grow.refl w).drew).trans (hg1 _))⟩
          exact AllReady.nil
        refine AllReady.cons rfl (fun K hK => ?_) ?_
        · go_simp
          exact ⟨rfl, fell_mk (hv1 _) (((Grow.refl w).drew).trans (hg1 _))⟩
        exact AllReady.nil
      refine AllReady.cons rfl (fun K hK => ?_) ?_
      · go_simp
        exact ⟨rfl, fell_mk (hv1 _) (((Grow.refl w).drew).trans (hg1 _))⟩
      exact AllReady.nil
    exact AllReady.nil
  · by_cases h1 : i = (segs.length : Int)
    · obtain ⟨V1, W1, hg1, hv1, hr1⟩ := indexAt_outs (P := Try.prog) 25 E segs.length ce (segs.length : Int) (by kernel_rfl) hnil (by omega)
      subst h1
      obtain ⟨be, oe, x, rfl, hcx⟩ := hO.last (by omega)
      have hgt : decide ((0 : Int) < (segs.length : Int)) = true := by simp; omega
      have hgt2 : 0 < segs.length := by omega
      have hbe := cell_ltH hcx
      clear hO hi hnil h0
      generalize segs.length = m at *
      go_enter Try.func38, Try.ntmps38
      go_wp2
      refine wp_region_any (by kernel_rfl) ?_
      change wpAny _ _ _ _ _ _ _ (World.drew _)
      refine wpAny_take (i := 0) (v := ?_) rfl (by kernel_rfl) (by kernel_rfl) (by kernel_rfl) (fun _ _ _ h => h) (Or.inl ⟨by rfl, fun w => ?_⟩) ?_
      rotate_left
      · go_simp <;> rfl
      refine wpAny_take (i := 1) (v := ?_) rfl (by kernel_rfl) (by kernel_rfl) (by kernel_rfl) (fun _ _ _ h => h) (Or.inl ⟨by rfl, fun w => ?_⟩) ?_
      rotate_left
      · go_simp <;> rfl
      refine wpAny_take (i := 2) (v := ?_) rfl (by kernel_rfl) (by kernel_rfl) (by kernel_rfl) (fun _ _ _ h => h) (Or.inl ⟨by rfl, fun w => ?_⟩) ?_
      rotate_left
      · go_simp <;> rfl
      refine wpAny_take (i := 3) (v := ?_) rfl (by kernel_rfl) (by kernel_rfl) (by kernel_rfl) (fun _ _ _ h => h) (Or.inl ⟨by rfl, fun w => ?_⟩) ?_
      rotate_left
      · go_simp <;> rfl
      refine wpAny_take (i := 4) (v := ?_) rfl (by kernel_rfl) (by kernel_rfl) (by kernel_rfl) (fun _ _ _ h => h) (Or.inl ⟨by rfl, fun w => ?_⟩) ?_
      rotate_left
      · go_simp <;> rfl
      refine wpAny_take (i := 5) (v := ?_) rfl (by kernel_rfl) (by kernel_rfl) (by kernel_rfl) (fun _ _ _ h => h) (Or.inl ⟨by rfl, fun w => ?_⟩) ?_
      rotate_left
      · go_simp <;> rfl
      refine wpAny_take (i := 7) (v := ?_) rfl (by kernel_rfl) (by kernel_rfl) (by kernel_rfl) (fun _ _ _ h => h) (Or.inl ⟨by rfl, fun w => ?_⟩) ?_
      rotate_left
      · go_simp <;> rfl
      refine wpAny_take (i := 8) (v := ?_) rfl (by kernel_rfl) (by kernel_rfl) (by kernel_rfl) (fun _ _ _ h => h) (Or.inl ⟨by rfl, fun w => ?_⟩) ?_
      rotate_left
      · go_simp <;> rfl
      refine wpAny_take (i := 9) (v := ?_) rfl (by kernel_rfl) (by kernel_rfl) (by kernel_rfl) (fun _ _ _ h => h) (Or.inl ⟨by rfl, fun w => ?_⟩) ?_
      rotate_left
      · go_simp <;> rfl
      refine wpAny_take (i := 10) (v := ?_) rfl (by kernel_rfl) (by kernel_rfl) (by kernel_rfl) (fun _ _ _ h => h) (Or.inl ⟨by rfl, fun w => ?_⟩) ?_
      rotate_left
      · go_simp <;> rfl
      refine wpAny_take (i := 11) (v := ?_) rfl (by kernel_rfl) (by kernel_rfl) (by kernel_rfl) (fun _ _ _ h => h) (Or.inl ⟨by rfl, fun w => ?_⟩) ?_
      rotate_left
      · go_simp <;> rfl
      refine wpAny_take (i := 12) (v := ?_) rfl (by kernel_rfl) (by kernel_rfl) (by kernel_rfl) (fun _ _ _ h => h) (Or.inl ⟨by rfl, fun w => ?_⟩) ?_
      rotate_left
      · go_simp <;> rfl
      refine wpAny_take (i := 14) (v := ?_) rfl (by kernel_rfl) (by kernel_rfl) (by kernel_rfl) (fun _ _ _ h => h) (Or.inl ⟨by rfl, fun w => ?_⟩) ?_
      rotate_left
      · go_simp <;> rfl
      refine wpAny_take (i := 15) (v := ?_) rfl (by kernel_rfl) (by kernel_rfl) (by kernel_rfl) (fun _ _ _ h => h) (Or.inl ⟨by rfl, fun w => ?_⟩) ?_
      rotate_left
      · go_simp <;> rfl
      refine wpAny_take (i := 16) (v := ?_) rfl (by kernel_rfl) (by kernel_rfl) (by kernel_rfl) (fun _ _ _ h => h) (Or.inl ⟨by rfl, fun w => ?_⟩) ?_
      rotate_left
      · go_simp <;> rfl
      refine wpAny_take (i := 17) (v := ?_) rfl (by kernel_rfl) (by kernel_rfl) (by kernel_rfl) (fun _ _ _ h => h) (Or.inl ⟨by rfl, fun w => ?_⟩) ?_
      rotate_left
      · go_simp <;> rfl
      refine wpAny_take (i := 18) (v := ?_) rfl (by kernel_rfl) (by kernel_rfl) (by kernel_rfl) (fun _ _ _ h => h) (Or.inl ⟨by rfl, fun w => ?_⟩) ?_
      rotate_left
      · go_simp <;> rfl
      refine wpAny_take (i := 20) (v := ?_) rfl (by kernel_rfl) (by kernel_rfl) (by kernel_rfl) (fun _ _ _ h => h) (Or.inl ⟨by rfl, fun w => ?_⟩) ?_
      rotate_left
      · go_simp <;> rfl
      refine wpAny_ready (rs := [6, 13, 19]) (by kernel_rfl) (by simp) ?_
      refine AllReady.cons rfl (fun K hK => ?_) ?_
      · go_simp
        refine hK _ _ ?_
        clear hK K
        refine wpAny_ready (rs := [13, 19]) (by kernel_rfl) (by simp) ?_
        refine AllReady.cons rfl (fun K hK => ?_) ?_
        · go_simp
          refine hK _ _ ?_
          clear hK K
          refine wpAny_ready (rs := [19]) (by kernel_rfl) (by simp) ?_
          refine AllReady.cons rfl (fun K hK => ?_) ?_
          · go_simp
            refine hK _ _ ?_
            clear hK K
            refine wpAny_ready (rs := [21]) (by kernel_rfl) (by simp) ?_
            refine AllReady.cons rfl (fun K hK => ?_) ?_
            · go_simp
              exact ⟨rfl, fell_mk (hv1 _) (((Grow.refl w).drew).trans (hg1 _))⟩
            exact AllReady.nil
          exact AllReady.nil
        refine AllReady.cons rfl (fun K hK => ?_) ?_
        · go_simp
          refine hK _ _ ?_
          clear hK K
          refine wpAny_ready (rs := [13, 21]) (by kernel_rfl) (by simp) ?_
          refine AllReady.cons rfl (fun K hK => ?_) ?_
          · go_simp
            refine hK _ _ ?_
            clear hK K
            refine wpAny_ready (rs := [21]) (by kernel_rfl) (by simp) ?_
            refine AllReady.cons rfl (fun K hK => ?_) ?_
            · go_simp
              exact ⟨rfl, fell_mk (hv1 _) (((Grow.refl w).drew).trans (hg1 _))⟩
            exact AllReady.nil
          refine AllReady.cons rfl (fun K hK => ?_) ?_
          · go_simp
            exact ⟨rfl, fell_mk (hv1 _) (((Grow.refl w).drew).trans (hg1 _))⟩
          exact AllReady.nil
        exact AllReady.nil
      refine AllReady.cons rfl (fun K hK => ?_) ?_
      · go_simp
        refine hK _ _ ?_
        clear hK K
        refine wpAny_ready (rs := [6, 19]) (by kernel_rfl) (by simp) ?_
        refine AllReady.cons rfl (fun K hK => ?_) ?_
        · go_simp
          refine hK _ _ ?_
          clear hK K
          refine wpAny_ready (rs := [19]) (by kernel_rfl) (by simp) ?_
          refine AllReady.cons rfl (fun K hK => ?_) ?_
          · go_simp
            refine hK _ _ ?_
            clear hK K
            refine wpAny_ready (rs := [21]) (by kernel_rfl) (by simp) ?_
            refine AllReady.cons rfl (fun K hK => ?_) ?_
            · go_simp
              exact ⟨rfl, fell_mk (hv1 _) (((Grow.refl w).drew).trans (hg1 _))⟩
            exact AllReady.nil
          exact AllReady.nil
        refine AllReady.cons rfl (fun K hK => ?_) ?_
        · go_simp
          refine hK _ _ ?_
          clear hK K
          refine wpAny_ready (rs := [6, 21]) (by kernel_rfl) (by simp) ?_
          refine AllReady.cons rfl (fun K hK => ?_) ?_
          · go_simp
            refine hK _ _ ?_
            clear hK K
            refine wpAny_ready (rs := [21]) (by kernel_rfl) (by simp) ?_
            refine AllReady.cons rfl (fun K hK => ?_) ?_
            · go_simp
              exact ⟨rfl, fell_mk (hv1 _) (((Grow.refl w).drew).trans (hg1 _))⟩
            exact AllReady.nil
          refine AllReady.cons rfl (fun K hK => ?_) ?_
          · go_simp
            exact ⟨rfl, fell_mk (hv1 _) (((Grow.refl w).drew).trans (hg1 _))⟩
          exact AllReady.nil
        exact AllReady.nil
      refine AllReady.cons rfl (fun K hK => ?_) ?_
      · go_simp
        refine hK _ _ ?_
        clear hK K
        refine wpAny_ready (rs := [6, 13, 21]) (by kernel_rfl) (by simp) ?_
        refine AllReady.cons rfl (fun K hK => ?_) ?_
        · go_simp
          refine hK _ _ ?_
          clear hK K
          refine wpAny_ready (rs := [13, 21]) (by kernel_rfl) (by simp) ?_
          refine AllReady.cons rfl (fun K hK => ?_) ?_
          · go_simp
            refine hK _ _ ?_
            clear hK K
            refine wpAny_ready (rs := [21]) (by kernel_rfl) (by simp) ?_
            refine AllReady.cons rfl (fun K hK => ?_) ?_
            · go_simp
              exact ⟨rfl, fell_mk (hv1 _) (((Grow.refl w).drew).trans (hg1 _))⟩
            exact AllReady.nil
          refine AllReady.cons rfl (fun K hK => ?_) ?_
          · go_simp
            exact ⟨rfl, fell_mk (hv1 _) (((Grow.refl w).drew).trans (hg1 _))⟩
          exact AllReady.nil
        refine AllReady.cons rfl (fun K hK => ?_) ?_
        · go_simp
          refine hK _ _ ?_
          clear hK K
          refine wpAny_ready (rs := [6, 21]) (by kernel_rfl) (by simp) ?_
          refine AllReady.cons rfl (fun K hK => ?_) ?_
          · go_simp
            refine hK _ _ ?_
            clear hK K
            refine wpAny_ready (rs := [21]) (by kernel_rfl) (by simp) ?_
            refine AllReady.cons rfl (fun K hK => ?_) ?_
            · go_simp
              exact ⟨rfl, fell_mk (hv1 _) (((Grow.refl w).drew).trans (hg1 _))⟩
            exact AllReady.nil
          refine AllReady.cons rfl (fun K hK => ?_) ?_
          · go_simp
            exact ⟨rfl, fell_mk (hv1 _) (((Grow.refl w).drew).trans (hg1 _))⟩
          exact AllReady.nil
        refine AllReady.cons rfl (fun K hK => ?_) ?_
        · go_simp
          exact ⟨rfl, fell_mk (hv1 _) (((Grow.refl w).drew).trans (hg1 _))⟩
        exact AllReady.nil
      exact AllReady.nil
    · obtain ⟨V1, W1, hg1, hv1, hr1⟩ := indexAt_outs (P := Try.prog) 25 E segs.length ce (i - 1) (by kernel_rfl) hnil (by omega)
      have hgt : decide ((0 : Int) < i) = true := by simp; omega
      have h2 : (segs.length : Int) < i := by omega
      clear hO hi hnil h0 h1
      generalize segs.length = m at *
      go_enter Try.func38, Try.ntmps38
      go_wp2
      exact ⟨rfl, fell_mk (hv1 _) ((Grow.refl w).trans (hg1 _))⟩

set_option maxRecDepth 100000 in
set_option maxHeartbeats 4000000 in
theorem lineOut (b : Nat) (l : Int) (s : Nat) (r : Int) (A : Option Addr) (n c : Nat) (E : Option Addr) (ce : Nat) (i : Int) (segs : List (List (List Nat))) (w : World) (hO : ObE b l s r A n c E ce segs w) (hi : i < 0 ∨ (segs.length : Int) ≤ i) (hwi : -9223372036854775808 ≤ i ∧ i ≤ 9223372036854775807) :
    Calls Try.prog 40 #[.pointer (some ⟨b, 0, none⟩), .int .i64 i] w (Fell w) := by
  obtain ⟨c0, -, c2, -, -⟩ := hO.o
  have c4 := hO.e
  have hb := cell_ltH c0
  have hnil := hO.nil
  have hmb := hO.n2
  by_cases h0 : i ≤ 0
  · obtain ⟨V1, W1, hg1, hv1, hr1⟩ := indexAt_outs (P := Try.prog) 25 E segs.length ce i (by kernel_rfl) hnil (by omega)
    have hgt : decide ((0 : Int) < i) = false := by simp; omega
    clear hO hi hnil
    go_enter Try.func40, Try.ntmps40
    go_wp2
    exact ⟨rfl, fell_mk (hv1 _) ((Grow.refl w).trans (hg1 _))⟩
  · by_cases h1 : i = (segs.length : Int)
    · obtain ⟨V1, W1, hg1, hv1, hr1⟩ := indexAt_outs (P := Try.prog) 25 E segs.length ce (segs.length : Int) (by kernel_rfl) hnil (by omega)
      subst h1
      obtain ⟨be, oe, x, rfl, hcx⟩ := hO.last (by omega)
      have hgt : decide ((0 : Int) < (segs.length : Int)) = true := by simp; omega
      have hgt2 : 0 < segs.length := by omega
      have hbe := cell_ltH hcx
      clear hO hi hnil h0
      generalize segs.length = m at *
      go_enter Try.func40, Try.ntmps40
      go_wp2
      exact ⟨rfl, fell_mk (hv1 _) ((Grow.refl w).trans (hg1 _))⟩
    · obtain ⟨V1, W1, hg1, hv1, hr1⟩ := indexAt_outs (P := Try.prog) 25 E segs.length ce (i - 1) (by kernel_rfl) hnil (by omega)
      have hgt : decide ((0 : Int) < i) = true := by simp; omega
      have h2 : (segs.length : Int) < i := by omega
      clear hO hi hnil h0 h1
      generalize segs.length = m at *
      go_enter Try.func40, Try.ntmps40
      go_wp2
      exact ⟨rfl, fell_mk (hv1 _) ((Grow.refl w).trans (hg1 _))⟩

set_option maxRecDepth 100000 in
set_option maxHeartbeats 4000000 in
theorem coordOut (b : Nat) (l : Int) (s : Nat) (r : Int) (A : Option Addr) (n c : Nat) (E : Option Addr) (ce : Nat) (i : Int) (segs : List (List (List Nat))) (w : World) (hO : ObE b l s r A n c E ce segs w) (hi : i < 0 ∨ (segs.length : Int) ≤ i) (hwi : -9223372036854775808 ≤ i ∧ i ≤ 9223372036854775807) :
    Calls Try.prog 83 #[.pointer (some ⟨b, 0, none⟩), .int .i64 i] w (Fell w) := by
  obtain ⟨c0, -, c2, -, -⟩ := hO.o
  have c4 := hO.e
  have hb := cell_ltH c0
  have hnil := hO.nil
  have hmb := hO.n2
  by_cases h0 : i ≤ 0
  · obtain ⟨V1, W1, hg1, hv1, hr1⟩ := indexAt_outs (P := Try.prog) 25 E segs.length ce i (by kernel_rfl) hnil (by omega)
    have hgt : decide ((0 : Int) < i) = false := by simp; omega
    clear hO hi hnil
    go_enter Try.func83, Try.ntmps83
    go_wp2
    exact ⟨rfl, fell_mk (hv1 _) ((Grow.refl w).trans (hg1 _))⟩
  · by_cases h1 : i = (segs.length : Int)
    · obtain ⟨V1, W1, hg1, hv1, hr1⟩ := indexAt_outs (P := Try.prog) 25 E segs.length ce (segs.length : Int) (by kernel_rfl) hnil (by omega)
      subst h1
      obtain ⟨be, oe, x, rfl, hcx⟩ := hO.last (by omega)
      have hgt : decide ((0 : Int) < (segs.length : Int)) = true := by simp; omega
      have hgt2 : 0 < segs.length := by omega
      have hbe := cell_ltH hcx
      clear hO hi hnil h0
      generalize segs.length = m at *
      go_enter Try.func83, Try.ntmps83
      go_wp2
      exact ⟨rfl, fell_mk (hv1 _) ((Grow.refl w).trans (hg1 _))⟩
    · obtain ⟨V1, W1, hg1, hv1, hr1⟩ := indexAt_outs (P := Try.prog) 25 E segs.length ce (i - 1) (by kernel_rfl) hnil (by omega)
      have hgt : decide ((0 : Int) < i) = true := by simp; omega
      have h2 : (segs.length : Int) < i := by omega
      clear hO hi hnil h0 h1
      generalize segs.length = m at *
      go_enter Try.func83, Try.ntmps83
      go_wp2
      exact ⟨rfl, fell_mk (hv1 _) ((Grow.refl w).trans (hg1 _))⟩

set_option maxHeartbeats 4000000 in
theorem pointOut (b : Nat) (l : Int) (s : Nat) (r : Int) (A : Option Addr) (n c : Nat) (E : Option Addr) (ce : Nat) (i : Int) (segs : List (List (List Nat))) (w : World) (hO : ObE b l s r A n c E ce segs w) (hi : i < 0 ∨ (segs.length : Int) ≤ i) (hwi : -9223372036854775808 ≤ i ∧ i ≤ 9223372036854775807) :
    Calls Try.prog 39 #[.pointer (some ⟨b, 0, none⟩), .int .i64 i] w (Fell w) := by
  have HC := Lib.hid (coordOut b l s r A n c E ce i segs w hO hi hwi)
  clear hO hi hwi
  go_enter Try.func39, Try.ntmps39
  go_wp2_with fail
  refine (HC.out).mono ?_
  rintro e w1 ⟨t, v, rfl, hg1⟩
  have HG1 := Lib.hid hg1
  clear hg1
  go_wp2
  exact ⟨rfl, ⟨t, v, rfl, HG1.out⟩⟩
end Go.Proofs.Ytemobphkgbhhhaa
