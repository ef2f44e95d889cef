import Derived.Test.YtcpdhkbmfgphpaaHkV
namespace Go.Proofs.Ytcpdhkbmfgphpaa
open Go.ChangeShapes Go.WideShapes Go.ChangeAt Go.RowKit Go.GrowR
set_option linter.unusedVariables false
set_option linter.unusedSimpArgs false

def HP (w1 : World) (b n d : Nat) (M : List Nat) (w : World) : Prop := ∃ C f, HS w1 b n d C f w ∧ ((List.range n).map f).Perm M
theorem HP.drewN {w1 : World} {b n d : Nat} {M : List Nat} {w : World} (h : HP w1 b n d M w) (m : Nat) : HP w1 b n d M (w.drewN m) := by
  obtain ⟨C, f, h1, h2⟩ := h; exact ⟨C, f, h1.drewN m, h2⟩
set_option maxRecDepth 100000 in
set_option maxHeartbeats 8000000 in
theorem up_calls (w1 : World) (b n d j0 : Nat) (M : List Nat) (w : World) (h : HP w1 b n d M w) (hj : j0 < n) (hn : n ≤ 1000) : Calls Try.prog 61 #[.iface 78 (.pointer (some ⟨b, 0, none⟩)), .int .i64 j0] w fun e w' => e = .returned (.tuple #[]) ∧ HP w1 b n d M w' := by
  have HH := Lib.hid h
  clear h
  go_enter Try.func61, Try.ntmps61
  go_wp2
  go_loopw [1] (fun vj wr => ∃ j : Nat, vj = .int .i64 j ∧ j < n ∧ HP w1 b n d M wr) (fun vj _ => (intOf vj).toNat)
  case atStart => exact ⟨j0, rfl, hj, HH.out⟩
  case round =>
    obtain ⟨j, rfl, hjn, hh⟩ := hrel
    have HR := Lib.hid hh
    clear hh HH
    by_cases h0 : j = 0
    · subst h0
      go_wp2
      exact bodyPost_end (results_none rfl _ _ _) rfl ⟨rfl, HR.out⟩
    · obtain ⟨C, f, hs, hp⟩ := HR.out
      obtain ⟨i, hi⟩ : ∃ i : Nat, i = (j - 1) / 2 := ⟨_, rfl⟩
      have hij : i < j := by omega
      have hq : ((j : Int) - 1).tdiv 2 = (i : Int) := by rw [Int.tdiv_eq_ediv_of_nonneg (by omega)]; omega
      have hne : ((i : Int) == (j : Int)) = false := by simp; omega
      have HL := Lib.hid (hs.less j i hjn (by omega) (by omega))
      clear hi
      by_cases hc : vq (f i) < vq (f j)
      · have hi1 : 1 ≤ i := by
          rcases Nat.eq_zero_or_pos i with e | e
          · subst e
            have h1 := (hs.le j hjn).2
            rw [hs.f0] at hc
            exact absurd h1 (Rat.not_le.2 hc)
          · exact e
        rw [decide_eq_true hc] at HL
        have HS2 := Lib.hid (fun m => (hs.drewN m).swap i j (by omega) hi1 (by omega) (by omega) hjn)
        have HP2 : Hid (((List.range n).map (swp f i j)).Perm M) := (swp_perm f hij hjn).trans hp
        clear hc hs hp HR
        go_wp2_with fail
        refine HL.out.mono ?_
        rintro e w2 ⟨rfl, m, rfl⟩
        go_wp2_with fail
        refine (HS2.out m).mono ?_
        rintro e w3 ⟨rfl, h3⟩
        have H3 := Lib.hid h3
        clear h3
        go_wp2
        go_roundw
        case rel => exact ⟨i, rfl, by omega, _, _, H3.out, HP2.out⟩
        case measure => simp [intOf]; omega
      · rw [decide_eq_false hc] at HL
        clear hc hs hp
        go_wp2_with fail
        refine HL.out.mono ?_
        rintro e w2 ⟨rfl, m, rfl⟩
        go_wp2
        exact bodyPost_end (results_none rfl _ _ _) rfl ⟨rfl, HR.out.drewN m⟩
theorem upd_perm {n y : Nat} {f : Nat → Nat} {M : List Nat} (h : ((List.range n).map f).Perm M) : ((List.range (n + 1)).map (upd f n y)).Perm (M ++ [y]) := by
  rw [List.range_succ, List.map_append]
  have e : (List.range n).map (upd f n y) = (List.range n).map f := List.map_congr_left fun k hk => by
    have := List.mem_range.1 hk; unfold upd; rw [if_neg (by omega)]
  rw [e]
  simpa [upd] using h.append_right [y]
set_option maxRecDepth 100000 in
set_option maxHeartbeats 8000000 in
theorem hpush_calls (w1 : World) (b n d y : Nat) (a : Option Addr) (M : List Nat) (w : World) (h : HP w1 b n d M w) (hy : finB y = true ∧ vq y ≤ vq d) (hn : n ≤ 999) : Calls Try.prog 54 #[.iface 78 (.pointer (some ⟨b, 0, none⟩)), .iface 82 (.agg #[.iface 61 (.slice a 0 0), .float .f64 y])] w fun e w' => e = .returned (.tuple #[]) ∧ HP w1 b (n + 1) d (M ++ [y]) w' := by
  obtain ⟨C, f, hs, hp⟩ := h
  have HPU := Lib.hid (hs.push a y hy (by omega))
  have HPP := Lib.hid (upd_perm (y := y) hp)
  clear hs hp hy
  go_enter Try.func54, Try.ntmps54
  go_wp2_with fail
  refine HPU.out.mono ?_
  rintro e w2 ⟨rfl, h2⟩
  have HL := Lib.hid h2.len
  have HU := Lib.hid (up_calls w1 b (n + 1) d n (M ++ [y]) w2 ⟨_, _, h2, HPP.out⟩ (by omega) (by omega))
  clear h2
  go_wp2_with fail
  refine HL.out.mono ?_
  rintro e w3 ⟨rfl, rfl⟩
  have hz : IntKind.i64.wrap (((n + 1 : Nat) : Int) - 1) = (n : Int) := by rw [IntWalk.i64_in _ (by omega)]; omega
  go_wp2_with fail
  refine HU.out.mono ?_
  rintro e w4 ⟨rfl, h4⟩
  go_wp2
  exact bodyPost_end (results_none rfl _ _ _) rfl ⟨rfl, h4⟩
end Go.Proofs.Ytcpdhkbmfgphpaa
