import Derived.Test.YtcpdhkbmfgphpaaHkX
namespace Go.Proofs.Ytcpdhkbmfgphpaa
open Go.ChangeShapes Go.WideShapes Go.ChangeAt Go.RowKit Go.GrowR
set_option linter.unusedVariables false
set_option linter.unusedSimpArgs false

theorem infoFd : (Try.prog.info? 39).map (fun i => (i.zero, i.size, i.bytes)) = some (some (.agg #[.slice none 0 0, .float .f64 0]), 2, 32) := by kernel_rfl
theorem undFd : Try.prog.underlying 40 = some (.slice 39) := by kernel_rfl
/-- a row of what was found: its distances -/
def FdO (B : Nat) (V : Value) (n : Nat) (f : Nat → Nat) (w : World) : Prop := ∃ cs, KOwn 39 2 B V n cs w ∧ ∀ k, k < n → (∃ a c, cs[k * 2]? = some (.slice a 0 c)) ∧ cs[k * 2 + 1]? = some (.float .f64 (f k))
theorem FdO.up {B : Nat} {V : Value} {n : Nat} {f : Nat → Nat} : Up (FdO B V n f) := fun w w' ⟨cs, h1, h2⟩ hg => ⟨cs, KOwn.up _ _ h1 hg, h2⟩
theorem VOwn.nilForm {e : TypeId} {B : Nat} {v : Value} {w : World} (h : VOwn e B v (([] : List Nat).map (Value.float .f64)) w) : ∃ A c, v = .slice A 0 c := by
  rcases h.2 with ⟨rfl, -⟩ | ⟨g, cap, cur, rfl, _⟩
  · exact ⟨_, _, rfl⟩
  · exact ⟨_, _, rfl⟩
theorem FdO.put {B k x : Nat} {cs : List Value} {f : Nat → Nat} {V' : Value} {w : World} (h : ∀ j, j < k - 1 → (∃ a c, cs[j * 2]? = some (.slice a 0 c)) ∧ cs[j * 2 + 1]? = some (.float .f64 (f (j + 1)))) (hl : cs.length = (k - 1) * 2) (hx : x = f k) (hk : 1 ≤ k) {a : Option Addr} {c : Nat}
    (ho : KOwn 39 2 B V' (k - 1 + 1) (cs ++ [.slice a 0 c, .float .f64 x]) w) : FdO B V' (k + 1 - 1) (fun k => f (k + 1)) w := by
  obtain ⟨m, rfl⟩ : ∃ m, k = m + 1 := ⟨k - 1, by omega⟩
  refine ⟨_, ho, fun j hj => ?_⟩
  by_cases e : j = m
  · subst e
    rw [List.getElem?_append_right (by omega), List.getElem?_append_right (by omega), hl]
    rw [show j * 2 - (j + 1 - 1) * 2 = 0 by omega, show j * 2 + 1 - (j + 1 - 1) * 2 = 1 by omega]
    exact ⟨⟨a, c, rfl⟩, by rw [hx]; rfl⟩
  · rw [List.getElem?_append_left (by omega), List.getElem?_append_left (by omega)]
    exact h j (by omega)
set_option maxRecDepth 100000 in
set_option maxHeartbeats 8000000 in
theorem kfound_calls (w1 : World) (b n d g cap : Nat) (C : Nat → Value) (f : Nat → Nat) (w : World) (h : HS w1 b n d C f w) (hc : w.cell? ⟨b, 0, none⟩ = some (.slice (some ⟨g, 0, none⟩) n cap)) (hn : n ≤ 1000) : Calls Try.prog 44 #[.slice (some ⟨g, 0, none⟩) n cap] w fun e w' => ∃ V, e = .returned V ∧ Grow w w' ∧ FdO w.heap.size V (n - 1) (fun k => f (k + 1)) w' := by
  obtain ⟨i0, hi, hz0, hz1, hz2⟩ := info_parts infoFd
  have HI := Lib.hid hi; have HZ0 := Lib.hid hz0; have HZ1 := Lib.hid hz1; have HZ2 := Lib.hid hz2
  obtain ⟨g1, cap1, e1, hcap, -, -, -, hat⟩ := h.at2
  rw [hc] at e1; cases e1
  have HAT := Lib.hid hat; have HH := Lib.hid h; have HN := Lib.hid hn
  clear hi hz0 hz1 hz2 hat h hc
  go_enter Try.func44, Try.ntmps44
  go_wp2
  go_loopw [3, 8] (fun O i wr => ∃ k : Nat, i = .int .i64 k ∧ k ≤ n ∧ Grow w wr ∧ FdO w.heap.size O (k - 1) (fun k => f (k + 1)) wr) (fun _ i _ => n - (intOf i).toNat)
  case atStart => exact ⟨0, rfl, Nat.zero_le _, Grow.refl _, [], KOwn.nil, fun k hk => by omega⟩
  case round =>
    obtain ⟨k, rfl, hk, hg, ho⟩ := hrel
    have HG := Lib.hid hg; have HO := Lib.hid ho
    obtain ⟨cs, ho1, ho2⟩ := ho
    obtain ⟨A, c, rfl, -⟩ := ho1.isSl
    by_cases hlt : k < n
    case neg =>
      have hkn : k = n := by omega
      subst hkn
      clear ho1 ho2 hg
      go_wp2
      go_ret
      exact ⟨_, rfl, HG.out, HO.out⟩
    case pos =>
      obtain ⟨c0, c1⟩ := HAT.out k hlt
      have d0 := up_cell c0 hg
      have d1 := up_cell c1 hg
      have hks : (k : Int) < (n : Int) := by omega
      have hk0 : (0 : Int) ≤ (k : Int) := by omega
      clear c0 c1 hg
      by_cases h0 : k = 0
      · subst h0
        rw [HH.out.c0] at d0
        clear ho1 ho2
        go_wp2
        go_roundw
        case rel => exact ⟨1, rfl, by omega, HG.out.trans ((Grow.refl _).alloc _), FdO.up _ _ HO.out ((Grow.refl _).alloc _)⟩
        case measure => simp [intOf]; omega
      · obtain ⟨a, ha⟩ := HH.out.cp k (by omega) hlt
        rw [ha] at d0
        obtain ⟨x, hx⟩ : ∃ x, x = f k := ⟨_, rfl⟩
        rw [← hx] at d1
        have HX := Lib.hid hx; have HK1 := Lib.hid ho1; have HK2 := Lib.hid ho2
        have hlb := World.block_lt_of_cell? wr _ d1
        have HK0 := Lib.hid (show 1 ≤ k by omega)
        clear ha hx ho1 ho2 h0
        go_wp2
        have k0 : (wr.alloc (.cells #[.iface 61 (.slice a 0 0), .float .f64 x] 82)).cell? ⟨wr.heap.size, 0, none⟩ = some (.iface 61 (.slice a 0 0)) := by go_simp
        have k1 : (wr.alloc (.cells #[.iface 61 (.slice a 0 0), .float .f64 x] 82)).cell? ⟨wr.heap.size, 1, none⟩ = some (.float .f64 x) := by go_simp
        have HG0 := Lib.hid (HG.out.trans ((Grow.refl wr).alloc (.cells #[.iface 61 (.slice a 0 0), .float .f64 x] 82)))
        have HKO := Lib.hid (KOwn.up _ _ HK1.out ((Grow.refl wr).alloc (.cells #[.iface 61 (.slice a 0 0), .float .f64 x] 82)))
        clear d0 d1 hlb
        generalize wr.alloc (.cells #[.iface 61 (.slice a 0 0), .float .f64 x] 82) = W0 at *
        generalize wr.heap.size = q at *
        clear HG HO HK1
        have HW := Lib.hid HG0.out.size
        have HLT : Hid (q < W0.heap.size) := World.block_lt_of_cell? W0 _ k1
        have hta : ∀ w : World, (Instr.typeAssert (.iface 61 (.slice a 0 0)) 66 61 false).run Try.prog w = .ok (.slice a 0 0) w := fun w => by kernel_rfl
        go_region_law (first
          | (go_simp; go_at_call 33; refine (floats_calls44 _ [] _ ⟨a, 0, rfl, Nat.le_refl _, .inl rfl⟩ (by simp)).mono ?_; rintro e w4 ⟨v4, rfl, hg4, hown4⟩; obtain ⟨A4, c4, rfl⟩ := VOwn.nilForm hown4; have HG4 := Lib.hid (show Grow W0 w4 from Grow.trans (by repeat (first | exact Grow.refl _ | refine Grow.drew ?_ | refine Grow.alloc ?_ _)) hg4); have y1 := up_cell k1 HG4.out; clear hg4 hown4)
          | (refine step_append_k rfl _ _ 40 rfl w.heap.size 2 39 i0 (.agg #[.slice none 0 0, .float .f64 0]) 32 undFd HI.out HZ0.out HZ1.out HZ2.out rfl (by decide) rfl (KOwn.up _ _ HKO.out (HG4.out.trans (by repeat (first | exact Grow.refl _ | refine Grow.drew ?_ | refine Grow.alloc ?_ _)))) rfl (ys := [.slice A4 0 c4, .float .f64 x]) rfl (by intro j u hu; match j, hu with | 0, hu => (cases hu; rw [addr_add]; go_simp) | 1, hu => (cases hu; rw [addr_add]; go_simp) | j + 2, hu => simp at hu) (by intro x hx; simp at hx; rcases hx with rfl | rfl <;> rfl) (by have := HN.out; simp [maxLen]; omega) (by have := HN.out; omega) (by have := HW.out; have := HG4.out.size; simp; omega) ?_; intro V' w5 hown5 hgrow5 hwh5;
             have hg5 : Grow w w5 := Below.grown (HG0.out.trans (HG4.out.trans (by repeat (first | exact Grow.refl _ | refine Grow.drew ?_ | refine Grow.alloc ?_ _)))) hgrow5 (by have := HW.out; have := HG4.out.size; simp; omega) (fun k hk => KOwn.lt HKO.out k hk); have HG5 := Lib.hid hg5; have HO5 := Lib.hid hown5; clear hg5 hown5 hgrow5 hwh5))
        all_goals
          go_wp2
          go_roundw
          case rel => exact ⟨k + 1, by go_num, by omega, HG5.out, FdO.put HK2.out HKO.out.len (HX.out) HK0.out HO5.out⟩
          case measure => simp [intOf]; omega
set_option maxRecDepth 100000 in
set_option maxHeartbeats 8000000 in
theorem dists2_calls (B n : Nat) (V : Value) (f : Nat → Nat) (w : World) (h : FdO B V n f w) (hn : n ≤ 1000) : Calls Try.prog 43 #[V] w fun e w' => ∃ V', e = .returned V' ∧ Grow w w' ∧ VOwn 34 w.heap.size V' (fl f n) w' := by
  obtain ⟨i0, hi, hz0, hz1, hz2⟩ := info_parts infoF
  have HI := Lib.hid hi; have HZ0 := Lib.hid hz0; have HZ1 := Lib.hid hz1; have HZ2 := Lib.hid hz2
  obtain ⟨cs, h1, h2⟩ := h
  obtain ⟨A, c, rfl, hc, hA⟩ := h1.cells
  have HA := Lib.hid hA; have H2 := Lib.hid h2; have HN := Lib.hid hn
  clear hi hz0 hz1 hz2 h1 h2 hA
  go_enter Try.func43, Try.ntmps43
  go_wp2
  go_loopw [3, 8] (fun O i wr => ∃ k : Nat, i = .int .i64 k ∧ k ≤ n ∧ Grow w wr ∧ VOwn 34 w.heap.size O (fl f k) wr) (fun _ i _ => n - (intOf i).toNat)
  case atStart => exact ⟨0, rfl, Nat.zero_le _, Grow.refl _, VOwn.nil⟩
  case round =>
    obtain ⟨k, rfl, hk, hg, ho⟩ := hrel
    have HG := Lib.hid hg; have HO := Lib.hid ho
    obtain ⟨A1, c1, rfl, -⟩ := row_isSl ho
    rw [fl_len]
    by_cases hlt : k < n
    case neg =>
      have hkn : k = n := by omega
      subst hkn
      clear ho hg
      rw [fl_len] at HO
      go_wp2
      go_ret
      exact ⟨_, rfl, HG.out, HO.out⟩
    case pos =>
      rcases HA.out with h0 | ⟨b, rfl, hx⟩
      · omega
      obtain ⟨⟨a, cc, e1⟩, e2⟩ := H2.out k hlt
      have d0 := up_cell (hx _ _ e1) hg
      have d1 := up_cell (hx _ _ e2) hg
      have hks : (k : Int) < (n : Int) := by omega
      have hk0 : (0 : Int) ≤ (k : Int) := by omega
      have hlb := World.block_lt_of_cell? wr _ d1
      obtain ⟨x, hx'⟩ : ∃ x, x = f k := ⟨_, rfl⟩
      rw [← hx'] at d1 e2
      have HX := Lib.hid hx'
      clear e1 e2 hx hx' hg ho
      have HS : Hid (fl f (k + 1) = fl f k ++ [.float .f64 x]) := by
        show fl f (k + 1) = _
        rw [HX.out]; unfold fl; rw [List.range_succ, List.map_append]; rfl
      have HS' : Hid (VOwn 34 w.heap.size (.slice A1 k c1) (fl f k) wr) := by have := HO.out; rw [fl_len] at this; exact this
      clear HO
      go_wp2_with (at_builtin; refine wpList_append_vsl rfl _ _ 23 rfl w.heap.size 34 i0 (.float .f64 0) 8 undF HI.out HZ0.out HZ1.out HZ2.out rfl rfl (VOwn.up _ _ HS'.out (by repeat (first | exact Grow.refl _ | refine Grow.drew ?_ | refine Grow.alloc ?_ _))) rfl (VSl.one (u := .float .f64 x) (by go_simp)) (by intro y hy; simp at hy; subst hy; rfl) (by have := HN.out; rw [fl_len]; simp [maxLen]; omega) (by have := HN.out; rw [fl_len]; simp; omega) (by have := HG.out.size; simp; omega) ?_; intro V' w5 hown5 hgrow5 hwh5; rw [← HS.out] at hown5; have HG5 : Hid (Grow w w5) := Below.grown (HG.out.trans (by repeat (first | exact Grow.refl _ | refine Grow.drew ?_ | refine Grow.alloc ?_ _))) hgrow5 (by have := HG.out.size; simp; omega) (fun k hk => VOwn.lt HS'.out k hk); have HO5 := Lib.hid hown5; clear hown5 hgrow5 hwh5)
      go_roundw
      case rel => exact ⟨k + 1, by go_num, by omega, HG5.out, HO5.out⟩
      case measure => simp [intOf]; omega
end Go.Proofs.Ytcpdhkbmfgphpaa
