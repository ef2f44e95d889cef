import Derived.Test.YtcpdhkbmfgphpaaHkW
namespace Go.Proofs.Ytcpdhkbmfgphpaa
open Go.ChangeShapes Go.WideShapes Go.ChangeAt Go.RowKit Go.GrowR
set_option linter.unusedVariables false
set_option linter.unusedSimpArgs false

theorem HS.up {w1 : World} {b n d : Nat} {C : Nat → Value} {f : Nat → Nat} : Up (HS w1 b n d C f) := fun w w' h hg => by
  obtain ⟨g, cap, cs, e1, e2, e3⟩ := h.row
  obtain ⟨c, fz, ht⟩ := h.ty
  have hbl : b < w.heap.size := (Array.getElem?_eq_some_iff.1 ht).1
  exact ⟨h.gr.trans hg, h.hb, ⟨c, fz, (hg.block b hbl).trans ht⟩, (World.frozen?_of_block (a := ⟨b, 0, none⟩) (hg.block b hbl)).trans h.fz, ⟨g, cap, cs, up_cell e1 hg, KOwn.up _ _ e2 hg, e3⟩, h.one, h.c0, h.f0, h.cp, h.le⟩
theorem HP.up {w1 : World} {b n d : Nat} {M : List Nat} : Up (HP w1 b n d M) := fun w w' ⟨C, f, h1, h2⟩ hg => ⟨C, f, HS.up _ _ h1 hg, h2⟩
def keepL (d : Nat) (M : List Nat) (y : Nat) : List Nat := if vq y ≤ vq d then M ++ [y] else M
theorem HP.len {w1 : World} {b n d : Nat} {M : List Nat} {w : World} (h : HP w1 b n d M w) : n = M.length := by obtain ⟨C, f, -, h2⟩ := h; have := h2.length_eq; simpa using this
set_option maxRecDepth 100000 in
set_option maxHeartbeats 8000000 in
theorem keep_calls (w1 : World) (b d y : Nat) (a : Option Addr) (M : List Nat) (w : World) (h : HP w1 b M.length d M w) (hy : finB y = true) (hd : finB d = true) (hn : M.length ≤ 999) : Calls Try.prog 42 #[.pointer (some ⟨b, 0, none⟩), .agg #[.iface 61 (.slice a 0 0), .float .f64 y]] w fun e w' => e = .returned (.tuple #[]) ∧ HP w1 b (keepL d M y).length d (keepL d M y) w' := by
  have HH := Lib.hid h
  obtain ⟨C, f, hs, hp⟩ := h
  have t1 := le_vq hy hd
  obtain ⟨g, cap, e1, hcap, -, hgb, -, hc⟩ := hs.at2
  obtain ⟨c0, c1⟩ := hc 0 (by have := hs.one; omega)
  rw [hs.f0, Nat.zero_mul, Nat.zero_add] at c1
  have HONE := Lib.hid hs.one
  have hl0 : (0 : Int) < (M.length : Int) := by have := hs.one; omega
  have hgl := World.block_lt_of_cell? w _ c1
  have hbl := World.block_lt_of_cell? w _ e1
  clear hc hs hp c0
  by_cases hle : vq y ≤ vq d
  · have HPU := Lib.hid (fun w' (hg : Grow w w') => hpush_calls w1 b M.length d y a M w' (HP.up _ _ HH.out hg) ⟨hy, hle⟩ hn)
    have HK : Hid (keepL d M y = M ++ [y]) := if_pos hle
    rw [decide_eq_true hle] at t1
    clear hle
    go_enter Try.func42, Try.ntmps42
    go_wp2
    go_quiet (fail)
    go_wp2_with fail
    refine (HPU.out _ (((Grow.refl _).alloc _).trans ((Grow.refl _).drewN _))).mono ?_
    rintro e w2 ⟨rfl, h2⟩
    go_wp2
    refine bodyPost_end (results_none rfl _ _ _) rfl ⟨rfl, ?_⟩
    rw [HK.out, List.length_append]
    exact h2
  · have HK : Hid (keepL d M y = M) := if_neg hle
    rw [decide_eq_false hle] at t1
    clear hle
    go_enter Try.func42, Try.ntmps42
    go_wp2
    go_quiet (fail)
    go_wp2
    refine bodyPost_end (results_none rfl _ _ _) rfl ⟨rfl, ?_⟩
    rw [HK.out]
    exact HP.up _ _ HH.out (((Grow.refl _).alloc _).trans ((Grow.refl _).drewN _))
set_option maxRecDepth 100000 in
set_option maxHeartbeats 4000000 in
theorem newKeeper_calls (d : Nat) (w : World) (hd : finB d = true) : Calls Try.prog 41 #[.float .f64 d] w fun e w' => e = .returned (.pointer (some ⟨w.heap.size + 1, 0, none⟩)) ∧ HP w (w.heap.size + 1) 1 d [d] w' := by
  go_enter Try.func41, Try.ntmps41
  go_wp2
  go_ret
  refine ⟨rfl, fun _ => Value.nilIface, fun _ => d, ?_, by simp⟩
  have h0 : ((w.alloc (.cells #[Value.nilIface, .float .f64 d] 82)).alloc (.cells #[.slice (some ⟨w.heap.size, 0, none⟩) 1 1] 88)).heap[w.heap.size]? = some (.cells #[Value.nilIface, .float .f64 d] 82 (0, 0)) :=
    (((Grow.refl _).alloc _).block w.heap.size (by simp)).trans (heap_alloc_new w _)
  have h1 : ((w.alloc (.cells #[Value.nilIface, .float .f64 d] 82)).alloc (.cells #[.slice (some ⟨w.heap.size, 0, none⟩) 1 1] 88)).heap[w.heap.size + 1]? = some (.cells #[.slice (some ⟨w.heap.size, 0, none⟩) 1 1] 88 (0, 0)) := by
    have := heap_alloc_new (w.alloc (.cells #[Value.nilIface, .float .f64 d] 82)) (.cells #[.slice (some ⟨w.heap.size, 0, none⟩) 1 1] 88)
    rw [show (w.alloc (.cells #[Value.nilIface, .float .f64 d] 82)).heap.size = w.heap.size + 1 by simp] at this
    exact this
  refine ⟨((Grow.refl w).alloc _).alloc _, rfl, ⟨_, _, h1⟩, by unfold World.frozen?; rw [h1]; simp, ⟨w.heap.size, 1, [Value.nilIface, .float .f64 d], ?_, ⟨rfl, .inr ⟨w.heap.size, 1, _, rfl, Nat.le_refl _, h0, Nat.le_refl _, by simp [maxLen], rfl, rfl⟩⟩, fun k hk => ?_⟩, Nat.le_refl _, rfl, rfl, fun k h1 h2 => by omega, fun k hk => ⟨hd, Rat.le_refl⟩⟩
  · rw [cell_of_row _ (w.heap.size + 1) 0 _ 88 (0, 0) h1]; rfl
  · obtain rfl : k = 0 := by omega
    exact ⟨rfl, rfl⟩
theorem keep_step (d : Nat) (xs : List Nat) (k x : Nat) (hx : xs[k]? = some x) : keepL d ([d] ++ (xs.take k).filter fun y => decide (vq y ≤ vq d)) x = [d] ++ (xs.take (k + 1)).filter fun y => decide (vq y ≤ vq d) := by
  rw [List.take_add_one, hx, List.filter_append]
  unfold keepL
  by_cases h : vq x ≤ vq d
  · rw [if_pos h]; simp [h]
  · rw [if_neg h]; simp [h]
end Go.Proofs.Ytcpdhkbmfgphpaa
