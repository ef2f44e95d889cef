import Derived.Test.YtcpdhkbmfgphpaaHkY
import Derived.Deep.Cut
namespace Go.Proofs.Ytcpdhkbmfgphpaa
open Go.ChangeShapes Go.WideShapes Go.ChangeAt Go.RowKit Go.GrowR
set_option linter.unusedVariables false
set_option linter.unusedSimpArgs false
theorem idleKW (p0 p1 : Addr) (w : World) :
    CallsD Try.prog 40 #[.pointer (some p0), .pointer (some p1)] .returning w fun e u' w' => e = .returned (.tuple #[]) ∧ u' = .returning ∧ w' = w := by
  refine callsD_of_wpS Try.func40 rfl fun c₀ cs hu => ?_
  apply wpS_seq
  apply wpS_region
  simp [wpOpsS, go_sem, recoverD, hu, Try.ntmps40, Exit.thenS]
  refine wpS_cond (t := false) (by simp [Act.eval, Array.replicate]) ?_
  simp only [Bool.false_eq_true, if_false]
  refine wpS_of_wp ?_
  go_wp2
  cases c₀
  simp_all [bodyPostS, results, Try.results40, Exit.thenS]

def ML (d : Nat) (xs : List Nat) (k : Nat) : List Nat := [d] ++ (xs.take k).filter fun y => decide (vq y ≤ vq d)
theorem ML_step (d : Nat) (xs : List Nat) (k x : Nat) (hx : xs[k]? = some x) : keepL d (ML d xs k) x = ML d xs (k + 1) := keep_step d xs k x hx
theorem ML_len (d : Nat) (xs : List Nat) (k : Nat) : 1 ≤ (ML d xs k).length ∧ (ML d xs k).length ≤ k + 1 := by
  have := List.length_filter_le (fun y => decide (vq y ≤ vq d)) (xs.take k)
  unfold ML
  simp only [List.length_append, List.length_cons, List.length_nil, List.length_take] at *
  omega
def KKQ (xs : List Nat) (d : Nat) (w : World) (e : Ending) (w' : World) : Prop := ∃ V f m, e = .returned (.tuple #[V, .bool true]) ∧ Grow w w' ∧ VOwn 34 w.heap.size V (fl f m) w' ∧ ((List.range m).map f).Perm (xs.filter fun y => decide (vq y ≤ vq d))
theorem tail_perm {n d : Nat} {f : Nat → Nat} {L : List Nat} (h : ((List.range n).map f).Perm ([d] ++ L)) (h0 : f 0 = d) (hn : 1 ≤ n) : ((List.range (n - 1)).map fun k => f (k + 1)).Perm L := by
  obtain ⟨m, rfl⟩ : ∃ m, n = m + 1 := ⟨n - 1, by omega⟩
  rw [List.range_succ_eq_map, List.map_cons, List.map_map, h0] at h
  exact List.Perm.cons_inv h
set_option maxRecDepth 100000 in
set_option maxHeartbeats 8000000 in
theorem kkeep_calls (A : Option Addr) (n c d : Nat) (xs : List Nat) (w : World) (hu : FSl (.slice A n c) xs w) (hN : n = xs.length) (hn : n ≤ 200) (hd : finB d = true) (hx : ∀ x ∈ xs, finB x = true) : Calls Try.prog 23 #[.float .f64 d, .slice A n c] w (KKQ xs d w) := by
  have hmf : ∀ (fn : Fn) (first cap : Array Value) (w : World), (Instr.makeFunc fn first cap).run Try.prog w = .ok (.func fn first cap) w := fun _ _ _ _ => rfl
  have HU := Lib.hid hu; have HNN := Lib.hid hN; have HD := Lib.hid hd; have HX := Lib.hid hx
  clear hu hN hd hx
  go_enter_defers Try.func23, Try.ntmps23
  go_wp2_with fail
  refine (newKeeper_calls d _ HD.out).mono ?_
  rintro e w2 ⟨rfl, h2⟩
  have hsz : ((w.alloc (.cells #[.slice none 0 0] 23)).alloc (.cells #[.bool false] 4)).heap.size = w.heap.size + 2 := by simp
  have c0 : ((w.alloc (.cells #[.slice none 0 0] 23)).alloc (.cells #[.bool false] 4)).cell? ⟨w.heap.size, 0, none⟩ = some (.slice none 0 0) := by go_simp
  have c1 : ((w.alloc (.cells #[.slice none 0 0] 23)).alloc (.cells #[.bool false] 4)).cell? ⟨w.heap.size + 1, 0, none⟩ = some (.bool false) := by go_simp
  have f0 : ((w.alloc (.cells #[.slice none 0 0] 23)).alloc (.cells #[.bool false] 4)).frozen? ⟨w.heap.size, 0, none⟩ = false := by go_simp
  have f1 : ((w.alloc (.cells #[.slice none 0 0] 23)).alloc (.cells #[.bool false] 4)).frozen? ⟨w.heap.size + 1, 0, none⟩ = false := by go_simp
  have HG0 := Lib.hid (((Grow.refl w).alloc (.cells #[.slice none 0 0] 23)).alloc (.cells #[.bool false] 4))
  generalize (w.alloc (.cells #[.slice none 0 0] 23)).alloc (.cells #[.bool false] 4) = w1 at *
  have HC0 := Lib.hid c0; have HC1 := Lib.hid c1; have HF0 := Lib.hid f0; have HF1 := Lib.hid f1
  have H2 : Hid (HP w1 (w1.heap.size + 1) (ML d xs 0).length d (ML d xs 0) w2) := h2
  rw [hsz] at H2
  rw [hsz]
  clear h2 c0 c1 f0 f1
  go_wp2
  go_loopw [14] (fun i wr => ∃ k : Nat, i = .int .i64 k ∧ k ≤ n ∧ HP w1 (w.heap.size + 2 + 1) (ML d xs k).length d (ML d xs k) wr) (fun i _ => n - (intOf i).toNat)
  case atStart => exact ⟨0, rfl, Nat.zero_le _, H2.out⟩
  case round =>
    obtain ⟨k, rfl, hk, hp⟩ := hrel
    have HR := Lib.hid hp
    clear hp H2
    by_cases hlt : k < n
    case pos =>
      have hxl : k < xs.length := by rw [← HNN.out]; exact hlt
      obtain ⟨x, hx⟩ : ∃ x, xs[k]? = some x := ⟨xs[k], by simp [hxl]⟩
      obtain ⟨C, f, hs, -⟩ := HR.out
      have hgr := HG0.out.trans hs.gr
      have hcx : ∃ b o, A = some ⟨b, o, none⟩ ∧ w.cell? ⟨b, o + k, none⟩ = some (.float .f64 x) := by
        obtain ⟨A', c', e, -, h⟩ := HU.out
        cases e
        rcases h with h0 | ⟨b, o, rfl, h⟩
        · subst h0; simp at hxl
        · exact ⟨b, o, rfl, h k x hx⟩
      obtain ⟨b, o, rfl, hc⟩ := hcx
      have hc1 := up_cell hc hgr
      have hks : (k : Int) < (n : Int) := by omega
      have HST := Lib.hid (ML_step d xs k x hx)
      have HKE := Lib.hid (fun w' (hg : Grow wr w') a => keep_calls w1 (w.heap.size + 2 + 1) d x a (ML d xs k) w' (HP.up _ _ HR.out hg) (HX.out x (List.mem_of_getElem? hx)) HD.out (by have := (ML_len d xs k).2; omega))
      rw [HST.out] at HKE
      clear hc hs hgr hx hxl
      go_wp2_with fail
      refine (HKE.out _ ((Grow.refl _).alloc _) _).mono ?_
      rintro e w4 ⟨rfl, h4⟩
      have H4 := Lib.hid h4
      clear h4
      go_wp2
      go_roundw
      case rel => exact ⟨k + 1, by go_num, by omega, H4.out⟩
      case measure => simp [intOf]; omega
    case neg =>
      have HKN : Hid (k = n) := by show k = n; omega
      obtain ⟨C, f, hs, hper⟩ := HR.out
      obtain ⟨g, cap, e1, -⟩ := hs.at2
      have HGR := Lib.hid (HG0.out.trans hs.gr)
      have hb := (ML_len d xs k)
      obtain ⟨N, hNN⟩ : ∃ N, N = (ML d xs k).length := ⟨_, rfl⟩
      rw [← hNN] at hs e1 hb hper
      have HF := Lib.hid (kfound_calls w1 (w.heap.size + 2 + 1) N d g cap C f wr hs e1 (by omega))
      have HPM : Hid (((List.range (N - 1)).map fun k => f (k + 1)).Perm (xs.filter fun y => decide (vq y ≤ vq d))) := by
        have h1 := tail_perm (L := (xs.take k).filter fun y => decide (vq y ≤ vq d)) hper hs.f0 hb.1
        have h2 : xs.take k = xs := List.take_of_length_le (by have := HNN.out; have := HKN.out; omega)
        rw [h2] at h1
        exact h1
      have x0 := up_cell HC0.out hs.gr
      have x1 := up_cell HC1.out hs.gr
      have y0 := (grow_frozen hs.gr _ 0 (by omega : w.heap.size < w1.heap.size)).trans HF0.out
      have y1 := (grow_frozen hs.gr _ 0 (by omega : w.heap.size + 1 < w1.heap.size)).trans HF1.out
      have HZ := Lib.hid (Nat.le_trans (Nat.le_of_eq hsz.symm) hs.gr.size)
      have HNB := Lib.hid (show N ≤ 1000 by omega)
      clear hs hper hNN hb
      go_wp2_with fail
      refine HF.out.mono ?_
      rintro e w5 ⟨V5, rfl, hg5, ho5⟩
      have HD2 := Lib.hid (dists2_calls wr.heap.size (N - 1) V5 _ w5 ho5 (by have := HNB.out; omega))
      have HG5 := Lib.hid hg5
      clear ho5
      go_wp2_with fail
      refine HD2.out.mono ?_
      rintro e w6 ⟨V6, rfl, hg6, ho6⟩
      have z0 := up_cell (up_cell x0 hg5) hg6
      have z1 := up_cell (up_cell x1 hg5) hg6
      have u0 := ((grow_frozen (hg5.trans hg6) _ 0 (World.block_lt_of_cell? _ _ x0))).trans y0
      have u1 := ((grow_frozen (hg5.trans hg6) _ 0 (World.block_lt_of_cell? _ _ x1))).trans y1
      obtain ⟨A6, c6, rfl, -⟩ := row_isSl ho6
      have HO6 := Lib.hid ho6
      have HG6 := Lib.hid (HGR.out.trans (hg5.trans hg6))
      have hz5 : w.heap.size + 2 ≤ w5.heap.size := Nat.le_trans HZ.out hg5.size
      clear x0 x1 y0 y1 hg5 hg6 ho6
      go_wp2
      have e0 : ((w6.setCell ⟨w.heap.size, 0, none⟩ (.slice A6 (fl (fun k => f (k + 1)) (N - 1)).length c6)).setCell ⟨w.heap.size + 1, 0, none⟩ (.bool true)).cell? ⟨w.heap.size, 0, none⟩ = some (.slice A6 (fl (fun k => f (k + 1)) (N - 1)).length c6) := by rw [World.cell?_setCell_other _ _ _ _ (by simp)]; exact World.cell?_setCell_same _ _ _ z0
      have e1' : ((w6.setCell ⟨w.heap.size, 0, none⟩ (.slice A6 (fl (fun k => f (k + 1)) (N - 1)).length c6)).setCell ⟨w.heap.size + 1, 0, none⟩ (.bool true)).cell? ⟨w.heap.size + 1, 0, none⟩ = some (.bool true) := World.cell?_setCell_same _ _ _ (by rw [World.cell?_setCell_other _ _ _ _ (by simp)]; exact z1)
      refine leaves_cons (f := 40) (args := #[.pointer (some ⟨w.heap.size, 0, none⟩), .pointer (some ⟨w.heap.size + 1, 0, none⟩)]) (by simp) (by simp [go_sem]) ?_
      refine (idleKW ⟨w.heap.size, 0, none⟩ ⟨w.heap.size + 1, 0, none⟩ _).mono ?_
      rintro e u' w'' ⟨rfl, rfl, rfl⟩
      exact ⟨.tuple #[.slice A6 (fl (fun k => f (k + 1)) (N - 1)).length c6, .bool true], by simp [results, Try.results23, go_sem, e0, e1'], _, _, N - 1, rfl, hbelow (hbelow HG6.out (by simp) _) (by simp) _, ((HO6.out.setCell (by simp; omega) _).setCell (by simp; omega) _).mono (by omega), HPM.out⟩
end Go.Proofs.Ytcpdhkbmfgphpaa
