import Derived.Test.YtdcchejehomicaaTsD
import Derived.RegionTactic
import Derived.BigRegion
namespace Go.Proofs.Ytdcchejehomicaa
open Go.ChangeShapes Go.WideShapes Go.ChangeAt Go.RowKit Go.GrowR
set_option linter.unusedVariables false
set_option linter.unusedSimpArgs false

structure WA (w0 : World) (b1 b2 b3 g n N : Nat) (Y : List Nat) (w : World) : Prop where
  gr : Grow w0 w
  c1 : w.cell? ⟨b1, 0, none⟩ = some (.int .i64 (n : Nat))
  c2 : w.cell? ⟨b2, 0, none⟩ = some (.slice (some ⟨g, 0, none⟩) N N)
  c3 : w.cell? ⟨b3, 0, none⟩ = some (.int .i64 (Y.length : Nat))
  f3 : w.frozen? ⟨b3, 0, none⟩ = false
  row : ∃ Z : List Nat, VOwn 52 w0.heap.size (.slice (some ⟨g, 0, none⟩) N N) ((Y ++ Z).map (.float .f64)) w
  n1 : b1 ≠ g ∧ b2 ≠ g ∧ b3 ≠ g ∧ b1 ≠ b3 ∧ b2 ≠ b3
  lb : w0.heap.size ≤ b3 ∧ w0.heap.size ≤ g
theorem own_cell {e : TypeId} {B g cap n : Nat} {xs : List Value} {w : World} (h : VOwn e B (.slice (some ⟨g, 0, none⟩) n cap) xs w) (hn : n = xs.length) (j : Nat) (hj : j < n) : w.cell? ⟨g, j, none⟩ = xs[j]? := by
  subst hn; exact World.ownsRow.cellAt h j (by omega)
theorem own_froz {e : TypeId} {B g cap n : Nat} {xs : List Value} {w : World} (h : VOwn e B (.slice (some ⟨g, 0, none⟩) n cap) xs w) (hn : n = xs.length) (j : Nat) : w.frozen? ⟨g, j, none⟩ = false := by
  subst hn; exact World.ownsRow.frozenAt h j
theorem own_put {e : TypeId} {B g cap n : Nat} {xs : List Value} {w : World} (h : VOwn e B (.slice (some ⟨g, 0, none⟩) n cap) xs w) (hn : n = xs.length) (j : Nat) (u : Value) : VOwn e B (.slice (some ⟨g, 0, none⟩) n cap) (xs.set j u) (w.setCell ⟨g, j, none⟩ u) := by
  subst hn
  have := (World.ownsRow.stored h j u).1
  unfold VOwn
  rw [List.length_set]; exact this
theorem own_len {e : TypeId} {B g cap n : Nat} {xs : List Value} {w : World} (h : VOwn e B (.slice (some ⟨g, 0, none⟩) n cap) xs w) : n = xs.length := by
  rcases h.2 with ⟨h0, -⟩ | ⟨g', cap', cur, e, _⟩
  · cases h0
  · cases e; rfl
theorem put_mid (Y r Z : List Nat) (j x : Nat) (hr : r[j]? = some x) (hZ : r.length ≤ Z.length) : (Y ++ (r.take j ++ Z.drop j)).set (Y.length + j) x = Y ++ (r.take (j + 1) ++ Z.drop (j + 1)) := by
  have hj := (List.getElem?_eq_some_iff.1 hr).1
  have h1 : (r.take j).length = j := by simp; omega
  have h2 : Z.drop j = Z[j] :: Z.drop (j + 1) := List.drop_eq_getElem_cons (by omega)
  rw [List.set_append_right _ _ (by omega), show Y.length + j - Y.length = j by omega, List.set_append_right _ _ (by omega), h1, Nat.sub_self, h2, List.set_cons_zero, List.take_add_one, hr]
  simp
set_option maxRecDepth 100000 in
set_option maxHeartbeats 8000000 in
theorem visit_calls (w0 : World) (b1 b2 b3 g n N cv : Nat) (B : Option Addr) (r Y : List Nat) (w : World) (h : WA w0 b1 b2 b3 g n N Y w) (hv : FSl (.slice B n cv) r w) (hB : ∀ b o, B = some ⟨b, o, none⟩ → b ≠ g) (hr : n = r.length) (hN : Y.length + n ≤ N) (hNl : N ≤ 100000) (n9 : n ≤ 9) :
    Calls Try.prog 25 #[.slice B n cv, .pointer (some ⟨b1, 0, none⟩), .pointer (some ⟨b2, 0, none⟩), .pointer (some ⟨b3, 0, none⟩)] w fun e w' => e = .returned (.tuple #[]) ∧ WA w0 b1 b2 b3 g n N (Y ++ r) w' := by
  obtain ⟨hgr, c1, c2, c3, f3, ⟨Z, hrow⟩, ⟨n1, n2, n3, n4, n5⟩, hlb⟩ := h
  have HV := Lib.hid hv; have HR := Lib.hid hr; have HB := Lib.hid hB
  have hlz := own_len hrow
  rw [List.length_map, List.length_append] at hlz
  have HZ : Hid (r.length ≤ Z.length) := by show _ ≤ _; omega
  have HGR := Lib.hid hgr; have HLB := Lib.hid hlb; have HLZ := Lib.hid hlz
  have H0 : Hid (VOwn 52 w0.heap.size (.slice (some ⟨g, 0, none⟩) N N) ((Y ++ (r.take 0 ++ Z.drop 0)).map (.float .f64)) w) := by
    show VOwn _ _ _ _ _
    simpa using hrow
  obtain ⟨y, hy⟩ : ∃ y, y = Y.length := ⟨_, rfl⟩
  have HY := Lib.hid hy
  rw [← hy] at c3 hN
  have hmv : ∀ k o, k ≠ g → ∀ (wr : World), wr.heap[k]? = w.heap[k]? → wr.cell? ⟨k, o, none⟩ = w.cell? ⟨k, o, none⟩ := fun k o _ wr hb => World.cell?_of_block hb
  have HC1 := Lib.hid c1; have HC2 := Lib.hid c2; have HC3 := Lib.hid c3; have HF3 := Lib.hid f3
  clear hv hr hB hrow hlz hgr hlb hy hmv f3 c3
  go_enter Try.func25, Try.ntmps25
  go_wp2
  clear c1 c2
  go_loopw [7] (fun vj wr => ∃ j : Nat, vj = .int .i64 j ∧ j ≤ n ∧ Grow w0 wr ∧ (∀ k, k < w.heap.size → k ≠ g → wr.heap[k]? = w.heap[k]?) ∧ VOwn 52 w0.heap.size (.slice (some ⟨g, 0, none⟩) N N) ((Y ++ (r.take j ++ Z.drop j)).map (.float .f64)) wr) (fun vj _ => n - (intOf vj).toNat)
  case atStart => exact ⟨0, rfl, Nat.zero_le _, HGR.out, fun k _ _ => rfl, H0.out⟩
  case round =>
    obtain ⟨j, rfl, hj, hg, hfar, ho⟩ := hrel
    have HG := Lib.hid hg; have HFA := Lib.hid hfar; have HO := Lib.hid ho
    have hb1 := hfar b1 (cell_ltH HC1.out) n1
    have hb2 := hfar b2 (cell_ltH HC2.out) n2
    have hb3 := hfar b3 (cell_ltH HC3.out) n3
    have c1 := (World.cell?_of_block (a := ⟨b1, 0, none⟩) hb1).trans HC1.out
    have c2 := (World.cell?_of_block (a := ⟨b2, 0, none⟩) hb2).trans HC2.out
    have c3 := (World.cell?_of_block (a := ⟨b3, 0, none⟩) hb3).trans HC3.out
    have f3 := (World.frozen?_of_block (a := ⟨b3, 0, none⟩) hb3).trans HF3.out
    by_cases hlt : j < n
    case neg =>
      have HJ : Hid (j = n) := by show j = n; omega
      have hw : IntKind.i64.wrap ((y : Int) + (n : Int)) = ((y + n : Nat) : Int) := by rw [IntWalk.i64_in _ (by omega)]; omega
      clear hg hfar ho hb1 hb2 hb3
      go_wp2
      have hs : ∀ k, k ≠ b3 → (wr.setCell ⟨b3, 0, none⟩ (.int .i64 ((y + n : Nat) : Int))).heap[k]? = wr.heap[k]? := fun k hk => set_far hk
      refine bodyPost_end (results_none rfl _ _ _) rfl ⟨rfl, HG.out.setCell HLB.out.1 _, (World.cell?_of_block (hs b1 n4)).trans c1, (World.cell?_of_block (hs b2 n5)).trans c2, ?_, by rw [World.frozen?_setCell]; exact f3, ⟨Z.drop n, ?_⟩, ⟨n1, n2, n3, n4, n5⟩, HLB.out⟩
      · rw [List.length_append, ← HR.out, ← HY.out]; exact World.cell?_setCell_same _ _ _ c3
      · have h1 := HO.out
        rw [HJ.out, List.take_of_length_le (by have := HR.out; omega), ← List.append_assoc] at h1
        rcases h1.2 with ⟨h0, -⟩ | ⟨g', cap', cur, e, hb, hh, hx⟩
        · cases h0
        · cases e; exact ⟨h1.1, .inr ⟨g, _, cur, rfl, hb, (hs g n3.symm).trans hh, hx⟩⟩
    case pos =>
      obtain ⟨x, hx⟩ : ∃ x, r[j]? = some x := ⟨r[j]'(by have := HR.out; omega), by simp⟩
      obtain ⟨bb, oo, rfl, hcx⟩ := fcell HV.out hlt
      have hxd : r.getD j 0 = x := by rw [List.getD_eq_getElem?_getD, hx]; rfl
      rw [hxd] at hcx
      have hcx' := (World.cell?_of_block (a := ⟨bb, oo + j, none⟩) (hfar bb (cell_ltH hcx) (HB.out _ _ rfl))).trans hcx
      have hlen : N = ((Y ++ (r.take j ++ Z.drop j)).map (Value.float .f64)).length := by have := own_len ho; exact this
      have hyj : y + j < N := by omega
      have hcg := own_cell ho hlen (y + j) hyj
      obtain ⟨u, hu⟩ : ∃ u, ((Y ++ (r.take j ++ Z.drop j)).map (Value.float .f64))[y + j]? = some u := ⟨_, List.getElem?_eq_getElem (by rw [← hlen]; exact hyj)⟩
      rw [hu] at hcg
      have hfg := own_froz ho hlen (y + j)
      have HP : Hid (VOwn 52 w0.heap.size (.slice (some ⟨g, 0, none⟩) N N) ((Y ++ (r.take (j + 1) ++ Z.drop (j + 1))).map (.float .f64)) (wr.setCell ⟨g, y + j, none⟩ (.float .f64 x))) := by
        show VOwn _ _ _ _ _
        have h1 := own_put ho hlen (y + j) (.float .f64 x)
        rw [← List.map_set] at h1
        rw [show y + j = Y.length + j by rw [HY.out]] at h1 ⊢
        rw [put_mid Y r Z j x hx HZ.out] at h1
        exact h1
      have e1 : IntKind.i64.wrap ((y : Int) + (j : Int)) = (y : Int) + (j : Int) := IntWalk.i64_in _ (by omega)
      have e2 : ((y : Int) + (j : Int)).toNat = y + j := by omega
      have e3 : (0 : Int) ≤ (y : Int) + (j : Int) := by omega
      have e4 : (y : Int) + (j : Int) < (N : Int) := by omega
      have e5 : (j : Int) < (n : Int) := by omega
      clear hg hfar ho hb1 hb2 hb3 hlen hu hx hcx hxd
      go_wp2
      go_region
      all_goals
        go_wp2
        go_roundw
        case rel => exact ⟨j + 1, by go_num, by omega, (HG.out.setCell HLB.out.2 _).trans (Grow.refl _).drew, fun k h1 h2 => Eq.trans (set_far (p := ⟨g, y + j, none⟩) h2) (HFA.out k h1 h2), VOwn.up _ _ HP.out (Grow.refl _).drew⟩
        case measure => simp [intOf]; omega
end Go.Proofs.Ytdcchejehomicaa
