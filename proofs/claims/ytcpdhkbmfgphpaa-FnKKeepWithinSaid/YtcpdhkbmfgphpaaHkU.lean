import Derived.Test.YtcpdhkbmfgphpaaHkT
import Derived.Test.YtcpdhkbmfgphpaaSl
import Derived.Deep.RegionLaw
import Derived.Deep.Cut
namespace Go.Proofs.Ytcpdhkbmfgphpaa
open Go.ChangeShapes Go.WideShapes Go.ChangeAt Go.RowKit Go.GrowR
set_option linter.unusedVariables false
set_option linter.unusedSimpArgs false

@[go_sem] theorem mPush (b : Nat) (w : World) : (method 247 78 (.pointer (some ⟨b, 0, none⟩)) "Push").run Try.prog w = .ok (97, .pointer (some ⟨b, 0, none⟩)) w := by kernel_rfl
@[go_sem] theorem mLen (b : Nat) (w : World) : (method 247 78 (.pointer (some ⟨b, 0, none⟩)) "Len").run Try.prog w = .ok (95, .pointer (some ⟨b, 0, none⟩)) w := by kernel_rfl
@[go_sem] theorem mLess (b : Nat) (w : World) : (method 247 78 (.pointer (some ⟨b, 0, none⟩)) "Less").run Try.prog w = .ok (96, .pointer (some ⟨b, 0, none⟩)) w := by kernel_rfl
@[go_sem] theorem mSwap (b : Nat) (w : World) : (method 247 78 (.pointer (some ⟨b, 0, none⟩)) "Swap").run Try.prog w = .ok (98, .pointer (some ⟨b, 0, none⟩)) w := by kernel_rfl
theorem infoCD : (Try.prog.info? 82).map (fun i => (i.zero, i.size, i.bytes)) = some (some (.agg #[.nilIface, .float .f64 0]), 2, 24) := by kernel_rfl
def PtV (v : Value) : Prop := ∃ a, v = .iface 61 (.slice a 0 0)
/-- a keeper of distances in memory: n elements, of which the first is the mark at d -/
structure HS (w1 : World) (b n d : Nat) (C : Nat → Value) (f : Nat → Nat) (w : World) : Prop where
  gr : Grow w1 w
  hb : b = w1.heap.size + 1
  ty : ∃ c fz, w.heap[b]? = some (.cells c 88 fz)
  fz : w.frozen? ⟨b, 0, none⟩ = false
  row : ∃ g cap cs, w.cell? ⟨b, 0, none⟩ = some (.slice (some ⟨g, 0, none⟩) n cap) ∧ KOwn 82 2 w1.heap.size (.slice (some ⟨g, 0, none⟩) n cap) n cs w ∧ ∀ k, k < n → cs[k * 2]? = some (C k) ∧ cs[k * 2 + 1]? = some (.float .f64 (f k))
  one : 1 ≤ n
  c0 : C 0 = Value.nilIface
  f0 : f 0 = d
  cp : ∀ k, 1 ≤ k → k < n → PtV (C k)
  le : ∀ k, k < n → finB (f k) = true ∧ vq (f k) ≤ vq d
namespace HS
variable {w1 : World} {b n d : Nat} {C : Nat → Value} {f : Nat → Nat} {w : World}
theorem drewN (h : HS w1 b n d C f w) (m : Nat) : HS w1 b n d C f (w.drewN m) := by
  obtain ⟨g, cap, cs, e1, e2, e3⟩ := h.row
  exact ⟨h.gr.trans ((Grow.refl _).drewN m), h.hb, h.ty, h.fz, ⟨g, cap, cs, up_cell e1 ((Grow.refl _).drewN m), KOwn.up _ _ e2 ((Grow.refl _).drewN m), e3⟩, h.one, h.c0, h.f0, h.cp, h.le⟩
theorem drew (h : HS w1 b n d C f w) : HS w1 b n d C f w.drew := by
  obtain ⟨g, cap, cs, e1, e2, e3⟩ := h.row
  exact ⟨h.gr.trans (Grow.refl _).drew, h.hb, h.ty, h.fz, ⟨g, cap, cs, up_cell e1 (Grow.refl _).drew, KOwn.up _ _ e2 (Grow.refl _).drew, e3⟩, h.one, h.c0, h.f0, h.cp, h.le⟩
theorem len (h : HS w1 b n d C f w) : Calls Try.prog 95 #[.pointer (some ⟨b, 0, none⟩)] w fun e w' => e = .returned (.int .i64 n) ∧ w' = w := by
  obtain ⟨g, cap, cs, e1, -, -⟩ := h.row
  clear h
  go_enter Try.func95, Try.ntmps95
  go_wp2
  go_ret
  exact ⟨rfl, rfl⟩
/-- the cells of an element -/
theorem at2 (h : HS w1 b n d C f w) : ∃ g cap, w.cell? ⟨b, 0, none⟩ = some (.slice (some ⟨g, 0, none⟩) n cap) ∧ n ≤ cap ∧ w1.heap.size ≤ g ∧ g ≠ b ∧ (∀ o, w.frozen? ⟨g, o, none⟩ = false) ∧ ∀ k, k < n → w.cell? ⟨g, k * 2, none⟩ = some (C k) ∧ w.cell? ⟨g, k * 2 + 1, none⟩ = some (.float .f64 (f k)) := by
  obtain ⟨g, cap, cs, e1, e2, e3⟩ := h.row
  obtain ⟨c, fz, ht⟩ := h.ty
  have hl := e2.len
  have h1 := h.one
  rcases e2.2 with ⟨h0, -⟩ | ⟨g', cap', cur, he, hb, hh, hn, hr⟩
  · cases h0
  · cases he
    refine ⟨g, cap, e1, hn, hb, fun e => ?_, fun o => World.ownsRow.frozenAt e2 o, fun k hk => ⟨(World.ownsRow.cellAt e2 _ (by omega)).trans (e3 k hk).1, (World.ownsRow.cellAt e2 _ (by omega)).trans (e3 k hk).2⟩⟩
    subst e
    rw [hh] at ht
    cases ht
set_option maxRecDepth 100000 in
set_option maxHeartbeats 4000000 in
theorem less (h : HS w1 b n d C f w) (i j : Nat) (hi : i < n) (h1 : 1 ≤ i) (hj : j < n) : Calls Try.prog 96 #[.pointer (some ⟨b, 0, none⟩), .int .i64 i, .int .i64 j] w fun e w' => e = .returned (.bool (decide (vq (f j) < vq (f i)))) ∧ ∃ m, w' = w.drewN m := by
  obtain ⟨g, cap, e1, hcap, -, -, -, hc⟩ := h.at2
  obtain ⟨ci0, ci1⟩ := hc i hi
  obtain ⟨cj0, cj1⟩ := hc j hj
  obtain ⟨a, ha⟩ := h.cp i h1 hi
  have t1 := gt_vq (h.le i hi).1 (h.le j hj).1
  have hi' : (i : Int) < (n : Int) := by omega
  have hj' : (j : Int) < (n : Int) := by omega
  have hi0 : (0 : Int) ≤ (i : Int) := by omega
  have hj0 : (0 : Int) ≤ (j : Int) := by omega
  rw [ha] at ci0
  obtain ⟨r, hr⟩ : ∃ r, r = decide (vq (f j) < vq (f i)) := ⟨_, rfl⟩
  rw [← hr] at t1 ⊢
  clear hc ha h hr
  generalize f i = x at *
  generalize f j = y at *
  go_enter Try.func96, Try.ntmps96
  go_wp2
  go_quiet (fail)
  go_wp2
  go_ret
  exact ⟨rfl, _, rfl⟩
set_option maxHeartbeats 4000000 in
/-- two elements that are exchanged -/
theorem put4 (h : HS w1 b n d C f w) (i j : Nat) (hij : i ≠ j) (hi : 1 ≤ i) (hin : i < n) (hj : 1 ≤ j) (hjn : j < n) {g : Nat} {cap : Nat} (hc : w.cell? ⟨b, 0, none⟩ = some (.slice (some ⟨g, 0, none⟩) n cap)) :
    HS w1 b n d (swp C i j) (swp f i j) ((((w.setCell ⟨g, i * 2, none⟩ (C j)).setCell ⟨g, i * 2 + 1, none⟩ (.float .f64 (f j))).setCell ⟨g, j * 2, none⟩ (C i)).setCell ⟨g, j * 2 + 1, none⟩ (.float .f64 (f i))) := by
  obtain ⟨g', cap', -, -, hgb, hgne, hfz, -⟩ := h.at2
  obtain ⟨g1, cap1, cs, e1, e2, e3⟩ := h.row
  obtain ⟨g2, cap2, e4, -, hg2, hne2, -⟩ := h.at2
  rw [hc] at e1 e4; cases e1; cases e4
  have hl := e2.len
  have s1 := (World.ownsRow.stored e2 (i * 2) (C j)).1
  have s2 := (World.ownsRow.stored s1 (i * 2 + 1) (.float .f64 (f j))).1
  have s3 := (World.ownsRow.stored s2 (j * 2) (C i)).1
  have s4 := (World.ownsRow.stored s3 (j * 2 + 1) (.float .f64 (f i))).1
  obtain ⟨c, fz, ht⟩ := h.ty
  have hbb : ∀ (W : World) (o : Nat) (u : Value), (W.setCell ⟨g, o, none⟩ u).heap[b]? = W.heap[b]? := fun W o u => Below.heap_setCell _ _ _ _ hne2.symm
  have hB : (((((w.setCell ⟨g, i * 2, none⟩ (C j)).setCell ⟨g, i * 2 + 1, none⟩ (.float .f64 (f j))).setCell ⟨g, j * 2, none⟩ (C i)).setCell ⟨g, j * 2 + 1, none⟩ (.float .f64 (f i)))).heap[b]? = w.heap[b]? := by
    rw [hbb, hbb, hbb, hbb]
  refine ⟨hbelow (hbelow (hbelow (hbelow h.gr (by simpa using hg2) _) (by simpa using hg2) _) (by simpa using hg2) _) (by simpa using hg2) _, h.hb, ⟨c, fz, hB.trans ht⟩, (World.frozen?_of_block (a := ⟨b, 0, none⟩) hB).trans h.fz, ⟨g, cap, _, (World.cell?_of_block hB).trans hc, s4, fun k hk => ?_⟩, h.one, ?_, ?_, fun k h1 h2 => ?_, fun k hk => ?_⟩
  · obtain ⟨a1, a2⟩ := e3 k hk
    unfold swp
    by_cases k1 : k = i
    · subst k1
      rw [List.getElem?_set_ne (by omega), List.getElem?_set_ne (by omega), List.getElem?_set_ne (by omega), List.getElem?_set_self (by omega), List.getElem?_set_ne (by omega), List.getElem?_set_ne (by omega), List.getElem?_set_self (by rw [List.length_set]; omega), if_pos rfl, if_pos rfl]
      exact ⟨rfl, rfl⟩
    · by_cases k2 : k = j
      · subst k2
        rw [List.getElem?_set_ne (by omega), List.getElem?_set_self (by simp only [List.length_set]; omega), List.getElem?_set_self (by simp only [List.length_set]; omega), if_neg k1, if_pos rfl, if_neg k1, if_pos rfl]
        exact ⟨rfl, rfl⟩
      · rw [List.getElem?_set_ne (by omega), List.getElem?_set_ne (by omega), List.getElem?_set_ne (by omega), List.getElem?_set_ne (by omega), List.getElem?_set_ne (by omega), List.getElem?_set_ne (by omega), List.getElem?_set_ne (by omega), List.getElem?_set_ne (by omega), if_neg k1, if_neg k2, if_neg k1, if_neg k2]
        exact ⟨a1, a2⟩
  · unfold swp; rw [if_neg (by omega), if_neg (by omega)]; exact h.c0
  · unfold swp; rw [if_neg (by omega), if_neg (by omega)]; exact h.f0
  · unfold swp; split
    · exact h.cp j hj hjn
    · split
      · exact h.cp i hi hin
      · exact h.cp k h1 h2
  · unfold swp; split
    · exact h.le j hjn
    · split
      · exact h.le i hin
      · exact h.le k hk
set_option maxRecDepth 100000 in
set_option maxHeartbeats 16000000 in
theorem swap (h : HS w1 b n d C f w) (i j : Nat) (hij : i ≠ j) (hi : 1 ≤ i) (hin : i < n) (hj : 1 ≤ j) (hjn : j < n) : Calls Try.prog 98 #[.pointer (some ⟨b, 0, none⟩), .int .i64 i, .int .i64 j] w fun e w' => e = .returned (.tuple #[]) ∧ HS w1 b n d (swp C i j) (swp f i j) w' := by
  obtain ⟨g, cap, e1, hcap, -, hgb, hfz, hc⟩ := h.at2
  have HP := Lib.hid (h.put4 i j hij hi hin hj hjn e1)
  obtain ⟨ci0, ci1⟩ := hc i hin
  obtain ⟨cj0, cj1⟩ := hc j hjn
  obtain ⟨a, ha⟩ := h.cp i hi hin
  obtain ⟨a', ha'⟩ := h.cp j hj hjn
  have hi' : (i : Int) < (n : Int) := by omega
  have hj' : (j : Int) < (n : Int) := by omega
  have hi0 : (0 : Int) ≤ (i : Int) := by omega
  have hj0 : (0 : Int) ≤ (j : Int) := by omega
  have fi0 := hfz (i * 2); have fi1 := hfz (i * 2 + 1); have fj0 := hfz (j * 2); have fj1 := hfz (j * 2 + 1)
  clear hc h hfz
  generalize swp C i j = C' at *
  generalize swp f i j = f' at *
  generalize f i = x at *
  generalize f j = y at *
  generalize C i = u at *
  generalize C j = v at *
  subst ha ha'
  go_enter Try.func98, Try.ntmps98
  go_wp2
  go_region
  go_wp2
  exact bodyPost_end (results_none rfl _ _ _) rfl ⟨rfl, HP.out.drew⟩
end HS
end Go.Proofs.Ytcpdhkbmfgphpaa
