import Derived.Test.YtpnmcmpeecpjeaaDoorMatB
namespace Go.Proofs.YtpnmcmpeecpjeaaDoor
open Go.ChangeShapes Go.WideShapes Go.ChangeAt Go.RowKit Go.GrowR
set_option linter.unusedVariables false
set_option linter.unusedSimpArgs false

abbrev MatV (ds : Nat → Nat) : Value := .agg #[.float .f64 (ds 0), .float .f64 (ds 1), .float .f64 (ds 2), .float .f64 (ds 3), .float .f64 (ds 4), .float .f64 (ds 5), .float .f64 (ds 6), .float .f64 (ds 7), .float .f64 (ds 8)]
def PlP (ds : Nat → Nat) (w : World) (e : Ending) (w' : World) : Prop := e = .returned (MatV ds) ∧ Grow w w'
/-- nine numbers in a block that may be written -/
def N9 (g : Nat) (ds : Nat → Nat) (w : World) : Prop := (∀ k, k < 9 → w.cell? ⟨g, k, none⟩ = some (.float .f64 (ds k))) ∧ ∀ o, w.frozen? ⟨g, o, none⟩ = false
theorem N9.set {g : Nat} {ds : Nat → Nat} {w : World} (h : N9 g ds w) {k : Nat} (hk : k < 9) (v : Nat) (ds' : Nat → Nat) (hd : ∀ j, j < 9 → ds' j = if j = k then v else ds j) : N9 g ds' (w.setCell ⟨g, k, none⟩ (.float .f64 v)) := by
  refine ⟨fun j hj => ?_, fun o => by rw [World.frozen?_setCell]; exact h.2 o⟩
  rw [hd j hj]
  by_cases he : j = k
  · subst he; rw [if_pos rfl]; exact World.cell?_setCell_same _ _ _ (h.1 j hj)
  · rw [if_neg he, World.cell?_setCell_other _ _ _ _ (by intro hc; injection hc with h5 h6; exact he (by omega))]; exact h.1 j hj
theorem N9.other {g : Nat} {ds : Nat → Nat} {w : World} (h : N9 g ds w) {p : Addr} (hp : p.block ≠ g) (v : Value) : N9 g ds (w.setCell p v) := by
  refine ⟨fun j hj => ?_, fun o => by rw [World.frozen?_setCell]; exact h.2 o⟩
  rw [World.cell?_setCell_other _ _ _ _ (by intro hc; apply hp; rw [hc])]; exact h.1 j hj
theorem heap_size_alloc_ (w : World) (o : Obj) : (w.alloc o).heap.size = w.heap.size + 1 := by show (w.heap.push o).size = _; exact Array.size_push _
theorem GX.shrinkB {B m : Nat} {a b : World} (h : GN (fun k => k = m) a b) (hm : B ≤ m) : GB B a b :=
  ⟨h.os, h.tape, h.output, h.size, fun k hk hn => h.block k hk (fun hs => hn (by have h1 : k = m := hs; show B ≤ k; omega)), fun k o hs hk => h.froz k o hk, fun k o hs hk hx => h.some hx, fun X hX => hX.elim⟩
def set9 (g : Nat) (ds : Nat → Nat) (w : World) : World := (((((((((w.setCell ⟨g, 0, none⟩ (.float .f64 (ds 0))).setCell ⟨g, 1, none⟩ (.float .f64 (ds 1))).setCell ⟨g, 2, none⟩ (.float .f64 (ds 2))).setCell ⟨g, 3, none⟩ (.float .f64 (ds 3))).setCell ⟨g, 4, none⟩ (.float .f64 (ds 4))).setCell ⟨g, 5, none⟩ (.float .f64 (ds 5))).setCell ⟨g, 6, none⟩ (.float .f64 (ds 6))).setCell ⟨g, 7, none⟩ (.float .f64 (ds 7))).setCell ⟨g, 8, none⟩ (.float .f64 (ds 8)))
theorem N9.nine {g : Nat} {zs : Nat → Nat} {w : World} (h : N9 g zs w) (ds : Nat → Nat) : N9 g ds (set9 g ds w) := by
  have h9 := ((((((((h.set (k := 0) (by decide) (ds 0) (upd zs 0 (ds 0)) (fun _ _ => rfl)).set (k := 1) (by decide) (ds 1) (upd (upd zs 0 (ds 0)) 1 (ds 1)) (fun _ _ => rfl)).set (k := 2) (by decide) (ds 2) _ (fun _ _ => rfl)).set (k := 3) (by decide) (ds 3) _ (fun _ _ => rfl)).set (k := 4) (by decide) (ds 4) _ (fun _ _ => rfl)).set (k := 5) (by decide) (ds 5) _ (fun _ _ => rfl)).set (k := 6) (by decide) (ds 6) _ (fun _ _ => rfl)).set (k := 7) (by decide) (ds 7) _ (fun _ _ => rfl)).set (k := 8) (by decide) (ds 8) ds (fun j hj => by
    have : j = 0 ∨ j = 1 ∨ j = 2 ∨ j = 3 ∨ j = 4 ∨ j = 5 ∨ j = 6 ∨ j = 7 ∨ j = 8 := by omega
    rcases this with rfl | rfl | rfl | rfl | rfl | rfl | rfl | rfl | rfl <;> simp [upd])
  exact h9
theorem gb_set9 {B g : Nat} {w0 w : World} (h : GB B w0 w) (hg : B ≤ g) (ds : Nat → Nat) : GB B w0 (set9 g ds w) :=
  gxSet (gxSet (gxSet (gxSet (gxSet (gxSet (gxSet (gxSet (gxSet h hg _) hg _) hg _) hg _) hg _) hg _) hg _) hg _) hg _
theorem M9.upGB {B mb db B' : Nat} {ds : Nat → Nat} {w w' : World} (h : M9 B mb db ds w) (hg : GB B' w w') (h1 : mb < B') (h2 : db < B') : M9 B mb db ds w' := by
  obtain ⟨c0, c1, f, n, hb⟩ := h
  refine ⟨(hg.cell mb 0 (cell_lt c0) (by omega)).trans c0, fun k hk => (hg.cell db k (cell_lt (c1 k hk)) (by omega)).trans (c1 k hk), fun o => (hg.froz db o (cell_lt (c1 0 (by decide)))).trans (f o), n, hb⟩
set_option maxRecDepth 100000 in
set_option maxHeartbeats 4000000 in
theorem plainMat_calls (B mb db : Nat) (ds : Nat → Nat) (w : World) (h : M9 B mb db ds w) : Calls Tryd.prog 17 #[.pointer (some ⟨mb, 0, none⟩)] w (PlP ds w) := by
  have lm := cell_lt h.1
  have ld := cell_lt (h.2.1 0 (by decide))
  dsimp only at lm ld
  have HM := Lib.hid h; clear h
  have HLM := Lib.hid lm; have HLD := Lib.hid ld; clear lm ld
  go_enter Tryd.func17, Tryd.ntmps17
  go_wp2
  go_loopw [5] (fun i wr => ∃ k : Nat, i = .int .i64 k ∧ k ≤ 9 ∧ GB w.heap.size w wr ∧ N9 (w.heap.size + 1) (fun j => if j < k then ds j else 0) wr ∧ N9 w.heap.size (fun _ => 0) wr) (fun i _ => 9 - (intOf i).toNat)
  case atStart =>
    refine ⟨0, rfl, Nat.zero_le _, GX.of_grow (fun _ h => h.elim) (((Grow.refl _).alloc _).alloc _), ⟨fun k hk => ?_, fun o => by go_simp⟩, ⟨fun k hk => ?_, fun o => by go_simp⟩⟩
    all_goals
      have : k = 0 ∨ k = 1 ∨ k = 2 ∨ k = 3 ∨ k = 4 ∨ k = 5 ∨ k = 6 ∨ k = 7 ∨ k = 8 := by omega
      rcases this with rfl | rfl | rfl | rfl | rfl | rfl | rfl | rfl | rfl <;> go_simp
  case round =>
    obtain ⟨k, rfl, hk, hg, hn, hz⟩ := hrel
    have HG := Lib.hid hg; have HN := Lib.hid hn; have HZ := Lib.hid hz
    clear hg hn hz
    by_cases hk9 : k < 9
    case neg =>
      have e : k = 9 := by omega
      subst e
      have c0 : wr.cell? ⟨w.heap.size + 1, 0, none⟩ = some (.float .f64 (ds 0)) := HN.out.1 0 (by decide)
      have z0 : wr.cell? ⟨w.heap.size, 0, none⟩ = some (.float .f64 0) := HZ.out.1 0 (by decide)
      have c1 : wr.cell? ⟨w.heap.size + 1, 1, none⟩ = some (.float .f64 (ds 1)) := HN.out.1 1 (by decide)
      have z1 : wr.cell? ⟨w.heap.size, 1, none⟩ = some (.float .f64 0) := HZ.out.1 1 (by decide)
      have c2 : wr.cell? ⟨w.heap.size + 1, 2, none⟩ = some (.float .f64 (ds 2)) := HN.out.1 2 (by decide)
      have z2 : wr.cell? ⟨w.heap.size, 2, none⟩ = some (.float .f64 0) := HZ.out.1 2 (by decide)
      have c3 : wr.cell? ⟨w.heap.size + 1, 3, none⟩ = some (.float .f64 (ds 3)) := HN.out.1 3 (by decide)
      have z3 : wr.cell? ⟨w.heap.size, 3, none⟩ = some (.float .f64 0) := HZ.out.1 3 (by decide)
      have c4 : wr.cell? ⟨w.heap.size + 1, 4, none⟩ = some (.float .f64 (ds 4)) := HN.out.1 4 (by decide)
      have z4 : wr.cell? ⟨w.heap.size, 4, none⟩ = some (.float .f64 0) := HZ.out.1 4 (by decide)
      have c5 : wr.cell? ⟨w.heap.size + 1, 5, none⟩ = some (.float .f64 (ds 5)) := HN.out.1 5 (by decide)
      have z5 : wr.cell? ⟨w.heap.size, 5, none⟩ = some (.float .f64 0) := HZ.out.1 5 (by decide)
      have c6 : wr.cell? ⟨w.heap.size + 1, 6, none⟩ = some (.float .f64 (ds 6)) := HN.out.1 6 (by decide)
      have z6 : wr.cell? ⟨w.heap.size, 6, none⟩ = some (.float .f64 0) := HZ.out.1 6 (by decide)
      have c7 : wr.cell? ⟨w.heap.size + 1, 7, none⟩ = some (.float .f64 (ds 7)) := HN.out.1 7 (by decide)
      have z7 : wr.cell? ⟨w.heap.size, 7, none⟩ = some (.float .f64 0) := HZ.out.1 7 (by decide)
      have c8 : wr.cell? ⟨w.heap.size + 1, 8, none⟩ = some (.float .f64 (ds 8)) := HN.out.1 8 (by decide)
      have z8 : wr.cell? ⟨w.heap.size, 8, none⟩ = some (.float .f64 0) := HZ.out.1 8 (by decide)
      have fz := HZ.out.2
      clear hk hk9
      go_wp2
      refine bodyPost_ret (v := MatV ds) ?_ rfl ⟨rfl, ?_⟩
      · have HF := HZ.out.nine ds
        show Sem.run Tryd.prog (results Tryd.f17 _) (set9 w.heap.size ds wr) = Result.ok (MatV ds) (set9 w.heap.size ds wr)
        generalize set9 w.heap.size ds wr = wf at HF ⊢
        clear HN HZ HG HM HLM HLD c0 c1 c2 c3 c4 c5 c6 c7 c8 z0 z1 z2 z3 z4 z5 z6 z7 z8 fz
        have q0 : wf.cell? ⟨w.heap.size, 0, none⟩ = some (.float .f64 (ds 0)) := HF.1 0 (by decide)
        have q1 : wf.cell? ⟨w.heap.size, 1, none⟩ = some (.float .f64 (ds 1)) := HF.1 1 (by decide)
        have q2 : wf.cell? ⟨w.heap.size, 2, none⟩ = some (.float .f64 (ds 2)) := HF.1 2 (by decide)
        have q3 : wf.cell? ⟨w.heap.size, 3, none⟩ = some (.float .f64 (ds 3)) := HF.1 3 (by decide)
        have q4 : wf.cell? ⟨w.heap.size, 4, none⟩ = some (.float .f64 (ds 4)) := HF.1 4 (by decide)
        have q5 : wf.cell? ⟨w.heap.size, 5, none⟩ = some (.float .f64 (ds 5)) := HF.1 5 (by decide)
        have q6 : wf.cell? ⟨w.heap.size, 6, none⟩ = some (.float .f64 (ds 6)) := HF.1 6 (by decide)
        have q7 : wf.cell? ⟨w.heap.size, 7, none⟩ = some (.float .f64 (ds 7)) := HF.1 7 (by decide)
        have q8 : wf.cell? ⟨w.heap.size, 8, none⟩ = some (.float .f64 (ds 8)) := HF.1 8 (by decide)
        simp [results, Tryd.results17, go_sem, q0, q1, q2, q3, q4, q5, q6, q7, q8]
      · show Grow w (set9 w.heap.size ds wr)
        exact (gb_set9 HG.out (Nat.le_refl _) ds).grow (Grow.refl w) (fun k hk => hk)
    case pos =>
      have HMR := Lib.hid (HM.out.upGB HG.out HLM.out HLD.out)
      have this : k = 0 ∨ k = 1 ∨ k = 2 ∨ k = 3 ∨ k = 4 ∨ k = 5 ∨ k = 6 ∨ k = 7 ∨ k = 8 := by omega
      clear hk hk9
      rcases this with rfl | rfl | rfl | rfl | rfl | rfl | rfl | rfl | rfl
      · have c0 : wr.cell? ⟨w.heap.size + 1, 0, none⟩ = some (.float .f64 0) := HN.out.1 0 (by decide)
        have f0 := HN.out.2 0
        go_wp2_with (go_at_call 26; refine (at_calls B mb db 0 0 ds _ HMR.out (by decide) (by decide)).mono ?_; rintro e w1 ⟨rfl, rfl⟩)
        exact ⟨⟨1, by go_num, by decide, gxSet HG.out (by show w.heap.size ≤ w.heap.size + 1; omega) _, HN.out.set (k := 0) (by decide) (ds 0) _ (fun j hj => by
          by_cases h1 : j = 0
          · subst h1; simp
          · rw [if_neg h1]; simp only [show (j < 1) ↔ (j < 0) from by omega]), HZ.out.other (by show w.heap.size + 1 ≠ w.heap.size; omega) _⟩, by simp [intOf]⟩
      · have c0 : wr.cell? ⟨w.heap.size + 1, 1, none⟩ = some (.float .f64 0) := HN.out.1 1 (by decide)
        have f0 := HN.out.2 1
        go_wp2_with (go_at_call 26; refine (at_calls B mb db 0 1 ds _ HMR.out (by decide) (by decide)).mono ?_; rintro e w1 ⟨rfl, rfl⟩)
        exact ⟨⟨2, by go_num, by decide, gxSet HG.out (by show w.heap.size ≤ w.heap.size + 1; omega) _, HN.out.set (k := 1) (by decide) (ds 1) _ (fun j hj => by
          by_cases h1 : j = 1
          · subst h1; simp
          · rw [if_neg h1]; simp only [show (j < 2) ↔ (j < 1) from by omega]), HZ.out.other (by show w.heap.size + 1 ≠ w.heap.size; omega) _⟩, by simp [intOf]⟩
      · have c0 : wr.cell? ⟨w.heap.size + 1, 2, none⟩ = some (.float .f64 0) := HN.out.1 2 (by decide)
        have f0 := HN.out.2 2
        go_wp2_with (go_at_call 26; refine (at_calls B mb db 0 2 ds _ HMR.out (by decide) (by decide)).mono ?_; rintro e w1 ⟨rfl, rfl⟩)
        exact ⟨⟨3, by go_num, by decide, gxSet HG.out (by show w.heap.size ≤ w.heap.size + 1; omega) _, HN.out.set (k := 2) (by decide) (ds 2) _ (fun j hj => by
          by_cases h1 : j = 2
          · subst h1; simp
          · rw [if_neg h1]; simp only [show (j < 3) ↔ (j < 2) from by omega]), HZ.out.other (by show w.heap.size + 1 ≠ w.heap.size; omega) _⟩, by simp [intOf]⟩
      · have c0 : wr.cell? ⟨w.heap.size + 1, 3, none⟩ = some (.float .f64 0) := HN.out.1 3 (by decide)
        have f0 := HN.out.2 3
        go_wp2_with (go_at_call 26; refine (at_calls B mb db 1 0 ds _ HMR.out (by decide) (by decide)).mono ?_; rintro e w1 ⟨rfl, rfl⟩)
        exact ⟨⟨4, by go_num, by decide, gxSet HG.out (by show w.heap.size ≤ w.heap.size + 1; omega) _, HN.out.set (k := 3) (by decide) (ds 3) _ (fun j hj => by
          by_cases h1 : j = 3
          · subst h1; simp
          · rw [if_neg h1]; simp only [show (j < 4) ↔ (j < 3) from by omega]), HZ.out.other (by show w.heap.size + 1 ≠ w.heap.size; omega) _⟩, by simp [intOf]⟩
      · have c0 : wr.cell? ⟨w.heap.size + 1, 4, none⟩ = some (.float .f64 0) := HN.out.1 4 (by decide)
        have f0 := HN.out.2 4
        go_wp2_with (go_at_call 26; refine (at_calls B mb db 1 1 ds _ HMR.out (by decide) (by decide)).mono ?_; rintro e w1 ⟨rfl, rfl⟩)
        exact ⟨⟨5, by go_num, by decide, gxSet HG.out (by show w.heap.size ≤ w.heap.size + 1; omega) _, HN.out.set (k := 4) (by decide) (ds 4) _ (fun j hj => by
          by_cases h1 : j = 4
          · subst h1; simp
          · rw [if_neg h1]; simp only [show (j < 5) ↔ (j < 4) from by omega]), HZ.out.other (by show w.heap.size + 1 ≠ w.heap.size; omega) _⟩, by simp [intOf]⟩
      · have c0 : wr.cell? ⟨w.heap.size + 1, 5, none⟩ = some (.float .f64 0) := HN.out.1 5 (by decide)
        have f0 := HN.out.2 5
        go_wp2_with (go_at_call 26; refine (at_calls B mb db 1 2 ds _ HMR.out (by decide) (by decide)).mono ?_; rintro e w1 ⟨rfl, rfl⟩)
        exact ⟨⟨6, by go_num, by decide, gxSet HG.out (by show w.heap.size ≤ w.heap.size + 1; omega) _, HN.out.set (k := 5) (by decide) (ds 5) _ (fun j hj => by
          by_cases h1 : j = 5
          · subst h1; simp
          · rw [if_neg h1]; simp only [show (j < 6) ↔ (j < 5) from by omega]), HZ.out.other (by show w.heap.size + 1 ≠ w.heap.size; omega) _⟩, by simp [intOf]⟩
      · have c0 : wr.cell? ⟨w.heap.size + 1, 6, none⟩ = some (.float .f64 0) := HN.out.1 6 (by decide)
        have f0 := HN.out.2 6
        go_wp2_with (go_at_call 26; refine (at_calls B mb db 2 0 ds _ HMR.out (by decide) (by decide)).mono ?_; rintro e w1 ⟨rfl, rfl⟩)
        exact ⟨⟨7, by go_num, by decide, gxSet HG.out (by show w.heap.size ≤ w.heap.size + 1; omega) _, HN.out.set (k := 6) (by decide) (ds 6) _ (fun j hj => by
          by_cases h1 : j = 6
          · subst h1; simp
          · rw [if_neg h1]; simp only [show (j < 7) ↔ (j < 6) from by omega]), HZ.out.other (by show w.heap.size + 1 ≠ w.heap.size; omega) _⟩, by simp [intOf]⟩
      · have c0 : wr.cell? ⟨w.heap.size + 1, 7, none⟩ = some (.float .f64 0) := HN.out.1 7 (by decide)
        have f0 := HN.out.2 7
        go_wp2_with (go_at_call 26; refine (at_calls B mb db 2 1 ds _ HMR.out (by decide) (by decide)).mono ?_; rintro e w1 ⟨rfl, rfl⟩)
        exact ⟨⟨8, by go_num, by decide, gxSet HG.out (by show w.heap.size ≤ w.heap.size + 1; omega) _, HN.out.set (k := 7) (by decide) (ds 7) _ (fun j hj => by
          by_cases h1 : j = 7
          · subst h1; simp
          · rw [if_neg h1]; simp only [show (j < 8) ↔ (j < 7) from by omega]), HZ.out.other (by show w.heap.size + 1 ≠ w.heap.size; omega) _⟩, by simp [intOf]⟩
      · have c0 : wr.cell? ⟨w.heap.size + 1, 8, none⟩ = some (.float .f64 0) := HN.out.1 8 (by decide)
        have f0 := HN.out.2 8
        go_wp2_with (go_at_call 26; refine (at_calls B mb db 2 2 ds _ HMR.out (by decide) (by decide)).mono ?_; rintro e w1 ⟨rfl, rfl⟩)
        exact ⟨⟨9, by go_num, by decide, gxSet HG.out (by show w.heap.size ≤ w.heap.size + 1; omega) _, HN.out.set (k := 8) (by decide) (ds 8) _ (fun j hj => by
          by_cases h1 : j = 8
          · subst h1; simp
          · rw [if_neg h1]; simp only [show (j < 9) ↔ (j < 8) from by omega]), HZ.out.other (by show w.heap.size + 1 ≠ w.heap.size; omega) _⟩, by simp [intOf]⟩
def MoP (p : Nat → Nat) (w : World) (e : Ending) (w' : World) : Prop := e = .returned (MatV p) ∧ Grow w w'
set_option maxRecDepth 100000 in
set_option maxHeartbeats 4000000 in
theorem matOuter_calls (al x0 x1 x2 y0 y1 y2 a0 a1 a2 : Nat) (p : Nat → Nat) (w : World)
    (ha0 : floatBits .mul .f64 al x0 = some a0)
    (ha1 : floatBits .mul .f64 al x1 = some a1)
    (ha2 : floatBits .mul .f64 al x2 = some a2)
    (hp00 : floatBits .mul .f64 a0 y0 = some (p 0))
    (hp01 : floatBits .mul .f64 a0 y1 = some (p 1))
    (hp02 : floatBits .mul .f64 a0 y2 = some (p 2))
    (hp10 : floatBits .mul .f64 a1 y0 = some (p 3))
    (hp11 : floatBits .mul .f64 a1 y1 = some (p 4))
    (hp12 : floatBits .mul .f64 a1 y2 = some (p 5))
    (hp20 : floatBits .mul .f64 a2 y0 = some (p 6))
    (hp21 : floatBits .mul .f64 a2 y1 = some (p 7))
    (hp22 : floatBits .mul .f64 a2 y2 = some (p 8))
    : Calls Tryd.prog 7 #[.float .f64 al, P3V x0 x1 x2, P3V y0 y1 y2] w (MoP p w) := by
  have HO := Lib.hid (fun B mb w h0 f0 hB => outer_calls B mb al x0 x1 x2 y0 y1 y2 a0 a1 a2 p w h0 f0 hB ha0 ha1 ha2 hp00 hp01 hp02 hp10 hp11 hp12 hp20 hp21 hp22)
  clear ha0 ha1 ha2 hp00 hp01 hp02 hp10 hp11 hp12 hp20 hp21 hp22
  go_enter Tryd.func7, Tryd.ntmps7
  go_wp2
  refine wp_region_grow_tail 5 (fun i => if i = 2 then some (fun _ _ => (fun V _ => V = P3V x0 x1 x2)) else if i = 4 then some (fun _ _ => (fun V _ => V = P3V y0 y1 y2)) else none) (by kernel_rfl) (by kernel_rfl) ?_ ?_
  · intro i Φ h lo hi v
    (repeat' split at h) <;> cases h
    · exact fun _ _ h _ => h
    · exact fun _ _ h _ => h
  simp only [List.take_succ_cons, List.take_zero, List.drop_succ_cons, List.drop_zero]
  repeat (first
    | (refine wpGrow_skip (by rfl) ?_; simp only [Act.put, List.setIfInBounds_toArray, List.set_cons_zero, List.set_cons_succ, Nat.reduceAdd])
    | (refine wpGrow_det' (by rfl) (by rfl) ?_; apply Exists.intro; refine ⟨fun w' hc hh => ?_, ?_⟩; (have hcell := grow_cell hc; clear hc hh; go_simp; rfl); simp only [Act.put, List.setIfInBounds_toArray, List.set_cons_zero, List.set_cons_succ, Nat.reduceAdd]))
  refine wpGrow_eff' (by rfl) (by rfl) (fun w' hc hh => ?_) (fun v lo hi w' hap hc hh hv => ?_)
  · clear hc hh
    go_simp
    go_at_call 16
    refine (vec3_calls _ _ _ _).mono ?_
    rintro e w2 ⟨rfl, hg⟩
    exact EffPost.mk hg rfl
  subst hv
  clear hc hh hap w'
  simp only [Act.put, List.setIfInBounds_toArray, List.set_cons_zero, List.set_cons_succ, Nat.reduceAdd]
  repeat (first
    | (refine wpGrow_skip (by rfl) ?_; simp only [Act.put, List.setIfInBounds_toArray, List.set_cons_zero, List.set_cons_succ, Nat.reduceAdd])
    | (refine wpGrow_det' (by rfl) (by rfl) ?_; apply Exists.intro; refine ⟨fun w' hc hh => ?_, ?_⟩; (have hcell := grow_cell hc; clear hc hh; go_simp; rfl); simp only [Act.put, List.setIfInBounds_toArray, List.set_cons_zero, List.set_cons_succ, Nat.reduceAdd]))
  refine wpGrow_eff' (by rfl) (by rfl) (fun w' hc hh => ?_) (fun v lo hi w' hap hc hh hv => ?_)
  · clear hc hh
    go_simp
    go_at_call 16
    refine (vec3_calls _ _ _ _).mono ?_
    rintro e w2 ⟨rfl, hg⟩
    exact EffPost.mk hg rfl
  subst hv
  clear hc hh hap w'
  simp only [Act.put, List.setIfInBounds_toArray, List.set_cons_zero, List.set_cons_succ, Nat.reduceAdd]
  repeat (first
    | (refine wpGrow_skip (by rfl) ?_; simp only [Act.put, List.setIfInBounds_toArray, List.set_cons_zero, List.set_cons_succ, Nat.reduceAdd])
    | (refine wpGrow_det' (by rfl) (by rfl) ?_; apply Exists.intro; refine ⟨fun w' hc hh => ?_, ?_⟩; (have hcell := grow_cell hc; clear hc hh; go_simp; rfl); simp only [Act.put, List.setIfInBounds_toArray, List.set_cons_zero, List.set_cons_succ, Nat.reduceAdd]))
  refine wpGrow_nil ?_
  intro w1 hg hh

  have v6 : N9 (w.heap.size + 1 + 1) (fun _ => 0) w1 := ⟨fun k hk => up_cell (by
    have : k = 0 ∨ k = 1 ∨ k = 2 ∨ k = 3 ∨ k = 4 ∨ k = 5 ∨ k = 6 ∨ k = 7 ∨ k = 8 := by omega
    rcases this with rfl | rfl | rfl | rfl | rfl | rfl | rfl | rfl | rfl <;> go_simp) hg, fun o => (grow_frozen hg _ _ (by simp)).trans (by go_simp)⟩
  have m0 : w1.cell? ⟨w.heap.size + 1 + 1 + 1, 0, none⟩ = some (.pointer none) := up_cell (by go_simp) hg
  have mf : w1.frozen? ⟨w.heap.size + 1 + 1 + 1, 0, none⟩ = false := (grow_frozen hg _ _ (by simp)).trans (by go_simp)
  have HG1 := Lib.hid (((((Grow.refl w).alloc _).alloc _).alloc _).alloc _ |>.trans hg)
  have hsz := hg.size
  simp only [heap_size_alloc_] at hsz
  have HSZ := Lib.hid hsz
  have HO1 := Lib.hid (HO.out (w.heap.size + 1 + 1 + 1) (w.heap.size + 1 + 1 + 1) w1 m0 mf (Nat.le_refl _))
  have H6 := Lib.hid v6
  clear hh hg hsz m0 mf v6
  go_wp2_with fail
  refine HO1.out.mono ?_
  rintro e w2 ⟨db, rfl, hm, hdb, hg⟩
  have HM := Lib.hid hm
  have HDB := Lib.hid hdb
  have HG2 := Lib.hid hg
  have H62 : Hid (N9 (w.heap.size + 1 + 1) (fun _ => 0) w2) := ⟨fun k hk => (hg.cell _ k (cell_lt (H6.out.1 k hk)) (by intro h; have h1 : w.heap.size + 1 + 1 = w.heap.size + 1 + 1 + 1 := h; omega)).trans (H6.out.1 k hk), fun o => (hg.froz _ o (cell_lt (H6.out.1 0 (by decide)))).trans (H6.out.2 o)⟩
  clear hm hdb hg
  go_wp2_with fail
  refine (plainMat_calls _ _ _ _ _ HM.out).mono ?_
  rintro e w3 ⟨rfl, hg⟩
  have HG3 := Lib.hid hg
  have H63 : Hid (N9 (w.heap.size + 1 + 1) (fun _ => 0) w3) := ⟨fun k hk => up_cell (H62.out.1 k hk) hg, fun o => (grow_frozen hg _ o (cell_lt (H62.out.1 0 (by decide)))).trans (H62.out.2 o)⟩
  clear hg
  have HGB : Hid (GB w.heap.size w w3) := ((GX.of_grow (fun _ h => h.elim) HG1.out).trans (GX.shrinkB HG2.out (by omega))).trans (GX.of_grow (fun _ h => h.elim) HG3.out)
  have z0 : w3.cell? ⟨w.heap.size + 1 + 1, 0, none⟩ = some (.float .f64 0) := H63.out.1 0 (by decide)
  have z1 : w3.cell? ⟨w.heap.size + 1 + 1, 1, none⟩ = some (.float .f64 0) := H63.out.1 1 (by decide)
  have z2 : w3.cell? ⟨w.heap.size + 1 + 1, 2, none⟩ = some (.float .f64 0) := H63.out.1 2 (by decide)
  have z3 : w3.cell? ⟨w.heap.size + 1 + 1, 3, none⟩ = some (.float .f64 0) := H63.out.1 3 (by decide)
  have z4 : w3.cell? ⟨w.heap.size + 1 + 1, 4, none⟩ = some (.float .f64 0) := H63.out.1 4 (by decide)
  have z5 : w3.cell? ⟨w.heap.size + 1 + 1, 5, none⟩ = some (.float .f64 0) := H63.out.1 5 (by decide)
  have z6 : w3.cell? ⟨w.heap.size + 1 + 1, 6, none⟩ = some (.float .f64 0) := H63.out.1 6 (by decide)
  have z7 : w3.cell? ⟨w.heap.size + 1 + 1, 7, none⟩ = some (.float .f64 0) := H63.out.1 7 (by decide)
  have z8 : w3.cell? ⟨w.heap.size + 1 + 1, 8, none⟩ = some (.float .f64 0) := H63.out.1 8 (by decide)
  have fz := H63.out.2
  go_wp2
  refine bodyPost_ret (v := MatV p) ?_ rfl ⟨rfl, ?_⟩
  · have HF := H63.out.nine p
    show Sem.run Tryd.prog (results Tryd.f7 _) (set9 (w.heap.size + 1 + 1) p w3) = Result.ok (MatV p) (set9 (w.heap.size + 1 + 1) p w3)
    generalize set9 (w.heap.size + 1 + 1) p w3 = wf at HF ⊢
    clear z0 z1 z2 z3 z4 z5 z6 z7 z8 fz
    have q0 : wf.cell? ⟨w.heap.size + 1 + 1, 0, none⟩ = some (.float .f64 (p 0)) := HF.1 0 (by decide)
    have q1 : wf.cell? ⟨w.heap.size + 1 + 1, 1, none⟩ = some (.float .f64 (p 1)) := HF.1 1 (by decide)
    have q2 : wf.cell? ⟨w.heap.size + 1 + 1, 2, none⟩ = some (.float .f64 (p 2)) := HF.1 2 (by decide)
    have q3 : wf.cell? ⟨w.heap.size + 1 + 1, 3, none⟩ = some (.float .f64 (p 3)) := HF.1 3 (by decide)
    have q4 : wf.cell? ⟨w.heap.size + 1 + 1, 4, none⟩ = some (.float .f64 (p 4)) := HF.1 4 (by decide)
    have q5 : wf.cell? ⟨w.heap.size + 1 + 1, 5, none⟩ = some (.float .f64 (p 5)) := HF.1 5 (by decide)
    have q6 : wf.cell? ⟨w.heap.size + 1 + 1, 6, none⟩ = some (.float .f64 (p 6)) := HF.1 6 (by decide)
    have q7 : wf.cell? ⟨w.heap.size + 1 + 1, 7, none⟩ = some (.float .f64 (p 7)) := HF.1 7 (by decide)
    have q8 : wf.cell? ⟨w.heap.size + 1 + 1, 8, none⟩ = some (.float .f64 (p 8)) := HF.1 8 (by decide)
    simp [results, Tryd.results7, go_sem, q0, q1, q2, q3, q4, q5, q6, q7, q8]
  · show Grow w (set9 (w.heap.size + 1 + 1) p w3)
    exact (gb_set9 HGB.out (by omega) p).grow (Grow.refl w) (fun k hk => hk)
end Go.Proofs.YtpnmcmpeecpjeaaDoor
