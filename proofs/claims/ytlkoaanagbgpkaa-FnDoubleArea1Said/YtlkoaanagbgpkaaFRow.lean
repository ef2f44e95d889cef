import Derived.Test.YtlkoaanagbgpkaaGood8
namespace Go.Proofs.Ytlkoaanagbgpkaa
open Go.ChangeShapes Go.WideShapes Go.ChangeAt Go.RowKit Go.GrowR
set_option linter.unusedVariables false
set_option linter.unusedSimpArgs false

theorem cell_lt {w : World} {a : Addr} {v : Value} (h : w.cell? a = some v) : a.block < w.heap.size := by
  rcases Nat.lt_or_ge a.block w.heap.size with h1 | h1
  · exact h1
  · unfold World.cell? at h
    rw [Array.getElem?_eq_none h1] at h
    simp at h
theorem GX.cell_up {S : List Nat} {Y : List (World → Prop)} {w w' : World} {b o : Nat} {v : Value} (h : w.cell? ⟨b, o, none⟩ = some v) (hg : GX S Y w w') (hb : b ∉ S) : w'.cell? ⟨b, o, none⟩ = some v := (hg.cell _ _ (cell_lt h) hb).trans h
theorem GeoAt.upX {b o : Nat} {k l r : Int} {u e1 e2 : Value} {S : List Nat} {Y : List (World → Prop)} (hb : b ∉ S) : UpR (GX S Y) (GeoAt b o k l r u e1 e2) := fun _ _ ⟨h0, h1, h2, h3, h4, h5, h6⟩ hg =>
  ⟨GX.cell_up h0 hg hb, GX.cell_up h1 hg hb, GX.cell_up h2 hg hb, GX.cell_up h3 hg hb, GX.cell_up h4 hg hb, GX.cell_up h5 hg hb, GX.cell_up h6 hg hb⟩
theorem cell_same {w : World} {p q : Addr} {u v : Value} (hp : w.cell? p = some v) (hq : w.cell? q = some u) : (w.setCell q u).cell? p = some v := by
  by_cases h : q = p
  · subst h; rw [hp] at hq; cases hq; exact World.cell?_setCell_same _ _ _ hp
  · rw [World.cell?_setCell_other _ _ _ _ h]; exact hp
/-- a cell that holds a value already is given it once more -/
theorem GeoAt.again {b o : Nat} {k l r : Int} {u e1 e2 : Value} {w : World} (h : GeoAt b o k l r u e1 e2 w) {q : Addr} {v : Value} (hq : w.cell? q = some v) : GeoAt b o k l r u e1 e2 (w.setCell q v) :=
  let ⟨h0, h1, h2, h3, h4, h5, h6⟩ := h
  ⟨cell_same h0 hq, cell_same h1 hq, cell_same h2 hq, cell_same h3 hq, cell_same h4 hq, cell_same h5 hq, cell_same h6 hq⟩
def NewGeo (B : Nat) (k l r : Int) (u e1 e2 : Value) (V : Value) (w : World) : Prop := ∃ b, V = .slice (some ⟨b, 0, none⟩) 1 1 ∧ B ≤ b ∧ GeoAt b 0 k l r u e1 e2 w
theorem NewGeo.up {B : Nat} {k l r : Int} {u e1 e2 V : Value} : Up (NewGeo B k l r u e1 e2 V) := fun _ _ ⟨b, h1, h2, h3⟩ hg => ⟨b, h1, h2, GeoAt.up _ _ h3 hg⟩
theorem NewGeo.upX {B : Nat} {k l r : Int} {u e1 e2 V : Value} {S : List Nat} {Y : List (World → Prop)} (hS : ∀ k ∈ S, k < B) : UpR (GX S Y) (NewGeo B k l r u e1 e2 V) := fun _ _ ⟨b, h1, h2, h3⟩ hg => ⟨b, h1, h2, GeoAt.upX (fun hb => by have := hS b hb; omega) _ _ h3 hg⟩
theorem fRow_out (A : Option Addr) (m c : Nat) (n : Int) (w : World) (h : ¬ (2 ≤ n ∧ n ≤ 9)) : Calls Try.prog 28 #[.slice A m c, .int .i64 n] w fun e w' => e = .returned (.tuple #[GeoE 0 0 0 nilS nilS nilS, .bool false]) ∧ Grow w w' := by
  have HN := Lib.hid (fun w => fStride_out n w h); clear h
  go_enter Try.func28, Try.ntmps28
  go_wp2_with (go_at_call 22; refine (HN.out _).mono ?_; rintro e w1 ⟨rfl, rfl⟩)
  exact bodyPost_ret (v := .tuple #[GeoE 0 0 0 nilS nilS nilS, .bool false]) (by simp [results, Try.results28, go_sem]) rfl ⟨rfl, (Grow.refl w).alloc _⟩
set_option maxRecDepth 100000 in
set_option maxHeartbeats 4000000 in
theorem fRow_in (A : Option Addr) (m c : Nat) (n : Int) (s : Nat) (w : World) (h1 : 2 ≤ n) (h9 : n ≤ 9) (hs : n = s) (hm : m ≤ 2147483647) : Calls Try.prog 28 #[.slice A m c, .int .i64 n] w
    fun e w' => e = .returned (.tuple #[GeoE 8 (layN n) 0 (.slice A m c) nilS nilS, .bool (decide (1 + m ≤ 2000) && ((m : Int) % (s : Int) == 0))]) ∧ Grow w w' := by
  have hl1 : 1 ≤ layN n := by unfold layN; repeat' split
                              all_goals omega
  have hl9 : layN n ≤ 9 := by unfold layN; repeat' split
                              all_goals omega
  have HK := Lib.hid (fun b c0 w' (hg : GeoAt b 0 8 (layN n) 0 (.slice A m c) nilS nilS w') => gGood8 b c0 (layN n) 0 s A m c w' hg hl1 hl9 (by rw [stride_lay n h1]; exact hs) (by omega) (by omega) hm)
  have HI := Lib.hid (fun w => fStride_in n w h1 h9)
  have HL := Lib.hid (fun w => fLayout_calls n w h1)
  obtain ⟨g, hg⟩ : ∃ g, g = (decide (1 + m ≤ 2000) && ((m : Int) % (s : Int) == 0)) := ⟨_, rfl⟩
  rw [← hg] at HK ⊢
  clear hg h1 h9 hs hl1 hl9
  obtain ⟨L, hL⟩ : ∃ L, L = layN n := ⟨_, rfl⟩
  rw [← hL] at HK HL ⊢
  clear hL
  go_enter Try.func28, Try.ntmps28
  go_wp2_with (first
    | (go_at_call 22; refine (HI.out _).mono ?_; rintro e w1 ⟨rfl, rfl⟩)
    | (go_at_call 25; refine (HL.out _).mono ?_; rintro e w1 ⟨rfl, rfl⟩))
  have c0 : GeoAt (w.heap.size + 1) 0 8 L 0 (.slice A m c) nilS nilS ((w.alloc (Obj.cells #[.int .i64 0, .int .i64 0, .int .i64 0, nilS, nilS, nilS, nilS] 56)).alloc (Obj.cells #[.int .i64 8, .int .i64 L, .int .i64 0, .slice A m c, nilS, nilS, nilS] 56)) := ⟨by go_simp, by go_simp, by go_simp, by go_simp, by go_simp, by go_simp, by go_simp⟩
  obtain ⟨g0, g1, g2, g3, g4, g5, g6⟩ := id c0
  refine wp_region_grow_tail 4 (fun i => if i = 2 then some (fun _ _ V ww => NewGeo 0 8 L 0 (.slice A m c) nilS nilS V ww) else if i = 3 then some (fun _ _ V _ => V = .bool g) else none) (by kernel_rfl) (by kernel_rfl) ?_ ?_
  · intro i Φ h lo hi v
    (repeat' split at h) <;> cases h
    · exact NewGeo.up
    · exact fun _ _ h _ => h
  simp only [List.take_succ_cons, List.take_zero, List.drop_succ_cons, List.drop_zero]
  repeat (first
    | (refine wpGrow_skip (by rfl) ?_; simp only [Act.put, List.setIfInBounds_toArray, List.set_cons_zero, List.set_cons_succ, Nat.reduceAdd])
    | (refine wpGrow_det' (by rfl) (by rfl) ?_; apply Exists.intro; refine ⟨fun w' hc hh => ?_, ?_⟩; (have hcell := grow_cell hc; clear hc hh; go_simp; rfl); simp only [Act.put, List.setIfInBounds_toArray, List.set_cons_zero, List.set_cons_succ, Nat.reduceAdd]))
  refine wpGrow_eff' (by rfl) (by rfl) (fun w' hc hh => ?_) (fun v lo hi w' hap hc hh hv => ?_)
  · clear hh
    have hcell := grow_cell hc
    clear hc
    go_simp
    exact EffVal.mk ((Grow.refl w').alloc _) ⟨_, rfl, Nat.zero_le _, by go_simp, by go_simp, by go_simp, by go_simp, by go_simp, by go_simp, by go_simp⟩
  obtain ⟨b2, rfl, -, -⟩ := hv
  clear hc hh hap w'
  simp only [Act.put, List.setIfInBounds_toArray, List.set_cons_zero, List.set_cons_succ, Nat.reduceAdd]
  repeat (first
    | (refine wpGrow_skip (by rfl) ?_; simp only [Act.put, List.setIfInBounds_toArray, List.set_cons_zero, List.set_cons_succ, Nat.reduceAdd])
    | (refine wpGrow_det' (by rfl) (by rfl) ?_; apply Exists.intro; refine ⟨fun w' hc hh => ?_, ?_⟩; (have hcell := grow_cell hc; clear hc hh; go_simp; rfl); simp only [Act.put, List.setIfInBounds_toArray, List.set_cons_zero, List.set_cons_succ, Nat.reduceAdd]))
  refine wpGrow_eff' (by rfl) (by rfl) (fun w' hc hh => ?_) (fun v lo hi w' hap hc hh hv => ?_)
  · have H2 := Lib.hid (hh 2 (anc_of 5 (by kernel_rfl)))
    clear hc hh
    obtain ⟨b3, hb3, -, hgeo⟩ := H2.out
    cases hb3
    go_simp
    go_at_call 74
    refine (HK.out _ _ _ hgeo).mono ?_
    rintro e w3 ⟨rfl, hg⟩
    exact EffPost.mk hg rfl
  subst hv
  clear hc hh hap w'
  simp only [Act.put, List.setIfInBounds_toArray, List.set_cons_zero, List.set_cons_succ, Nat.reduceAdd]
  repeat (first
    | (refine wpGrow_skip (by rfl) ?_; simp only [Act.put, List.setIfInBounds_toArray, List.set_cons_zero, List.set_cons_succ, Nat.reduceAdd])
    | (refine wpGrow_det' (by rfl) (by rfl) ?_; apply Exists.intro; refine ⟨fun w' hc hh => ?_, ?_⟩; (have hcell := grow_cell hc; clear hc hh; go_simp; rfl); simp only [Act.put, List.setIfInBounds_toArray, List.set_cons_zero, List.set_cons_succ, Nat.reduceAdd]))
  refine wpGrow_nil ?_
  intro w1 hg hh
  have hcell := grow_cell hg
  have hfr := grow_frozen hg
  have hz := hg.size
  have HG := Lib.hid ((((Grow.refl w).alloc _).alloc _).trans hg)
  have d0 : GeoAt w.heap.size 0 0 0 0 nilS nilS nilS ((w.alloc (Obj.cells #[.int .i64 0, .int .i64 0, .int .i64 0, nilS, nilS, nilS, nilS] 56)).alloc (Obj.cells #[.int .i64 8, .int .i64 L, .int .i64 0, .slice A m c, nilS, nilS, nilS] 56)) := ⟨by go_simp, by go_simp, by go_simp, by go_simp, by go_simp, by go_simp, by go_simp⟩
  obtain ⟨e0, e1, e2, e3, e4, e5, e6⟩ := GeoAt.up _ _ d0 hg
  simp only [Nat.zero_add] at e1 e2 e3 e4 e5 e6
  have hf : ∀ o, w1.frozen? ⟨w.heap.size, o, none⟩ = false := fun o => (grow_frozen hg _ _ (by simp <;> omega)).trans (by go_simp)
  clear hh hg hcell hfr d0 c0 g0 g1 g2 g3 g4 g5 g6
  go_wp2
  exact bodyPost_ret (v := .tuple #[GeoE 8 L 0 (.slice A m c) nilS nilS, .bool g]) (by simp [results, Try.results28, go_sem, e0, e1, e2, e3, e4, e5, e6]) rfl ⟨rfl, (((((((HG.out.setCell (by simp) _).setCell (by simp) _).setCell (by simp) _).setCell (by simp) _).setCell (by simp) _).setCell (by simp) _).setCell (by simp) _)⟩
end Go.Proofs.Ytlkoaanagbgpkaa
