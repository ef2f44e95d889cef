import Derived.Test.YtcpdhkbmfgphpaaKdE
import Derived.Deep.OwnRows
namespace Go.Proofs.Ytcpdhkbmfgphpaa
open Go.ChangeShapes Go.WideShapes Go.ChangeAt Go.RowKit Go.GrowR
set_option linter.unusedVariables false
set_option linter.unusedSimpArgs false

theorem from_calls (w0 : World) (b n : Nat) (sc : Value) (L R : Nat → Int) (hn : n ≤ 2147483647) (hsd : ∀ (i : Nat) (w : World), i < n → Grow w0 w → Calls Try.prog 49 #[.int .i64 i, sc] w fun e w' => e = .returned (.tuple #[.int .i64 (L i), .int .i64 (R i)]) ∧ ∃ m, w' = w.drewN m) :
    ∀ (k : Nat) (i a d : Int) (s : Kt.St) (w : World), -1 ≤ a → (n : Int) - 1 - a ≤ k → 0 ≤ d → d + k ≤ 1099511627776 → s.ord.length + Kt.free n s.seen ≤ n → s.dep.length = s.ord.length → WS w0 b n (.func (.func 49) #[] #[sc]) s w →
      Calls Try.prog 58 #[.int .i64 i, .int .i64 a, .int .i64 d, .pointer (some ⟨b + 4, 0, none⟩), .pointer (some ⟨b, 0, none⟩), .pointer (some ⟨b + 6, 0, none⟩), .pointer (some ⟨b + 1, 0, none⟩), .pointer (some ⟨b + 7, 0, none⟩), .pointer (some ⟨b + 2, 0, none⟩), .pointer (some ⟨b + 3, 0, none⟩)] w (WQ w0 b n (.func (.func 49) #[] #[sc]) (Kt.walk n L R k i a d s)) := by
  intro k
  induction k with
  | zero =>
    intro i a d s w ha hk hd hdk hf hl hws
    rw [Kt.walk]
    by_cases h1 : i = -1 ∨ s.ok = false
    · rw [if_pos h1]; exact from_end w0 b n _ i a d s w hws h1
    · rw [if_neg h1]
      exact from_bad w0 b n _ i a d s w hws (fun h => h1 (.inl h)) (by
        cases e : s.ok
        · exact absurd (.inr e) h1
        · rfl) ha (by omega)
  | succ k ih =>
    intro i a d s w ha hk hd hdk hf hl hws
    rw [Kt.walk]
    by_cases h1 : i = -1 ∨ s.ok = false
    · rw [if_pos h1]; exact from_end w0 b n _ i a d s w hws h1
    rw [if_neg h1]
    have hok : s.ok = true := by
      cases e : s.ok
      · exact absurd (.inr e) h1
      · rfl
    by_cases h2 : i ≤ a ∨ (n : Int) ≤ i ∨ s.seen i.toNat = true
    · rw [if_pos h2]
      exact from_bad w0 b n _ i a d s w hws (fun h => h1 (.inl h)) hok ha h2
    rw [if_neg h2]
    obtain ⟨j, rfl⟩ := Int.eq_ofNat_of_zero_le (a := i) (by omega)
    simp only [Int.toNat_natCast] at h2 ⊢
    have hsj : s.seen j = false := by
      cases e : s.seen j
      · rfl
      · exact absurd (.inr (.inr e)) h2
    have hj : j < n := by omega
    have e0 := Kt.free_set hj hsj
    have hf1 : s.ord.length + Kt.free n (fun x => if x = j then true else s.seen x) + 1 ≤ n := by omega
    obtain ⟨s1, hs1⟩ : ∃ s1 : Kt.St, s1 = { s with seen := fun x => if x = j then true else s.seen x } := ⟨_, rfl⟩
    have hf1' : s1.ord.length + Kt.free n s1.seen + 1 ≤ n := by rw [hs1]; exact hf1
    have hl1 : s1.dep.length = s1.ord.length := by rw [hs1]; exact hl
    have w1 := Kt.walk_free (n := n) (L := L) (R := R) k (L j) (j : Int) (d + 1) s1 (by omega)
    have w2 := Kt.walk_len (n := n) (L := L) (R := R) k (L j) (j : Int) (d + 1) s1 hl1
    rw [← hs1]
    refine from_main w0 b n sc L R (by omega) hsd j a d s s1 _ _ w (by omega) hj hd (by omega) hok hsj (by omega) (by omega) hs1 (fun w' hw => ih _ _ _ s1 w' (by omega) (by omega) (by omega) (by omega) (by omega) hl1 hw) (fun w' hw => ?_) hws
    exact ih _ _ _ { Kt.walk n L R k (L j) (j : Int) (d + 1) s1 with ord := (Kt.walk n L R k (L j) (j : Int) (d + 1) s1).ord ++ [j], dep := (Kt.walk n L R k (L j) (j : Int) (d + 1) s1).dep ++ [d] } w' (by omega) (by omega) (by omega) (by omega) (by simp only [List.length_append, List.length_cons, List.length_nil]; omega) (by simp only [List.length_append, List.length_cons, List.length_nil]; omega) hw
def IOwnL (B : Nat) (v : Value) (xs : List Value) (w : World) : Prop := VOwn 3 B v xs w
/-- what a walk tells -/
def WalkQ (n : Nat) (L R : Nat → Int) (root : Int) (w : World) (e : Ending) (w' : World) : Prop :=
  ∃ V1 V2, e = .returned (.tuple #[V1, V2, .bool (Kt.walk0 n L R root).ok]) ∧ Grow w w' ∧ VOwn 3 w.heap.size V1 ((Kt.walk0 n L R root).ord.map natv) w' ∧ VOwn 3 w.heap.size V2 ((Kt.walk0 n L R root).dep.map intv) w'
theorem undBl : Try.prog.underlying 100 = some (.slice 4) := by kernel_rfl
theorem infoBl : (Try.prog.info? 4).map (fun i => (i.zero, i.size, i.bytes)) = some (some (.bool false), 1, 1) := by kernel_rfl
theorem free0 (n : Nat) : Kt.free n Kt.st0.seen ≤ n := by
  unfold Kt.free
  have := List.length_filter_le (fun j => !Kt.st0.seen j) (List.range n)
  simpa using this
theorem made_bl (W : World) (n b : Nat) (hb : W.heap.size = b) (o1 o2 : Obj) (i : Nat) (hi : i < n) : (((W.alloc (Obj.cells (madeCells #[Value.bool false] n) 4)).alloc o1).alloc o2).cell? ⟨b, i, none⟩ = some (.bool false) := by
  subst hb
  exact up_cell (up_cell ((World.rowIs_made W (.bool false) n 4).cell hi) ((Grow.refl _).alloc _)) ((Grow.refl _).alloc _)
def startV (w : World) (n : Nat) (fs : Value) : World := (((((w.alloc (Obj.cells #[Value.int IntKind.i64 ↑n] 3)).alloc (Obj.cells #[fs] 96)).alloc (Obj.cells #[Value.slice none 0 0] 62)).alloc (Obj.cells #[Value.slice none 0 0] 62)).alloc (Obj.cells #[Value.bool true] 4))
def startW (w : World) (n : Nat) (fs : Value) (b : Nat) : World := ((((startV w n fs).alloc (Obj.cells (madeCells #[Value.bool false] n) 4)).alloc (Obj.cells #[Value.slice (some { block := b + 5, off := 0 }) n n] 100)).alloc (Obj.cells #[.func (.func 58) #[] #[.pointer (some ⟨b + 4, 0, none⟩), .pointer (some ⟨b, 0, none⟩), .pointer (some ⟨b + 6, 0, none⟩), .pointer (some ⟨b + 1, 0, none⟩), .pointer (some ⟨b + 7, 0, none⟩), .pointer (some ⟨b + 2, 0, none⟩), .pointer (some ⟨b + 3, 0, none⟩)]] 112))
theorem alloc_sz (w : World) (o : Obj) : (w.alloc o).heap.size = w.heap.size + 1 := by simp
theorem startV_size (w : World) (n : Nat) (fs : Value) : (startV w n fs).heap.size = w.heap.size + 5 := by simp [startV]
theorem startV_grow (w : World) (n : Nat) (fs : Value) : Grow w (startV w n fs) := (((((Grow.refl w).alloc _).alloc _).alloc _).alloc _).alloc _
theorem startV_cells (w : World) (n : Nat) (fs : Value) : (startV w n fs).cell? ⟨w.heap.size, 0, none⟩ = some (.int .i64 n) ∧ (startV w n fs).cell? ⟨w.heap.size + 1, 0, none⟩ = some fs ∧ (startV w n fs).cell? ⟨w.heap.size + 2, 0, none⟩ = some (.slice none 0 0) ∧ (startV w n fs).cell? ⟨w.heap.size + 3, 0, none⟩ = some (.slice none 0 0) ∧ (startV w n fs).cell? ⟨w.heap.size + 4, 0, none⟩ = some (.bool true) := by
  unfold startV
  exact ⟨by go_simp, by go_simp, by go_simp, by go_simp, by go_simp⟩
theorem startV_froz (w : World) (n : Nat) (fs : Value) (o : Nat) : (startV w n fs).frozen? ⟨w.heap.size, o, none⟩ = false ∧ (startV w n fs).frozen? ⟨w.heap.size + 1, o, none⟩ = false ∧ (startV w n fs).frozen? ⟨w.heap.size + 2, o, none⟩ = false ∧ (startV w n fs).frozen? ⟨w.heap.size + 3, o, none⟩ = false ∧ (startV w n fs).frozen? ⟨w.heap.size + 4, o, none⟩ = false := by
  unfold startV
  exact ⟨by go_simp, by go_simp, by go_simp, by go_simp, by go_simp⟩
theorem froz_new (w : World) (cs : Array Value) (t : TypeId) (b o : Nat) (hb : w.heap.size = b) : (w.alloc (.cells cs t)).frozen? ⟨b, o, none⟩ = false := by subst hb; go_simp
theorem cell_new1 (w : World) (v : Value) (t : TypeId) (b : Nat) (hb : w.heap.size = b) : (w.alloc (.cells #[v] t)).cell? ⟨b, 0, none⟩ = some v := by subst hb; go_simp
theorem ws_start (w : World) (n b : Nat) (fs : Value) (hb : w.heap.size = b) : WS w b n fs Kt.st0 (startW w n fs b) := by
  subst hb
  have h0 := startV_size w n fs
  obtain ⟨c0, c1, c2, c3, c4⟩ := startV_cells w n fs
  have fz := startV_froz w n fs
  have hg := startV_grow w n fs
  unfold startW
  generalize startV w n fs = V at *
  have g3 : Grow V (((V.alloc (Obj.cells (madeCells #[Value.bool false] n) 4)).alloc (Obj.cells #[Value.slice (some { block := w.heap.size + 5, off := 0 }) n n] 100)).alloc (Obj.cells #[.func (.func 58) #[] #[.pointer (some ⟨w.heap.size + 4, 0, none⟩), .pointer (some ⟨w.heap.size, 0, none⟩), .pointer (some ⟨w.heap.size + 6, 0, none⟩), .pointer (some ⟨w.heap.size + 1, 0, none⟩), .pointer (some ⟨w.heap.size + 7, 0, none⟩), .pointer (some ⟨w.heap.size + 2, 0, none⟩), .pointer (some ⟨w.heap.size + 3, 0, none⟩)]] 112)) := (((Grow.refl V).alloc _).alloc _).alloc _
  have hs1 : (V.alloc (Obj.cells (madeCells #[Value.bool false] n) 4)).heap.size = w.heap.size + 6 := by simp [h0]
  refine ⟨hg.trans g3, Nat.le_refl _, up_cell c0 g3, up_cell c1 g3, ⟨_, _, up_cell c2 g3, up_cell c3 g3, VOwn.nil, VOwn.nil, fun g hg => by cases hg⟩, up_cell c4 g3, fun i hi => made_bl V n _ h0 _ _ i hi, up_cell (cell_new1 _ _ _ _ hs1) ((Grow.refl _).alloc _), cell_new1 _ _ _ _ (by simp [h0]), fun k o h1 h2 => ?_⟩
  have gf : ∀ k, k < V.heap.size → (((V.alloc (Obj.cells (madeCells #[Value.bool false] n) 4)).alloc (Obj.cells #[Value.slice (some { block := w.heap.size + 5, off := 0 }) n n] 100)).alloc (Obj.cells #[.func (.func 58) #[] #[.pointer (some ⟨w.heap.size + 4, 0, none⟩), .pointer (some ⟨w.heap.size, 0, none⟩), .pointer (some ⟨w.heap.size + 6, 0, none⟩), .pointer (some ⟨w.heap.size + 1, 0, none⟩), .pointer (some ⟨w.heap.size + 7, 0, none⟩), .pointer (some ⟨w.heap.size + 2, 0, none⟩), .pointer (some ⟨w.heap.size + 3, 0, none⟩)]] 112)).frozen? ⟨k, o, none⟩ = V.frozen? ⟨k, o, none⟩ := fun k hk => grow_frozen g3 k o hk
  obtain ⟨f0, f1, f2, f3, f4⟩ := fz o
  have : k = w.heap.size ∨ k = w.heap.size + 1 ∨ k = w.heap.size + 2 ∨ k = w.heap.size + 3 ∨ k = w.heap.size + 4 ∨ k = w.heap.size + 5 ∨ k = w.heap.size + 6 ∨ k = w.heap.size + 7 := by omega
  rcases this with rfl | rfl | rfl | rfl | rfl | rfl | rfl | rfl
  · rw [gf _ (by omega)]; exact f0
  · rw [gf _ (by omega)]; exact f1
  · rw [gf _ (by omega)]; exact f2
  · rw [gf _ (by omega)]; exact f3
  · rw [gf _ (by omega)]; exact f4
  · rw [grow_frozen (((Grow.refl _).alloc _).alloc _) _ _ (by rw [hs1]; omega)]; exact froz_new _ _ _ _ _ h0
  · rw [grow_frozen ((Grow.refl _).alloc _) _ _ (by rw [alloc_sz, hs1]; omega)]; exact froz_new _ _ _ _ _ hs1
  · exact froz_new _ _ _ _ _ (by simp [h0])
set_option maxRecDepth 100000 in
set_option maxHeartbeats 8000000 in
theorem walk_calls (n : Nat) (root : Int) (sc : Value) (L R : Nat → Int) (w : World) (hn : n ≤ 2147483647)
    (hsd : ∀ (i : Nat) (w' : World), i < n → Grow w w' → Calls Try.prog 49 #[.int .i64 i, sc] w' fun e w2 => e = .returned (.tuple #[.int .i64 (L i), .int .i64 (R i)]) ∧ ∃ m, w2 = w'.drewN m) :
    Calls Try.prog 48 #[.int .i64 (n : Nat), .int .i64 root, .func (.func 49) #[] #[sc]] w (WalkQ n L R root w) := by
  have HFC := Lib.hid (fun w' => from_calls w w.heap.size n sc L R hn hsd n root (-1) 0 Kt.st0 w' (by omega) (by omega) (by omega) (by omega) (by have := free0 n; simpa [Kt.st0] using this) rfl)
  have hmk := fun w => run_make_row' (P := Try.prog) 100 4 (.bool false) 1 undBl infoBl rfl .i64 .i64 n (by omega) (by omega) w
  clear hsd
  go_enter Try.func48, Try.ntmps48
  go_wp2_with fail
  refine (HFC.out _ (ws_start w n _ _ rfl)).mono ?_
  rintro e w1 ⟨rfl, hw1⟩
  obtain ⟨hg, -, -, -, ⟨V1, V2, c2, c3, hrows⟩, c4, -, -, -, hfz⟩ := hw1
  have HG := Lib.hid hg; have HR := Lib.hid hrows
  have f2 := hfz (w.heap.size + 2) 0 (by omega) (by omega)
  have f3 := hfz (w.heap.size + 3) 0 (by omega) (by omega)
  have f4 := hfz (w.heap.size + 4) 0 (by omega) (by omega)
  clear hg hrows hfz
  obtain ⟨A1, n1, m1, rfl⟩ := HR.out.a.isSl
  obtain ⟨A2, n2, m2, rfl⟩ := HR.out.b.isSl
  go_wp2
  go_region
  all_goals
    go_wp2
    refine bodyPost_ret (v := .tuple #[.slice A1 n1 m1, .slice A2 n2 m2, .bool (Kt.walk0 n L R root).ok]) ?_ rfl ⟨_, _, rfl, ?_, ?_, ?_⟩
    · simp [results, Try.results48, go_sem, c2, c3, c4]
      try rfl
    · exact (((HG.out.setCell (by simp <;> omega) _).setCell (by simp <;> omega) _).setCell (by simp <;> omega) _).drew
    · exact VOwn.mono (VOwn.up _ _ (((HR.out.a.setCell (by simp) _).setCell (by simp) _).setCell (by simp) _) ((Grow.refl _).drew)) (by omega)
    · exact VOwn.mono (VOwn.up _ _ (((HR.out.b.setCell (by simp) _).setCell (by simp) _).setCell (by simp) _) ((Grow.refl _).drew)) (by omega)
end Go.Proofs.Ytcpdhkbmfgphpaa
