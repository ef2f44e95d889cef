import Derived.Test.YtlkoaanagbgpkaaBufC
import Derived.Laws.AppendOwn
namespace Go.Proofs.Ytlkoaanagbgpkaa
open Go.ChangeShapes Go.WideShapes Go.ChangeAt Go.RowKit Go.GrowR
set_option linter.unusedVariables false
set_option linter.unusedSimpArgs false
theorem idleGS (w : World) :
    CallsD Try.prog 184 #[] .returning w fun e u' w' => e = .returned (.tuple #[]) ∧ u' = .returning ∧ w' = w := by
  refine callsD_of_wpS Try.func184 rfl fun c₀ cs hu => ?_
  apply wpS_seq
  apply wpS_region
  simp [wpOpsS, go_sem, recoverD, hu, Try.ntmps184, Exit.thenS]
  refine wpS_cond (t := false) (by simp [Act.eval, Array.replicate]) ?_
  simp only [Bool.false_eq_true, if_false]
  refine wpS_of_wp ?_
  go_wp2
  cases c₀
  simp_all [bodyPostS, results, Try.results184, Exit.thenS]

def GsP (n : Nat) (w : World) (e : Ending) (w' : World) : Prop := ∃ h c, e = .returned (.slice (some ⟨h, 0, none⟩) 0 c) ∧ w.heap.size ≤ h ∧ n ≤ c ∧ (∃ cur : Array Value, w'.heap[h]? = some (.cells cur 5 (0, 0)) ∧ cur.size = c) ∧ Grow w w'
set_option maxRecDepth 100000 in
set_option maxHeartbeats 4000000 in
theorem growSlice_calls (n : Nat) (w : World) (h1 : 65 ≤ n) (h2 : n ≤ 1000) : Calls Try.prog 183 #[.slice none 0 0, .int .i64 n] w (GsP n w) := by
  obtain ⟨i, hi, hz, hs, hb⟩ := info_parts infoU8
  have HA := Lib.hid (fun w' => Lib.run_append_nil_zeros (P := Try.prog) w' 25 3 25 5 i (.int .u8 0) .i64 .i64 undU8 undInt hi hz n (by omega) (by omega) (by omega) (by rw [hb]; omega))
  have HI := Lib.hid hi
  have hsz : (Try.prog.info? 5).map (·.size) = some 1 := by rw [hi]; simp [hs]
  have hcp : ∀ d dLen dCap W, (Builtin.copy_ #[25, 25] 3 #[.slice d dLen dCap, .slice none 0 0]).run Try.prog W = .ok (goInt 0) W := fun d dLen dCap W => run_copy_none W 25 25 3 5 d none dLen dCap 0 0 undU8 hsz (by simp)
  have q1 : decide ((n : Int) < 0) = false := decide_eq_false (by omega)
  have hwr : IntKind.i64.wrap (n : Int) = n := by rw [IntKind.wrap_i64]; omega
  have q2 : ¬ (n : Int) < 0 := by omega
  have hge := grownCap_ge w n 0 5
  clear hi hsz
  go_enter_defers Try.func183, Try.ntmps183
  go_wp2_with (first
    | (at_builtin; refine Lib.wpList_append_run _ rfl _ _ _ _ rfl _ _ rfl rfl _ _ (HA.out _) ?_)
    | fail)
  refine leaves_cons (f := 184) (args := #[]) (by simp) (by simp [go_sem]) ?_
  refine (idleGS _).mono ?_
  rintro e u' w'' ⟨rfl, rfl, rfl⟩
  have hcs : (Builtin.zeroCells #[Value.int IntKind.u8 0] n ++ Builtin.zeroCells #[Value.int IntKind.u8 0] (grownCap w n 0 5 - n)).size = grownCap w n 0 5 := by
    rw [Array.size_append, size_zeroCells, size_zeroCells]; simp; omega
  refine ⟨.slice (some ⟨w.heap.size, 0, none⟩) 0 (grownCap w n 0 5), by simp [results, Try.results183, go_sem], w.heap.size, _, rfl, Nat.le_refl _, hge, ⟨_, ?_, hcs⟩, ?_⟩
  · exact heap_alloc_new _ _
  · exact ((Grow.refl w).alloc _).drew
theorem gnSet {b : Nat} {w0 w : World} (h : GN (fun k => k = b) w0 w) (o : Nat) (v : Value) : GN (fun k => k = b) w0 (w.setCell ⟨b, o, none⟩ v) := h.trans (GX.setCell v rfl (fun X hX => hX.elim))
theorem gn_trans {S : Nat → Prop} {a b c : World} (h : GN S a b) (k : GN S b c) : GN S a c := h.trans k
def GsV (n B : Nat) (V : Value) (w : World) : Prop := ∃ h c, V = .slice (some ⟨h, 0, none⟩) 0 c ∧ B ≤ h ∧ n ≤ c ∧ ∃ cur : Array Value, w.heap[h]? = some (.cells cur 5 (0, 0)) ∧ cur.size = c
theorem GsV.up {n B : Nat} {V : Value} : Up (GsV n B V) := fun _ _ ⟨h, c, e, hB, hc, cur, hh, hs⟩ hg => ⟨h, c, e, hB, hc, cur, (hg.block h (Array.getElem?_eq_some_iff.1 hh).1).trans hh, hs⟩
set_option maxRecDepth 100000 in
set_option maxHeartbeats 4000000 in
theorem growBig_calls (b n : Nat) (w : World) (hf : Fresh b w) (h1 : 65 ≤ n) (h2 : n ≤ 1000) : Calls Try.prog 182 #[.pointer (some ⟨b, 0, none⟩), .int .i64 n] w (GrowP b n w) := by
  have heq := eqlNil
  have HF := Lib.hid hf
  have hlt := cell_lt hf.1
  dsimp only at hlt
  have HT := Lib.hid (fun w' (hg : Grow w w') => tryGrow_calls b n w' (hf.up hg) (by omega))
  have HL := Lib.hid (len_calls b w hf)
  have HS := Lib.hid (fun w' => growSlice_calls n w' h1 h2)
  clear hf
  go_enter Try.func182, Try.ntmps182
  go_wp2_with fail
  refine HL.out.mono ?_
  rintro e w' ⟨rfl, k, rfl⟩
  have HG := Lib.hid ((Grow.refl w).drewN k)
  generalize w.drewN k = w0 at HG ⊢
  obtain ⟨c0, c1, -, f⟩ := HF.out.up HG.out
  have hlt2 : b < w0.heap.size := cell_lt c0
  have q64 : decide ((n : Int) ≤ 64) = false := decide_eq_false (by omega)
  have q64' : ¬ (n : Int) ≤ 64 := by omega
  have q0 : ¬ (n : Int) ≤ 0 := by omega
  have hwr : IntKind.i64.wrap (9223372036854775807 - (n : Int)) = 9223372036854775807 - n := by rw [IntKind.wrap_i64]; omega
  have qm : ¬ (9223372036854775807 - (n : Int)) < 0 := by omega
  have hwn : IntKind.i64.wrap (n : Int) = n := by rw [IntKind.wrap_i64]; omega
  have HN := Lib.hid (show 65 ≤ n ∧ n ≤ 1000 from ⟨h1, h2⟩)
  go_wp2_with fail
  refine (HT.out _ HG.out).mono ?_
  rintro e w' ⟨rfl, rfl⟩
  go_wp2
  refine wp_region_grow_tail 17 (fun i => if i = 16 then some (fun _ _ V ww => GsV n w.heap.size V ww) else none) (by kernel_rfl) (by kernel_rfl) ?_ ?_
  · intro i Φ h lo hi v
    (repeat' split at h) <;> cases h
    · exact GsV.up
  simp only [List.take_succ_cons, List.take_zero, List.drop_succ_cons, List.drop_zero]
  repeat (first
    | (refine wpGrow_skip (by rfl) ?_; simp only [Act.put, List.setIfInBounds_toArray, List.set_cons_zero, List.set_cons_succ, Nat.reduceAdd])
    | (refine wpGrow_det' (by rfl) (by rfl) ?_; apply Exists.intro; refine ⟨fun w' hc hh => ?_, ?_⟩; (have hcell := grow_cell hc; clear hc hh; go_simp; rfl); simp only [Act.put, List.setIfInBounds_toArray, List.set_cons_zero, List.set_cons_succ, Nat.reduceAdd]))
  refine wpGrow_eff' (by rfl) (by rfl) (fun w' hc hh => ?_) (fun v lo hi w' hap hc hh hv => ?_)
  · have hs := hc.size
    have hs1 := HG.out.size
    clear hc hh
    go_simp
    go_at_call 183
    refine (HS.out _).mono ?_
    rintro e w2 ⟨h, c, rfl, hB, hc, hcur, hg⟩
    exact EffPost.mk hg ⟨h, c, rfl, by omega, hc, hcur⟩
  obtain ⟨h, c, rfl, hB, hcn, -⟩ := hv
  clear hc hh hap w'
  simp only [Act.put, List.setIfInBounds_toArray, List.set_cons_zero, List.set_cons_succ, Nat.reduceAdd]
  repeat (first
    | (refine wpGrow_skip (by rfl) ?_; simp only [Act.put, List.setIfInBounds_toArray, List.set_cons_zero, List.set_cons_succ, Nat.reduceAdd])
    | (refine wpGrow_det' (by rfl) (by rfl) ?_; apply Exists.intro; refine ⟨fun w' hc hh => ?_, ?_⟩; (have hcell := grow_cell hc; clear hc hh; go_simp; rfl); simp only [Act.put, List.setIfInBounds_toArray, List.set_cons_zero, List.set_cons_succ, Nat.reduceAdd]))
  refine wpGrow_nil ?_
  intro w1 hg hh
  have HNM := (hh 16).1
  obtain ⟨h', c', e1, -, -, cur, hcur, hcs⟩ := HNM
  cases e1
  have HC := Lib.hid (show w1.heap[h]? = some (.cells cur 5 (0, 0)) ∧ cur.size = c from ⟨hcur, hcs⟩)
  have d0 := up_cell c0 hg
  have d1 := up_cell c1 hg
  have f0 : ∀ o, w1.frozen? ⟨b, o, none⟩ = false := fun o => (froz_up hlt2 hg).trans (f o)
  have HG1 := Lib.hid (HG.out.trans hg)
  clear hcur hcs hh hg c0 c1 f
  go_wp2
  go_ret
  have hne : ¬ h = b := by omega
  have e0 : (w1.setCell ⟨b, 0, none⟩ (.slice (some ⟨h, 0, none⟩) 0 c)).cell? ⟨b, 0, none⟩ = some (.slice (some ⟨h, 0, none⟩) 0 c) := World.cell?_setCell_same _ _ _ d0
  have e1 : (w1.setCell ⟨b, 0, none⟩ (.slice (some ⟨h, 0, none⟩) 0 c)).cell? ⟨b, 1, none⟩ = some (.int .i64 0) := by rw [World.cell?_setCell_other _ _ _ _ (by intro hc; cases hc)]; exact d1
  have g0 : ((w1.setCell ⟨b, 0, none⟩ (.slice (some ⟨h, 0, none⟩) 0 c)).setCell ⟨b, 1, none⟩ (.int .i64 0)).cell? ⟨b, 0, none⟩ = some (.slice (some ⟨h, 0, none⟩) 0 c) := by rw [World.cell?_setCell_other _ _ _ _ (by intro hc; cases hc)]; exact e0
  have g1 : ((w1.setCell ⟨b, 0, none⟩ (.slice (some ⟨h, 0, none⟩) 0 c)).setCell ⟨b, 1, none⟩ (.int .i64 0)).cell? ⟨b, 1, none⟩ = some (.int .i64 0) := World.cell?_setCell_same _ _ _ e1
  refine ⟨rfl, h, c, hB, ⟨World.cell?_setCell_same _ _ _ g0, ?_, fun o => ?_, hcn, cur, ?_, HC.out.2⟩, ?_⟩
  · rw [World.cell?_setCell_other _ _ _ _ (by intro hc; cases hc)]; exact g1
  · rw [World.frozen?_setCell, World.frozen?_setCell, World.frozen?_setCell]; exact f0 o
  · rw [Below.heap_setCell _ _ _ _ hne, Below.heap_setCell _ _ _ _ hne, Below.heap_setCell _ _ _ _ hne]; exact HC.out.1
  · exact gnSet (gnSet (gnSet (GX.of_grow (fun _ h => h.elim) HG1.out) _ _) _ _) _ _
theorem grow_calls (b n : Nat) (w : World) (hf : Fresh b w) (h1 : 1 ≤ n) (h2 : n ≤ 1000) : Calls Try.prog 182 #[.pointer (some ⟨b, 0, none⟩), .int .i64 n] w (GrowP b n w) := by
  by_cases h : n ≤ 64
  · exact growSmall_calls b n w hf h1 h
  · exact growBig_calls b n w hf (by omega) h2
/-- the buffer holds n bytes f -/
def Full (b n : Nat) (f : Nat → Int) (w : World) : Prop := ∃ h c, w.cell? ⟨b, 0, none⟩ = some (.slice (some ⟨h, 0, none⟩) n c) ∧ w.cell? ⟨b, 1, none⟩ = some (.int .i64 0) ∧ n ≤ c ∧ b < h ∧ ∀ k, k < n → w.cell? ⟨h, k, none⟩ = some (.int .u8 (f k))
def WrP (b n : Nat) (f : Nat → Int) (w : World) (e : Ending) (w' : World) : Prop := e = .returned (.tuple #[.int .i64 n, .nilIface]) ∧ Full b n f w' ∧ Below b w w'
theorem below_of_gn {b : Nat} {w w' : World} (h : GN (fun k => k = b) w w') (hb : b ≤ w.heap.size) : Below b w w' := ⟨h.os, h.tape, h.output, h.size, fun k hk => h.block k (by omega) (by omega)⟩
set_option maxRecDepth 100000 in
set_option maxHeartbeats 4000000 in
theorem write_calls (b g n c : Nat) (f : Nat → Int) (w : World) (hf : Fresh b w) (hr : RowI g n f w) (hgb : g ≠ b) (h1 : 1 ≤ n) (h2 : n ≤ 1000) :
    Calls Try.prog 179 #[.pointer (some ⟨b, 0, none⟩), .slice (some ⟨g, 0, none⟩) n c] w (WrP b n f w) := by
  obtain ⟨c0, c1, ⟨k2, c2⟩, fz⟩ := id hf
  have hlt : b < w.heap.size := cell_lt c0
  have hfr : Fresh b (w.setCell ⟨b, 2, none⟩ (.int .i8 0)) := by
    refine ⟨?_, ?_, ⟨0, World.cell?_setCell_same _ _ _ c2⟩, fun o => by rw [World.frozen?_setCell]; exact fz o⟩
    · rw [World.cell?_setCell_other _ _ _ _ (by intro hc; cases hc)]; exact c0
    · rw [World.cell?_setCell_other _ _ _ _ (by intro hc; cases hc)]; exact c1
  have hrr : RowI g n f (w.setCell ⟨b, 2, none⟩ (.int .i8 0)) := hr.upN (by omega) (gnSet (GX.refl w) 2 _) (Ne.symm hgb)
  have HG0 := Lib.hid (show GN (fun k => k = b) w (w.setCell ⟨b, 2, none⟩ (.int .i8 0)) from gnSet (GX.refl w) 2 _)
  have HT := Lib.hid (tryGrow_calls b n _ hfr (by omega))
  have HW := Lib.hid (grow_calls b n _ hfr h1 h2)
  have HR := Lib.hid hrr
  have HLT := Lib.hid hlt
  have HN := Lib.hid (show 1 ≤ n ∧ n ≤ 1000 from ⟨h1, h2⟩)
  have hsz : Hid ((Try.prog.info? 5).map (·.size) = some 1) := by show _ = _; kernel_rfl
  have hund : Hid (Try.prog.underlying 25 = some (.slice 5)) := by show _ = _; kernel_rfl
  have HNE := Lib.hid hgb
  clear hf hr hfr hrr c0 c1 hgb
  go_enter Try.func179, Try.ntmps179
  go_wp2_with fail
  refine HT.out.mono ?_
  rintro e w' ⟨rfl, rfl⟩
  go_wp2_with fail
  refine HW.out.mono ?_
  rintro e w2 ⟨rfl, h, c', hB, ⟨d0, d1, fb, hnc, cur, hcur, hcs⟩, hgn⟩
  have HGN := Lib.hid hgn
  have hB' : w.heap.size ≤ h := by simpa [World.setCell] using hB
  have HB := Lib.hid hB'
  have HCUR := Lib.hid hcur
  have HCS := Lib.hid hcs
  have HF2 := Lib.hid fb
  have hrow : RowI g n f w2 := HR.out.upN (by have := HN.out; omega) hgn (Ne.symm HNE.out)
  have HRW := Lib.hid hrow
  have hb2 : w2.heap[h]? = some (.cells cur.toList.toArray 5 (0, 0)) := by simpa using hcur
  have HH := Lib.hid hb2
  have HC : Hid (∀ j v, ((List.range n).map (fun k => Value.int .u8 (f k)))[j]? = some v → w2.cell? (Addr.add ⟨g, 0, none⟩ j) = some v) := by
    intro j v hj
    rw [List.getElem?_map] at hj
    by_cases hjn : j < n
    · rw [List.getElem?_range hjn] at hj; cases hj; rw [addr_add, Nat.zero_add]; exact hrow.1 j hjn
    · rw [List.getElem?_eq_none (by simp; omega)] at hj; cases hj
  clear hB hB' hgn hcur hcs fb hrow hb2 fz c2
  have q1 : ¬ c' = 0 := by have := HN.out; omega
  have h1c : ∀ v ∈ (List.range n).map (fun k => Value.int .u8 (f k)), v.oneCell' = true := by
    intro v hv
    obtain ⟨k, -, rfl⟩ := List.mem_map.1 hv
    rfl
  have H1 := Lib.hid h1c
  have HNC := Lib.hid hnc
  have hlt2 : b < w2.heap.size := cell_lt d0
  clear h1c
  go_wp2_with (with_reducible refine wpList_copy_splice rfl (.tmp 29) (.tmp 30) 25 25 rfl 5 hund.out hsz.out (some ⟨h, 0, none⟩) (some ⟨g, 0, none⟩) n c' n c rfl rfl h 0 cur.toList 5 HH.out ((List.range n).map (fun k => Value.int .u8 (f k))) (by rw [List.length_map, List.length_range]; exact (Nat.min_self _).symm) (fun _ => ⟨rfl, _, rfl, HC.out⟩) (by have := HCS.out; have := HNC.out; simp; omega) H1.out w.heap.size w2 (Below.refl _ _) HB.out ?_; intro w' hg' hb')
  have hb0 := below_of_gn (gn_trans HG0.out HGN.out) (Nat.le_of_lt HLT.out)
  have d0' : w'.cell? ⟨b, 0, none⟩ = some (.slice (some ⟨h, 0, none⟩) n c') := (World.cell?_of_block (w := w2) (hb'.block b HLT.out)).trans d0
  have d1' : w'.cell? ⟨b, 1, none⟩ = some (.int .i64 0) := (World.cell?_of_block (w := w2) (hb'.block b HLT.out)).trans d1
  refine bodyPost_ret (v := .tuple #[.int .i64 n, .nilIface]) (by simp [results, Try.results179, go_sem]) rfl ⟨rfl, ⟨h, c', d0', d1', HNC.out, Nat.lt_of_lt_of_le HLT.out HB.out, fun k hk => ?_⟩, hb0.trans (hb'.mono (Nat.le_of_lt HLT.out))⟩
  rw [Lib.cell_of_heap hg'.out]
  have hl : k < ((List.range n).map (fun k => Value.int .u8 (f k))).length := by simp; exact hk
  simp [splice]
  rw [List.getElem?_append_left hl, List.getElem?_map, List.getElem?_range hk]; rfl
end Go.Proofs.Ytlkoaanagbgpkaa
