import Derived.Test.YtlkoaanagbgpkaaBufE
namespace Go.Proofs.Ytlkoaanagbgpkaa
open Go.ChangeShapes Go.WideShapes Go.ChangeAt Go.RowKit Go.GrowR
set_option linter.unusedVariables false
set_option linter.unusedSimpArgs false
theorem idleEP (p0 p1 : Addr) (w : World) :
    CallsD Try.prog 70 #[.pointer (some p0), .pointer (some p1)] .returning w fun e u' w' => e = .returned (.tuple #[]) ∧ u' = .returning ∧ w' = w := by
  refine callsD_of_wpS Try.func70 rfl fun c₀ cs hu => ?_
  apply wpS_seq
  apply wpS_region
  simp [wpOpsS, go_sem, recoverD, hu, Try.ntmps70, Exit.thenS]
  refine wpS_cond (t := false) (by simp [Act.eval, Array.replicate]) ?_
  simp only [Bool.false_eq_true, if_false]
  refine wpS_of_wp ?_
  go_wp2
  cases c₀
  simp_all [bodyPostS, results, Try.results70, Exit.thenS]

def OrdP (big : Bool) (w : World) (e : Ending) (w' : World) : Prop := e = .returned (ordV big) ∧ w' = w
theorem door_calls (big : Bool) (w : World) : Calls Try.prog 72 #[.bool big] w (OrdP big w) := by
  cases big
  all_goals
    go_enter Try.func72, Try.ntmps72
    go_wp2
    go_ret
    exact ⟨rfl, rfl⟩
theorem bytes_calls (b n : Nat) (f : Nat → Int) (w : World) (hf : Full b n f w) (h1 : 1 ≤ n) (h2 : n ≤ 1000) :
    Calls Try.prog 73 #[.pointer (some ⟨b, 0, none⟩)] w fun e w' => (∃ h c, e = .returned (.slice (some ⟨h, 0, none⟩) n c) ∧ b < h ∧ ∀ k, k < n → w.cell? ⟨h, k, none⟩ = some (.int .u8 (f k))) ∧ ∃ m, w' = w.drewN m := by
  obtain ⟨h, c, c0, c1, hc, hbh, hcell⟩ := hf
  have hlt := cell_lt c0
  have q : ¬ c = 0 := by omega
  have HC := Lib.hid hcell
  have HBH := Lib.hid hbh
  clear hcell hbh
  go_enter Try.func73, Try.ntmps73
  go_wp2
  go_quiet (fail)
  go_wp2
  go_ret
  exact ⟨⟨h, c, rfl, HBH.out, HC.out⟩, _, rfl⟩
theorem Full.up {b n : Nat} {f : Nat → Int} {w w' : World} (h : Full b n f w) (hg : Grow w w') : Full b n f w' := by
  obtain ⟨h', c, c0, c1, hc, hb, hcell⟩ := h
  exact ⟨h', c, up_cell c0 hg, up_cell c1 hg, hc, hb, fun k hk => up_cell (hcell k hk) hg⟩
def BytV (B n : Nat) (f : Nat → Int) (V : Value) (w : World) : Prop := ∃ h c, V = .slice (some ⟨h, 0, none⟩) n c ∧ B < h ∧ ∀ k, k < n → w.cell? ⟨h, k, none⟩ = some (.int .u8 (f k))
theorem BytV.up {B n : Nat} {f : Nat → Int} {V : Value} : Up (BytV B n f V) := fun _ _ ⟨h, c, e, hB, hc⟩ hg => ⟨h, c, e, hB, fun k hk => up_cell (hc k hk) hg⟩
theorem BytV.upX {B n : Nat} {f : Nat → Int} {V : Value} {S : Nat → Prop} {Y : (World → Prop) → Prop} {w w' : World} (h : BytV B n f V w) (hg : GX S Y w w') (hS : ∀ k, S k → k ≤ B) : BytV B n f V w' := by
  obtain ⟨h', c, e, hB, hc⟩ := h
  exact ⟨h', c, e, hB, fun k hk => (hg.cell h' k (cell_lt (hc k hk)) (fun hs => by have := hS _ hs; omega)).trans (hc k hk)⟩
theorem Full.upX {b n : Nat} {f : Nat → Int} {S : Nat → Prop} {Y : (World → Prop) → Prop} {w w' : World} (h : Full b n f w) (hg : GX S Y w w') (hS : ∀ k, S k → k < b) : Full b n f w' := by
  obtain ⟨h', c, c0, c1, hc, hb, hcell⟩ := h
  have nb : ¬ S b := fun hs => by have := hS _ hs; omega
  exact ⟨h', c, (hg.cell b 0 (cell_lt c0) nb).trans c0, (hg.cell b 1 (cell_lt c1) nb).trans c1, hc, hb, fun k hk => (hg.cell h' k (cell_lt (hcell k hk)) (fun hs => by have := hS _ hs; omega)).trans (hcell k hk)⟩
def GotB (p : Addr) (B n : Nat) (f : Nat → Int) (w : World) : Prop := ∃ u, w.cell? p = some u ∧ BytV B n f u w
theorem GotB.up {p : Addr} {B n : Nat} {f : Nat → Int} : Up (GotB p B n f) := fun _ _ ⟨u, h1, h2⟩ hg => ⟨u, up_cell h1 hg, BytV.up _ _ h2 hg⟩
def EpP (big : Bool) (n : Nat) (w : World) (e : Ending) (w' : World) : Prop := ∃ V, e = .returned (.tuple #[V, .bool true]) ∧ BytV w.heap.size (8 * n) (fB big n n) V w' ∧ Grow w w'
set_option maxRecDepth 100000 in
set_option maxHeartbeats 4000000 in
theorem bytesOf_calls (big : Bool) (n : Nat) (w : World) (h1 : 1 ≤ n) (h9 : n ≤ 9) : Calls Try.prog 27 #[.int .i64 n, .bool big] w (EpP big n w) := by
  have hmf : ∀ (fn : Fn) (first cap : Array Value) (w : World), (Instr.makeFunc fn first cap).run Try.prog w = .ok (.func fn first cap) w := fun _ _ _ _ => rfl
  have HD := Lib.hid (door_calls big)
  go_enter_defers Try.func27, Try.ntmps27
  go_wp2_with fail
  refine (HD.out _).mono ?_
  rintro e w1 ⟨rfl, rfl⟩
  have hfresh : Fresh (w.heap.size + 1 + 1) (((w.alloc (.cells #[.slice none 0 0] 25)).alloc (.cells #[.bool false] 4)).alloc (.cells #[.slice none 0 0, .int .i64 0, .int .i8 0] 115)) := by
    refine ⟨by go_simp, by go_simp, ⟨0, by go_simp⟩, fun o => by go_simp⟩
  have c0 : (((w.alloc (.cells #[.slice none 0 0] 25)).alloc (.cells #[.bool false] 4)).alloc (.cells #[.slice none 0 0, .int .i64 0, .int .i8 0] 115)).cell? ⟨w.heap.size, 0, none⟩ = some (.slice none 0 0) := by go_simp
  have c1 : (((w.alloc (.cells #[.slice none 0 0] 25)).alloc (.cells #[.bool false] 4)).alloc (.cells #[.slice none 0 0, .int .i64 0, .int .i8 0] 115)).cell? ⟨w.heap.size + 1, 0, none⟩ = some (.bool false) := by go_simp
  have f0 : (((w.alloc (.cells #[.slice none 0 0] 25)).alloc (.cells #[.bool false] 4)).alloc (.cells #[.slice none 0 0, .int .i64 0, .int .i8 0] 115)).frozen? ⟨w.heap.size, 0, none⟩ = false := by go_simp
  have f1 : (((w.alloc (.cells #[.slice none 0 0] 25)).alloc (.cells #[.bool false] 4)).alloc (.cells #[.slice none 0 0, .int .i64 0, .int .i8 0] 115)).frozen? ⟨w.heap.size + 1, 0, none⟩ = false := by go_simp
  have HG := Lib.hid (show Grow w (((w.alloc (.cells #[.slice none 0 0] 25)).alloc (.cells #[.bool false] 4)).alloc (.cells #[.slice none 0 0, .int .i64 0, .int .i8 0] 115)) from (((Grow.refl w).alloc _).alloc _).alloc _)
  have HW := Lib.hid (nan_calls big _ n _ hfresh h1 h9)
  have HSZ := Lib.hid (show (((w.alloc (.cells #[.slice none 0 0] 25)).alloc (.cells #[.bool false] 4)).alloc (.cells #[.slice none 0 0, .int .i64 0, .int .i8 0] 115)).heap.size = w.heap.size + 1 + 1 + 1 by simp)
  have HN := Lib.hid (show 1 ≤ n ∧ n ≤ 9 from ⟨h1, h9⟩)
  clear hfresh
  generalize (((w.alloc (.cells #[.slice none 0 0] 25)).alloc (.cells #[.bool false] 4)).alloc (.cells #[.slice none 0 0, .int .i64 0, .int .i8 0] 115)) = w0 at c0 c1 f0 f1 HG HW HSZ ⊢
  go_wp2_with fail
  refine HW.out.mono ?_
  rintro e w2 ⟨rfl, hfull, hb⟩
  have HFU := Lib.hid hfull
  have HB := Lib.hid hb
  have d0 : w2.cell? ⟨w.heap.size, 0, none⟩ = some (.slice none 0 0) := (World.cell?_of_block (w := w0) (hb.block w.heap.size (by omega))).trans c0
  have d1 : w2.cell? ⟨w.heap.size + 1, 0, none⟩ = some (.bool false) := (World.cell?_of_block (w := w0) (hb.block (w.heap.size + 1) (by omega))).trans c1
  have g0 : w2.frozen? ⟨w.heap.size, 0, none⟩ = false := (World.frozen?_of_block (w := w0) (hb.block w.heap.size (by omega))).trans f0
  have g1 : w2.frozen? ⟨w.heap.size + 1, 0, none⟩ = false := (World.frozen?_of_block (w := w0) (hb.block (w.heap.size + 1) (by omega))).trans f1
  have HG2 := Lib.hid (show Grow w w2 from Below.trans HG.out (hb.mono (by omega)))
  have hlt : w.heap.size + 1 + 1 < w2.heap.size := by have := hb.size; have := HSZ.out; omega
  have HLT := Lib.hid hlt
  clear hfull hb c0 c1 f0 f1
  have HC4 := Lib.hid d0; have HF4 := Lib.hid g0
  have D1 := Lib.hid d1; have G1 := Lib.hid g1
  clear d0 g0 d1 g1
  go_wp2
  refine wp_region_rel_tail (GX (fun k => k = w.heap.size) (fun X => X = (GotB ⟨w.heap.size, 0, none⟩ (w.heap.size + 1 + 1) (8 * n) (fB big n n)))) 4 (fun i => if i = 0 then some (fun _ => (fun _ _ V ww => BytV (w.heap.size + 1 + 1) (8 * n) (fB big n n) V ww)) else if i = 3 then some (fun _ => (fun _ _ _ ww => (GotB ⟨w.heap.size, 0, none⟩ (w.heap.size + 1 + 1) (8 * n) (fB big n n)) ww)) else none) (by kernel_rfl) (by kernel_rfl) (fun _ _ h => h.size) (fun _ _ _ h k => h.trans k) (fun _ _ h => GX.of_grow (ups1 GotB.up) h) ?_ ?_
  · intro i Φ h vs lo hi v
    (repeat' split at h) <;> cases h
    · exact fun w1 w2 hx hg => BytV.upX hx hg (fun k hk => by omega)
    · exact fun w1 w2 hx hg => hg.y _ rfl hx
  simp only [List.take_succ_cons, List.take_zero, List.drop_succ_cons, List.drop_zero]
  repeat (first
    | (refine wpGrow_skip (by rfl) ?_; simp only [Act.put, List.setIfInBounds_toArray, List.set_cons_zero, List.set_cons_succ, Nat.reduceAdd])
    | (refine wpGrow_det' (by rfl) (by rfl) ?_; apply Exists.intro; refine ⟨fun w' hc hh => ?_, ?_⟩; (have hcell := GX.cell hc; clear hc hh; go_simp; rfl); simp only [Act.put, List.setIfInBounds_toArray, List.set_cons_zero, List.set_cons_succ, Nat.reduceAdd]))
  refine wpGrow_eff' (by rfl) (by rfl) (fun w' hc hh => ?_) (fun v lo hi w' hap hc hh hv => ?_)
  · have HX := Lib.hid (HFU.out.upX hc (fun k hk => by omega))
    clear hc hh
    go_simp
    go_at_call 73
    refine (bytes_calls _ _ _ _ HX.out (by have := HN.out; omega) (by have := HN.out; omega)).mono ?_
    rintro e w3 ⟨⟨h, c, rfl, hbh, hcell⟩, m, rfl⟩
    exact EffPost.mk (GX.of_grow (ups1 GotB.up) ((Grow.refl _).drewN _)) ⟨h, c, rfl, hbh, fun k hk => up_cell (hcell k hk) ((Grow.refl _).drewN _)⟩
  obtain ⟨h, c, rfl, hbh, -⟩ := hv
  clear hc hh hap w'
  simp only [Act.put, List.setIfInBounds_toArray, List.set_cons_zero, List.set_cons_succ, Nat.reduceAdd]
  repeat (first
    | (refine wpGrow_skip (by rfl) ?_; simp only [Act.put, List.setIfInBounds_toArray, List.set_cons_zero, List.set_cons_succ, Nat.reduceAdd])
    | (refine wpGrow_det' (by rfl) (by rfl) ?_; apply Exists.intro; refine ⟨fun w' hc hh => ?_, ?_⟩; (have hcell := GX.cell hc; clear hc hh; go_simp; rfl); simp only [Act.put, List.setIfInBounds_toArray, List.set_cons_zero, List.set_cons_succ, Nat.reduceAdd]))
  refine wpGrow_eff' (by rfl) (by rfl) (fun w' hc hh => ?_) (fun v lo hi w' hap hc hh hv => ?_)
  · have hv1 := hh 0 (anc_of 6 (by kernel_rfl))
    have hfz : w'.frozen? ⟨w.heap.size, 0, none⟩ = false := by rw [hc.froz _ _ (by omega)]; exact HF4.out
    obtain ⟨z, hz⟩ : ∃ z, w'.cell? ⟨w.heap.size, 0, none⟩ = some z := Option.isSome_iff_exists.1 (hc.there _ _ (by simp) (by omega) (by rw [HC4.out]; rfl))
    have HV1 := Lib.hid hv1; clear hc hh hv1
    go_simp
    have hy : (GotB ⟨w.heap.size, 0, none⟩ (w.heap.size + 1 + 1) (8 * n) (fB big n n)) (w'.setCell ⟨w.heap.size, 0, none⟩ (.slice (some ⟨h, 0, none⟩) (8 * n) c)) := ⟨_, World.cell?_setCell_same _ _ _ hz, BytV.upX HV1.out (GX.setCell (S := fun k => k = w.heap.size) (Y := fun _ => False) _ rfl (fun X hX => hX.elim)) (fun k hk => by omega)⟩
    exact EffVal.mk (GX.setCell _ (by simp) (by intro X hX _; rw [hX]; exact hy)) hy
  clear hv
  clear hc hh hap w'
  simp only [Act.put, List.setIfInBounds_toArray, List.set_cons_zero, List.set_cons_succ, Nat.reduceAdd]
  repeat (first
    | (refine wpGrow_skip (by rfl) ?_; simp only [Act.put, List.setIfInBounds_toArray, List.set_cons_zero, List.set_cons_succ, Nat.reduceAdd])
    | (refine wpGrow_det' (by rfl) (by rfl) ?_; apply Exists.intro; refine ⟨fun w' hc hh => ?_, ?_⟩; (have hcell := GX.cell hc; clear hc hh; go_simp; rfl); simp only [Act.put, List.setIfInBounds_toArray, List.set_cons_zero, List.set_cons_succ, Nat.reduceAdd]))
  refine wpGrow_nil ?_
  intro w4 hg hh
  have HF := Lib.hid (hh 3).1
  have hc5 : w4.cell? ⟨w.heap.size + 1, 0, none⟩ = some (.bool false) := (hg.cell _ _ (by omega) (by omega)).trans D1.out
  have hf5 : w4.frozen? ⟨w.heap.size + 1, 0, none⟩ = false := (hg.froz _ _ (by omega)).trans G1.out
  have HGT := Lib.hid (GX.grow hg HG2.out (fun k hk => by omega))
  obtain ⟨u4, hu4, hb4⟩ := HF.out
  have HB4 := Lib.hid hb4
  clear hh hg hb4
  go_wp2
  refine leaves_cons (f := 70) (args := #[.pointer (some ⟨w.heap.size, 0, none⟩), .pointer (some ⟨w.heap.size + 1, 0, none⟩)]) (by simp) (by simp [go_sem]) ?_
  refine (idleEP ⟨w.heap.size, 0, none⟩ ⟨w.heap.size + 1, 0, none⟩ _).mono ?_
  rintro e u' w'' ⟨rfl, rfl, rfl⟩
  refine ⟨.tuple #[u4, .bool true], by simp [results, Try.results27, go_sem, hu4, hc5], u4, rfl, ?_, HGT.out.setCell (by simp <;> omega) _⟩
  obtain ⟨h', c', e, hB, hc⟩ := HB4.out
  exact ⟨h', c', e, by omega, fun k hk => by rw [World.cell?_setCell_other _ _ _ _ (by intro hx; injection hx with h5 h6; omega)]; exact hc k hk⟩
end Go.Proofs.Ytlkoaanagbgpkaa
