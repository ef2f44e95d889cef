import Derived.Test.YtdcchejehomicaaTsC
namespace Go.Proofs.Ytdcchejehomicaa
open Go.ChangeShapes Go.WideShapes Go.ChangeAt Go.RowKit Go.GrowR
set_option linter.unusedVariables false
set_option linter.unusedSimpArgs false

structure SC (s n : Nat) (lay c : Int) (sz : Nat) (v : Value) (w : World) : Prop where
  c0 : w.cell? ⟨s, 0, none⟩ = some (.iface 43 (.int .i64 c))
  c1 : w.cell? ⟨s, 1, none⟩ = some v
  c2 : w.cell? ⟨s, 2, none⟩ = some (.int .i64 (sz : Nat))
  c3 : w.cell? ⟨s, 3, none⟩ = some (.int .i64 lay)
  c4 : w.cell? ⟨s, 4, none⟩ = some (.int .i64 (n : Nat))
  fz : ∀ o, w.frozen? ⟨s, o, none⟩ = false
theorem SC.move {s n : Nat} {lay c : Int} {sz : Nat} {v : Value} {w w' : World} (h : SC s n lay c sz v w) (hb : w'.heap[s]? = w.heap[s]?) : SC s n lay c sz v w' :=
  ⟨(World.cell?_of_block hb).trans h.c0, (World.cell?_of_block hb).trans h.c1, (World.cell?_of_block hb).trans h.c2, (World.cell?_of_block hb).trans h.c3, (World.cell?_of_block hb).trans h.c4, fun o => (World.frozen?_of_block hb).trans (h.fz o)⟩
theorem SC.put {s n : Nat} {lay c : Int} {sz : Nat} {v : Value} {w : World} (h : SC s n lay c sz v w) (u : Value) (z : Nat) : SC s n lay c z u ((w.setCell ⟨s, 1, none⟩ u).setCell ⟨s, 2, none⟩ (.int .i64 (z : Nat))) :=
  ⟨far_cell (far_cell h.c0 (by simp)) (by simp), far_cell (World.cell?_setCell_same _ _ _ h.c1) (by simp), World.cell?_setCell_same _ _ _ (far_cell h.c2 (by simp)), far_cell (far_cell h.c3 (by simp)) (by simp), far_cell (far_cell h.c4 (by simp)) (by simp), fun o => by rw [World.frozen?_setCell, World.frozen?_setCell]; exact h.fz o⟩
/-- a set of places in memory -/
structure SetS (lo hi n s : Nat) (lay c : Int) (t : BT) (F : List Nat) (w : World) : Prop where
  hh : hi ≤ w.heap.size
  ho : ¬ (lo ≤ s ∧ s < hi)
  sF : s ∉ F
  ex : ∃ v, SC s n lay c t.size v w ∧ NT lo hi n t v F w
theorem SetS.lt {lo hi n s : Nat} {lay c : Int} {t : BT} {F : List Nat} {w : World} (h : SetS lo hi n s lay c t F w) : s < w.heap.size := by
  obtain ⟨v, h1, -⟩ := h.ex; exact cell_ltH h1.c0
/-- what leaves the set's blocks and the places' blocks as they are -/
theorem SetS.fr {lo hi n s : Nat} {lay c : Int} {t : BT} {F F' : List Nat} {w w' : World} (h : SetS lo hi n s lay c t F w) (hf : FrF F' w w') (h1 : s ∉ F') (h2 : ∀ k ∈ F, k ∉ F') (h3 : ∀ k ∈ F', ¬ (lo ≤ k ∧ k < hi)) : SetS lo hi n s lay c t F w' := by
  obtain ⟨v, a, b⟩ := h.ex
  exact ⟨Nat.le_trans h.hh hf.size, h.ho, h.sF, v, a.move (hf.block s h.lt h1), b.fr hf h2 h3 h.hh⟩
theorem SetS.up {lo hi n s : Nat} {lay c : Int} {t : BT} {F : List Nat} : Up (SetS lo hi n s lay c t F) := fun _ _ h hg => h.fr (F' := []) (FrF.of_grow hg) (by simp) (fun k _ => by simp) (fun k hk => by cases hk)
def InQ (lo hi n s : Nat) (lay c : Int) (x : List Nat) (t : BT) (F : List Nat) (w : World) (e : Ending) (w' : World) : Prop := ∃ F', e = .returned (.bool (t.ins c x).2) ∧ FrF (s :: F) w w' ∧ SetS lo hi n s lay c (t.ins c x).1 F' w' ∧ ∀ k ∈ F', k ∈ F ∨ w.heap.size ≤ k
theorem InsQ_def {lo hi n : Nat} {c : Int} {x : List Nat} {t : BT} {v : Value} {F : List Nat} {w : World} {b : Bool} (h : (t.ins c x).2 = b) : InsQ lo hi n c x t v F w = fun e w' => ∃ v' F', e = .returned (.tuple #[v', .bool b]) ∧ FrF F w w' ∧ NT lo hi n (t.ins c x).1 v' F' w' ∧ (∀ k ∈ F', k ∈ F ∨ w.heap.size ≤ k) ∧ (b = false → v' = v) := by
  funext e w'; unfold InsQ; rw [h]
set_option maxRecDepth 100000 in
set_option maxHeartbeats 8000000 in
theorem insert_calls (lo hi n s : Nat) (lay c : Int) (x : List Nat) (X : Value) (t : BT) (F : List Nat) (w : World) (h : SetS lo hi n s lay c t F w) (hX : VS lo hi n X x w) (n2 : 2 ≤ n) (n9 : n ≤ 9) (hsz : t.size ≤ 10000) :
    Calls Try.prog 19 #[.pointer (some ⟨s, 0, none⟩), X] w (InQ lo hi n s lay c x t F w) := by
  obtain ⟨v, hc, hn⟩ := h.ex
  have HC := Lib.hid hc; have HN := Lib.hid hn; have HS := Lib.hid h
  have HI := Lib.hid (insImpl_calls lo hi n s c x X n2 n9 t v F w hn hX hc.c0 h.sF h.hh)
  obtain ⟨c0, c1, c2, c3, c4, fz⟩ := hc
  obtain ⟨a, rfl⟩ := hn.isP
  have hn0 : ((n : Int) == 0) = false := by rw [beq_eq_false_iff_ne]; omega
  have hn0' : (n : Int) ≠ 0 := by omega
  obtain ⟨A, cx, rfl, -, -⟩ := hX
  have f1 := fz 1; have f2 := fz 2
  have hw : IntKind.i64.wrap (((t.size : Nat) : Int) + 1) = ((t.size + 1 : Nat) : Int) := by rw [IntWalk.i64_in _ (by omega)]; omega
  obtain ⟨z, hz⟩ : ∃ z, z = t.size := ⟨_, rfl⟩
  have HZ := Lib.hid hz
  have hsl := h.lt
  rw [← hz] at c2 hw hsz
  clear hn h fz hz
  cases ha : (t.ins c x).2 with
  | true =>
    have HA := Lib.hid ha
    rw [InsQ_def ha] at HI
    clear ha
    go_enter Try.func19, Try.ntmps19
    go_wp2_with fail
    refine HI.out.mono ?_
    rintro e w2 ⟨v2, F2, rfl, hf2, hn2, hF2, -⟩
    have d1 := hf2.cell c1 HS.out.sF; have d2 := hf2.cell c2 HS.out.sF
    have e1 := hf2.froz f1 hsl HS.out.sF; have e2 := hf2.froz f2 hsl HS.out.sF
    obtain ⟨a2, rfl⟩ := hn2.isP
    have HF2 := Lib.hid hF2; have HN2 := Lib.hid hn2; have HFR := Lib.hid hf2
    clear hF2 hn2 hf2 c0 c1 c2 c3 c4 f1 f2
    go_wp2
    go_ret
    have hsF2 : s ∉ F2 := fun hm => (HF2.out s hm).elim HS.out.sF (fun h => by omega)
    have hc2 := HC.out.move (HFR.out.block s hsl HS.out.sF)
    have hsF' : ∀ k ∈ F2, k ≠ s := fun k hk e => hsF2 (e ▸ hk)
    have hput := hc2.put (.pointer a2) (z + 1)
    have hs1 : ∀ k, k ≠ s → ((w2.setCell ⟨s, 1, none⟩ (.pointer a2)).setCell ⟨s, 2, none⟩ (.int .i64 ((z + 1 : Nat) : Int))).heap[k]? = w2.heap[k]? := fun k hk => (set_far hk).trans (set_far hk)
    have hsize : (t.ins c x).1.size = z + 1 := by rw [BT.ins_size, HA.out, ← HZ.out]; rfl
    refine ⟨F2, by rw [HA.out]; rfl, ((HFR.out.mono fun k hk => .inl (by simp [hk])).set (.inl (by simp)) _).set (.inl (by simp)) _, ⟨by have := HS.out.hh; have := HFR.out.size; simp [World.setCell]; omega, HS.out.ho, hsF2, .pointer a2, by rw [hsize]; exact hput, HN2.out.move (fun k hk => hs1 k (hsF' k hk)) fun k h1 h2 => hs1 k fun e => HS.out.ho (e ▸ ⟨h1, h2⟩)⟩, HF2.out⟩
  | false =>
    have HA := Lib.hid ha
    rw [InsQ_def ha] at HI
    clear ha
    go_enter Try.func19, Try.ntmps19
    go_wp2_with fail
    refine HI.out.mono ?_
    rintro e w2 ⟨v2, F2, rfl, hf2, hn2, hF2, hv2⟩
    have HV := Lib.hid (hv2 trivial)
    have HF2 := Lib.hid hF2; have HN2 := Lib.hid hn2; have HFR := Lib.hid hf2
    clear hF2 hn2 hf2 c0 c1 c2 c3 c4 f1 f2 hv2
    go_wp2
    go_ret
    have hsF2 : s ∉ F2 := fun hm => (HF2.out s hm).elim HS.out.sF (fun h => by omega)
    have hc2 := HC.out.move (HFR.out.block s hsl HS.out.sF)
    have hsF' : ∀ k ∈ F2, k ≠ s := fun k hk e => hsF2 (e ▸ hk)
    have ht : (t.ins c x).1 = t := BT.ins_no c x t HA.out
    have hn2 := HN2.out
    rw [HV.out] at hn2
    rw [ht] at hn2
    refine ⟨F2, by rw [HA.out]; rfl, HFR.out.mono fun k hk => .inl (by simp [hk]), ⟨Nat.le_trans HS.out.hh HFR.out.size, HS.out.ho, hsF2, .pointer a, by rw [ht]; exact hc2, by rw [ht]; exact hn2⟩, HF2.out⟩
theorem newSet_calls (n : Nat) (lay c : Int) (w : World) (h1 : 1 ≤ lay) (h9 : lay ≤ 9) (hs : strideN lay = n) :
    Calls Try.prog 16 #[.int .i64 lay, .iface 43 (.int .i64 c)] w fun e w' => e = .returned (.pointer (some ⟨w.heap.size, 0, none⟩)) ∧ Grow w w' ∧ SC w.heap.size n lay c 0 (.pointer none) w' := by
  have HL := Lib.hid (fun w => layStride lay n w h1 h9 hs)
  clear hs
  go_enter Try.func16, Try.ntmps16
  go_wp2_with (go_at_call 18; refine (HL.out _).mono ?_; rintro e w' ⟨rfl, rfl⟩)
  go_ret
  exact ⟨rfl, (Grow.refl _).alloc _, ⟨by go_simp, by go_simp, by go_simp, by go_simp, by go_simp, fun o => by go_simp⟩⟩
end Go.Proofs.Ytdcchejehomicaa
