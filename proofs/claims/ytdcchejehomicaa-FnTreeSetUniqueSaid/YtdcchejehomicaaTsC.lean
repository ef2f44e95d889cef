import Derived.Test.YtdcchejehomicaaTsB
namespace Go.Proofs.Ytdcchejehomicaa
open Go.ChangeShapes Go.WideShapes Go.ChangeAt Go.RowKit Go.GrowR
set_option linter.unusedVariables false
set_option linter.unusedSimpArgs false

def InsQ (lo hi n : Nat) (c : Int) (x : List Nat) (t : BT) (v : Value) (F : List Nat) (w : World) (e : Ending) (w' : World) : Prop := ∃ v' F', e = .returned (.tuple #[v', .bool (t.ins c x).2]) ∧ FrF F w w' ∧ NT lo hi n (t.ins c x).1 v' F' w' ∧ (∀ k ∈ F', k ∈ F ∨ w.heap.size ≤ k) ∧ ((t.ins c x).2 = false → v' = v)
set_option maxRecDepth 100000 in
set_option maxHeartbeats 4000000 in
theorem ins_leaf (lo hi n s : Nat) (c : Int) (x : List Nat) (X : Value) (w : World) (hX : VS lo hi n X x w) (hh : hi ≤ w.heap.size) : Calls Try.prog 23 #[.pointer (some ⟨s, 0, none⟩), .pointer none, X] w (InsQ lo hi n c x .leaf (.pointer none) [] w) := by
  have HX := Lib.hid hX; have HH := Lib.hid hh
  obtain ⟨A, cx, rfl, -, -⟩ := hX
  clear hh
  go_enter Try.func23, Try.ntmps23
  go_wp2
  go_ret2
  have hg := (Grow.refl w).alloc (.cells #[.pointer none, .slice A n cx, .pointer none] 67)
  refine ⟨_, [w.heap.size], rfl, FrF.of_grow hg, ⟨w.heap.size, .slice A n cx, .pointer none, .pointer none, [], [], rfl, rfl, by simp, ⟨by go_simp, by go_simp, by go_simp, fun o => by go_simp⟩, HX.out.move (fun k _ h2 => hg.block k (by have := HH.out; omega)), by have := HH.out; omega, ⟨rfl, rfl⟩, ⟨rfl, rfl⟩⟩, fun k hk => .inr (by simp at hk; omega), fun h => by cases h⟩
set_option maxRecDepth 100000 in
set_option maxHeartbeats 8000000 in
theorem ins_node (lo hi n s : Nat) (c : Int) (x : List Nat) (X : Value) (l t : BT) (r : List Nat) (v : Value) (F : List Nat) (w : World) (hn : NT lo hi n (.node l r t) v F w) (hX : VS lo hi n X x w) (hs : w.cell? ⟨s, 0, none⟩ = some (.iface 43 (.int .i64 c))) (hsF : s ∉ F) (hh : hi ≤ w.heap.size) (n2 : 2 ≤ n) (n9 : n ≤ 9)
    (ihl : ∀ v F w', NT lo hi n l v F w' → VS lo hi n X x w' → w'.cell? ⟨s, 0, none⟩ = some (.iface 43 (.int .i64 c)) → s ∉ F → hi ≤ w'.heap.size → Calls Try.prog 23 #[.pointer (some ⟨s, 0, none⟩), v, X] w' (InsQ lo hi n c x l v F w'))
    (iht : ∀ v F w', NT lo hi n t v F w' → VS lo hi n X x w' → w'.cell? ⟨s, 0, none⟩ = some (.iface 43 (.int .i64 c)) → s ∉ F → hi ≤ w'.heap.size → Calls Try.prog 23 #[.pointer (some ⟨s, 0, none⟩), v, X] w' (InsQ lo hi n c x t v F w')) :
    Calls Try.prog 23 #[.pointer (some ⟨s, 0, none⟩), v, X] w (InsQ lo hi n c x (.node l r t) v F w) := by
  have HX := Lib.hid hX; have HN := Lib.hid hn; have HIL := Lib.hid ihl; have HIT := Lib.hid iht; have HSF := Lib.hid hsF; have HH := Lib.hid hh
  obtain ⟨A, cx, rfl, hxl, hxs⟩ := hX
  obtain ⟨b, V, lv, rv, Fl, Fr, rfl, rfl, hnd, hnc, hV, hbo, hnl, hnr⟩ := hn
  have HND := Lib.hid hnd; have HNC := Lib.hid hnc; have HV := Lib.hid hV; have HBO := Lib.hid hbo; have HNL := Lib.hid hnl; have HNR := Lib.hid hnr
  obtain ⟨B, cv, rfl, hrl, hrs⟩ := hV
  obtain ⟨al, rfl⟩ := hnl.isP
  obtain ⟨ar, rfl⟩ := hnr.isP
  have HEQ : Hid (∀ w', Grow w w' → Calls Try.prog 44 #[.int .i64 c, .slice A n cx, .slice B n cv] w' fun e w2 => e = .returned (.bool (eqC c x r)) ∧ ∃ m, w2 = w'.drewN m) := (fun w' (hg : Grow w w') => isEq_calls c A B n cx cv x r w' (FSl.up _ _ hxs.now hg) (FSl.up _ _ hrs.now hg) hxl n2 n9)
  have HLS : Hid (∀ w', Grow w w' → Calls Try.prog 45 #[.int .i64 c, .slice A n cx, .slice B n cv] w' fun e w2 => e = .returned (.bool (lsC c x r)) ∧ ∃ m, w2 = w'.drewN m) := (fun w' (hg : Grow w w') => isLess_calls c A B n cx cv x r w' (FSl.up _ _ hxs.now hg) (FSl.up _ _ hrs.now hg) hxl hrl n2 n9)
  have n0 := hnc.c0; have n1 := hnc.c1; have n2' := hnc.c2
  have g0 := hnc.fz 0; have g2 := hnc.fz 2
  have hbl := cell_ltH n0; have hsl := cell_ltH hs
  clear hsF ihl iht hxs hrs hnd hnc hnl hnr hbo hh hxl hrl
  cases he : eqC c x r with
  | true =>
    have HI : Hid (BT.ins c x (.node l r t) = (.node l r t, false)) := by show _ = _; rw [BT.ins, if_pos he]
    rw [he] at HEQ
    clear he
    go_enter Try.func23, Try.ntmps23
    go_wp2
    go_quiet ((go_at_call 44; exact Calls.quiet_of (HEQ.out _ ((Grow.refl w).drewN _))))
    go_wp2
    go_ret2
    have hg := (Grow.refl w).drewN nq
    exact ⟨_, _, by rw [HI.out]; rfl, FrF.of_grow hg, by rw [HI.out]; exact HN.out.grow hg HH.out, fun k hk => .inl hk, fun _ => rfl⟩
  | false =>
    rw [he] at HEQ
    have HG := Lib.hid (Grow.refl w)
    cases hl : lsC c x r
    all_goals
      rw [hl] at HLS
      have HHE := Lib.hid he; have HHL := Lib.hid hl
      clear he hl
      go_enter Try.func23, Try.ntmps23
      go_wp2
      go_quiet ((go_at_call 44; exact Calls.quiet_of (HEQ.out _ ((Grow.refl w).drewN _))))
      have HGA : Hid (Grow w (w.drewN nq)) := HG.out.trans ((Grow.refl w).drewN nq)
      replace n0 := up_cell n0 ((Grow.refl w).drewN nq)
      replace n1 := up_cell n1 ((Grow.refl w).drewN nq)
      replace n2' := up_cell n2' ((Grow.refl w).drewN nq)
      replace hs := up_cell hs ((Grow.refl w).drewN nq)
      have g0' : (w.drewN nq).frozen? ⟨b, 0, none⟩ = false := g0
      have g2' : (w.drewN nq).frozen? ⟨b, 2, none⟩ = false := g2
      clear g0 g2 HG
      have g0 := g0'; have g2 := g2'
      clear g0' g2'
      have HG := HGA; clear HGA
      generalize w.drewN nq = W1 at *
      go_wp2
      go_quiet ((go_at_call 45; exact Calls.quiet_of (HLS.out _ (HG.out.trans ((Grow.refl W1).drewN _)))))
      have HGA : Hid (Grow w (W1.drewN nq)) := HG.out.trans ((Grow.refl W1).drewN nq)
      replace n0 := up_cell n0 ((Grow.refl W1).drewN nq)
      replace n1 := up_cell n1 ((Grow.refl W1).drewN nq)
      replace n2' := up_cell n2' ((Grow.refl W1).drewN nq)
      replace hs := up_cell hs ((Grow.refl W1).drewN nq)
      have g0' : (W1.drewN nq).frozen? ⟨b, 0, none⟩ = false := g0
      have g2' : (W1.drewN nq).frozen? ⟨b, 2, none⟩ = false := g2
      clear g0 g2 HG
      have g0 := g0'; have g2 := g2'
      clear g0' g2'
      have HG := HGA; clear HGA
      generalize W1.drewN nq = W2 at *
      have HN2 := Lib.hid (HNL.out.grow HG.out HH.out); have HR2 := Lib.hid (HNR.out.grow HG.out HH.out)
      have hmv : ∀ k, lo ≤ k → k < hi → W2.heap[k]? = w.heap[k]? := fun k _ h2 => HG.out.block k (by have := HH.out; omega)
      have HX2 := Lib.hid (HX.out.move hmv); have HV2 := Lib.hid (HV.out.move hmv)
      have HNC2 := Lib.hid (HNC.out.move (HG.out.block b hbl))
      have HH2 : Hid (hi ≤ W2.heap.size) := Nat.le_trans HH.out HG.out.size
      have HS2 := Lib.hid hs
      have HSZ := Lib.hid HG.out.size
      clear hmv
    rotate_left
    · have HI : Hid (BT.ins c x (.node l r t) = (.node (l.ins c x).1 r t, (l.ins c x).2)) := by show _ = _; rw [BT.ins, if_neg (by rw [HHE.out]; decide), if_pos HHL.out]
      have HC := Lib.hid (HIL.out _ Fl W2 HN2.out HX2.out hs (fun hm => HSF.out (by simp [hm])) HH2.out)
      go_wp2_with fail
      refine HC.out.mono ?_
      rintro e w3 ⟨v3, F3, rfl, hf3, hn3, hF3, hv3⟩
      obtain ⟨hA, hB, hC⟩ := NT.left HH2.out HND.out HNC2.out HV2.out HBO.out HN2.out HR2.out hf3 hn3 hF3
      have q0 := hf3.cell n0 (nd_parts HND.out).1
      have q2 := hf3.froz g0 (cell_ltH n0) (nd_parts HND.out).1
      obtain ⟨a3, rfl⟩ := hn3.isP
      have HA := Lib.hid hA; have HB := Lib.hid hB; have HCC := Lib.hid hC
      clear hf3 hn3 hF3 hv3 hA hB hC n0 n1 n2' g0 g2 hs
      go_wp2
      go_ret2
      refine ⟨_, _, by rw [HI.out]; rfl, (FrF.of_grow HG.out).trans HB.out fun k hk => .inl hk, by rw [HI.out]; exact HA.out, fun k hk => (HCC.out k hk).imp id fun h => Nat.le_trans HSZ.out h, fun _ => rfl⟩
    · have HI : Hid (BT.ins c x (.node l r t) = (.node l r (t.ins c x).1, (t.ins c x).2)) := by show _ = _; rw [BT.ins, if_neg (by rw [HHE.out]; decide), if_neg (by rw [HHL.out]; decide)]
      have HC := Lib.hid (HIT.out _ Fr W2 HR2.out HX2.out hs (fun hm => HSF.out (by simp [hm])) HH2.out)
      go_wp2_with fail
      refine HC.out.mono ?_
      rintro e w3 ⟨v3, F3, rfl, hf3, hn3, hF3, hv3⟩
      obtain ⟨hA, hB, hC⟩ := NT.right HH2.out HND.out HNC2.out HV2.out HBO.out HN2.out HR2.out hf3 hn3 hF3
      have q0 := hf3.cell n2' (nd_parts HND.out).2.1
      have q2 := hf3.froz g2 (cell_ltH n2') (nd_parts HND.out).2.1
      obtain ⟨a3, rfl⟩ := hn3.isP
      have HA := Lib.hid hA; have HB := Lib.hid hB; have HCC := Lib.hid hC
      clear hf3 hn3 hF3 hv3 hA hB hC n0 n1 n2' g0 g2 hs
      go_wp2
      go_ret2
      refine ⟨_, _, by rw [HI.out]; rfl, (FrF.of_grow HG.out).trans HB.out fun k hk => .inl hk, by rw [HI.out]; exact HA.out, fun k hk => (HCC.out k hk).imp id fun h => Nat.le_trans HSZ.out h, fun _ => rfl⟩
/-- insertImpl, of any tree -/
theorem insImpl_calls (lo hi n s : Nat) (c : Int) (x : List Nat) (X : Value) (n2 : 2 ≤ n) (n9 : n ≤ 9) : ∀ (t : BT) (v : Value) (F : List Nat) (w : World), NT lo hi n t v F w → VS lo hi n X x w → w.cell? ⟨s, 0, none⟩ = some (.iface 43 (.int .i64 c)) → s ∉ F → hi ≤ w.heap.size → Calls Try.prog 23 #[.pointer (some ⟨s, 0, none⟩), v, X] w (InsQ lo hi n c x t v F w)
  | .leaf, v, F, w, hn, hX, _, _, hh => by rw [hn.1, hn.2]; exact ins_leaf lo hi n s c x X w hX hh
  | .node l r t, v, F, w, hn, hX, hs, hsF, hh => ins_node lo hi n s c x X l t r v F w hn hX hs hsF hh n2 n9 (insImpl_calls lo hi n s c x X n2 n9 l) (insImpl_calls lo hi n s c x X n2 n9 t)
end Go.Proofs.Ytdcchejehomicaa
