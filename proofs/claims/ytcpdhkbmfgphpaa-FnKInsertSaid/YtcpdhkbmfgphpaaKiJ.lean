import Derived.Test.YtcpdhkbmfgphpaaKiI
import Derived.Deep.Cut
namespace Go.Proofs.Ytcpdhkbmfgphpaa
open Go.ChangeShapes Go.WideShapes Go.ChangeAt Go.RowKit Go.GrowR
set_option linter.unusedVariables false
set_option linter.unusedSimpArgs false
theorem idleKI (p0 p1 p2 : Addr) (w : World) :
    CallsD Try.prog 37 #[.pointer (some p0), .pointer (some p1), .pointer (some p2)] .returning w fun e u' w' => e = .returned (.tuple #[]) ∧ u' = .returning ∧ w' = w := by
  refine callsD_of_wpS Try.func37 rfl fun c₀ cs hu => ?_
  apply wpS_seq
  apply wpS_region
  simp [wpOpsS, go_sem, recoverD, hu, Try.ntmps37, Exit.thenS]
  refine wpS_cond (t := false) (by simp [Act.eval, Array.replicate]) ?_
  simp only [Bool.false_eq_true, if_false]
  refine wpS_of_wp ?_
  go_wp2
  cases c₀
  simp_all [bodyPostS, results, Try.results37, Exit.thenS]

theorem TY.new (w : World) (e : TypeId) (c : Array Value) : TY w.heap.size e (w.alloc (.cells c e)) := ⟨c, _, Array.getElem?_push_size⟩
theorem TY.up {k : Nat} {e : TypeId} : Up (TY k e) := fun _ _ h hg => h.eq (hg.block k h.lt)
def KIQ (d : Nat) (p : List Nat) (t : PT) (w : World) (e : Ending) (w' : World) : Prop := ∃ V t', e = .returned (.tuple #[V, .int .i64 (rootIx t' 0), .bool true]) ∧ Grow w w' ∧ KSl V (t'.kns 0) w' ∧ Like t' (t.ins d p 0) ∧ t'.WB d
def KnR (t : PT) (w : World) (e : Ending) (w' : World) : Prop := ∃ V, e = .returned (.tuple #[V, .int .i64 (rootIx t 0)]) ∧ Grow w w' ∧ RowI w.heap.size V (t.kns 0) w'
set_option maxRecDepth 100000 in
set_option maxHeartbeats 8000000 in
theorem kinsert_calls (v u : Value) (ns : List KN) (i : Int) (j : Nat) (l r : Kt.KT) (xs : List Nat) (d : Nat) (bd : Bool) (w : World) (hv : KSl v ns w) (hu : FSl u xs w) (hf : fitsB ns = true) (ht : Kt.Tr ns.length (kL ns) (kR ns) (-1) i (.node j l r)) (hk : (toPT ns (.node j l r)).KD d) (hwb : (toPT ns (.node j l r)).WB d) (hp : Num xs d (iv xs)) (h1 : 1 ≤ d) (h6 : d ≤ 6) (hn : ns.length ≤ 1000000) (hsz : (toPT ns (.node j l r)).size ≤ 1000000) :
    Calls Try.prog 17 #[v, .int .i64 i, u, .bool bd] w (KIQ d xs (toPT ns (.node j l r)) w) := by
  have hmf : ∀ (fn : Fn) (first cap : Array Value) (w : World), (Instr.makeFunc fn first cap).run Try.prog w = .ok (.func fn first cap) w := fun _ _ _ _ => rfl
  have HT := Lib.hid (fun w' (hg : Grow w w') => ktree_calls v ns i _ w' (KSl.up _ _ hv hg) hf ht)
  have HFLO := Lib.hid (fun w' (hg : Grow w w') => floats_calls44 u xs w' (FSl.up _ _ hu hg) (by have := hp.1; omega))
  have HTI : Hid (∀ b rv F P0 w', TreeC b rv ns.length w' → NP (toPT ns (.node j l r)) rv F w' → FOwn 34 0 P0 xs w' → (∀ k ∈ blk P0, k ∉ F) → b ∉ F → b ∉ blk P0 → Calls Try.prog 38 #[.pointer (some ⟨b, 0, none⟩), .iface 61 P0, .bool bd] w' (TInsQ d xs (toPT ns (.node j l r)) P0 b F w')) :=
    fun b rv F P0 w' a1 a2 a3 a4 a5 a6 => treeInsert_calls d b ns.length rv P0 xs _ _ _ _ _ F bd w' a1 a2 hk hwb a3 hp h1 h6 a4 a5 a6 hn
  have HKD : Hid (∀ t', Like t' ((toPT ns (.node j l r)).ins d xs 0) → t'.KD d ∧ t'.size ≤ 1000001) := fun t' h => ⟨h.kd (ins_kd hp (k := 0) (by omega) hk), by rw [like_size h, ins_size hk]; omega⟩
  obtain ⟨P, c, rfl, -, -⟩ := hu
  obtain ⟨P', c', rfl, -, -⟩ := hv
  clear hp hk ht hwb
  generalize toPT ns (.node j l r) = t at *
  go_enter_defers Try.func17, Try.ntmps17
  go_wp2_with fail
  refine (HT.out _ ((((Grow.refl w).alloc _).alloc _).alloc _)).mono ?_
  rintro e w1 ⟨b, rv, F, rfl, hg, htc, hnp, hFw, hbw⟩
  have HFW : Hid (∀ k ∈ F, w.heap.size + 3 ≤ k ∧ k < b) := fun k hk => by have := hFw k hk; simpa using this
  have hbw' : w.heap.size + 3 ≤ b := by simpa using hbw
  have T0 : TY w.heap.size 22 w1 := TY.up _ _ (TY.new w _ _) ((((Grow.refl _).alloc _).alloc _).trans hg)
  have T1 : TY (w.heap.size + 1) 3 w1 := by
    have h := TY.new (w.alloc (.cells #[.slice none 0 0] 22)) 3 #[.int .i64 0]
    rw [show (w.alloc (.cells #[.slice none 0 0] 22)).heap.size = w.heap.size + 1 by simp] at h
    exact TY.up _ _ h (((Grow.refl _).alloc _).trans hg)
  have T2 : TY (w.heap.size + 2) 4 w1 := by
    have h := TY.new ((w.alloc (.cells #[.slice none 0 0] 22)).alloc (.cells #[.int .i64 0] 3)) 4 #[.bool false]
    rw [show ((w.alloc (.cells #[.slice none 0 0] 22)).alloc (.cells #[.int .i64 0] 3)).heap.size = w.heap.size + 2 by simp] at h
    exact TY.up _ _ h hg
  have c0 := up_cell (a := ⟨w.heap.size, 0, none⟩) (v := .slice none 0 0) (by go_simp) hg
  have c1 := up_cell (a := ⟨w.heap.size + 1, 0, none⟩) (v := .int .i64 0) (by go_simp) hg
  have c2 := up_cell (a := ⟨w.heap.size + 2, 0, none⟩) (v := .bool false) (by go_simp) hg
  have f0 : w1.frozen? ⟨w.heap.size, 0, none⟩ = false := by rw [grow_frozen hg _ _ (by simp <;> omega)]; go_simp
  have f1 : w1.frozen? ⟨w.heap.size + 1, 0, none⟩ = false := by rw [grow_frozen hg _ _ (by simp <;> omega)]; go_simp
  have f2 : w1.frozen? ⟨w.heap.size + 2, 0, none⟩ = false := by rw [grow_frozen hg _ _ (by simp <;> omega)]; go_simp
  have HTC := Lib.hid htc; have HNP := Lib.hid hnp
  have HG1 := Lib.hid (((((Grow.refl w).alloc _).alloc _).alloc _).trans hg)
  clear hg htc hnp hFw hbw
  go_wp2_with fail
  refine (HFLO.out _ HG1.out).mono ?_
  rintro e w2 ⟨P0, rfl, hg2, hown⟩
  replace c0 := up_cell c0 hg2; replace c1 := up_cell c1 hg2; replace c2 := up_cell c2 hg2
  replace T0 := TY.up _ _ T0 hg2; replace T1 := TY.up _ _ T1 hg2; replace T2 := TY.up _ _ T2 hg2
  have k0 : w2.frozen? ⟨w.heap.size, 0, none⟩ = false := by rw [grow_frozen hg2 _ _ (by have := HG1.out.size; have := HTC.out.1; have := cell_lt' this; omega)]; exact f0
  have k1 : w2.frozen? ⟨w.heap.size + 1, 0, none⟩ = false := by rw [grow_frozen hg2 _ _ (by have := HTC.out.1; have := cell_lt' this; omega)]; exact f1
  have k2 : w2.frozen? ⟨w.heap.size + 2, 0, none⟩ = false := by rw [grow_frozen hg2 _ _ (by have := HTC.out.1; have := cell_lt' this; omega)]; exact f2
  have hbl := own_blk hown
  have hltb : b < w1.heap.size := cell_lt' HTC.out.1
  have HCI := Lib.hid (HTI.out b rv F P0 w2 ⟨up_cell HTC.out.1 hg2, up_cell HTC.out.2.1 hg2, fun o => (grow_frozen hg2 b o hltb).trans (HTC.out.2.2 o)⟩ (NP.up _ _ HNP.out hg2) (hown.mono (Nat.zero_le _)) (fun k hk hm => by have := (hbl k hk).1; have := HNP.out.lt k hm; omega) (fun hm => by have := (HFW.out b hm).2; omega) (fun hm => by have := (hbl b hm).1; omega))
  have HBL0 := Lib.hid (fun k hk => (hbl k hk).1)
  have HLB := Lib.hid hltb
  have HG2 := Lib.hid (HG1.out.trans hg2)
  have HZ2 := Lib.hid hg2.size
  obtain ⟨A2, n2, m2, rfl⟩ := VOwn.isSl (B := 0) (hown.mono (Nat.zero_le _))
  clear hg2 hown hbl hltb f0 f1 f2
  go_wp2_with fail
  refine HCI.out.mono ?_
  rintro e w3 ⟨v3, F3, t3, rfl, hf3, n3, hn3, hlk, hwb3, hF3⟩
  have hnot : ∀ k, k < w.heap.size + 3 → k ∉ b :: F := fun k hk hm => by
    rcases List.mem_cons.1 hm with rfl | hm
    · omega
    · have := (HFW.out k hm).1; omega
  have hw2 : w.heap.size + 3 ≤ w2.heap.size := by have := HZ2.out; have := HLB.out; omega
  have b0 := hf3.block w.heap.size (by omega) (hnot _ (by omega))
  have b1 := hf3.block (w.heap.size + 1) (by omega) (hnot _ (by omega))
  have b2 := hf3.block (w.heap.size + 2) (by omega) (hnot _ (by omega))
  replace T0 := T0.eq b0; replace T1 := T1.eq b1; replace T2 := T2.eq b2
  replace c0 := (World.cell?_of_block b0).trans c0; replace c1 := (World.cell?_of_block b1).trans c1; replace c2 := (World.cell?_of_block b2).trans c2
  replace k0 := (World.frozen?_of_block (a := ⟨w.heap.size, 0, none⟩) b0).trans k0; replace k1 := (World.frozen?_of_block (a := ⟨w.heap.size + 1, 0, none⟩) b1).trans k1; replace k2 := (World.frozen?_of_block (a := ⟨w.heap.size + 2, 0, none⟩) b2).trans k2
  have HG3 : Hid (Grow w w3) := hf3.grow HG2.out (fun k hk => by
    rcases List.mem_cons.1 hk with rfl | hm
    · omega
    · have := (HFW.out k hm).1; omega)
  obtain ⟨hkd3, hsz3⟩ := HKD.out t3 hlk
  have HLK := Lib.hid hlk; have HWB := Lib.hid hwb3
  have HKN : Hid (Calls Try.prog 39 #[v3, .slice none 0 0] w3 (KnR t3 w3)) := (knodes_calls w3.heap.size d h6 t3 v3 (.slice none 0 0) F3 [] w3 hkd3 hwb3 hn3 hn3.lt (Nat.le_refl _) RowI.nil (by simpa using hsz3)).mono fun e w' ⟨V, a, b, c⟩ => ⟨V, a, b.grow, c⟩
  obtain ⟨a3, rfl⟩ := hn3.isP
  have HZ3 : Hid (w.heap.size + 3 ≤ w3.heap.size) := Nat.le_trans hw2 hf3.size
  clear hf3 hn3 hlk hwb3 hF3 hnot b0 b1 b2 hkd3 hsz3
  go_wp2_with fail
  refine HKN.out.mono ?_
  rintro e w4 ⟨V4, rfl, hg4, hr4⟩
  replace T0 := TY.up _ _ T0 hg4; replace T1 := TY.up _ _ T1 hg4; replace T2 := TY.up _ _ T2 hg4
  have d0 := up_cell c0 hg4; have d1 := up_cell c1 hg4; have d2 := up_cell c2 hg4
  replace k0 := (grow_frozen hg4 _ _ (cell_lt' c0)).trans k0; replace k1 := (grow_frozen hg4 _ _ (cell_lt' c1)).trans k1; replace k2 := (grow_frozen hg4 _ _ (cell_lt' c2)).trans k2
  have HG4 := Lib.hid (HG3.out.trans hg4)
  obtain ⟨A4, m4, hV4, -⟩ := hr4.sl
  subst hV4
  have HR4 := Lib.hid hr4
  clear hg4 hr4 c0 c1 c2
  have e0 : ((w4.setCell ⟨w.heap.size, 0, none⟩ (.slice A4 (t3.kns 0).length m4)).setCell ⟨w.heap.size + 1, 0, none⟩ (.int .i64 (rootIx t3 0))).cell? ⟨w.heap.size, 0, none⟩ = some (.slice A4 (t3.kns 0).length m4) := WS.far (World.cell?_setCell_same _ _ _ d0) (by simp)
  have e1 : ((w4.setCell ⟨w.heap.size, 0, none⟩ (.slice A4 (t3.kns 0).length m4)).setCell ⟨w.heap.size + 1, 0, none⟩ (.int .i64 (rootIx t3 0))).cell? ⟨w.heap.size + 1, 0, none⟩ = some (.int .i64 (rootIx t3 0)) := World.cell?_setCell_same _ _ _ (WS.far d1 (by simp))
  have e2 : ((w4.setCell ⟨w.heap.size, 0, none⟩ (.slice A4 (t3.kns 0).length m4)).setCell ⟨w.heap.size + 1, 0, none⟩ (.int .i64 (rootIx t3 0))).cell? ⟨w.heap.size + 2, 0, none⟩ = some (.bool false) := WS.far (WS.far d2 (by simp)) (by simp)
  have q0 : ((w4.setCell ⟨w.heap.size, 0, none⟩ (.slice A4 (t3.kns 0).length m4)).setCell ⟨w.heap.size + 1, 0, none⟩ (.int .i64 (rootIx t3 0))).frozen? ⟨w.heap.size, 0, none⟩ = false := by rw [World.frozen?_setCell, World.frozen?_setCell]; exact k0
  have q1 : ((w4.setCell ⟨w.heap.size, 0, none⟩ (.slice A4 (t3.kns 0).length m4)).setCell ⟨w.heap.size + 1, 0, none⟩ (.int .i64 (rootIx t3 0))).frozen? ⟨w.heap.size + 1, 0, none⟩ = false := by rw [World.frozen?_setCell, World.frozen?_setCell]; exact k1
  have q2 : ((w4.setCell ⟨w.heap.size, 0, none⟩ (.slice A4 (t3.kns 0).length m4)).setCell ⟨w.heap.size + 1, 0, none⟩ (.int .i64 (rootIx t3 0))).frozen? ⟨w.heap.size + 2, 0, none⟩ = false := by rw [World.frozen?_setCell, World.frozen?_setCell]; exact k2
  have HR5 : Hid (RowI w3.heap.size (.slice A4 (t3.kns 0).length m4) (t3.kns 0) ((w4.setCell ⟨w.heap.size, 0, none⟩ (.slice A4 (t3.kns 0).length m4)).setCell ⟨w.heap.size + 1, 0, none⟩ (.int .i64 (rootIx t3 0)))) := RowI.upT (RowI.upT HR4.out (by have := HZ3.out; omega) (by decide) T0 0 _) (by have := HZ3.out; omega) (by decide) (T1.set _ _) 0 _
  have HT5 : Hid (TY w.heap.size 22 ((w4.setCell ⟨w.heap.size, 0, none⟩ (.slice A4 (t3.kns 0).length m4)).setCell ⟨w.heap.size + 1, 0, none⟩ (.int .i64 (rootIx t3 0))) ∧ TY (w.heap.size + 1) 3 ((w4.setCell ⟨w.heap.size, 0, none⟩ (.slice A4 (t3.kns 0).length m4)).setCell ⟨w.heap.size + 1, 0, none⟩ (.int .i64 (rootIx t3 0))) ∧ TY (w.heap.size + 2) 4 ((w4.setCell ⟨w.heap.size, 0, none⟩ (.slice A4 (t3.kns 0).length m4)).setCell ⟨w.heap.size + 1, 0, none⟩ (.int .i64 (rootIx t3 0)))) := ⟨(T0.set _ _).set _ _, (T1.set _ _).set _ _, (T2.set _ _).set _ _⟩
  have HG5 : Hid (Grow w ((w4.setCell ⟨w.heap.size, 0, none⟩ (.slice A4 (t3.kns 0).length m4)).setCell ⟨w.heap.size + 1, 0, none⟩ (.int .i64 (rootIx t3 0)))) := (HG4.out.setCell (by simp) _).setCell (by simp <;> omega) _
  clear HR4 T0 T1 T2
  go_upto_region 5 with (fail)
  clear d0 d1 d2 k0 k1 k2
  generalize ((w4.setCell ⟨w.heap.size, 0, none⟩ (.slice A4 (t3.kns 0).length m4)).setCell ⟨w.heap.size + 1, 0, none⟩ (.int .i64 (rootIx t3 0))) = W at *
  go_region
  go_wp2
  refine leaves_cons (f := 37) (args := #[.pointer (some ⟨w.heap.size, 0, none⟩), .pointer (some ⟨w.heap.size + 1, 0, none⟩), .pointer (some ⟨w.heap.size + 2, 0, none⟩)]) (by simp) (by simp [go_sem]) ?_
  refine (idleKI ⟨w.heap.size, 0, none⟩ ⟨w.heap.size + 1, 0, none⟩ ⟨w.heap.size + 2, 0, none⟩ _).mono ?_
  rintro e u' w'' ⟨rfl, rfl, rfl⟩
  obtain ⟨T0, T1, T2⟩ := HT5.out
  have hz := HZ3.out
  refine ⟨.tuple #[.slice A4 (t3.kns 0).length m4, .int .i64 (rootIx t3 0), .bool true], by simp [results, Try.results17, go_sem, e0, e1, e2], _, t3, rfl, (((HG5.out.setCell (by simp) _).setCell (by simp <;> omega) _).setCell (by simp <;> omega) _).trans (Grow.refl _).drew, (RowI.up _ _ (RowI.upT (RowI.upT (RowI.upT HR5.out (by omega) (by decide) T0 0 _) (by omega) (by decide) (T1.set _ _) 0 _) (by omega) (by decide) ((T2.set _ _).set _ _) 0 _) (Grow.refl _).drew).sl, HLK.out, HWB.out⟩
end Go.Proofs.Ytcpdhkbmfgphpaa
