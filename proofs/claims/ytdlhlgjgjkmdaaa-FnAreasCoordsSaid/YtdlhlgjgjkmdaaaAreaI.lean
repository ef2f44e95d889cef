import Derived.Test.YtdlhlgjgjkmdaaaRevImpl
import Derived.Test.YtdlhlgjgjkmdaaaPlAll
import Derived.Test.YtdlhlgjgjkmdaaaPlainR
import Derived.Test.YtdlhlgjgjkmdaaaRowsQ
import Derived.RegionTactic
import Derived.ChangeAlike
import Derived.Defers
import Derived.Recover
namespace Go.Proofs.Ytdlhlgjgjkmdaaa
open Go.ChangeShapes Go.WideShapes Go.ChangeAt Go.RowKit Go.GrowR
set_option linter.unusedVariables false
set_option linter.unusedSimpArgs false
theorem idleAC (p0 p1 : Addr) (w : World) :
    CallsD Try.prog 57 #[.pointer (some p0), .pointer (some p1)] .returning w fun e u' w' => e = .returned (.tuple #[]) ∧ u' = .returning ∧ w' = w := by
  refine callsD_of_wpS Try.func57 rfl fun c₀ cs hu => ?_
  apply wpS_seq
  apply wpS_region
  simp [wpOpsS, go_sem, recoverD, hu, Try.ntmps57, Exit.thenS]
  refine wpS_cond (t := false) (by simp [Act.eval, Array.replicate]) ?_
  simp only [Bool.false_eq_true, if_false]
  refine wpS_of_wp ?_
  go_wp2
  cases c₀
  simp_all [bodyPostS, results, Try.results57, Exit.thenS]

theorem MQ.of_grow {E : Value → World → Prop} {w w1 w' : World} {e : Ending} (hg : Grow w w1) (h : MQ E w1 e w') : MQ E w e w' := let ⟨v, h1, h2, h3⟩ := h; ⟨v, h1, hg.trans h2, h3.wide hg.size (Nat.le_refl _)⟩
set_option maxRecDepth 100000 in
set_option maxHeartbeats 4000000 in
theorem g3Coords (b : Nat) (l r : Int) (A E : Option Addr) (n c s ce m : Nat) (segss : List (List (List (List Nat)))) (w : World) (ho : Obj4 b l s r (.slice A n c) w) (hec : w.cell? ⟨b, 4, none⟩ = some (.slice E m ce)) (hm : m = segss.length) (hu : FSl (.slice A n c) (fwd segss.flatten) w) (hE : EndRR E (cums s 0 segss) w) (hr : ∀ segs ∈ segss, ∀ rows ∈ segs, ∀ r ∈ rows, r.length = s) (hs : 0 < s) (hs9 : s ≤ 9) (hn : n ≤ 10000000000) (hsl : segss.length ≤ 10000000000) (hsl2 : ∀ segs ∈ segss, segs.length ≤ 10000000000) :
    Calls Try.prog 198 #[.pointer (some ⟨b, 0, none⟩)] w (MQ (L3 segss) w) := by
  subst hm
  have HC : Hid (∀ w', Grow w w' → Calls Try.prog 202 #[.slice A n c, .int .i64 0, .slice E segss.length ce, .int .i64 s] w' (MQ (L3 segss) w')) := fun w' hw => by
    have := inflate3_calls A E n c s ce [] segss [] w' (by simpa using FSl.up _ _ hu hw) hr hs hs9 hn (by simpa using EndRR.up _ _ hE hw) hsl hsl2
    simpa using this
  obtain ⟨-, x1, x2, -, -⟩ := ho
  have hb := cell_ltH x1
  have x4 := hec
  clear hr hu hec hE hsl2
  go_enter Try.func198, Try.ntmps198
  go_wp2
  refine wp_region_grow_tail 16 (fun i => none) (by kernel_rfl) (by kernel_rfl) ?_ ?_
  · intro i Φ h lo hi v
    cases h
  simp only [List.take_succ_cons, List.take_zero, List.drop_succ_cons, List.drop_zero]
  repeat (first
    | (refine wpGrow_skip (by rfl) ?_; simp only [Act.put, List.setIfInBounds_toArray, List.set_cons_zero, List.set_cons_succ, Nat.reduceAdd])
    | (refine wpGrow_det' (by rfl) (by rfl) ?_; apply Exists.intro; refine ⟨fun w' hc hh => ?_, ?_⟩; (have hcell := grow_cell hc; clear hc hh; go_simp; rfl); simp only [Act.put, List.setIfInBounds_toArray, List.set_cons_zero, List.set_cons_succ, Nat.reduceAdd]))
  refine wpGrow_nil ?_
  intro w1 hg hh
  have HG := Lib.hid hg
  clear hh hg
  go_wp2_with (go_at_call 202; refine (HC.out _ HG.out).mono ?_; rintro e w' ⟨v, rfl, hg1, hst1⟩; have HG1 := Lib.hid hg1; have HST := Lib.hid hst1; clear hg1 hst1)
  go_ret
  exact ⟨_, rfl, HG.out.trans HG1.out, HST.out.wide HG.out.size (Nat.le_refl _)⟩
@[go_sem] theorem taAC (b : Nat) (w : World) : (Instr.typeAssert (.iface 101 (.pointer (some ⟨b, 0, none⟩))) 70 82 true).run Try.prog w = .ok (.tuple #[.iface 101 (.pointer (some ⟨b, 0, none⟩)), .bool true]) w := by kernel_rfl
theorem mCo6 (b : Nat) (w : World) : (method 328 101 (.pointer (some ⟨b, 0, none⟩)) "Coords").run Try.prog w = .ok (198, .pointer (some ⟨b, 0, none⟩)) w := by kernel_rfl
def AcQ (segss : List (List (List (List Nat)))) (w : World) (e : Ending) (w' : World) : Prop := ∃ V, e = .returned (.tuple #[V, .bool true]) ∧ Grow w w' ∧ L3 segss V w'
set_option maxRecDepth 100000 in
set_option maxHeartbeats 8000000 in
theorem areasCoords_calls (l r : Int) (s : Nat) (segss : List (List (List (List Nat)))) (A1 : Option Addr) (n1 c1 : Nat) (A2 : Option Addr) (n2 c2 : Nat) (A3 : Option Addr) (n3 c3 : Nat) (A4 : Option Addr) (n4 c4 : Nat) (w : World) (hs0 : 0 < s) (hs9 : s ≤ 9) (hls : strideN l = s) (hr : ∀ segs ∈ segss, ∀ rows ∈ segs, ∀ r ∈ rows, r.length = s) (hf : (fwd segss.flatten).length ≤ 10000) (hsl : segss.length ≤ 10000) (hsl2 : ∀ segs ∈ segss, segs.length ≤ 10000) (hsl3 : ∀ segs ∈ segss, ∀ rows ∈ segs, rows.length ≤ 10000)
    (hge : ∀ w', Grow w w' → Calls Try.prog 45 #[Geo7 6 l r A1 n1 c1 A2 n2 c2 A3 n3 c3 A4 n4 c4] w' (GP 6 l r (fwd segss.flatten) [] ((cums s 0 segss).map (·.map Int.ofNat)) w')) :
    Calls Try.prog 25 #[Geo7 6 l r A1 n1 c1 A2 n2 c2 A3 n3 c3 A4 n4 c4] w (AcQ segss w) := by
  have hmf : ∀ (fn : Fn) (first cap : Array Value) (w : World), (Instr.makeFunc fn first cap).run Try.prog w = .ok (.func fn first cap) w := fun _ _ _ _ => rfl
  have HGE := Lib.hid hge; have HR := Lib.hid hr; have HLS := Lib.hid hls; have H2 := Lib.hid hsl2; have H3 := Lib.hid hsl3
  clear hge hr hls hsl2 hsl3
  go_enter_defers Try.func25, Try.ntmps25
  go_wp2_with fail
  refine (HGE.out _ ((((Grow.refl w).alloc _).alloc _).alloc _)).mono ?_
  rintro e w1 ⟨b, u, rfl, hb, ho, hown, hev, hg1⟩
  obtain ⟨A, n, c, rfl⟩ := VOwn.isSl hown
  have hfl := (VOwn.sl hown).f
  have hn : n = (fwd segss.flatten).length := by obtain ⟨A', c', he, -, -⟩ := hfl; simp only [Value.slice.injEq] at he; exact he.2.1
  rw [HLS.out] at ho
  obtain ⟨ev, hec, hie⟩ : ∃ ev, w1.cell? ⟨b, 4, none⟩ = some ev ∧ IIOwn _ ev ((cums s 0 segss).map (·.map Int.ofNat)) w1 := by
    rcases hev with h | ⟨h, -⟩ | ⟨-, ev, h1, h2⟩
    · omega
    · omega
    · exact ⟨ev, h1, h2⟩
  obtain ⟨AE, nE, cE, rfl⟩ : ∃ A n c, ev = .slice A n c := by obtain ⟨us, h1, -⟩ := hie; exact VOwn.isSl h1
  obtain ⟨hnE, hER⟩ := EndRR.of (IIOwn.is hie)
  rw [cums_len] at hnE
  have HC := Lib.hid (g3Coords b l r A AE n c s cE nE segss w1 ho hec hnE hfl hER HR.out hs0 hs9 (by omega) (by omega) (fun q h => by have := H2.out q h; omega))
  have HG1 := Lib.hid hg1
  have hm := mCo6 b
  have htk : tyK 6 = 101 := rfl
  rw [htk]
  clear hb ho hown hev hg1 hfl hn hec hie hnE hER htk
  go_wp2_with fail
  refine (HC.out).mono ?_
  rintro e w2 ⟨v2, rfl, hg2, hst2⟩
  have HG2 := Lib.hid hg2; have HS2 := Lib.hid hst2.now
  clear hg2 hst2
  go_wp2_with fail
  refine (plain3_calls v2 segss w2 HS2.out (by omega) (fun q h => ⟨by have := H2.out q h; omega, fun rows h' => ⟨by have := H3.out q h rows h'; omega, fun z hz => by have := HR.out q h rows h' z hz; omega⟩⟩)).mono ?_
  rintro e w3 ⟨v3, rfl, hg3, hst3⟩
  obtain ⟨A9, c9, h9⟩ := hst3.now.form
  subst h9
  have HST := Lib.hid hst3
  have hg := HG1.out.trans (HG2.out.trans hg3)
  have hsz := Nat.le_trans HG1.out.size HG2.out.size
  simp at hsz
  have y0 := up_cell (a := ⟨w.heap.size + 1, 0, none⟩) (v := .slice none 0 0) (by go_simp) hg
  have y7 := up_cell (a := ⟨w.heap.size + 1 + 1, 0, none⟩) (v := .bool false) (by go_simp) hg
  have f1 : w3.frozen? ⟨w.heap.size + 1, 0, none⟩ = false := (grow_frozen hg _ _ (by simp <;> omega)).trans (by go_simp)
  have f2 : w3.frozen? ⟨w.heap.size + 1 + 1, 0, none⟩ = false := (grow_frozen hg _ _ (by simp <;> omega)).trans (by go_simp)
  have HG := Lib.hid ((((((Grow.refl w).alloc _).alloc _).alloc _)).trans hg)
  have HSZ := Lib.hid hsz
  clear hg hg3 hst3 hsz
  go_wp2
  refine leaves_cons (f := 57) (args := #[.pointer (some ⟨w.heap.size + 1, 0, none⟩), .pointer (some ⟨w.heap.size + 1 + 1, 0, none⟩)]) (by simp) (by simp [go_sem]) ?_
  refine (idleAC ⟨w.heap.size + 1, 0, none⟩ ⟨w.heap.size + 1 + 1, 0, none⟩ _).mono ?_
  rintro e u' w'' ⟨rfl, rfl, rfl⟩
  have hB := HSZ.out
  have k1 : ((w3.setCell ⟨w.heap.size + 1, 0, none⟩ (.slice A9 segss.length c9)).setCell ⟨w.heap.size + 1 + 1, 0, none⟩ (.bool true)).cell? ⟨w.heap.size + 1, 0, none⟩ = some (.slice A9 segss.length c9) := by go_simp
  have k2 : ((w3.setCell ⟨w.heap.size + 1, 0, none⟩ (.slice A9 segss.length c9)).setCell ⟨w.heap.size + 1 + 1, 0, none⟩ (.bool true)).cell? ⟨w.heap.size + 1 + 1, 0, none⟩ = some (.bool true) := by go_simp
  refine ⟨.tuple #[.slice A9 segss.length c9, .bool true], by simp [results, Try.results25, go_sem, k1, k2], _, rfl, (HG.out.setCell (by simp <;> omega) _).setCell (by simp <;> omega) _, (HST.out.move fun k k1 k2 => ?_).now⟩
  have hne : w.heap.size + 1 ≠ k := by omega
  have hne' : k ≠ w.heap.size + 1 := by omega
  have hne2 : w.heap.size + 1 + 1 ≠ k := by omega
  have hne2' : k ≠ w.heap.size + 1 + 1 := by omega
  iterate 2 rw [Below.heap_setCell _ _ _ _ (by first | exact hne | exact hne' | exact hne2 | exact hne2')]
end Go.Proofs.Ytdlhlgjgjkmdaaa
