import Derived.Test.YtcpdhkbmfgphpaaKdP
import Derived.Defers
import Derived.Recover
namespace Go.Proofs.Ytcpdhkbmfgphpaa
open Go.ChangeShapes Go.WideShapes Go.ChangeAt Go.RowKit Go.GrowR
set_option linter.unusedVariables false
set_option linter.unusedSimpArgs false

def TreeC (b : Nat) (rv : Value) (n : Nat) (w : World) : Prop := w.cell? ⟨b, 0, none⟩ = some rv ∧ w.cell? ⟨b, 1, none⟩ = some (.int .i64 (n : Nat)) ∧ ∀ o, w.frozen? ⟨b, o, none⟩ = false
def TreeQ (t : PT) (n : Nat) (w : World) (e : Ending) (w' : World) : Prop := ∃ b rv F, e = .returned (.pointer (some ⟨b, 0, none⟩)) ∧ Grow w w' ∧ TreeC b rv n w' ∧ NP t rv F w' ∧ (∀ k ∈ F, w.heap.size ≤ k ∧ k < b) ∧ w.heap.size ≤ b
set_option maxHeartbeats 2000000 in
theorem ktree_calls (v : Value) (ns : List KN) (i : Int) (t : Kt.KT) (w : World) (hv : KSl v ns w) (hf : fitsB ns = true) (ht : Kt.Tr ns.length (kL ns) (kR ns) (-1) i t) :
    Calls Try.prog 28 #[v, .int .i64 i] w (TreeQ (toPT ns t) ns.length w) := by
  have HK := Lib.hid (knode_calls v ns hf t (-1) i w (by omega) ht hv)
  obtain ⟨A, c, rfl, -, -⟩ := hv
  go_enter Try.func28, Try.ntmps28
  go_wp2_with fail
  refine HK.out.mono ?_
  rintro e w1 ⟨u, F, rfl, hg, hn, hF⟩
  obtain ⟨a, rfl⟩ := hn.isP
  have HG := Lib.hid hg; have HN := Lib.hid hn; have HF := Lib.hid hF; have HS := Lib.hid hg.size
  clear hg hn hF
  go_wp2
  go_ret
  exact ⟨_, _, F, rfl, HG.out.alloc _, ⟨by go_simp, by go_simp, fun o => by go_simp⟩, NP.up _ _ HN.out ((Grow.refl _).alloc _), fun k hk => ⟨HF.out k hk, HN.out.lt k hk⟩, HS.out⟩
/-- what Contains tells of the bounds of a root -/
def rootHas (bx : Option (List Nat × List Nat)) (Q : Nat → Int) (n : Nat) (r : Bool) : Prop := (bx = none ∧ r = true) ∨ ∃ mn mx A B, bx = some (mn, mx) ∧ Num mn n A ∧ Num mx n B ∧ r = inB Q A B n
set_option maxHeartbeats 2000000 in
theorem treeHas_calls (b : Nat) (rv u : Value) (m : Nat) (p : List Nat) (pl : Int) (bx : Option (List Nat × List Nat)) (l r : PT) (F : List Nat) (xs : List Nat) (n : Nat) (Q : Nat → Int) (res : Bool) (w : World) (hu : FSl u xs w) (ht : TreeC b rv m w) (hn : NP (.node p pl bx l r) rv F w) (hQ : Num xs n Q) (h6 : n ≤ 6) (hr : rootHas bx Q n res) :
    Calls Try.prog 29 #[.pointer (some ⟨b, 0, none⟩), .iface 61 u] w (BoolQ res w) := by
  obtain ⟨t0, -, -⟩ := ht
  obtain ⟨bn, P, lv, rv', bv, Fb, Fl, Fr, rfl, -, -, ⟨-, -, -, -, n4, -⟩, -, hbx, -, -⟩ := hn
  rcases hr with ⟨rfl, rfl⟩ | ⟨mn, mx, A, B, rfl, hA, hB, rfl⟩
  · obtain ⟨rfl, -⟩ := hbx
    go_enter Try.func29, Try.ntmps29
    go_wp2
    go_ret
    exact ⟨rfl, Grow.refl w⟩
  · have HC := Lib.hid (boxHas_calls u xs mn mx n Q A B bv Fb w hu hbx hQ hA hB h6)
    obtain ⟨b2, P1, P2, rfl, -⟩ := hbx
    clear hQ hA hB
    go_enter Try.func29, Try.ntmps29
    go_wp2_with fail
    refine HC.out.mono ?_
    rintro e w1 ⟨rfl, hg⟩
    have HG := Lib.hid hg
    clear hg
    go_wp2
    go_ret
    exact ⟨rfl, HG.out⟩
theorem idleKC (p0 p1 : Addr) (w : World) :
    CallsD Try.prog 27 #[.pointer (some p0), .pointer (some p1)] .returning w fun e u' w' => e = .returned (.tuple #[]) ∧ u' = .returning ∧ w' = w := by
  refine callsD_of_wpS Try.func27 rfl fun c₀ cs hu => ?_
  apply wpS_seq
  apply wpS_region
  simp [wpOpsS, go_sem, recoverD, hu, Try.ntmps27, Exit.thenS]
  refine wpS_cond (t := false) (by simp [Act.eval, Array.replicate]) ?_
  simp only [Bool.false_eq_true, if_false]
  refine wpS_of_wp ?_
  go_wp2
  cases c₀
  simp_all [bodyPostS, results, Try.results27, Exit.thenS]

def TwoB (a b : Bool) (w : World) (e : Ending) (w' : World) : Prop := e = .returned (.tuple #[.bool a, .bool b]) ∧ Grow w w'
set_option maxRecDepth 100000 in
set_option maxHeartbeats 4000000 in
theorem kcontains_calls (v u : Value) (ns : List KN) (i : Int) (j : Nat) (l r : Kt.KT) (xs : List Nat) (n : Nat) (Q : Nat → Int) (res : Bool) (w : World) (hv : KSl v ns w) (hu : FSl u xs w) (hf : fitsB ns = true) (ht : Kt.Tr ns.length (kL ns) (kR ns) (-1) i (.node j l r)) (hQ : Num xs n Q) (h6 : n ≤ 6) (hr : rootHas (bxOf (ns.getD j kn0)) Q n res) :
    Calls Try.prog 10 #[v, .int .i64 i, u] w (TwoB res true w) := by
  have hmf : ∀ (fn : Fn) (first cap : Array Value) (w : World), (Instr.makeFunc fn first cap).run Try.prog w = .ok (.func fn first cap) w := fun _ _ _ _ => rfl
  have HT := Lib.hid (fun w' (hg : Grow w w') => ktree_calls v ns i _ w' (KSl.up _ _ hv hg) hf ht)
  have HC := Lib.hid (fun b rv F m w' (hg : Grow w w') (h1 : TreeC b rv m w') (h2 : NP (toPT ns (.node j l r)) rv F w') => treeHas_calls b rv u m _ _ _ _ _ F xs n Q res w' (FSl.up _ _ hu hg) h1 h2 hQ h6 hr)
  obtain ⟨P, c, rfl, -, -⟩ := hu
  obtain ⟨P', c', rfl, -, -⟩ := hv
  clear hQ hr ht
  go_enter_defers Try.func10, Try.ntmps10
  go_wp2_with fail
  refine (HT.out _ (((Grow.refl w).alloc _).alloc _)).mono ?_
  rintro e w1 ⟨b, rv, F, rfl, hg, htc, hnp, -, -⟩
  have HTC := Lib.hid htc; have HNP := Lib.hid hnp
  have c0 := up_cell (a := ⟨w.heap.size, 0, none⟩) (v := .bool false) (by go_simp) hg
  have c1 := up_cell (a := ⟨w.heap.size + 1, 0, none⟩) (v := .bool false) (by go_simp) hg
  have f0 : w1.frozen? ⟨w.heap.size, 0, none⟩ = false := by rw [grow_frozen hg _ _ (by simp <;> omega)]; go_simp
  have f1 : w1.frozen? ⟨w.heap.size + 1, 0, none⟩ = false := by rw [grow_frozen hg _ _ (by simp <;> omega)]; go_simp
  have HG1 := Lib.hid ((((Grow.refl w).alloc _).alloc _).trans hg)
  clear hg htc hnp
  go_wp2_with fail
  refine (HC.out _ _ _ _ _ HG1.out HTC.out HNP.out).mono ?_
  rintro e w2 ⟨rfl, hg2⟩
  replace c0 := up_cell c0 hg2
  have f0' : w2.frozen? ⟨w.heap.size, 0, none⟩ = false := by rw [grow_frozen hg2 _ _ (cell_lt' ‹w1.cell? ⟨w.heap.size + 1, 0, none⟩ = _› |> fun h => by omega)]; exact f0
  have f1' : w2.frozen? ⟨w.heap.size + 1, 0, none⟩ = false := by rw [grow_frozen hg2 _ _ (cell_lt' c1)]; exact f1
  replace c1 := up_cell c1 hg2
  have HG2 := Lib.hid (HG1.out.trans hg2)
  clear hg2 f0 f1
  go_wp2
  refine leaves_cons (f := 27) (args := #[.pointer (some ⟨w.heap.size, 0, none⟩), .pointer (some ⟨w.heap.size + 1, 0, none⟩)]) (by simp) (by simp [go_sem]) ?_
  refine (idleKC ⟨w.heap.size, 0, none⟩ ⟨w.heap.size + 1, 0, none⟩ _).mono ?_
  rintro e u' w'' ⟨rfl, rfl, rfl⟩
  exact ⟨.tuple #[.bool res, .bool true], by simp [results, Try.results10, go_sem, c0, c1], rfl, (HG2.out.setCell (by simp) _).setCell (by simp <;> omega) _⟩
end Go.Proofs.Ytcpdhkbmfgphpaa
