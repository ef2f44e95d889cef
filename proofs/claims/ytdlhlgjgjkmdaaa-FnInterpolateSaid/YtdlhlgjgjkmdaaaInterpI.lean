import Derived.Test.YtdlhlgjgjkmdaaaInterp
import Derived.RegionTactic
import Derived.ChangeAlike
import Derived.Defers
import Derived.Recover
namespace Go.Proofs.Ytdlhlgjgjkmdaaa
open Go.ChangeShapes Go.WideShapes Go.ChangeAt Go.RowKit Go.GrowR
set_option linter.unusedVariables false
set_option linter.unusedSimpArgs false
theorem idleIP (p0 p1 p2 : Addr) (w : World) :
    CallsD Try.prog 51 #[.pointer (some p0), .pointer (some p1), .pointer (some p2)] .returning w fun e u' w' => e = .returned (.tuple #[]) ∧ u' = .returning ∧ w' = w := by
  refine callsD_of_wpS Try.func51 rfl fun c₀ cs hu => ?_
  apply wpS_seq
  apply wpS_region
  simp [wpOpsS, go_sem, recoverD, hu, Try.ntmps51, Exit.thenS]
  refine wpS_cond (t := false) (by simp [Act.eval, Array.replicate]) ?_
  simp only [Bool.false_eq_true, if_false]
  refine wpS_of_wp ?_
  go_wp2
  cases c₀
  simp_all [bodyPostS, results, Try.results51, Exit.thenS]

def IpQ3 (xs : List Nat) (ns : List Int) (s K dim vb : Nat) (v : Int) (w : World) (e : Ending) (w' : World) : Prop := ∃ (i z : Nat), e = .returned (.tuple #[.int .i64 i, .float .f64 z, .bool true]) ∧ Grow w w' ∧
  ((v ≤ ns.getD dim 0 ∧ i = 0 ∧ z = 0) ∨ (ns.getD dim 0 < v ∧ ns.getD ((K - 1) * s + dim) 0 ≤ v ∧ i = K - 1 ∧ z = 0) ∨
   (ns.getD dim 0 < v ∧ v < ns.getD ((K - 1) * s + dim) 0 ∧ i + 1 < K ∧ ns.getD (i * s + dim) 0 ≤ v ∧ v < ns.getD ((i + 1) * s + dim) 0 ∧ ((ns.getD (i * s + dim) 0 = v ∧ z = 0) ∨ (ns.getD (i * s + dim) 0 < v ∧ Share vb (xs.getD (i * s + dim) 0) (xs.getD ((i + 1) * s + dim) 0) z))))
theorem ta_line (v : Value) (w : World) : (Instr.typeAssert (.iface 78 v) 70 78 false).run Try.prog w = .ok v w := by kernel_rfl
set_option maxRecDepth 100000 in
set_option maxHeartbeats 8000000 in
theorem implInterp_calls (l r : Int) (s K dim vb : Nat) (xs : List Nat) (ns : List Int) (v : Int) (A1 : Option Addr) (c1 : Nat) (A2 : Option Addr) (n2 c2 : Nat) (A3 : Option Addr) (n3 c3 : Nat) (A4 : Option Addr) (n4 c4 : Nat) (w : World) (hu : FSl (.slice A1 xs.length c1) xs w) (ha : Are xs ns) (hv : Fl.IsI vb v)
    (hn : xs.length = K * s) (hK : 0 < K) (hs : 0 < s) (hs9 : s ≤ 9) (hd : dim < s) (hn2 : xs.length ≤ 2000) (v0 : -1048576 ≤ v) (v1 : v ≤ 1048576) (h1 : 1 ≤ l) (h9 : l ≤ 9) (hsl : strideN l = s) :
    Calls Try.prog 22 #[Geo7 2 l r A1 xs.length c1 A2 n2 c2 A3 n3 c3 A4 n4 c4, .float .f64 vb, .int .i64 dim] w (IpQ3 xs ns s K dim vb v w) := by
  have hmf : ∀ (fn : Fn) (first cap : Array Value) (w : World), (Instr.makeFunc fn first cap).run Try.prog w = .ok (.func fn first cap) w := fun _ _ _ _ => rfl
  have hta := ta_line
  have HGE := Lib.hid (fun w' (hg : Grow w w') => geometry2 l r s xs A1 c1 A2 n2 c2 A3 n3 c3 A4 n4 c4 w' (FSl.up _ _ hu hg) (by omega) h1 h9 hsl)
  have HIP := Lib.hid (fun b0 b o c w' (ho : Obj4 b0 l s r (.slice (some ⟨b, o, none⟩) xs.length c) w') (hc : FCells w' b o xs) => interp_calls b0 l r s K dim b o xs.length c vb xs ns v w' ho rfl hc ha hv hn hK hs hs9 hd hn2 v0 v1)
  have HX0 := Lib.hid (show 0 < xs.length by rw [hn]; exact Nat.mul_pos hK hs)
  clear hu ha hv hn hK hs hs9 hd hn2 v0 v1 h1 h9 hsl
  go_enter_defers Try.func22, Try.ntmps22
  go_wp2_with fail
  refine (HGE.out _ (((((Grow.refl w).alloc _).alloc _).alloc _).alloc _)).mono ?_
  rintro e w1 ⟨b0, u, rfl, hb0, ho, hown, hg⟩
  obtain ⟨b, c, rfl, hcc, hbb, hfb⟩ := hown.fb HX0.out
  have HO := Lib.hid ho
  have HCE := Lib.hid (show FCells w1 b 0 xs from fun i x hi => by rw [Nat.zero_add]; exact (hfb.2 i x hi).1)
  have HGA := Lib.hid hg
  clear ho hown hg hfb
  go_wp2_with fail
  refine (HIP.out b0 b 0 c w1 HO.out HCE.out).mono ?_
  rintro e w2 ⟨i, z, rfl, hg2, hq⟩
  have HQ := Lib.hid hq
  have hg := HGA.out.trans hg2
  have c0 := up_cell (a := ⟨w.heap.size + 1, 0, none⟩) (v := .int .i64 0) (by go_simp) hg
  have c1' := up_cell (a := ⟨w.heap.size + 1 + 1, 0, none⟩) (v := .float .f64 0) (by go_simp) hg
  have c2' := up_cell (a := ⟨w.heap.size + 1 + 1 + 1, 0, none⟩) (v := .bool false) (by go_simp) hg
  have f0 : w2.frozen? ⟨w.heap.size + 1, 0, none⟩ = false := (grow_frozen hg _ _ (by simp <;> omega)).trans (by go_simp)
  have f1 : w2.frozen? ⟨w.heap.size + 1 + 1, 0, none⟩ = false := (grow_frozen hg _ _ (by simp <;> omega)).trans (by go_simp)
  have f2 : w2.frozen? ⟨w.heap.size + 1 + 1 + 1, 0, none⟩ = false := (grow_frozen hg _ _ (by simp <;> omega)).trans (by go_simp)
  have HG := Lib.hid ((((((Grow.refl w).alloc _).alloc _).alloc _).alloc _).trans hg)
  clear hg hg2 hq hcc hbb hb0
  go_wp2
  go_region
  go_wp2
  refine leaves_cons (f := 51) (args := #[.pointer (some ⟨w.heap.size + 1, 0, none⟩), .pointer (some ⟨w.heap.size + 1 + 1, 0, none⟩), .pointer (some ⟨w.heap.size + 1 + 1 + 1, 0, none⟩)]) (by simp) (by simp [go_sem]) ?_
  refine (idleIP ⟨w.heap.size + 1, 0, none⟩ ⟨w.heap.size + 1 + 1, 0, none⟩ ⟨w.heap.size + 1 + 1 + 1, 0, none⟩ _).mono ?_
  rintro e u' w'' ⟨rfl, rfl, rfl⟩
  have k1 : ((w2.setCell ⟨w.heap.size + 1, 0, none⟩ (.int .i64 i)).setCell ⟨w.heap.size + 1 + 1, 0, none⟩ (.float .f64 z)).cell? ⟨w.heap.size + 1 + 1, 0, none⟩ = some (.float .f64 z) := by go_simp
  have k0 : ((w2.setCell ⟨w.heap.size + 1, 0, none⟩ (.int .i64 i)).setCell ⟨w.heap.size + 1 + 1, 0, none⟩ (.float .f64 z)).cell? ⟨w.heap.size + 1, 0, none⟩ = some (.int .i64 i) := by go_simp
  have k2 : ((w2.setCell ⟨w.heap.size + 1, 0, none⟩ (.int .i64 i)).setCell ⟨w.heap.size + 1 + 1, 0, none⟩ (.float .f64 z)).cell? ⟨w.heap.size + 1 + 1 + 1, 0, none⟩ = some (.bool false) := by go_simp
  have hgw : Grow w ((w2.setCell ⟨w.heap.size + 1, 0, none⟩ (.int .i64 i)).setCell ⟨w.heap.size + 1 + 1, 0, none⟩ (.float .f64 z)) := (HG.out.setCell (by simp <;> omega) _).setCell (by simp <;> omega) _
  generalize ((w2.setCell ⟨w.heap.size + 1, 0, none⟩ (.int .i64 i)).setCell ⟨w.heap.size + 1 + 1, 0, none⟩ (.float .f64 z)) = w5 at *
  refine ⟨.tuple #[.int .i64 i, .float .f64 z, .bool true], by simp [results, Try.results22, go_sem, k0, k1, k2], i, z, rfl, ?_, HQ.out⟩
  exact (((hgw.setCell (by simp <;> omega) _).setCell (by simp <;> omega) _).setCell (by simp <;> omega) _).drew
end Go.Proofs.Ytdlhlgjgjkmdaaa
