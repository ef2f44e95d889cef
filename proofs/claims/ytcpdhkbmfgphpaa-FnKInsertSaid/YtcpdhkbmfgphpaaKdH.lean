import Derived.Test.YtcpdhkbmfgphpaaKdG
import Derived.Test.YtcpdhkbmfgphpaaArrA
import Derived.Deep.QuietTactic
import Derived.BigQuiet
namespace Go.Proofs.Ytcpdhkbmfgphpaa
open Go.ChangeShapes Go.WideShapes Go.ChangeAt Go.RowKit Go.GrowR
set_option linter.unusedVariables false
set_option linter.unusedSimpArgs false

def kn0 : KN := ⟨[], 0, 0, 0, [], []⟩
def kL (ns : List KN) (i : Nat) : Int := (ns.getD i kn0).l
def kR (ns : List KN) (i : Nat) : Int := (ns.getD i kn0).r
def kP (ns : List KN) (i : Nat) : List Nat := (ns.getD i kn0).p
theorem kn_at {ns : List KN} {i : Nat} (h : i < ns.length) : ns[i]? = some (ns.getD i kn0) := by rw [List.getD_eq_getElem?_getD, List.getElem?_eq_getElem h]; rfl
set_option maxRecDepth 100000 in
set_option maxHeartbeats 2000000 in
theorem sides_calls (v : Value) (ns : List KN) (bt : Nat) (i : Nat) (w : World) (hv : KSl v ns w) (hb : w.cell? ⟨bt, 0, none⟩ = some v) (hi : i < ns.length) :
    Calls Try.prog 49 #[.int .i64 i, .pointer (some ⟨bt, 0, none⟩)] w fun e w' => e = .returned (.tuple #[.int .i64 (kL ns i), .int .i64 (kR ns i)]) ∧ ∃ m, w' = w.drewN m := by
  obtain ⟨b, o, c, p, mn, mx, rfl, hc, ⟨c0, c1, c2, c3, c4, c5⟩, -, -, -⟩ := hv.at (kn_at hi)
  have h1 : (i : Int) < (ns.length : Int) := by omega
  have h2 : (0 : Int) ≤ (i : Int) := by omega
  clear c0 c1 c4 c5 hc
  unfold kL kR
  generalize (ns.getD i kn0).l = l at *
  generalize (ns.getD i kn0).r = r at *
  go_enter Try.func49, Try.ntmps49
  go_wp2
  go_quiet (fail)
  go_wp2
  refine bodyPost_ret (v := .tuple #[.int .i64 l, .int .i64 r]) (by simp [results, Try.results49, go_sem]) rfl ⟨rfl, _, rfl⟩
/-- the walk of a tree from a node on -/
noncomputable def kw (ns : List KN) (root : Int) : Kt.St := Kt.walk0 ns.length (kL ns) (kR ns) root
def KWQ (ns : List KN) (root : Int) (w : World) (e : Ending) (w' : World) : Prop :=
  ∃ V1 V2, e = .returned (.tuple #[V1, V2, .bool (kw ns root).ok]) ∧ Grow w w' ∧ VOwn 3 w.heap.size V1 ((kw ns root).ord.map natv) w' ∧ VOwn 3 w.heap.size V2 ((kw ns root).dep.map intv) w'
set_option maxRecDepth 100000 in
set_option maxHeartbeats 2000000 in
theorem kwalk_calls (v : Value) (ns : List KN) (root : Int) (w : World) (hv : KSl v ns w) (hn : ns.length ≤ 2147483647) :
    Calls Try.prog 30 #[v, .int .i64 root] w (KWQ ns root w) := by
  have HV := Lib.hid hv
  obtain ⟨A, c, rfl, -, -⟩ := hv
  have HW := Lib.hid (fun (w1 : World) (hg : Grow w w1) (hb : w1.cell? ⟨w.heap.size, 0, none⟩ = some (.slice A ns.length c)) => walk_calls ns.length root (.pointer (some ⟨w.heap.size, 0, none⟩)) (kL ns) (kR ns) w1 hn (fun i w' hi hg' => sides_calls _ ns w.heap.size i w' (KSl.up _ _ HV.out (hg.trans hg')) (up_cell hb hg') hi))
  go_enter Try.func30, Try.ntmps30
  go_wp2_with fail
  refine (HW.out _ ((Grow.refl _).alloc _) (by go_simp)).mono ?_
  rintro e w1 ⟨V1, V2, rfl, hg, h1, h2⟩
  have HG := Lib.hid hg; have H1 := Lib.hid h1; have H2 := Lib.hid h2
  clear hg h1 h2
  go_wp2
  refine bodyPost_ret (v := .tuple #[V1, V2, .bool (kw ns root).ok]) (by simp [results, Try.results30, go_sem]; rfl) rfl ⟨V1, V2, rfl, ((Grow.refl _).alloc _).trans HG.out, VOwn.mono H1.out (by simp), VOwn.mono H2.out (by simp)⟩
end Go.Proofs.Ytcpdhkbmfgphpaa
