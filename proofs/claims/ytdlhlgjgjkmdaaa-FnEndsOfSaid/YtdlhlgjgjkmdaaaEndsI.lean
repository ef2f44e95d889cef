import Derived.Test.YtdlhlgjgjkmdaaaGeoD
import Derived.RegionTactic
import Derived.ChangeAlike
import Derived.Defers
import Derived.Recover
namespace Go.Proofs.Ytdlhlgjgjkmdaaa
open Go.ChangeShapes Go.WideShapes Go.ChangeAt Go.RowKit Go.GrowR
set_option linter.unusedVariables false
set_option linter.unusedSimpArgs false
theorem idleEn (p0 p1 : Addr) (w : World) :
    CallsD Try.prog 48 #[.pointer (some p0), .pointer (some p1)] .returning w fun e u' w' => e = .returned (.tuple #[]) ∧ u' = .returning ∧ w' = w := by
  refine callsD_of_wpS Try.func48 rfl fun c₀ cs hu => ?_
  apply wpS_seq
  apply wpS_region
  simp [wpOpsS, go_sem, recoverD, hu, Try.ntmps48, Exit.thenS]
  refine wpS_cond (t := false) (by simp [Act.eval, Array.replicate]) ?_
  simp only [Bool.false_eq_true, if_false]
  refine wpS_of_wp ?_
  go_wp2
  cases c₀
  simp_all [bodyPostS, results, Try.results48, Exit.thenS]
theorem catchEn (p0 p1 : Addr) (z0 z1 : Value) (u : TypeId) (pv : Value) (older : List PanicEntry) (w : World) (c0 : w.cell? p0 = some z0) (f0 : w.frozen? p0 = false) (c1 : w.cell? p1 = some z1) (f1 : w.frozen? p1 = false) (n10 : p0 ≠ p1) :
    CallsD Try.prog 48 #[.pointer (some p0), .pointer (some p1)] (.panicking ({ v := .iface u pv, recovered := false } :: older)) w fun e u' w' =>
      e = .returned (.tuple #[]) ∧ u' = .panicking ({ v := .iface u pv, recovered := true } :: older) ∧ w' = ((w.setCell p0 (.slice none 0 0)).setCell p1 (.bool false)) := by
  have d0 : w.cell? p0 = some z0 := by exact c0
  have g0 : w.frozen? p0 = false := by exact f0
  have d1 : (w.setCell p0 (.slice none 0 0)).cell? p1 = some z1 := by rw [World.cell?_setCell_other _ _ _ _ n10]; exact c1
  have g1 : (w.setCell p0 (.slice none 0 0)).frozen? p1 = false := by rw [World.frozen?_setCell]; exact f1
  refine callsD_of_wpS Try.func48 rfl fun c₀ cs hu => ?_
  apply wpS_seq
  apply wpS_region
  simp [wpOpsS, go_sem, recoverD, hu, Try.ntmps48, Exit.thenS]
  refine wpS_cond (t := true) (by simp [Act.eval, Array.replicate]) ?_
  simp only [if_true]
  first | apply wpS_seq | skip
  apply wpS_region
  simp [wpOpsS, go_sem, d0, g0, d1, g1, bodyPostS, results, Try.results48]

theorem g0Ends (b : Nat) (w : World) : Calls Try.prog 170 #[.pointer (some ⟨b, 0, none⟩)] w fun e w' => e = .returned (.slice none 0 0) ∧ w' = w := by
  go_enter Try.func170, Try.ntmps170
  go_wp2
  go_ret
  exact ⟨rfl, rfl⟩
theorem g2Ends (b : Nat) (A : Option Addr) (n c : Nat) (w : World) (h : w.cell? ⟨b, 4, none⟩ = some (.slice A n c)) : Calls Try.prog 185 #[.pointer (some ⟨b, 0, none⟩)] w fun e w' => e = .returned (.slice A n c) ∧ w' = w := by
  go_enter Try.func185, Try.ntmps185
  go_wp2
  go_ret
  exact ⟨rfl, rfl⟩
theorem mEnds0 (k : Int) (h : k = 1 ∨ k = 2 ∨ k = 6 ∨ k = 8) (b : Nat) (w : World) : (method 328 (tyK k) (.pointer (some ⟨b, 0, none⟩)) "Ends").run Try.prog w = .ok (170, .pointer (some ⟨b, 0, none⟩)) w := by
  rcases h with rfl | rfl | rfl | rfl <;> kernel_rfl
theorem mEnds2 (k : Int) (h : k = 3 ∨ k = 4 ∨ k = 5) (b : Nat) (w : World) : (method 328 (tyK k) (.pointer (some ⟨b, 0, none⟩)) "Ends").run Try.prog w = .ok (185, .pointer (some ⟨b, 0, none⟩)) w := by
  rcases h with rfl | rfl | rfl <;> kernel_rfl
theorem mEnds7 (b : Nat) (w : World) : (method 328 68 (.pointer (some ⟨b, 0, none⟩)) "Ends").run Try.prog w = .ok (143, .pointer (some ⟨b, 0, none⟩)) w := by kernel_rfl
theorem colEnds (b : Nat) (w : World) : Calls Try.prog 143 #[.pointer (some ⟨b, 0, none⟩)] w fun e w' => (∃ t v, e = .panicked [{ v := .iface t v, recovered := false }]) ∧ w' = w := by
  go_enter Try.func143, Try.ntmps143
  go_wp2
  exact ⟨rfl, ⟨_, _, rfl⟩, rfl⟩
/-- the ends as the package gives them *)-/
def EndsV (k : Int) (en : List Int) (v : Value) (w : World) : Prop := ∃ f b A n c, v = .iface (tyK k) (.pointer (some ⟨b, 0, none⟩)) ∧ (∀ w, (method 328 (tyK k) (.pointer (some ⟨b, 0, none⟩)) "Ends").run Try.prog w = .ok (f, .pointer (some ⟨b, 0, none⟩)) w) ∧ (f = 170 ∧ A = none ∧ n = 0 ∧ c = 0 ∨ f = 185 ∧ w.cell? ⟨b, 4, none⟩ = some (.slice A n c)) ∧ ISl (.slice A n c) en w
theorem endsV {k l r : Int} {s : Int} {n : Nat} {fl : List Nat} {en : List Int} {ens : List (List Int)} {v : Value} {w : World} (h : TV (.mk k l r fl en ens []) v w) (hk : KindOk k s n en ens) : EndsV k en v w := by
  have h7 : k ≠ 7 := by rcases hk with ⟨rfl, -⟩ | ⟨rfl | rfl, -⟩ | ⟨rfl | rfl | rfl, -⟩ | ⟨rfl, -⟩ <;> decide
  unfold TV at h
  rcases h with ⟨-, b, u, rfl, ho, -, hev⟩ | ⟨h, -⟩
  rotate_left
  · exact absurd h h7
  rcases hev with he | ⟨he, ev, hc, hown⟩ | ⟨he, ev, hc, hown⟩
  · have hen : en = [] := by rcases hk with ⟨-, h, -⟩ | ⟨-, h, -⟩ | ⟨h, -⟩ | ⟨-, h, -⟩ <;> first | exact h | omega
    subst hen
    exact ⟨_, b, _, _, _, rfl, mEnds0 k (by omega) b, .inl ⟨rfl, rfl, rfl, rfl⟩, ISl.nil⟩
  · obtain ⟨A, n', c, rfl⟩ := VOwn.isSl hown
    exact ⟨_, b, _, _, _, rfl, mEnds2 k he b, .inr ⟨rfl, hc⟩, IOwn.is hown⟩
  · have hen : en = [] := by rcases hk with ⟨-, h, -⟩ | ⟨-, h, -⟩ | ⟨h, -⟩ | ⟨-, h, -⟩ <;> first | exact h | omega
    subst hen
    exact ⟨_, b, _, _, _, rfl, mEnds0 k (by omega) b, .inl ⟨rfl, rfl, rfl, rfl⟩, ISl.nil⟩
def EndsQ (en : List Int) (w : World) (e : Ending) (w' : World) : Prop := ∃ V, e = .returned (.tuple #[V, .bool true]) ∧ Grow w w' ∧ IOwn w.heap.size V en w'
set_option maxRecDepth 100000 in
set_option maxHeartbeats 8000000 in
theorem endsOf_calls (k l r : Int) (A1 : Option Addr) (n1 c1 : Nat) (A2 : Option Addr) (n2 c2 : Nat) (A3 : Option Addr) (n3 c3 : Nat) (A4 : Option Addr) (n4 c4 : Nat) (s : Int) (n : Nat) (fl : List Nat) (en : List Int) (ens : List (List Int)) (w : World) (hge : ∀ w', Grow w w' → Calls Try.prog 45 #[Geo7 k l r A1 n1 c1 A2 n2 c2 A3 n3 c3 A4 n4 c4] w' (GQ (.mk k l r fl en ens []) w')) (hk : KindOk k s n en ens) (hl : en.length ≤ 17592186044416) :
    Calls Try.prog 16 #[Geo7 k l r A1 n1 c1 A2 n2 c2 A3 n3 c3 A4 n4 c4] w (EndsQ en w) := by
  have hmf : ∀ (fn : Fn) (first cap : Array Value) (w : World), (Instr.makeFunc fn first cap).run Try.prog w = .ok (.func fn first cap) w := fun _ _ _ _ => rfl
  have HGE := Lib.hid hge; have HK := Lib.hid hk
  clear hge hk
  go_enter_defers Try.func16, Try.ntmps16
  go_wp2_with fail
  refine (HGE.out _ ((((Grow.refl w).alloc _).alloc _).alloc _)).mono ?_
  rintro e w1 ⟨v, rfl, hg1, hst⟩
  obtain ⟨f, b, A, n', c, rfl, hm, hf, his⟩ := endsV hst.now HK.out
  have HI := Lib.hid his
  have HG := Lib.hid (((((Grow.refl w).alloc _).alloc _).alloc _).trans hg1)
  have HG1 := Lib.hid hg1
  clear hst hg1 his
  rcases hf with ⟨rfl, rfl, rfl, rfl⟩ | ⟨rfl, hc⟩
  · go_wp2_with (first
      | (go_at_call 170; refine (g0Ends b _).mono ?_; rintro e w2 ⟨rfl, rfl⟩)
      | (go_at_call 49; refine (ints_calls _ en _ HI.out hl).mono ?_; rintro e w3 ⟨V, rfl, hg3, hown⟩; obtain ⟨A5, n5, c5, rfl⟩ := VOwn.isSl hown; have hgw := HG1.out.trans hg3; have hsz3 := HG.out.size; have y1 := up_cell (a := ⟨w.heap.size + 1, 0, none⟩) (v := .slice none 0 0) (by go_simp) hgw; have y2 := up_cell (a := ⟨w.heap.size + 1 + 1, 0, none⟩) (v := .bool false) (by go_simp) hgw; have f1 : w3.frozen? ⟨w.heap.size + 1, 0, none⟩ = false := (grow_frozen hgw _ _ (by simp <;> omega)).trans (by go_simp); have f2 : w3.frozen? ⟨w.heap.size + 1 + 1, 0, none⟩ = false := (grow_frozen hgw _ _ (by simp <;> omega)).trans (by go_simp); have HG3 := Lib.hid (HG.out.trans hg3); have HOW := Lib.hid hown; have HS1 := Lib.hid (HG1.out.size); clear hgw hg3 hown))
    refine leaves_cons (f := 48) (args := #[.pointer (some ⟨w.heap.size + 1, 0, none⟩), .pointer (some ⟨w.heap.size + 1 + 1, 0, none⟩)]) (by simp) (by simp [go_sem]) ?_
    refine (idleEn ⟨w.heap.size + 1, 0, none⟩ ⟨w.heap.size + 1 + 1, 0, none⟩ _).mono ?_
    rintro e u' w'' ⟨rfl, rfl, rfl⟩
    have k1 : ((w3.setCell ⟨w.heap.size + 1, 0, none⟩ (.slice A5 n5 c5)).setCell ⟨w.heap.size + 1 + 1, 0, none⟩ (.bool true)).cell? ⟨w.heap.size + 1, 0, none⟩ = some (.slice A5 n5 c5) := by go_simp
    have k2 : ((w3.setCell ⟨w.heap.size + 1, 0, none⟩ (.slice A5 n5 c5)).setCell ⟨w.heap.size + 1 + 1, 0, none⟩ (.bool true)).cell? ⟨w.heap.size + 1 + 1, 0, none⟩ = some (.bool true) := by go_simp
    refine ⟨.tuple #[.slice A5 n5 c5, .bool true], by simp [results, Try.results16, go_sem, k1, k2], _, rfl, (HG3.out.setCell (by simp <;> omega) _).setCell (by simp <;> omega) _, ?_⟩
    have hB : w.heap.size + 3 ≤ w2.heap.size := by have := HS1.out; simpa using this
    exact VOwn.mono (VOwn.setNe (VOwn.setNe HOW.out (fun g hg => by have := VOwn.lt HOW.out g hg; simp; omega) _) (fun g hg => by have := VOwn.lt HOW.out g hg; simp; omega) _) (by omega)
  · have HC := Lib.hid hc; clear hc
    go_wp2_with (first
      | (go_at_call 185; refine (g2Ends b _ _ _ _ HC.out).mono ?_; rintro e w2 ⟨rfl, rfl⟩)
      | (go_at_call 49; refine (ints_calls _ en _ HI.out hl).mono ?_; rintro e w3 ⟨V, rfl, hg3, hown⟩; obtain ⟨A5, n5, c5, rfl⟩ := VOwn.isSl hown; have hgw := HG1.out.trans hg3; have hsz3 := HG.out.size; have y1 := up_cell (a := ⟨w.heap.size + 1, 0, none⟩) (v := .slice none 0 0) (by go_simp) hgw; have y2 := up_cell (a := ⟨w.heap.size + 1 + 1, 0, none⟩) (v := .bool false) (by go_simp) hgw; have f1 : w3.frozen? ⟨w.heap.size + 1, 0, none⟩ = false := (grow_frozen hgw _ _ (by simp <;> omega)).trans (by go_simp); have f2 : w3.frozen? ⟨w.heap.size + 1 + 1, 0, none⟩ = false := (grow_frozen hgw _ _ (by simp <;> omega)).trans (by go_simp); have HG3 := Lib.hid (HG.out.trans hg3); have HOW := Lib.hid hown; have HS1 := Lib.hid (HG1.out.size); clear hgw hg3 hown))
    refine leaves_cons (f := 48) (args := #[.pointer (some ⟨w.heap.size + 1, 0, none⟩), .pointer (some ⟨w.heap.size + 1 + 1, 0, none⟩)]) (by simp) (by simp [go_sem]) ?_
    refine (idleEn ⟨w.heap.size + 1, 0, none⟩ ⟨w.heap.size + 1 + 1, 0, none⟩ _).mono ?_
    rintro e u' w'' ⟨rfl, rfl, rfl⟩
    have k1 : ((w3.setCell ⟨w.heap.size + 1, 0, none⟩ (.slice A5 n5 c5)).setCell ⟨w.heap.size + 1 + 1, 0, none⟩ (.bool true)).cell? ⟨w.heap.size + 1, 0, none⟩ = some (.slice A5 n5 c5) := by go_simp
    have k2 : ((w3.setCell ⟨w.heap.size + 1, 0, none⟩ (.slice A5 n5 c5)).setCell ⟨w.heap.size + 1 + 1, 0, none⟩ (.bool true)).cell? ⟨w.heap.size + 1 + 1, 0, none⟩ = some (.bool true) := by go_simp
    refine ⟨.tuple #[.slice A5 n5 c5, .bool true], by simp [results, Try.results16, go_sem, k1, k2], _, rfl, (HG3.out.setCell (by simp <;> omega) _).setCell (by simp <;> omega) _, ?_⟩
    have hB : w.heap.size + 3 ≤ w2.heap.size := by have := HS1.out; simpa using this
    exact VOwn.mono (VOwn.setNe (VOwn.setNe HOW.out (fun g hg => by have := VOwn.lt HOW.out g hg; simp; omega) _) (fun g hg => by have := VOwn.lt HOW.out g hg; simp; omega) _) (by omega)
def EndsN (w : World) (e : Ending) (w' : World) : Prop := e = .returned (.tuple #[.slice none 0 0, .bool false]) ∧ Grow w w'
set_option maxRecDepth 100000 in
set_option maxHeartbeats 8000000 in
theorem endsOf_col (l r : Int) (A1 : Option Addr) (n1 c1 : Nat) (A2 : Option Addr) (n2 c2 : Nat) (A3 : Option Addr) (n3 c3 : Nat) (A4 : Option Addr) (n4 c4 : Nat) (kids : List GT) (w : World) (hge : ∀ w', Grow w w' → Calls Try.prog 45 #[Geo7 7 l r A1 n1 c1 A2 n2 c2 A3 n3 c3 A4 n4 c4] w' (GQ (.mk 7 l r [] [] [] kids) w')) :
    Calls Try.prog 16 #[Geo7 7 l r A1 n1 c1 A2 n2 c2 A3 n3 c3 A4 n4 c4] w (EndsN w) := by
  have hmf : ∀ (fn : Fn) (first cap : Array Value) (w : World), (Instr.makeFunc fn first cap).run Try.prog w = .ok (.func fn first cap) w := fun _ _ _ _ => rfl
  have HGE := Lib.hid hge
  clear hge
  go_enter_defers Try.func16, Try.ntmps16
  go_wp2_with fail
  refine (HGE.out _ ((((Grow.refl w).alloc _).alloc _).alloc _)).mono ?_
  rintro e w1 ⟨v, rfl, hg1, hst⟩
  have htv := hst.now
  unfold TV at htv
  rcases htv with ⟨h, -⟩ | ⟨-, b, V, us, rfl, -, -, -⟩
  · exact absurd rfl h
  have hm := fun w => mEnds7 b w
  have HG := Lib.hid (((((Grow.refl w).alloc _).alloc _).alloc _).trans hg1)
  have y1 := up_cell (a := ⟨w.heap.size + 1, 0, none⟩) (v := .slice none 0 0) (by go_simp) hg1
  have y2 := up_cell (a := ⟨w.heap.size + 1 + 1, 0, none⟩) (v := .bool false) (by go_simp) hg1
  have f1 : w1.frozen? ⟨w.heap.size + 1, 0, none⟩ = false := (grow_frozen hg1 _ _ (by simp <;> omega)).trans (by go_simp)
  have f2 : w1.frozen? ⟨w.heap.size + 1 + 1, 0, none⟩ = false := (grow_frozen hg1 _ _ (by simp <;> omega)).trans (by go_simp)
  clear hst hg1
  go_wp2_with fail
  refine (colEnds b _).mono ?_
  rintro e w2 ⟨⟨t, pv, rfl⟩, rfl⟩
  go_wp2
  refine leaves_cons (f := 48) (args := #[.pointer (some ⟨w.heap.size + 1, 0, none⟩), .pointer (some ⟨w.heap.size + 1 + 1, 0, none⟩)]) (by simp) (by simp [go_sem]) ?_
  refine (catchEn ⟨w.heap.size + 1, 0, none⟩ ⟨w.heap.size + 1 + 1, 0, none⟩ _ _ _ _ [] _ y1 f1 y2 f2 (by simp)).mono ?_
  rintro e u' w'' ⟨rfl, rfl, rfl⟩
  have k1 : ((w2.setCell ⟨w.heap.size + 1, 0, none⟩ (.slice none 0 0)).setCell ⟨w.heap.size + 1 + 1, 0, none⟩ (.bool false)).cell? ⟨w.heap.size + 1, 0, none⟩ = some (.slice none 0 0) := by go_simp
  have k2 : ((w2.setCell ⟨w.heap.size + 1, 0, none⟩ (.slice none 0 0)).setCell ⟨w.heap.size + 1 + 1, 0, none⟩ (.bool false)).cell? ⟨w.heap.size + 1 + 1, 0, none⟩ = some (.bool false) := by go_simp
  simp [Leaves, settle, results, Try.results16, go_sem, k1, k2]
  exact ⟨rfl, (HG.out.setCell (by simp <;> omega) _).setCell (by simp <;> omega) _⟩
set_option maxHeartbeats 2000000 in
theorem gInts_calls (A : Option Addr) (n c : Nat) (A2 : Option Addr) (n2 c2 : Nat) (ns : List Int) (w : World) (hl : ns.length ≤ 17592186044416) (h1 : ISl (.slice A n c) ns w) (h2 : ISl (.slice A2 n2 c2) ns w) : Calls Try.prog 17 #[.slice A n c, .slice A2 n2 c2] w fun e w' => e = .returned (.bool true) ∧ w' = w := by
  obtain ⟨A', c', he, -, hA⟩ := SlE.form h1
  obtain ⟨A2', c2', he2, -, hA2⟩ := SlE.form h2
  simp only [Value.slice.injEq] at he he2
  obtain ⟨rfl, rfl, rfl⟩ := he
  obtain ⟨rfl, rfl, rfl⟩ := he2
  have HA := Lib.hid hA; have HA2 := Lib.hid hA2
  have e1 : (ns.length != ns.length) = false := by simp
  clear hA hA2 h1 h2
  go_enter Try.func17, Try.ntmps17
  go_wp2
  go_loop [5, 6, 14] (fun _ _ i => ∃ j : Nat, j ≤ ns.length ∧ i = .int .i64 j) (fun _ _ i => ns.length - (intOf i).toNat)
  case atStart => exact ⟨0, Nat.zero_le _, rfl⟩
  case round =>
    obtain ⟨q, hq, rfl⟩ := hrel
    by_cases hlt : q < ns.length
    case neg =>
      go_wp2
      go_ret
      exact ⟨rfl, rfl⟩
    case pos =>
      obtain ⟨x, hx⟩ : ∃ x, ns[q]? = some x := ⟨ns[q], by simp [hlt]⟩
      rcases HA.out with h0 | ⟨b1, o1, rfl, hc1⟩
      · exfalso; rw [h0] at hlt; simp at hlt
      rcases HA2.out with h0 | ⟨b2, o2, rfl, hc2⟩
      · exfalso; rw [h0] at hlt; simp at hlt
      obtain ⟨u1, d1, rfl⟩ := hc1 q x hx
      obtain ⟨u2, d2, rfl⟩ := hc2 q x hx
      have e2 : (x != x) = false := by simp
      have hq1 : IntKind.i64.wrap ((q : Int) + 1) = (q : Int) + 1 := IntWalk.i64_in _ (by omega)
      clear hc1 hc2 hx
      go_wp2
      go_round
      case rel => exact ⟨q + 1, by omega, by go_num⟩
      case measure => simp [intOf]; omega
end Go.Proofs.Ytdlhlgjgjkmdaaa
