import Derived.Test.YtemobphkgbhhhaaLinA
import Derived.Test.YtemobphkgbhhhaaGeoD
import Derived.Test.YtemobphkgbhhhaaLenZ
import Derived.Test.YtemobphkgbhhhaaLenAll
import Derived.RegionTactic
import Derived.ChangeAlike
import Derived.Defers
import Derived.Recover
namespace Go.Proofs.Ytemobphkgbhhhaa
open Go.ChangeShapes Go.WideShapes Go.ChangeAt Go.RowKit Go.GrowR
set_option linter.unusedVariables false
set_option linter.unusedSimpArgs false
theorem idleLn (p0 p1 : Addr) (w : World) :
    CallsD Try.prog 34 #[.pointer (some p0), .pointer (some p1)] .returning w fun e u' w' => e = .returned (.tuple #[]) ∧ u' = .returning ∧ w' = w := by
  refine callsD_of_wpS Try.func34 rfl fun c₀ cs hu => ?_
  apply wpS_seq
  apply wpS_region
  simp [wpOpsS, go_sem, recoverD, hu, Try.ntmps34, Exit.thenS]
  refine wpS_cond (t := false) (by simp [Act.eval, Array.replicate]) ?_
  simp only [Bool.false_eq_true, if_false]
  refine wpS_of_wp ?_
  go_wp2
  cases c₀
  simp_all [bodyPostS, results, Try.results34, Exit.thenS]
theorem catchLn (p0 p1 : Addr) (z0 z1 : Value) (u : TypeId) (pv : Value) (older : List PanicEntry) (w : World) (c0 : w.cell? p0 = some z0) (f0 : w.frozen? p0 = false) (c1 : w.cell? p1 = some z1) (f1 : w.frozen? p1 = false) (n10 : p0 ≠ p1) :
    CallsD Try.prog 34 #[.pointer (some p0), .pointer (some p1)] (.panicking ({ v := .iface u pv, recovered := false } :: older)) w fun e u' w' =>
      e = .returned (.tuple #[]) ∧ u' = .panicking ({ v := .iface u pv, recovered := true } :: older) ∧ w' = ((w.setCell p0 (.float .f64 0)).setCell p1 (.bool false)) := by
  have d0 : w.cell? p0 = some z0 := by exact c0
  have g0 : w.frozen? p0 = false := by exact f0
  have d1 : (w.setCell p0 (.float .f64 0)).cell? p1 = some z1 := by rw [World.cell?_setCell_other _ _ _ _ n10]; exact c1
  have g1 : (w.setCell p0 (.float .f64 0)).frozen? p1 = false := by rw [World.frozen?_setCell]; exact f1
  refine callsD_of_wpS Try.func34 rfl fun c₀ cs hu => ?_
  apply wpS_seq
  apply wpS_region
  simp [wpOpsS, go_sem, recoverD, hu, Try.ntmps34, Exit.thenS]
  refine wpS_cond (t := true) (by simp [Act.eval, Array.replicate]) ?_
  simp only [if_true]
  first | apply wpS_seq | skip
  apply wpS_region
  simp [wpOpsS, go_sem, d0, g0, d1, g1, bodyPostS, results, Try.results34]

/-- the length told: the true one, if all runs along the axes *)-/
def LenQ (segs : List (List (List Nat))) (w : World) (e : Ending) (w' : World) : Prop := ∃ z : Nat, e = .returned (.float .f64 z) ∧ (AlongS segs → Fl.IsI z (lenS segs)) ∧ Grow w w'
theorem isI_0 : Fl.IsI 0 0 := ⟨false, 0, -1074, by decide +kernel, by simp [Fl.dv]⟩

theorem len1 (b : Nat) (w : World) : Calls Try.prog 150 #[.pointer (some ⟨b, 0, none⟩)] w (LenQ [] w) := by
  go_enter Try.func150, Try.ntmps150
  go_wp2
  go_ret
  exact ⟨0, rfl, fun _ => isI_0, Grow.refl w⟩

theorem len4 (b : Nat) (w : World) : Calls Try.prog 148 #[.pointer (some ⟨b, 0, none⟩)] w (LenQ [] w) := by
  go_enter Try.func148, Try.ntmps148
  go_wp2
  go_ret
  exact ⟨0, rfl, fun _ => isI_0, Grow.refl w⟩

set_option maxRecDepth 100000 in
theorem len2 (b : Nat) (l s r : Int) (A : Option Addr) (n c : Nat) (w : World) (R : Ending → World → Prop) (ho : Obj4 b l s r (.slice A n c) w) (hR : ∀ e w', R e w' → (∃ t v, e = .panicked [{ v := .iface t v, recovered := false }]) ∨ ∃ z, e = .returned (.float .f64 z))
    (hc : ∀ w', Grow w w' → Calls Try.prog 102 #[.slice A n c, .int .i64 0, .int .i64 n, .int .i64 s] w' R) : Calls Try.prog 152 #[.pointer (some ⟨b, 0, none⟩)] w R := by
  have HC := Lib.hid hc; have HR := Lib.hid hR
  obtain ⟨x0, x1, x2, x3, -⟩ := ho
  have hb := cell_ltH x1
  clear hc hR
  go_enter Try.func152, Try.ntmps152
  go_wp2
  refine wp_region_grow_tail 19 (fun i => none) (by kernel_rfl) (by kernel_rfl) ?_ ?_
  · intro i Φ h lo hi v
    cases h
  simp only [List.take_succ_cons, List.take_zero, List.drop_succ_cons, List.drop_zero]
  repeat (first
    | (refine wpGrow_skip (by rfl) ?_; simp only [Act.put, List.setIfInBounds_toArray, List.set_cons_zero, List.set_cons_succ, Nat.reduceAdd])
    | (refine wpGrow_det' (by rfl) (by rfl) ?_; apply Exists.intro; refine ⟨fun w' hc hh => ?_, ?_⟩; (have hcell := grow_cell hc; clear hc hh; go_simp; rfl); simp only [Act.put, List.setIfInBounds_toArray, List.set_cons_zero, List.set_cons_succ, Nat.reduceAdd]))
  refine wpGrow_nil ?_
  intro w1 hg hh
  have HG := Lib.hid hg
  clear hh hg
  go_wp2_with fail
  refine (HC.out _ HG.out).mono ?_
  intro e w' hr
  have HH := Lib.hid hr
  rcases HR.out e w' hr with ⟨t, v, rfl⟩ | ⟨z, rfl⟩
  · clear hr
    dsimp only
    go_wp2
    exact ⟨rfl, HH.out⟩
  · clear hr
    dsimp only
    go_wp2
    exact HH.out

set_option maxRecDepth 100000 in
theorem len8 (b : Nat) (l s r : Int) (A : Option Addr) (n c : Nat) (w : World) (R : Ending → World → Prop) (ho : Obj4 b l s r (.slice A n c) w) (hR : ∀ e w', R e w' → (∃ t v, e = .panicked [{ v := .iface t v, recovered := false }]) ∨ ∃ z, e = .returned (.float .f64 z))
    (hc : ∀ w', Grow w w' → Calls Try.prog 102 #[.slice A n c, .int .i64 0, .int .i64 n, .int .i64 s] w' R) : Calls Try.prog 146 #[.pointer (some ⟨b, 0, none⟩)] w R := by
  have HC := Lib.hid hc; have HR := Lib.hid hR
  obtain ⟨x0, x1, x2, x3, -⟩ := ho
  have hb := cell_ltH x1
  clear hc hR
  go_enter Try.func146, Try.ntmps146
  go_wp2
  refine wp_region_grow_tail 19 (fun i => none) (by kernel_rfl) (by kernel_rfl) ?_ ?_
  · intro i Φ h lo hi v
    cases h
  simp only [List.take_succ_cons, List.take_zero, List.drop_succ_cons, List.drop_zero]
  repeat (first
    | (refine wpGrow_skip (by rfl) ?_; simp only [Act.put, List.setIfInBounds_toArray, List.set_cons_zero, List.set_cons_succ, Nat.reduceAdd])
    | (refine wpGrow_det' (by rfl) (by rfl) ?_; apply Exists.intro; refine ⟨fun w' hc hh => ?_, ?_⟩; (have hcell := grow_cell hc; clear hc hh; go_simp; rfl); simp only [Act.put, List.setIfInBounds_toArray, List.set_cons_zero, List.set_cons_succ, Nat.reduceAdd]))
  refine wpGrow_nil ?_
  intro w1 hg hh
  have HG := Lib.hid hg
  clear hh hg
  go_wp2_with fail
  refine (HC.out _ HG.out).mono ?_
  intro e w' hr
  have HH := Lib.hid hr
  rcases HR.out e w' hr with ⟨t, v, rfl⟩ | ⟨z, rfl⟩
  · clear hr
    dsimp only
    go_wp2
    exact ⟨rfl, HH.out⟩
  · clear hr
    dsimp only
    go_wp2
    exact HH.out

set_option maxRecDepth 100000 in
theorem len3 (b : Nat) (l s r : Int) (A : Option Addr) (n c : Nat) (A2 : Option Addr) (n2 c2 : Nat) (w : World) (R : Ending → World → Prop) (ho : Obj4 b l s r (.slice A n c) w) (he : w.cell? ⟨b, 4, none⟩ = some (.slice A2 n2 c2)) (hR : ∀ e w', R e w' → (∃ t v, e = .panicked [{ v := .iface t v, recovered := false }]) ∨ ∃ z, e = .returned (.float .f64 z))
    (hc : ∀ w', Grow w w' → Calls Try.prog 97 #[.slice A n c, .int .i64 0, .slice A2 n2 c2, .int .i64 s] w' R) : Calls Try.prog 127 #[.pointer (some ⟨b, 0, none⟩)] w R := by
  have HC := Lib.hid hc; have HR := Lib.hid hR
  obtain ⟨x0, x1, x2, x3, -⟩ := ho
  have hb := cell_ltH x1
  clear hc hR
  go_enter Try.func127, Try.ntmps127
  go_wp2
  refine wp_region_grow_tail 19 (fun i => none) (by kernel_rfl) (by kernel_rfl) ?_ ?_
  · intro i Φ h lo hi v
    cases h
  simp only [List.take_succ_cons, List.take_zero, List.drop_succ_cons, List.drop_zero]
  repeat (first
    | (refine wpGrow_skip (by rfl) ?_; simp only [Act.put, List.setIfInBounds_toArray, List.set_cons_zero, List.set_cons_succ, Nat.reduceAdd])
    | (refine wpGrow_det' (by rfl) (by rfl) ?_; apply Exists.intro; refine ⟨fun w' hc hh => ?_, ?_⟩; (have hcell := grow_cell hc; clear hc hh; go_simp; rfl); simp only [Act.put, List.setIfInBounds_toArray, List.set_cons_zero, List.set_cons_succ, Nat.reduceAdd]))
  refine wpGrow_nil ?_
  intro w1 hg hh
  have HG := Lib.hid hg
  clear hh hg
  go_wp2_with fail
  refine (HC.out _ HG.out).mono ?_
  intro e w' hr
  have HH := Lib.hid hr
  rcases HR.out e w' hr with ⟨t, v, rfl⟩ | ⟨z, rfl⟩
  · clear hr
    dsimp only
    go_wp2
    exact ⟨rfl, HH.out⟩
  · clear hr
    dsimp only
    go_wp2
    exact HH.out

set_option maxRecDepth 100000 in
theorem len5 (b : Nat) (l s r : Int) (A : Option Addr) (n c : Nat) (A2 : Option Addr) (n2 c2 : Nat) (w : World) (R : Ending → World → Prop) (ho : Obj4 b l s r (.slice A n c) w) (he : w.cell? ⟨b, 4, none⟩ = some (.slice A2 n2 c2)) (hR : ∀ e w', R e w' → (∃ t v, e = .panicked [{ v := .iface t v, recovered := false }]) ∨ ∃ z, e = .returned (.float .f64 z))
    (hc : ∀ w', Grow w w' → Calls Try.prog 97 #[.slice A n c, .int .i64 0, .slice A2 n2 c2, .int .i64 s] w' R) : Calls Try.prog 151 #[.pointer (some ⟨b, 0, none⟩)] w R := by
  have HC := Lib.hid hc; have HR := Lib.hid hR
  obtain ⟨x0, x1, x2, x3, -⟩ := ho
  have hb := cell_ltH x1
  clear hc hR
  go_enter Try.func151, Try.ntmps151
  go_wp2
  refine wp_region_grow_tail 19 (fun i => none) (by kernel_rfl) (by kernel_rfl) ?_ ?_
  · intro i Φ h lo hi v
    cases h
  simp only [List.take_succ_cons, List.take_zero, List.drop_succ_cons, List.drop_zero]
  repeat (first
    | (refine wpGrow_skip (by rfl) ?_; simp only [Act.put, List.setIfInBounds_toArray, List.set_cons_zero, List.set_cons_succ, Nat.reduceAdd])
    | (refine wpGrow_det' (by rfl) (by rfl) ?_; apply Exists.intro; refine ⟨fun w' hc hh => ?_, ?_⟩; (have hcell := grow_cell hc; clear hc hh; go_simp; rfl); simp only [Act.put, List.setIfInBounds_toArray, List.set_cons_zero, List.set_cons_succ, Nat.reduceAdd]))
  refine wpGrow_nil ?_
  intro w1 hg hh
  have HG := Lib.hid hg
  clear hh hg
  go_wp2_with fail
  refine (HC.out _ HG.out).mono ?_
  intro e w' hr
  have HH := Lib.hid hr
  rcases HR.out e w' hr with ⟨t, v, rfl⟩ | ⟨z, rfl⟩
  · clear hr
    dsimp only
    go_wp2
    exact ⟨rfl, HH.out⟩
  · clear hr
    dsimp only
    go_wp2
    exact HH.out

set_option maxRecDepth 100000 in
theorem len6 (b : Nat) (l s r : Int) (A : Option Addr) (n c : Nat) (A2 : Option Addr) (n2 c2 : Nat) (w : World) (R : Ending → World → Prop) (ho : Obj4 b l s r (.slice A n c) w) (he : w.cell? ⟨b, 4, none⟩ = some (.slice A2 n2 c2)) (hR : ∀ e w', R e w' → (∃ t v, e = .panicked [{ v := .iface t v, recovered := false }]) ∨ ∃ z, e = .returned (.float .f64 z))
    (hc : ∀ w', Grow w w' → Calls Try.prog 58 #[.slice A n c, .int .i64 0, .slice A2 n2 c2, .int .i64 s] w' R) : Calls Try.prog 154 #[.pointer (some ⟨b, 0, none⟩)] w R := by
  have HC := Lib.hid hc; have HR := Lib.hid hR
  obtain ⟨x0, x1, x2, x3, -⟩ := ho
  have hb := cell_ltH x1
  clear hc hR
  go_enter Try.func154, Try.ntmps154
  go_wp2
  refine wp_region_grow_tail 19 (fun i => none) (by kernel_rfl) (by kernel_rfl) ?_ ?_
  · intro i Φ h lo hi v
    cases h
  simp only [List.take_succ_cons, List.take_zero, List.drop_succ_cons, List.drop_zero]
  repeat (first
    | (refine wpGrow_skip (by rfl) ?_; simp only [Act.put, List.setIfInBounds_toArray, List.set_cons_zero, List.set_cons_succ, Nat.reduceAdd])
    | (refine wpGrow_det' (by rfl) (by rfl) ?_; apply Exists.intro; refine ⟨fun w' hc hh => ?_, ?_⟩; (have hcell := grow_cell hc; clear hc hh; go_simp; rfl); simp only [Act.put, List.setIfInBounds_toArray, List.set_cons_zero, List.set_cons_succ, Nat.reduceAdd]))
  refine wpGrow_nil ?_
  intro w1 hg hh
  have HG := Lib.hid hg
  clear hh hg
  go_wp2_with fail
  refine (HC.out _ HG.out).mono ?_
  intro e w' hr
  have HH := Lib.hid hr
  rcases HR.out e w' hr with ⟨t, v, rfl⟩ | ⟨z, rfl⟩
  · clear hr
    dsimp only
    go_wp2
    exact ⟨rfl, HH.out⟩
  · clear hr
    dsimp only
    go_wp2
    exact HH.out
theorem taL1 (b : Nat) (w : World) : (Instr.typeAssert (.iface (tyK 1) (.pointer (some ⟨b, 0, none⟩))) 63 60 true).run Try.prog w = .ok (.tuple #[.iface (tyK 1) (.pointer (some ⟨b, 0, none⟩)), .bool true]) w := by kernel_rfl
theorem mL1 (b : Nat) (w : World) : (method 293 (tyK 1) (.pointer (some ⟨b, 0, none⟩)) "Length").run Try.prog w = .ok (150, .pointer (some ⟨b, 0, none⟩)) w := by kernel_rfl
theorem taL2 (b : Nat) (w : World) : (Instr.typeAssert (.iface (tyK 2) (.pointer (some ⟨b, 0, none⟩))) 63 60 true).run Try.prog w = .ok (.tuple #[.iface (tyK 2) (.pointer (some ⟨b, 0, none⟩)), .bool true]) w := by kernel_rfl
theorem mL2 (b : Nat) (w : World) : (method 293 (tyK 2) (.pointer (some ⟨b, 0, none⟩)) "Length").run Try.prog w = .ok (152, .pointer (some ⟨b, 0, none⟩)) w := by kernel_rfl
theorem taL3 (b : Nat) (w : World) : (Instr.typeAssert (.iface (tyK 3) (.pointer (some ⟨b, 0, none⟩))) 63 60 true).run Try.prog w = .ok (.tuple #[.iface (tyK 3) (.pointer (some ⟨b, 0, none⟩)), .bool true]) w := by kernel_rfl
theorem mL3 (b : Nat) (w : World) : (method 293 (tyK 3) (.pointer (some ⟨b, 0, none⟩)) "Length").run Try.prog w = .ok (127, .pointer (some ⟨b, 0, none⟩)) w := by kernel_rfl
theorem taL4 (b : Nat) (w : World) : (Instr.typeAssert (.iface (tyK 4) (.pointer (some ⟨b, 0, none⟩))) 63 60 true).run Try.prog w = .ok (.tuple #[.iface (tyK 4) (.pointer (some ⟨b, 0, none⟩)), .bool true]) w := by kernel_rfl
theorem mL4 (b : Nat) (w : World) : (method 293 (tyK 4) (.pointer (some ⟨b, 0, none⟩)) "Length").run Try.prog w = .ok (148, .pointer (some ⟨b, 0, none⟩)) w := by kernel_rfl
theorem taL5 (b : Nat) (w : World) : (Instr.typeAssert (.iface (tyK 5) (.pointer (some ⟨b, 0, none⟩))) 63 60 true).run Try.prog w = .ok (.tuple #[.iface (tyK 5) (.pointer (some ⟨b, 0, none⟩)), .bool true]) w := by kernel_rfl
theorem mL5 (b : Nat) (w : World) : (method 293 (tyK 5) (.pointer (some ⟨b, 0, none⟩)) "Length").run Try.prog w = .ok (151, .pointer (some ⟨b, 0, none⟩)) w := by kernel_rfl
theorem taL6 (b : Nat) (w : World) : (Instr.typeAssert (.iface (tyK 6) (.pointer (some ⟨b, 0, none⟩))) 63 60 true).run Try.prog w = .ok (.tuple #[.iface (tyK 6) (.pointer (some ⟨b, 0, none⟩)), .bool true]) w := by kernel_rfl
theorem mL6 (b : Nat) (w : World) : (method 293 (tyK 6) (.pointer (some ⟨b, 0, none⟩)) "Length").run Try.prog w = .ok (154, .pointer (some ⟨b, 0, none⟩)) w := by kernel_rfl
theorem taL8 (b : Nat) (w : World) : (Instr.typeAssert (.iface (tyK 8) (.pointer (some ⟨b, 0, none⟩))) 63 60 true).run Try.prog w = .ok (.tuple #[.iface (tyK 8) (.pointer (some ⟨b, 0, none⟩)), .bool true]) w := by kernel_rfl
theorem mL8 (b : Nat) (w : World) : (method 293 (tyK 8) (.pointer (some ⟨b, 0, none⟩)) "Length").run Try.prog w = .ok (146, .pointer (some ⟨b, 0, none⟩)) w := by kernel_rfl

theorem LSh.len {s : Nat} {k l r : Int} {fl : List Nat} {en : List Int} {ens : List (List Int)} {segs : List (List (List Nat))} (h : LSh s k fl en ens segs) (hp : PlainG k l fl en ens [] s) (hW : ∀ rows ∈ segs, WRow s rows) {v : Value} {w : World} (htv : TV (.mk k l r fl en ens []) v w) :
    ∃ f b, v = .iface (tyK k) (.pointer (some ⟨b, 0, none⟩)) ∧ (f = 150 ∨ f = 148 ∨ f = 152 ∨ f = 146 ∨ f = 127 ∨ f = 151 ∨ f = 154) ∧ (∀ w, (Instr.typeAssert (.iface (tyK k) (.pointer (some ⟨b, 0, none⟩))) 63 60 true).run Try.prog w = .ok (.tuple #[.iface (tyK k) (.pointer (some ⟨b, 0, none⟩)), .bool true]) w) ∧ (∀ w, (method 293 (tyK k) (.pointer (some ⟨b, 0, none⟩)) "Length").run Try.prog w = .ok (f, .pointer (some ⟨b, 0, none⟩)) w) ∧
      ((∀ l ∈ ens, l ≠ []) → ∀ w', Grow w w' → Calls Try.prog f #[.pointer (some ⟨b, 0, none⟩)] w' (LenQ segs w')) ∧ ([] ∈ ens → ∀ w', Grow w w' → Calls Try.prog f #[.pointer (some ⟨b, 0, none⟩)] w' (Fell w')) := by
  have hbd := h.bd hp
  have hf := hbd.f; have hn := hbd.n; have s2 := hp.s2; have s9 := hp.s9
  have hwt := hp.wt
  unfold weightD at hwt
  have hLR : ∀ (segs : List (List (List Nat))) (w : World) (e : Ending) (w' : World), LenQ segs w e w' → (∃ t v, e = .panicked [{ v := .iface t v, recovered := false }]) ∨ ∃ z, e = .returned (.float .f64 z) := fun _ _ _ _ ⟨z, h, _⟩ => .inr ⟨z, h⟩
  have hFR : ∀ (w : World) (e : Ending) (w' : World), Fell w e w' → (∃ t v, e = .panicked [{ v := .iface t v, recovered := false }]) ∨ ∃ z, e = .returned (.float .f64 z) := fun _ _ _ ⟨t, v, h, _⟩ => .inl ⟨t, v, h⟩
  unfold TV at htv
  rcases htv with ⟨hk7, b, u, rfl, ho, hown, hev⟩ | ⟨h7, -⟩
  rotate_left
  · exfalso; cases h <;> omega
  rw [hp.st] at ho
  obtain ⟨A, n, c, rfl⟩ := VOwn.isSl hown
  have hfs := (VOwn.sl hown).f
  have hnl : n = fl.length := by obtain ⟨A', c', he, -, -⟩ := hfs; simp only [Value.slice.injEq] at he; exact he.2.1
  have hfl : n ≤ 10000000 := by omega
  have evI : ∀ {k : Int} {ns : List Nat}, (k = 3 ∨ k = 5) → EvK 0 k (ns.map Int.ofNat) [] b w → ∃ A2 c2, w.cell? ⟨b, 4, none⟩ = some (.slice A2 ns.length c2) ∧ EndR A2 ns w := fun hk he => by
    rcases he with he | ⟨-, ev, hc, hw⟩ | ⟨he, -⟩
    · omega
    · obtain ⟨A2, n2, c2, rfl⟩ := VOwn.isSl hw
      obtain ⟨rfl, h2⟩ := EndR.of (IOwn.is hw)
      exact ⟨A2, c2, hc, h2⟩
    · omega
  cases h with
  | pt hk =>
    rcases hk with rfl | rfl
    · exact ⟨_, b, rfl, (.inl rfl), taL1 b, mL1 b, fun _ w' _ => len1 b w', fun h => by simp at h⟩
    · exact ⟨_, b, rfl, (.inr (.inl rfl)), taL4 b, mL4 b, fun _ w' _ => len4 b w', fun h => by simp at h⟩
  | @line _ rows hk hr =>
    have hl1 : ∀ w', Grow w w' → Calls Try.prog 102 #[.slice A n c, .int .i64 0, .int .i64 n, .int .i64 s] w' (LenQ [rows] w') := fun w' hw => by
      have h1 := length1_calls A n c s n [] rows [] w' (by have := FSl.up _ _ hfs hw; simpa using this) (hW rows (by simp)) s2 s9 hfl (by rw [hnl, flat_len hr]; simp)
      refine h1.mono ?_
      rintro e w2 ⟨z, rfl, hz, hg⟩
      refine ⟨z, rfl, fun ha => ?_, hg⟩
      have := hz.1 (ha rows (by simp))
      simpa [lenS] using this
    rcases hk with rfl | rfl
    · exact ⟨_, b, rfl, (.inr (.inr (.inl rfl))), taL2 b, mL2 b, fun _ w' hw => len2 b l s r A n c w' _ (Obj4.up _ _ ho hw) (hLR _ _) fun w2 hw2 => (hl1 w2 (hw.trans hw2)).mono fun e w3 ⟨z, h1, h2, h3⟩ => ⟨z, h1, h2, hw2.trans h3⟩, fun h => by simp at h⟩
    · exact ⟨_, b, rfl, (.inr (.inr (.inr (.inl rfl)))), taL8 b, mL8 b, fun _ w' hw => len8 b l s r A n c w' _ (Obj4.up _ _ ho hw) (hLR _ _) fun w2 hw2 => (hl1 w2 (hw.trans hw2)).mono fun e w3 ⟨z, h1, h2, h3⟩ => ⟨z, h1, h2, hw2.trans h3⟩, fun h => by simp at h⟩
  | lines hk hr =>
    obtain ⟨A2, c2, hce, hE⟩ := evI hk hev
    rw [cum_len] at hce
    have hl1 : ∀ w', Grow w w' → Calls Try.prog 97 #[.slice A n c, .int .i64 0, .slice A2 segs.length c2, .int .i64 s] w' (LenQ segs w') := fun w' hw => by
      have h1 := length2_calls A A2 n c s c2 [] segs [] w' (by have := FSl.up _ _ hfs hw; simpa using this) hW s2 s9 hfl (by have := EndR.up _ _ hE hw; simpa using this) (by omega)
      refine h1.mono ?_
      rintro e w2 ⟨z, rfl, hz, hg⟩
      exact ⟨z, rfl, hz.1, hg⟩
    rcases hk with rfl | rfl
    · exact ⟨_, b, rfl, (.inr (.inr (.inr (.inr (.inl rfl))))), taL3 b, mL3 b, fun _ w' hw => len3 b l s r A n c A2 _ c2 w' _ (Obj4.up _ _ ho hw) (up_cell hce hw) (hLR _ _) fun w2 hw2 => (hl1 w2 (hw.trans hw2)).mono fun e w3 ⟨z, h1, h2, h3⟩ => ⟨z, h1, h2, hw2.trans h3⟩, fun h => by simp at h⟩
    · exact ⟨_, b, rfl, (.inr (.inr (.inr (.inr (.inr (.inl rfl)))))), taL5 b, mL5 b, fun _ w' hw => len5 b l s r A n c A2 _ c2 w' _ (Obj4.up _ _ ho hw) (up_cell hce hw) (hLR _ _) fun w2 hw2 => (hl1 w2 (hw.trans hw2)).mono fun e w3 ⟨z, h1, h2, h3⟩ => ⟨z, h1, h2, hw2.trans h3⟩, fun h => by simp at h⟩
  | @area segss hr =>
    obtain ⟨A2, c2, hce, hE⟩ : ∃ A2 c2, w.cell? ⟨b, 4, none⟩ = some (.slice A2 segss.length c2) ∧ EndRR A2 (cums s 0 segss) w := by
      rcases hev with he | ⟨he, -⟩ | ⟨-, ev, hc, hw⟩
      · omega
      · omega
      · obtain ⟨A2, n2, c2, rfl⟩ := IIOwn.isSl hw
        obtain ⟨h1, h2⟩ := EndRR.of (IIOwn.is hw)
        rw [cums_len] at h1
        subst h1
        exact ⟨A2, c2, hc, h2⟩
    have hsl : segss.length ≤ 10000000 := by
      have hl1 := lens_len ((cums s 0 segss).map (·.map Int.ofNat))
      rw [List.length_map, cums_len] at hl1
      omega
    have hfs2 : ∀ w', Grow w w' → FSl (.slice A n c) ([] ++ fwd segss.flatten ++ []) w' := fun w' hw => by have := FSl.up _ _ hfs hw; simpa using this
    refine ⟨_, b, rfl, (.inr (.inr (.inr (.inr (.inr (.inr rfl)))))), taL6 b, mL6 b, fun hne w' hw => len6 b l s r A n c A2 _ c2 w' _ (Obj4.up _ _ ho hw) (up_cell hce hw) (hLR _ _) fun w2 hw2 => ?_, fun hno w' hw => len6 b l s r A n c A2 _ c2 w' _ (Obj4.up _ _ ho hw) (up_cell hce hw) (hFR _) fun w2 hw2 => ?_⟩
    · have hne' : ∀ segs ∈ segss, segs ≠ [] := fun segs hm h0 => by
        obtain ⟨i, hi⟩ := List.mem_iff_getElem?.1 hm
        refine hne _ (List.mem_map.2 ⟨_, List.mem_of_getElem? (cums_at hi), rfl⟩) ?_
        apply List.eq_nil_of_length_eq_zero
        rw [List.length_map, cum_len, h0]; rfl
      have h1 := length3_calls A A2 n c s c2 [] segss [] w2 (hfs2 _ (hw.trans hw2)) hW s2 s9 hfl (by have := EndRR.up _ _ hE (hw.trans hw2); simpa using this) hsl (by omega) hne'
      refine h1.mono ?_
      rintro e w3 ⟨z, rfl, hz, hg⟩
      exact ⟨z, rfl, hz.1, hw2.trans hg⟩
    · have hno' : [] ∈ segss := by
        obtain ⟨x, hx, hx0⟩ := List.mem_map.1 hno
        obtain ⟨i, hi⟩ := List.mem_iff_getElem?.1 hx
        have hil : i < segss.length := by rw [← cums_len s segss 0]; exact (List.getElem?_eq_some_iff.1 hi).1
        have h2 := cums_at (s := s) (o := 0) (q := i) (show segss[i]? = some segss[i] by simp [hil])
        rw [h2] at hi; cases hi
        have h3 := congrArg List.length hx0
        rw [List.length_map, cum_len] at h3
        have h4 := List.eq_nil_of_length_eq_zero h3
        rw [← h4]; exact List.getElem_mem hil
      have h1 := length3_out A A2 n c s c2 [] segss [] w2 (hfs2 _ (hw.trans hw2)) hW s2 s9 hfl (by have := EndRR.up _ _ hE (hw.trans hw2); simpa using this) hsl (by omega) hno'
      exact h1.mono fun e w3 ⟨t, v, h2, h3⟩ => ⟨t, v, h2, hw2.trans h3⟩
/-- what impl.Length tells *)-/
def LnQ (ens : List (List Int)) (segs : List (List (List Nat))) (w : World) (e : Ending) (w' : World) : Prop := (∃ (z : Nat) (b : Bool), e = .returned (.tuple #[.float .f64 z, .bool b]) ∧ ((∀ l ∈ ens, l ≠ []) → b = true) ∧ ([] ∈ ens → b = false) ∧ (b = true → AlongS segs → Fl.IsI z (lenS segs))) ∧ Grow w w'
set_option maxRecDepth 100000 in
set_option maxHeartbeats 8000000 in
theorem length_calls (k l r : Int) (A1 : Option Addr) (n1 c1 : Nat) (A2 : Option Addr) (n2 c2 : Nat) (A3 : Option Addr) (n3 c3 : Nat) (A4 : Option Addr) (n4 c4 : Nat) (s : Nat) (fl : List Nat) (en : List Int) (ens : List (List Int)) (segs : List (List (List Nat))) (w : World) (h : LSh s k fl en ens segs) (hp : PlainG k l fl en ens [] s) (hW : ∀ rows ∈ segs, WRow s rows) (hge : ∀ w', Grow w w' → Calls Try.prog 35 #[Geo7 k l r A1 n1 c1 A2 n2 c2 A3 n3 c3 A4 n4 c4] w' (GQ (.mk k l r fl en ens []) w')) :
    Calls Try.prog 16 #[Geo7 k l r A1 n1 c1 A2 n2 c2 A3 n3 c3 A4 n4 c4] w (LnQ ens segs w) := by
  have hmf : ∀ (fn : Fn) (first cap : Array Value) (w : World), (Instr.makeFunc fn first cap).run Try.prog w = .ok (.func fn first cap) w := fun _ _ _ _ => rfl
  have HGE := Lib.hid hge
  have HLEN := Lib.hid (fun v w (htv : TV (.mk k l r fl en ens []) v w) => h.len hp hW htv)
  clear hge h hp hW
  go_enter_defers Try.func16, Try.ntmps16
  go_wp2_with fail
  refine (HGE.out _ ((((Grow.refl w).alloc _).alloc _).alloc _)).mono ?_
  rintro e w1 ⟨v, rfl, hg1, hst⟩
  obtain ⟨f, b, rfl, hf, ht, hm, hyes, hno⟩ := HLEN.out _ _ hst.now
  have HY := Lib.hid hyes; have HN := Lib.hid hno
  have HG := Lib.hid (((((Grow.refl w).alloc _).alloc _).alloc _).trans hg1)
  have HG1 := Lib.hid hg1
  clear hst hg1 hyes hno
  rcases hf with rfl | rfl | rfl | rfl | rfl | rfl | rfl
  all_goals
    by_cases hho : [] ∈ ens
    · have HO := Lib.hid hho
      clear hho
      go_wp2_with fail
      refine (HN.out HO.out _ (Grow.refl _)).mono ?_
      rintro e w2 ⟨t, pv, rfl, hg2⟩
      have hgw := HG1.out.trans hg2
      have y1 := up_cell (a := ⟨w.heap.size + 1, 0, none⟩) (v := .float .f64 0) (by go_simp) hgw
      have y2 := up_cell (a := ⟨w.heap.size + 1 + 1, 0, none⟩) (v := .bool false) (by go_simp) hgw
      have f1 : w2.frozen? ⟨w.heap.size + 1, 0, none⟩ = false := (grow_frozen hgw _ _ (by simp <;> omega)).trans (by go_simp)
      have f2 : w2.frozen? ⟨w.heap.size + 1 + 1, 0, none⟩ = false := (grow_frozen hgw _ _ (by simp <;> omega)).trans (by go_simp)
      have HG3 := Lib.hid (HG.out.trans hg2)
      clear hgw hg2
      go_wp2
      refine leaves_cons (f := 34) (args := #[.pointer (some ⟨w.heap.size + 1, 0, none⟩), .pointer (some ⟨w.heap.size + 1 + 1, 0, none⟩)]) (by simp) (by simp [go_sem]) ?_
      refine (catchLn ⟨w.heap.size + 1, 0, none⟩ ⟨w.heap.size + 1 + 1, 0, none⟩ _ _ _ _ [] _ y1 f1 y2 f2 (by simp)).mono ?_
      rintro e u' w'' ⟨rfl, rfl, rfl⟩
      have k1 : ((w2.setCell ⟨w.heap.size + 1, 0, none⟩ (.float .f64 0)).setCell ⟨w.heap.size + 1 + 1, 0, none⟩ (.bool false)).cell? ⟨w.heap.size + 1, 0, none⟩ = some (.float .f64 0) := by go_simp
      have k2 : ((w2.setCell ⟨w.heap.size + 1, 0, none⟩ (.float .f64 0)).setCell ⟨w.heap.size + 1 + 1, 0, none⟩ (.bool false)).cell? ⟨w.heap.size + 1 + 1, 0, none⟩ = some (.bool false) := by go_simp
      simp [Leaves, settle, results, Try.results16, go_sem, k1, k2]
      exact ⟨⟨0, false, rfl, fun h => absurd rfl (h [] HO.out), fun _ => rfl, fun h => by simp at h⟩, (HG3.out.setCell (by simp <;> omega) _).setCell (by simp <;> omega) _⟩
    · have hne : ∀ l ∈ ens, l ≠ [] := fun l hl h => hho (h ▸ hl)
      have HO := Lib.hid hho; have HE := Lib.hid hne
      clear hho hne
      go_wp2_with fail
      refine (HY.out HE.out _ (Grow.refl _)).mono ?_
      rintro e w2 ⟨z, rfl, hz, hg2⟩
      have hgw := HG1.out.trans hg2
      have y1 := up_cell (a := ⟨w.heap.size + 1, 0, none⟩) (v := .float .f64 0) (by go_simp) hgw
      have y2 := up_cell (a := ⟨w.heap.size + 1 + 1, 0, none⟩) (v := .bool false) (by go_simp) hgw
      have f1 : w2.frozen? ⟨w.heap.size + 1, 0, none⟩ = false := (grow_frozen hgw _ _ (by simp <;> omega)).trans (by go_simp)
      have f2 : w2.frozen? ⟨w.heap.size + 1 + 1, 0, none⟩ = false := (grow_frozen hgw _ _ (by simp <;> omega)).trans (by go_simp)
      have HG3 := Lib.hid (HG.out.trans hg2)
      have HZ := Lib.hid hz
      clear hgw hg2 hz
      go_wp2
      refine leaves_cons (f := 34) (args := #[.pointer (some ⟨w.heap.size + 1, 0, none⟩), .pointer (some ⟨w.heap.size + 1 + 1, 0, none⟩)]) (by simp) (by simp [go_sem]) ?_
      refine (idleLn ⟨w.heap.size + 1, 0, none⟩ ⟨w.heap.size + 1 + 1, 0, none⟩ _).mono ?_
      rintro e u' w'' ⟨rfl, rfl, rfl⟩
      have k1 : ((w2.setCell ⟨w.heap.size + 1, 0, none⟩ (.float .f64 z)).setCell ⟨w.heap.size + 1 + 1, 0, none⟩ (.bool true)).cell? ⟨w.heap.size + 1, 0, none⟩ = some (.float .f64 z) := by go_simp
      have k2 : ((w2.setCell ⟨w.heap.size + 1, 0, none⟩ (.float .f64 z)).setCell ⟨w.heap.size + 1 + 1, 0, none⟩ (.bool true)).cell? ⟨w.heap.size + 1 + 1, 0, none⟩ = some (.bool true) := by go_simp
      exact ⟨.tuple #[.float .f64 z, .bool true], by simp [results, Try.results16, go_sem, k1, k2], ⟨z, true, rfl, fun _ => rfl, fun h => absurd h HO.out, fun _ => HZ.out⟩, (HG3.out.setCell (by simp <;> omega) _).setCell (by simp <;> omega) _⟩
end Go.Proofs.Ytemobphkgbhhhaa
