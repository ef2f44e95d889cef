import Derived.Test.YtemobphkgbhhhaaGeoD
import Derived.Test.YtemobphkgbhhhaaOwnK
namespace Go.Proofs.Ytemobphkgbhhhaa
open Go.ChangeShapes Go.WideShapes Go.ChangeAt Go.RowKit Go.GrowR
set_option linter.unusedVariables false
set_option linter.unusedSimpArgs false

theorem g0SRID (b : Nat) (r : Int) (w : World) (h : w.cell? ⟨b, 3, none⟩ = some (.int .i64 r)) : Calls Try.prog 129 #[.pointer (some ⟨b, 0, none⟩)] w fun e w' => e = .returned (.int .i64 r) ∧ w' = w := by
  go_enter Try.func129, Try.ntmps129
  go_wp2
  go_ret
  exact ⟨rfl, rfl⟩

theorem g0Flat (b : Nat) (A : Option Addr) (n c : Nat) (w : World) (h : w.cell? ⟨b, 2, none⟩ = some (.slice A n c)) : Calls Try.prog 125 #[.pointer (some ⟨b, 0, none⟩)] w fun e w' => e = .returned (.slice A n c) ∧ w' = w := by
  go_enter Try.func125, Try.ntmps125
  go_wp2
  go_ret
  exact ⟨rfl, rfl⟩

theorem p0Ends (b : Nat) (w : World)  : Calls Try.prog 145 #[.pointer (some ⟨b, 0, none⟩)] w fun e w' => e = .returned (.slice none 0 0) ∧ w' = w := by
  go_enter Try.func145, Try.ntmps145
  go_wp2
  go_ret
  exact ⟨rfl, rfl⟩

theorem p0Endss (b : Nat) (w : World)  : Calls Try.prog 124 #[.pointer (some ⟨b, 0, none⟩)] w fun e w' => e = .returned (.slice none 0 0) ∧ w' = w := by
  go_enter Try.func124, Try.ntmps124
  go_wp2
  go_ret
  exact ⟨rfl, rfl⟩

theorem p2Ends (b : Nat) (A : Option Addr) (n c : Nat) (w : World) (h : w.cell? ⟨b, 4, none⟩ = some (.slice A n c)) : Calls Try.prog 123 #[.pointer (some ⟨b, 0, none⟩)] w fun e w' => e = .returned (.slice A n c) ∧ w' = w := by
  go_enter Try.func123, Try.ntmps123
  go_wp2
  go_ret
  exact ⟨rfl, rfl⟩

theorem p3Endss (b : Nat) (A : Option Addr) (n c : Nat) (w : World) (h : w.cell? ⟨b, 4, none⟩ = some (.slice A n c)) : Calls Try.prog 153 #[.pointer (some ⟨b, 0, none⟩)] w fun e w' => e = .returned (.slice A n c) ∧ w' = w := by
  go_enter Try.func153, Try.ntmps153
  go_wp2
  go_ret
  exact ⟨rfl, rfl⟩
@[go_sem] theorem ta1_1 (b : Nat) (w : World) : (Instr.typeAssert (.iface 71 (.pointer (some ⟨b, 0, none⟩))) 63 71 true).run Try.prog w = .ok (.tuple #[(.pointer (some ⟨b, 0, none⟩)), .bool true]) w := by kernel_rfl
@[go_sem] theorem ta2_1 (b : Nat) (w : World) : (Instr.typeAssert (.iface 74 (.pointer (some ⟨b, 0, none⟩))) 63 71 true).run Try.prog w = .ok (.tuple #[(.pointer none), .bool false]) w := by kernel_rfl
@[go_sem] theorem ta2_2 (b : Nat) (w : World) : (Instr.typeAssert (.iface 74 (.pointer (some ⟨b, 0, none⟩))) 63 74 true).run Try.prog w = .ok (.tuple #[(.pointer (some ⟨b, 0, none⟩)), .bool true]) w := by kernel_rfl
@[go_sem] theorem ta8_1 (b : Nat) (w : World) : (Instr.typeAssert (.iface 68 (.pointer (some ⟨b, 0, none⟩))) 63 71 true).run Try.prog w = .ok (.tuple #[(.pointer none), .bool false]) w := by kernel_rfl
@[go_sem] theorem ta8_2 (b : Nat) (w : World) : (Instr.typeAssert (.iface 68 (.pointer (some ⟨b, 0, none⟩))) 63 74 true).run Try.prog w = .ok (.tuple #[(.pointer none), .bool false]) w := by kernel_rfl
@[go_sem] theorem ta8_8 (b : Nat) (w : World) : (Instr.typeAssert (.iface 68 (.pointer (some ⟨b, 0, none⟩))) 63 68 true).run Try.prog w = .ok (.tuple #[(.pointer (some ⟨b, 0, none⟩)), .bool true]) w := by kernel_rfl
@[go_sem] theorem ta3_1 (b : Nat) (w : World) : (Instr.typeAssert (.iface 66 (.pointer (some ⟨b, 0, none⟩))) 63 71 true).run Try.prog w = .ok (.tuple #[(.pointer none), .bool false]) w := by kernel_rfl
@[go_sem] theorem ta3_2 (b : Nat) (w : World) : (Instr.typeAssert (.iface 66 (.pointer (some ⟨b, 0, none⟩))) 63 74 true).run Try.prog w = .ok (.tuple #[(.pointer none), .bool false]) w := by kernel_rfl
@[go_sem] theorem ta3_8 (b : Nat) (w : World) : (Instr.typeAssert (.iface 66 (.pointer (some ⟨b, 0, none⟩))) 63 68 true).run Try.prog w = .ok (.tuple #[(.pointer none), .bool false]) w := by kernel_rfl
@[go_sem] theorem ta3_3 (b : Nat) (w : World) : (Instr.typeAssert (.iface 66 (.pointer (some ⟨b, 0, none⟩))) 63 66 true).run Try.prog w = .ok (.tuple #[(.pointer (some ⟨b, 0, none⟩)), .bool true]) w := by kernel_rfl
@[go_sem] theorem ta4_1 (b : Nat) (w : World) : (Instr.typeAssert (.iface 70 (.pointer (some ⟨b, 0, none⟩))) 63 71 true).run Try.prog w = .ok (.tuple #[(.pointer none), .bool false]) w := by kernel_rfl
@[go_sem] theorem ta4_2 (b : Nat) (w : World) : (Instr.typeAssert (.iface 70 (.pointer (some ⟨b, 0, none⟩))) 63 74 true).run Try.prog w = .ok (.tuple #[(.pointer none), .bool false]) w := by kernel_rfl
@[go_sem] theorem ta4_8 (b : Nat) (w : World) : (Instr.typeAssert (.iface 70 (.pointer (some ⟨b, 0, none⟩))) 63 68 true).run Try.prog w = .ok (.tuple #[(.pointer none), .bool false]) w := by kernel_rfl
@[go_sem] theorem ta4_3 (b : Nat) (w : World) : (Instr.typeAssert (.iface 70 (.pointer (some ⟨b, 0, none⟩))) 63 66 true).run Try.prog w = .ok (.tuple #[(.pointer none), .bool false]) w := by kernel_rfl
@[go_sem] theorem ta4_4 (b : Nat) (w : World) : (Instr.typeAssert (.iface 70 (.pointer (some ⟨b, 0, none⟩))) 63 70 true).run Try.prog w = .ok (.tuple #[(.pointer (some ⟨b, 0, none⟩)), .bool true]) w := by kernel_rfl
@[go_sem] theorem ta5_1 (b : Nat) (w : World) : (Instr.typeAssert (.iface 73 (.pointer (some ⟨b, 0, none⟩))) 63 71 true).run Try.prog w = .ok (.tuple #[(.pointer none), .bool false]) w := by kernel_rfl
@[go_sem] theorem ta5_2 (b : Nat) (w : World) : (Instr.typeAssert (.iface 73 (.pointer (some ⟨b, 0, none⟩))) 63 74 true).run Try.prog w = .ok (.tuple #[(.pointer none), .bool false]) w := by kernel_rfl
@[go_sem] theorem ta5_8 (b : Nat) (w : World) : (Instr.typeAssert (.iface 73 (.pointer (some ⟨b, 0, none⟩))) 63 68 true).run Try.prog w = .ok (.tuple #[(.pointer none), .bool false]) w := by kernel_rfl
@[go_sem] theorem ta5_3 (b : Nat) (w : World) : (Instr.typeAssert (.iface 73 (.pointer (some ⟨b, 0, none⟩))) 63 66 true).run Try.prog w = .ok (.tuple #[(.pointer none), .bool false]) w := by kernel_rfl
@[go_sem] theorem ta5_4 (b : Nat) (w : World) : (Instr.typeAssert (.iface 73 (.pointer (some ⟨b, 0, none⟩))) 63 70 true).run Try.prog w = .ok (.tuple #[(.pointer none), .bool false]) w := by kernel_rfl
@[go_sem] theorem ta5_5 (b : Nat) (w : World) : (Instr.typeAssert (.iface 73 (.pointer (some ⟨b, 0, none⟩))) 63 73 true).run Try.prog w = .ok (.tuple #[(.pointer (some ⟨b, 0, none⟩)), .bool true]) w := by kernel_rfl
@[go_sem] theorem ta6_1 (b : Nat) (w : World) : (Instr.typeAssert (.iface 76 (.pointer (some ⟨b, 0, none⟩))) 63 71 true).run Try.prog w = .ok (.tuple #[(.pointer none), .bool false]) w := by kernel_rfl
@[go_sem] theorem ta6_2 (b : Nat) (w : World) : (Instr.typeAssert (.iface 76 (.pointer (some ⟨b, 0, none⟩))) 63 74 true).run Try.prog w = .ok (.tuple #[(.pointer none), .bool false]) w := by kernel_rfl
@[go_sem] theorem ta6_8 (b : Nat) (w : World) : (Instr.typeAssert (.iface 76 (.pointer (some ⟨b, 0, none⟩))) 63 68 true).run Try.prog w = .ok (.tuple #[(.pointer none), .bool false]) w := by kernel_rfl
@[go_sem] theorem ta6_3 (b : Nat) (w : World) : (Instr.typeAssert (.iface 76 (.pointer (some ⟨b, 0, none⟩))) 63 66 true).run Try.prog w = .ok (.tuple #[(.pointer none), .bool false]) w := by kernel_rfl
@[go_sem] theorem ta6_4 (b : Nat) (w : World) : (Instr.typeAssert (.iface 76 (.pointer (some ⟨b, 0, none⟩))) 63 70 true).run Try.prog w = .ok (.tuple #[(.pointer none), .bool false]) w := by kernel_rfl
@[go_sem] theorem ta6_5 (b : Nat) (w : World) : (Instr.typeAssert (.iface 76 (.pointer (some ⟨b, 0, none⟩))) 63 73 true).run Try.prog w = .ok (.tuple #[(.pointer none), .bool false]) w := by kernel_rfl
@[go_sem] theorem ta6_6 (b : Nat) (w : World) : (Instr.typeAssert (.iface 76 (.pointer (some ⟨b, 0, none⟩))) 63 76 true).run Try.prog w = .ok (.tuple #[(.pointer (some ⟨b, 0, none⟩)), .bool true]) w := by kernel_rfl
@[go_sem] theorem ta7_1 (b : Nat) (w : World) : (Instr.typeAssert (.iface 78 (.pointer (some ⟨b, 0, none⟩))) 63 71 true).run Try.prog w = .ok (.tuple #[(.pointer none), .bool false]) w := by kernel_rfl
@[go_sem] theorem ta7_2 (b : Nat) (w : World) : (Instr.typeAssert (.iface 78 (.pointer (some ⟨b, 0, none⟩))) 63 74 true).run Try.prog w = .ok (.tuple #[(.pointer none), .bool false]) w := by kernel_rfl
@[go_sem] theorem ta7_8 (b : Nat) (w : World) : (Instr.typeAssert (.iface 78 (.pointer (some ⟨b, 0, none⟩))) 63 68 true).run Try.prog w = .ok (.tuple #[(.pointer none), .bool false]) w := by kernel_rfl
@[go_sem] theorem ta7_3 (b : Nat) (w : World) : (Instr.typeAssert (.iface 78 (.pointer (some ⟨b, 0, none⟩))) 63 66 true).run Try.prog w = .ok (.tuple #[(.pointer none), .bool false]) w := by kernel_rfl
@[go_sem] theorem ta7_4 (b : Nat) (w : World) : (Instr.typeAssert (.iface 78 (.pointer (some ⟨b, 0, none⟩))) 63 70 true).run Try.prog w = .ok (.tuple #[(.pointer none), .bool false]) w := by kernel_rfl
@[go_sem] theorem ta7_5 (b : Nat) (w : World) : (Instr.typeAssert (.iface 78 (.pointer (some ⟨b, 0, none⟩))) 63 73 true).run Try.prog w = .ok (.tuple #[(.pointer none), .bool false]) w := by kernel_rfl
@[go_sem] theorem ta7_6 (b : Nat) (w : World) : (Instr.typeAssert (.iface 78 (.pointer (some ⟨b, 0, none⟩))) 63 76 true).run Try.prog w = .ok (.tuple #[(.pointer none), .bool false]) w := by kernel_rfl
@[go_sem] theorem ta7_7 (b : Nat) (w : World) : (Instr.typeAssert (.iface 78 (.pointer (some ⟨b, 0, none⟩))) 63 78 true).run Try.prog w = .ok (.tuple #[(.pointer (some ⟨b, 0, none⟩)), .bool true]) w := by kernel_rfl

theorem IIOwn.setCell {B : Nat} {V : Value} {nss : List (List Int)} {w : World} (h : IIOwn B V nss w) {p : Addr} (hp : p.block < B) (u : Value) : IIOwn B V nss (w.setCell p u) := by
  obtain ⟨us, h1, h2⟩ := h
  exact ⟨us, h1.setCell hp u, h2.1, fun i v x hv hx => VOwn.setCell (h2.2 i v x hv hx) hp u⟩
def PQ (g : GT) (w : World) (e : Ending) (w' : World) : Prop := ∃ v, e = .returned v ∧ Grow w w' ∧ Stab w.heap.size w'.heap.size (GV g v) w'
theorem PQ.mk {k l r : Int} {fl : List Nat} {en : List Int} {ens : List (List Int)} {w w' : World} {B : Nat} {V1 V2 V3 : Value} (hB : w.heap.size ≤ B) (hg : Grow w w') (h1 : VOwn 36 B V1 (fl.map (.float .f64)) w') (h2 : IOwn B V2 en w') (h3 : IIOwn B V3 ens w') : PQ (.mk k l r fl en ens []) w (.returned (GeoF k l r V1 V2 V3 (.slice none 0 0))) w' := by
  refine ⟨_, rfl, hg, fun w2 hw => ?_⟩
  unfold GV
  refine ⟨_, _, _, _, _, rfl, Nat.le_refl _, (VOwn.sl (Stab.own h1 hB (Nat.le_refl _) w2 hw)).f, IOwn.is (Stab.iown h2 hB (Nat.le_refl _) w2 hw), IIOwn.is (Stab.iiown h3 hB (Nat.le_refl _) w2 hw), .inl rfl⟩
theorem mSRID1 (b : Nat) (w : World) : (method 293 71 (.pointer (some ⟨b, 0, none⟩)) "SRID").run Try.prog w = .ok (129, .pointer (some ⟨b, 0, none⟩)) w := by kernel_rfl
theorem mLayout1 (b : Nat) (w : World) : (method 293 71 (.pointer (some ⟨b, 0, none⟩)) "Layout").run Try.prog w = .ok (126, .pointer (some ⟨b, 0, none⟩)) w := by kernel_rfl
theorem mFlatCoords1 (b : Nat) (w : World) : (method 293 71 (.pointer (some ⟨b, 0, none⟩)) "FlatCoords").run Try.prog w = .ok (125, .pointer (some ⟨b, 0, none⟩)) w := by kernel_rfl
theorem mEnds1 (b : Nat) (w : World) : (method 293 71 (.pointer (some ⟨b, 0, none⟩)) "Ends").run Try.prog w = .ok (145, .pointer (some ⟨b, 0, none⟩)) w := by kernel_rfl
theorem mEndss1 (b : Nat) (w : World) : (method 293 71 (.pointer (some ⟨b, 0, none⟩)) "Endss").run Try.prog w = .ok (124, .pointer (some ⟨b, 0, none⟩)) w := by kernel_rfl

set_option maxRecDepth 100000 in
set_option maxHeartbeats 8000000 in
theorem plain1 (b : Nat) (l r s : Int) (A n c : _) (fl : List Nat)  (w : World) (ho : Obj4 b l s r (.slice A n c) w) (hu : FSl (.slice A n c) fl w) (hl : fl.length ≤ 17592186044416)  :
    Calls Try.prog 37 #[.iface 71 (.pointer (some ⟨b, 0, none⟩))] w (PQ (.mk 1 l r fl [] [] []) w) := by
  have m1 := mSRID1 b; have m2 := mLayout1 b; have m3 := mFlatCoords1 b; have m4 := mEnds1 b; have m5 := mEndss1 b
  obtain ⟨x0, -, x2, x3, -⟩ := ho
  have hb := cell_ltH x0
  have X0 := Lib.hid x0; have X2 := Lib.hid x2; have X3 := Lib.hid x3; have HU := Lib.hid hu
  clear x0 x2 x3 hu
  go_enter Try.func37, Try.ntmps37
  go_wp2_with fail
  refine (g0SRID b r _ (up_cell X3.out ((Grow.refl w).alloc _))).mono ?_
  rintro e w' ⟨rfl, rfl⟩
  go_wp2_with fail
  have HA := Lib.hid ((((Grow.refl w).alloc (Obj.cells #[.int .i64 0, .int .i64 0, .int .i64 0, .slice none 0 0, .slice none 0 0, .slice none 0 0, .slice none 0 0] 28)).alloc (Obj.cells #[.int .i64 1, .int .i64 0, .int .i64 r, .slice none 0 0, .slice none 0 0, .slice none 0 0, .slice none 0 0] 28)))
  refine (g0Layout b l _ (up_cell X0.out HA.out)).mono ?_
  rintro e w' ⟨rfl, rfl⟩
  go_wp2_with fail
  refine (g0Flat b A n c _ (up_cell X2.out HA.out)).mono ?_
  rintro e w' ⟨rfl, rfl⟩
  go_wp2_with fail
  refine (floats_calls44 _ fl _ (FSl.up _ _ HU.out HA.out) hl).mono ?_
  rintro e w1 ⟨V1, rfl, hg1, hown1⟩
  have HO1 := Lib.hid hown1; have HG1 := Lib.hid hg1
  obtain ⟨A5, n5, c5, rfl⟩ := VOwn.isSl hown1
  clear hg1 hown1
  go_wp2_with fail
  refine (p0Ends b _).mono ?_
  rintro e w' ⟨rfl, rfl⟩
  go_wp2_with fail
  refine (ints_calls _ [] _ (ISl.nil) (by simp)).mono ?_
  rintro e w2 ⟨V2, rfl, hg2, hown2⟩
  have HO2 := Lib.hid hown2; have HG2 := Lib.hid hg2
  obtain ⟨A6, n6, c6, rfl⟩ := VOwn.isSl hown2
  clear hg2 hown2
  go_wp2_with fail
  refine (p0Endss b _).mono ?_
  rintro e w' ⟨rfl, rfl⟩
  go_wp2_with fail
  refine (intss_calls _ [] _ (ISSl.nil) (by simp) (by simp)).mono ?_
  rintro e w3 ⟨V3, rfl, hg3, hown3⟩
  have HO3 := Lib.hid hown3; have HG3 := Lib.hid hg3
  obtain ⟨A7, n7, c7, rfl⟩ : ∃ A n c, V3 = .slice A n c := by obtain ⟨us, h1, -⟩ := hown3; exact VOwn.isSl h1
  have hg := HG1.out.trans (HG2.out.trans hg3)
  clear hg3 hown3
  have r0 := up_cell (a := ⟨w.heap.size, 0, none⟩) (v := .int .i64 0) (by go_simp) hg
  have r1 := up_cell (a := ⟨w.heap.size, 1, none⟩) (v := .int .i64 0) (by go_simp) hg
  have r2 := up_cell (a := ⟨w.heap.size, 2, none⟩) (v := .int .i64 0) (by go_simp) hg
  have r3 := up_cell (a := ⟨w.heap.size, 3, none⟩) (v := .slice none 0 0) (by go_simp) hg
  have r4 := up_cell (a := ⟨w.heap.size, 4, none⟩) (v := .slice none 0 0) (by go_simp) hg
  have r5 := up_cell (a := ⟨w.heap.size, 5, none⟩) (v := .slice none 0 0) (by go_simp) hg
  have r6 := up_cell (a := ⟨w.heap.size, 6, none⟩) (v := .slice none 0 0) (by go_simp) hg
  have q0 := up_cell (a := ⟨w.heap.size + 1, 0, none⟩) (v := .int .i64 1) (by go_simp) hg
  have q1 := up_cell (a := ⟨w.heap.size + 1, 1, none⟩) (v := .int .i64 0) (by go_simp) hg
  have q2 := up_cell (a := ⟨w.heap.size + 1, 2, none⟩) (v := .int .i64 r) (by go_simp) hg
  have q3 := up_cell (a := ⟨w.heap.size + 1, 3, none⟩) (v := .slice none 0 0) (by go_simp) hg
  have q4 := up_cell (a := ⟨w.heap.size + 1, 4, none⟩) (v := .slice none 0 0) (by go_simp) hg
  have q5 := up_cell (a := ⟨w.heap.size + 1, 5, none⟩) (v := .slice none 0 0) (by go_simp) hg
  have q6 := up_cell (a := ⟨w.heap.size + 1, 6, none⟩) (v := .slice none 0 0) (by go_simp) hg
  have f1 : ∀ o, w3.frozen? ⟨w.heap.size, o, none⟩ = false := fun o => (grow_frozen hg _ _ (by simp <;> omega)).trans (by go_simp)
  have f2 : ∀ o, w3.frozen? ⟨w.heap.size + 1, o, none⟩ = false := fun o => (grow_frozen hg _ _ (by simp <;> omega)).trans (by go_simp)
  have HG := Lib.hid (HA.out.trans hg)
  have hb1 := HG1.out.size
  have hb2 := Nat.le_trans hb1 HG2.out.size
  simp only [World.size_alloc] at hb1 hb2
  have HB1 := Lib.hid hb1; have HB2 := Lib.hid hb2
  clear hb1 hb2
  have HO1' := Lib.hid (VOwn.up _ _ (VOwn.up _ _ HO1.out HG2.out) HG3.out)
  have HO2' := Lib.hid (IOwn.up _ _ HO2.out HG3.out)
  clear hg
  go_wp2
  refine bodyPost_ret (v := GeoF 1 l r (.slice A5 n5 c5) (.slice A6 n6 c6) (.slice A7 n7 c7) (.slice none 0 0)) (by simp [results, Try.results37, go_sem, r0, r1, r2, r3, r4, r5, r6, q0, q1, q2, q3, q4, q5, q6]) rfl ?_
  refine PQ.mk (B := w.heap.size + 2) (by omega) ?_ ?_ ?_ ?_
  · exact (((((((((((HG.out).setCell (by simp <;> omega) _).setCell (by simp <;> omega) _).setCell (by simp <;> omega) _).setCell (by simp <;> omega) _).setCell (by simp <;> omega) _).setCell (by simp <;> omega) _).setCell (by simp <;> omega) _).setCell (by simp <;> omega) _).setCell (by simp <;> omega) _).setCell (by simp <;> omega) _).setCell (by simp <;> omega) _
  · exact (((((((((((VOwn.mono HO1'.out (by simp)).setCell (by simp <;> omega) _).setCell (by simp <;> omega) _).setCell (by simp <;> omega) _).setCell (by simp <;> omega) _).setCell (by simp <;> omega) _).setCell (by simp <;> omega) _).setCell (by simp <;> omega) _).setCell (by simp <;> omega) _).setCell (by simp <;> omega) _).setCell (by simp <;> omega) _).setCell (by simp <;> omega) _
  · exact (((((((((((VOwn.mono HO2'.out HB1.out).setCell (by simp <;> omega) _).setCell (by simp <;> omega) _).setCell (by simp <;> omega) _).setCell (by simp <;> omega) _).setCell (by simp <;> omega) _).setCell (by simp <;> omega) _).setCell (by simp <;> omega) _).setCell (by simp <;> omega) _).setCell (by simp <;> omega) _).setCell (by simp <;> omega) _).setCell (by simp <;> omega) _
  · exact (((((((((((IIOwn.mono HO3.out HB2.out).setCell (by simp <;> omega) _).setCell (by simp <;> omega) _).setCell (by simp <;> omega) _).setCell (by simp <;> omega) _).setCell (by simp <;> omega) _).setCell (by simp <;> omega) _).setCell (by simp <;> omega) _).setCell (by simp <;> omega) _).setCell (by simp <;> omega) _).setCell (by simp <;> omega) _).setCell (by simp <;> omega) _
theorem mSRID2 (b : Nat) (w : World) : (method 293 74 (.pointer (some ⟨b, 0, none⟩)) "SRID").run Try.prog w = .ok (129, .pointer (some ⟨b, 0, none⟩)) w := by kernel_rfl
theorem mLayout2 (b : Nat) (w : World) : (method 293 74 (.pointer (some ⟨b, 0, none⟩)) "Layout").run Try.prog w = .ok (126, .pointer (some ⟨b, 0, none⟩)) w := by kernel_rfl
theorem mFlatCoords2 (b : Nat) (w : World) : (method 293 74 (.pointer (some ⟨b, 0, none⟩)) "FlatCoords").run Try.prog w = .ok (125, .pointer (some ⟨b, 0, none⟩)) w := by kernel_rfl
theorem mEnds2 (b : Nat) (w : World) : (method 293 74 (.pointer (some ⟨b, 0, none⟩)) "Ends").run Try.prog w = .ok (145, .pointer (some ⟨b, 0, none⟩)) w := by kernel_rfl
theorem mEndss2 (b : Nat) (w : World) : (method 293 74 (.pointer (some ⟨b, 0, none⟩)) "Endss").run Try.prog w = .ok (124, .pointer (some ⟨b, 0, none⟩)) w := by kernel_rfl

set_option maxRecDepth 100000 in
set_option maxHeartbeats 8000000 in
theorem plain2 (b : Nat) (l r s : Int) (A n c : _) (fl : List Nat)  (w : World) (ho : Obj4 b l s r (.slice A n c) w) (hu : FSl (.slice A n c) fl w) (hl : fl.length ≤ 17592186044416)  :
    Calls Try.prog 37 #[.iface 74 (.pointer (some ⟨b, 0, none⟩))] w (PQ (.mk 2 l r fl [] [] []) w) := by
  have m1 := mSRID2 b; have m2 := mLayout2 b; have m3 := mFlatCoords2 b; have m4 := mEnds2 b; have m5 := mEndss2 b
  obtain ⟨x0, -, x2, x3, -⟩ := ho
  have hb := cell_ltH x0
  have X0 := Lib.hid x0; have X2 := Lib.hid x2; have X3 := Lib.hid x3; have HU := Lib.hid hu
  clear x0 x2 x3 hu
  go_enter Try.func37, Try.ntmps37
  go_wp2_with fail
  refine (g0SRID b r _ (up_cell X3.out ((Grow.refl w).alloc _))).mono ?_
  rintro e w' ⟨rfl, rfl⟩
  go_wp2_with fail
  have HA := Lib.hid ((((Grow.refl w).alloc (Obj.cells #[.int .i64 0, .int .i64 0, .int .i64 0, .slice none 0 0, .slice none 0 0, .slice none 0 0, .slice none 0 0] 28)).alloc (Obj.cells #[.int .i64 2, .int .i64 0, .int .i64 r, .slice none 0 0, .slice none 0 0, .slice none 0 0, .slice none 0 0] 28)))
  refine (g0Layout b l _ (up_cell X0.out HA.out)).mono ?_
  rintro e w' ⟨rfl, rfl⟩
  go_wp2_with fail
  refine (g0Flat b A n c _ (up_cell X2.out HA.out)).mono ?_
  rintro e w' ⟨rfl, rfl⟩
  go_wp2_with fail
  refine (floats_calls44 _ fl _ (FSl.up _ _ HU.out HA.out) hl).mono ?_
  rintro e w1 ⟨V1, rfl, hg1, hown1⟩
  have HO1 := Lib.hid hown1; have HG1 := Lib.hid hg1
  obtain ⟨A5, n5, c5, rfl⟩ := VOwn.isSl hown1
  clear hg1 hown1
  go_wp2_with fail
  refine (p0Ends b _).mono ?_
  rintro e w' ⟨rfl, rfl⟩
  go_wp2_with fail
  refine (ints_calls _ [] _ (ISl.nil) (by simp)).mono ?_
  rintro e w2 ⟨V2, rfl, hg2, hown2⟩
  have HO2 := Lib.hid hown2; have HG2 := Lib.hid hg2
  obtain ⟨A6, n6, c6, rfl⟩ := VOwn.isSl hown2
  clear hg2 hown2
  go_wp2_with fail
  refine (p0Endss b _).mono ?_
  rintro e w' ⟨rfl, rfl⟩
  go_wp2_with fail
  refine (intss_calls _ [] _ (ISSl.nil) (by simp) (by simp)).mono ?_
  rintro e w3 ⟨V3, rfl, hg3, hown3⟩
  have HO3 := Lib.hid hown3; have HG3 := Lib.hid hg3
  obtain ⟨A7, n7, c7, rfl⟩ : ∃ A n c, V3 = .slice A n c := by obtain ⟨us, h1, -⟩ := hown3; exact VOwn.isSl h1
  have hg := HG1.out.trans (HG2.out.trans hg3)
  clear hg3 hown3
  have r0 := up_cell (a := ⟨w.heap.size, 0, none⟩) (v := .int .i64 0) (by go_simp) hg
  have r1 := up_cell (a := ⟨w.heap.size, 1, none⟩) (v := .int .i64 0) (by go_simp) hg
  have r2 := up_cell (a := ⟨w.heap.size, 2, none⟩) (v := .int .i64 0) (by go_simp) hg
  have r3 := up_cell (a := ⟨w.heap.size, 3, none⟩) (v := .slice none 0 0) (by go_simp) hg
  have r4 := up_cell (a := ⟨w.heap.size, 4, none⟩) (v := .slice none 0 0) (by go_simp) hg
  have r5 := up_cell (a := ⟨w.heap.size, 5, none⟩) (v := .slice none 0 0) (by go_simp) hg
  have r6 := up_cell (a := ⟨w.heap.size, 6, none⟩) (v := .slice none 0 0) (by go_simp) hg
  have q0 := up_cell (a := ⟨w.heap.size + 1, 0, none⟩) (v := .int .i64 2) (by go_simp) hg
  have q1 := up_cell (a := ⟨w.heap.size + 1, 1, none⟩) (v := .int .i64 0) (by go_simp) hg
  have q2 := up_cell (a := ⟨w.heap.size + 1, 2, none⟩) (v := .int .i64 r) (by go_simp) hg
  have q3 := up_cell (a := ⟨w.heap.size + 1, 3, none⟩) (v := .slice none 0 0) (by go_simp) hg
  have q4 := up_cell (a := ⟨w.heap.size + 1, 4, none⟩) (v := .slice none 0 0) (by go_simp) hg
  have q5 := up_cell (a := ⟨w.heap.size + 1, 5, none⟩) (v := .slice none 0 0) (by go_simp) hg
  have q6 := up_cell (a := ⟨w.heap.size + 1, 6, none⟩) (v := .slice none 0 0) (by go_simp) hg
  have f1 : ∀ o, w3.frozen? ⟨w.heap.size, o, none⟩ = false := fun o => (grow_frozen hg _ _ (by simp <;> omega)).trans (by go_simp)
  have f2 : ∀ o, w3.frozen? ⟨w.heap.size + 1, o, none⟩ = false := fun o => (grow_frozen hg _ _ (by simp <;> omega)).trans (by go_simp)
  have HG := Lib.hid (HA.out.trans hg)
  have hb1 := HG1.out.size
  have hb2 := Nat.le_trans hb1 HG2.out.size
  simp only [World.size_alloc] at hb1 hb2
  have HB1 := Lib.hid hb1; have HB2 := Lib.hid hb2
  clear hb1 hb2
  have HO1' := Lib.hid (VOwn.up _ _ (VOwn.up _ _ HO1.out HG2.out) HG3.out)
  have HO2' := Lib.hid (IOwn.up _ _ HO2.out HG3.out)
  clear hg
  go_wp2
  refine bodyPost_ret (v := GeoF 2 l r (.slice A5 n5 c5) (.slice A6 n6 c6) (.slice A7 n7 c7) (.slice none 0 0)) (by simp [results, Try.results37, go_sem, r0, r1, r2, r3, r4, r5, r6, q0, q1, q2, q3, q4, q5, q6]) rfl ?_
  refine PQ.mk (B := w.heap.size + 2) (by omega) ?_ ?_ ?_ ?_
  · exact (((((((((((HG.out).setCell (by simp <;> omega) _).setCell (by simp <;> omega) _).setCell (by simp <;> omega) _).setCell (by simp <;> omega) _).setCell (by simp <;> omega) _).setCell (by simp <;> omega) _).setCell (by simp <;> omega) _).setCell (by simp <;> omega) _).setCell (by simp <;> omega) _).setCell (by simp <;> omega) _).setCell (by simp <;> omega) _
  · exact (((((((((((VOwn.mono HO1'.out (by simp)).setCell (by simp <;> omega) _).setCell (by simp <;> omega) _).setCell (by simp <;> omega) _).setCell (by simp <;> omega) _).setCell (by simp <;> omega) _).setCell (by simp <;> omega) _).setCell (by simp <;> omega) _).setCell (by simp <;> omega) _).setCell (by simp <;> omega) _).setCell (by simp <;> omega) _).setCell (by simp <;> omega) _
  · exact (((((((((((VOwn.mono HO2'.out HB1.out).setCell (by simp <;> omega) _).setCell (by simp <;> omega) _).setCell (by simp <;> omega) _).setCell (by simp <;> omega) _).setCell (by simp <;> omega) _).setCell (by simp <;> omega) _).setCell (by simp <;> omega) _).setCell (by simp <;> omega) _).setCell (by simp <;> omega) _).setCell (by simp <;> omega) _).setCell (by simp <;> omega) _
  · exact (((((((((((IIOwn.mono HO3.out HB2.out).setCell (by simp <;> omega) _).setCell (by simp <;> omega) _).setCell (by simp <;> omega) _).setCell (by simp <;> omega) _).setCell (by simp <;> omega) _).setCell (by simp <;> omega) _).setCell (by simp <;> omega) _).setCell (by simp <;> omega) _).setCell (by simp <;> omega) _).setCell (by simp <;> omega) _).setCell (by simp <;> omega) _
theorem mSRID3 (b : Nat) (w : World) : (method 293 66 (.pointer (some ⟨b, 0, none⟩)) "SRID").run Try.prog w = .ok (129, .pointer (some ⟨b, 0, none⟩)) w := by kernel_rfl
theorem mLayout3 (b : Nat) (w : World) : (method 293 66 (.pointer (some ⟨b, 0, none⟩)) "Layout").run Try.prog w = .ok (126, .pointer (some ⟨b, 0, none⟩)) w := by kernel_rfl
theorem mFlatCoords3 (b : Nat) (w : World) : (method 293 66 (.pointer (some ⟨b, 0, none⟩)) "FlatCoords").run Try.prog w = .ok (125, .pointer (some ⟨b, 0, none⟩)) w := by kernel_rfl
theorem mEnds3 (b : Nat) (w : World) : (method 293 66 (.pointer (some ⟨b, 0, none⟩)) "Ends").run Try.prog w = .ok (123, .pointer (some ⟨b, 0, none⟩)) w := by kernel_rfl
theorem mEndss3 (b : Nat) (w : World) : (method 293 66 (.pointer (some ⟨b, 0, none⟩)) "Endss").run Try.prog w = .ok (124, .pointer (some ⟨b, 0, none⟩)) w := by kernel_rfl

set_option maxRecDepth 100000 in
set_option maxHeartbeats 8000000 in
theorem plain3 (b : Nat) (l r s : Int) (A n c : _) (fl : List Nat) (A2 : Option Addr) (n2 c2 : Nat) (en : List Int) (w : World) (ho : Obj4 b l s r (.slice A n c) w) (hu : FSl (.slice A n c) fl w) (hl : fl.length ≤ 17592186044416) (he : w.cell? ⟨b, 4, none⟩ = some (.slice A2 n2 c2)) (hi : ISl (.slice A2 n2 c2) en w) (hil : en.length ≤ 17592186044416) :
    Calls Try.prog 37 #[.iface 66 (.pointer (some ⟨b, 0, none⟩))] w (PQ (.mk 3 l r fl en [] []) w) := by
  have m1 := mSRID3 b; have m2 := mLayout3 b; have m3 := mFlatCoords3 b; have m4 := mEnds3 b; have m5 := mEndss3 b
  obtain ⟨x0, -, x2, x3, -⟩ := ho
  have hb := cell_ltH x0
  have X0 := Lib.hid x0; have X2 := Lib.hid x2; have X3 := Lib.hid x3; have HU := Lib.hid hu
  have HE0 := Lib.hid he; have HI0 := Lib.hid hi; clear he hi
  clear x0 x2 x3 hu
  go_enter Try.func37, Try.ntmps37
  go_wp2_with fail
  refine (g0SRID b r _ (up_cell X3.out ((Grow.refl w).alloc _))).mono ?_
  rintro e w' ⟨rfl, rfl⟩
  go_wp2_with fail
  have HA := Lib.hid ((((Grow.refl w).alloc (Obj.cells #[.int .i64 0, .int .i64 0, .int .i64 0, .slice none 0 0, .slice none 0 0, .slice none 0 0, .slice none 0 0] 28)).alloc (Obj.cells #[.int .i64 3, .int .i64 0, .int .i64 r, .slice none 0 0, .slice none 0 0, .slice none 0 0, .slice none 0 0] 28)))
  refine (g0Layout b l _ (up_cell X0.out HA.out)).mono ?_
  rintro e w' ⟨rfl, rfl⟩
  go_wp2_with fail
  refine (g0Flat b A n c _ (up_cell X2.out HA.out)).mono ?_
  rintro e w' ⟨rfl, rfl⟩
  go_wp2_with fail
  refine (floats_calls44 _ fl _ (FSl.up _ _ HU.out HA.out) hl).mono ?_
  rintro e w1 ⟨V1, rfl, hg1, hown1⟩
  have HO1 := Lib.hid hown1; have HG1 := Lib.hid hg1
  obtain ⟨A5, n5, c5, rfl⟩ := VOwn.isSl hown1
  clear hg1 hown1
  go_wp2_with fail
  refine (p2Ends b _ _ _ _ (up_cell HE0.out (HA.out.trans HG1.out))).mono ?_
  rintro e w' ⟨rfl, rfl⟩
  go_wp2_with fail
  refine (ints_calls _ en _ (ISl.up _ _ HI0.out (HA.out.trans HG1.out)) hil).mono ?_
  rintro e w2 ⟨V2, rfl, hg2, hown2⟩
  have HO2 := Lib.hid hown2; have HG2 := Lib.hid hg2
  obtain ⟨A6, n6, c6, rfl⟩ := VOwn.isSl hown2
  clear hg2 hown2
  go_wp2_with fail
  refine (p0Endss b _).mono ?_
  rintro e w' ⟨rfl, rfl⟩
  go_wp2_with fail
  refine (intss_calls _ [] _ (ISSl.nil) (by simp) (by simp)).mono ?_
  rintro e w3 ⟨V3, rfl, hg3, hown3⟩
  have HO3 := Lib.hid hown3; have HG3 := Lib.hid hg3
  obtain ⟨A7, n7, c7, rfl⟩ : ∃ A n c, V3 = .slice A n c := by obtain ⟨us, h1, -⟩ := hown3; exact VOwn.isSl h1
  have hg := HG1.out.trans (HG2.out.trans hg3)
  clear hg3 hown3
  have r0 := up_cell (a := ⟨w.heap.size, 0, none⟩) (v := .int .i64 0) (by go_simp) hg
  have r1 := up_cell (a := ⟨w.heap.size, 1, none⟩) (v := .int .i64 0) (by go_simp) hg
  have r2 := up_cell (a := ⟨w.heap.size, 2, none⟩) (v := .int .i64 0) (by go_simp) hg
  have r3 := up_cell (a := ⟨w.heap.size, 3, none⟩) (v := .slice none 0 0) (by go_simp) hg
  have r4 := up_cell (a := ⟨w.heap.size, 4, none⟩) (v := .slice none 0 0) (by go_simp) hg
  have r5 := up_cell (a := ⟨w.heap.size, 5, none⟩) (v := .slice none 0 0) (by go_simp) hg
  have r6 := up_cell (a := ⟨w.heap.size, 6, none⟩) (v := .slice none 0 0) (by go_simp) hg
  have q0 := up_cell (a := ⟨w.heap.size + 1, 0, none⟩) (v := .int .i64 3) (by go_simp) hg
  have q1 := up_cell (a := ⟨w.heap.size + 1, 1, none⟩) (v := .int .i64 0) (by go_simp) hg
  have q2 := up_cell (a := ⟨w.heap.size + 1, 2, none⟩) (v := .int .i64 r) (by go_simp) hg
  have q3 := up_cell (a := ⟨w.heap.size + 1, 3, none⟩) (v := .slice none 0 0) (by go_simp) hg
  have q4 := up_cell (a := ⟨w.heap.size + 1, 4, none⟩) (v := .slice none 0 0) (by go_simp) hg
  have q5 := up_cell (a := ⟨w.heap.size + 1, 5, none⟩) (v := .slice none 0 0) (by go_simp) hg
  have q6 := up_cell (a := ⟨w.heap.size + 1, 6, none⟩) (v := .slice none 0 0) (by go_simp) hg
  have f1 : ∀ o, w3.frozen? ⟨w.heap.size, o, none⟩ = false := fun o => (grow_frozen hg _ _ (by simp <;> omega)).trans (by go_simp)
  have f2 : ∀ o, w3.frozen? ⟨w.heap.size + 1, o, none⟩ = false := fun o => (grow_frozen hg _ _ (by simp <;> omega)).trans (by go_simp)
  have HG := Lib.hid (HA.out.trans hg)
  have hb1 := HG1.out.size
  have hb2 := Nat.le_trans hb1 HG2.out.size
  simp only [World.size_alloc] at hb1 hb2
  have HB1 := Lib.hid hb1; have HB2 := Lib.hid hb2
  clear hb1 hb2
  have HO1' := Lib.hid (VOwn.up _ _ (VOwn.up _ _ HO1.out HG2.out) HG3.out)
  have HO2' := Lib.hid (IOwn.up _ _ HO2.out HG3.out)
  clear hg
  go_wp2
  refine bodyPost_ret (v := GeoF 3 l r (.slice A5 n5 c5) (.slice A6 n6 c6) (.slice A7 n7 c7) (.slice none 0 0)) (by simp [results, Try.results37, go_sem, r0, r1, r2, r3, r4, r5, r6, q0, q1, q2, q3, q4, q5, q6]) rfl ?_
  refine PQ.mk (B := w.heap.size + 2) (by omega) ?_ ?_ ?_ ?_
  · exact (((((((((((HG.out).setCell (by simp <;> omega) _).setCell (by simp <;> omega) _).setCell (by simp <;> omega) _).setCell (by simp <;> omega) _).setCell (by simp <;> omega) _).setCell (by simp <;> omega) _).setCell (by simp <;> omega) _).setCell (by simp <;> omega) _).setCell (by simp <;> omega) _).setCell (by simp <;> omega) _).setCell (by simp <;> omega) _
  · exact (((((((((((VOwn.mono HO1'.out (by simp)).setCell (by simp <;> omega) _).setCell (by simp <;> omega) _).setCell (by simp <;> omega) _).setCell (by simp <;> omega) _).setCell (by simp <;> omega) _).setCell (by simp <;> omega) _).setCell (by simp <;> omega) _).setCell (by simp <;> omega) _).setCell (by simp <;> omega) _).setCell (by simp <;> omega) _).setCell (by simp <;> omega) _
  · exact (((((((((((VOwn.mono HO2'.out HB1.out).setCell (by simp <;> omega) _).setCell (by simp <;> omega) _).setCell (by simp <;> omega) _).setCell (by simp <;> omega) _).setCell (by simp <;> omega) _).setCell (by simp <;> omega) _).setCell (by simp <;> omega) _).setCell (by simp <;> omega) _).setCell (by simp <;> omega) _).setCell (by simp <;> omega) _).setCell (by simp <;> omega) _
  · exact (((((((((((IIOwn.mono HO3.out HB2.out).setCell (by simp <;> omega) _).setCell (by simp <;> omega) _).setCell (by simp <;> omega) _).setCell (by simp <;> omega) _).setCell (by simp <;> omega) _).setCell (by simp <;> omega) _).setCell (by simp <;> omega) _).setCell (by simp <;> omega) _).setCell (by simp <;> omega) _).setCell (by simp <;> omega) _).setCell (by simp <;> omega) _
theorem mSRID4 (b : Nat) (w : World) : (method 293 70 (.pointer (some ⟨b, 0, none⟩)) "SRID").run Try.prog w = .ok (129, .pointer (some ⟨b, 0, none⟩)) w := by kernel_rfl
theorem mLayout4 (b : Nat) (w : World) : (method 293 70 (.pointer (some ⟨b, 0, none⟩)) "Layout").run Try.prog w = .ok (126, .pointer (some ⟨b, 0, none⟩)) w := by kernel_rfl
theorem mFlatCoords4 (b : Nat) (w : World) : (method 293 70 (.pointer (some ⟨b, 0, none⟩)) "FlatCoords").run Try.prog w = .ok (125, .pointer (some ⟨b, 0, none⟩)) w := by kernel_rfl
theorem mEnds4 (b : Nat) (w : World) : (method 293 70 (.pointer (some ⟨b, 0, none⟩)) "Ends").run Try.prog w = .ok (123, .pointer (some ⟨b, 0, none⟩)) w := by kernel_rfl
theorem mEndss4 (b : Nat) (w : World) : (method 293 70 (.pointer (some ⟨b, 0, none⟩)) "Endss").run Try.prog w = .ok (124, .pointer (some ⟨b, 0, none⟩)) w := by kernel_rfl

set_option maxRecDepth 100000 in
set_option maxHeartbeats 8000000 in
theorem plain4 (b : Nat) (l r s : Int) (A n c : _) (fl : List Nat) (A2 : Option Addr) (n2 c2 : Nat) (en : List Int) (w : World) (ho : Obj4 b l s r (.slice A n c) w) (hu : FSl (.slice A n c) fl w) (hl : fl.length ≤ 17592186044416) (he : w.cell? ⟨b, 4, none⟩ = some (.slice A2 n2 c2)) (hi : ISl (.slice A2 n2 c2) en w) (hil : en.length ≤ 17592186044416) :
    Calls Try.prog 37 #[.iface 70 (.pointer (some ⟨b, 0, none⟩))] w (PQ (.mk 4 l r fl en [] []) w) := by
  have m1 := mSRID4 b; have m2 := mLayout4 b; have m3 := mFlatCoords4 b; have m4 := mEnds4 b; have m5 := mEndss4 b
  obtain ⟨x0, -, x2, x3, -⟩ := ho
  have hb := cell_ltH x0
  have X0 := Lib.hid x0; have X2 := Lib.hid x2; have X3 := Lib.hid x3; have HU := Lib.hid hu
  have HE0 := Lib.hid he; have HI0 := Lib.hid hi; clear he hi
  clear x0 x2 x3 hu
  go_enter Try.func37, Try.ntmps37
  go_wp2_with fail
  refine (g0SRID b r _ (up_cell X3.out ((Grow.refl w).alloc _))).mono ?_
  rintro e w' ⟨rfl, rfl⟩
  go_wp2_with fail
  have HA := Lib.hid ((((Grow.refl w).alloc (Obj.cells #[.int .i64 0, .int .i64 0, .int .i64 0, .slice none 0 0, .slice none 0 0, .slice none 0 0, .slice none 0 0] 28)).alloc (Obj.cells #[.int .i64 4, .int .i64 0, .int .i64 r, .slice none 0 0, .slice none 0 0, .slice none 0 0, .slice none 0 0] 28)))
  refine (g0Layout b l _ (up_cell X0.out HA.out)).mono ?_
  rintro e w' ⟨rfl, rfl⟩
  go_wp2_with fail
  refine (g0Flat b A n c _ (up_cell X2.out HA.out)).mono ?_
  rintro e w' ⟨rfl, rfl⟩
  go_wp2_with fail
  refine (floats_calls44 _ fl _ (FSl.up _ _ HU.out HA.out) hl).mono ?_
  rintro e w1 ⟨V1, rfl, hg1, hown1⟩
  have HO1 := Lib.hid hown1; have HG1 := Lib.hid hg1
  obtain ⟨A5, n5, c5, rfl⟩ := VOwn.isSl hown1
  clear hg1 hown1
  go_wp2_with fail
  refine (p2Ends b _ _ _ _ (up_cell HE0.out (HA.out.trans HG1.out))).mono ?_
  rintro e w' ⟨rfl, rfl⟩
  go_wp2_with fail
  refine (ints_calls _ en _ (ISl.up _ _ HI0.out (HA.out.trans HG1.out)) hil).mono ?_
  rintro e w2 ⟨V2, rfl, hg2, hown2⟩
  have HO2 := Lib.hid hown2; have HG2 := Lib.hid hg2
  obtain ⟨A6, n6, c6, rfl⟩ := VOwn.isSl hown2
  clear hg2 hown2
  go_wp2_with fail
  refine (p0Endss b _).mono ?_
  rintro e w' ⟨rfl, rfl⟩
  go_wp2_with fail
  refine (intss_calls _ [] _ (ISSl.nil) (by simp) (by simp)).mono ?_
  rintro e w3 ⟨V3, rfl, hg3, hown3⟩
  have HO3 := Lib.hid hown3; have HG3 := Lib.hid hg3
  obtain ⟨A7, n7, c7, rfl⟩ : ∃ A n c, V3 = .slice A n c := by obtain ⟨us, h1, -⟩ := hown3; exact VOwn.isSl h1
  have hg := HG1.out.trans (HG2.out.trans hg3)
  clear hg3 hown3
  have r0 := up_cell (a := ⟨w.heap.size, 0, none⟩) (v := .int .i64 0) (by go_simp) hg
  have r1 := up_cell (a := ⟨w.heap.size, 1, none⟩) (v := .int .i64 0) (by go_simp) hg
  have r2 := up_cell (a := ⟨w.heap.size, 2, none⟩) (v := .int .i64 0) (by go_simp) hg
  have r3 := up_cell (a := ⟨w.heap.size, 3, none⟩) (v := .slice none 0 0) (by go_simp) hg
  have r4 := up_cell (a := ⟨w.heap.size, 4, none⟩) (v := .slice none 0 0) (by go_simp) hg
  have r5 := up_cell (a := ⟨w.heap.size, 5, none⟩) (v := .slice none 0 0) (by go_simp) hg
  have r6 := up_cell (a := ⟨w.heap.size, 6, none⟩) (v := .slice none 0 0) (by go_simp) hg
  have q0 := up_cell (a := ⟨w.heap.size + 1, 0, none⟩) (v := .int .i64 4) (by go_simp) hg
  have q1 := up_cell (a := ⟨w.heap.size + 1, 1, none⟩) (v := .int .i64 0) (by go_simp) hg
  have q2 := up_cell (a := ⟨w.heap.size + 1, 2, none⟩) (v := .int .i64 r) (by go_simp) hg
  have q3 := up_cell (a := ⟨w.heap.size + 1, 3, none⟩) (v := .slice none 0 0) (by go_simp) hg
  have q4 := up_cell (a := ⟨w.heap.size + 1, 4, none⟩) (v := .slice none 0 0) (by go_simp) hg
  have q5 := up_cell (a := ⟨w.heap.size + 1, 5, none⟩) (v := .slice none 0 0) (by go_simp) hg
  have q6 := up_cell (a := ⟨w.heap.size + 1, 6, none⟩) (v := .slice none 0 0) (by go_simp) hg
  have f1 : ∀ o, w3.frozen? ⟨w.heap.size, o, none⟩ = false := fun o => (grow_frozen hg _ _ (by simp <;> omega)).trans (by go_simp)
  have f2 : ∀ o, w3.frozen? ⟨w.heap.size + 1, o, none⟩ = false := fun o => (grow_frozen hg _ _ (by simp <;> omega)).trans (by go_simp)
  have HG := Lib.hid (HA.out.trans hg)
  have hb1 := HG1.out.size
  have hb2 := Nat.le_trans hb1 HG2.out.size
  simp only [World.size_alloc] at hb1 hb2
  have HB1 := Lib.hid hb1; have HB2 := Lib.hid hb2
  clear hb1 hb2
  have HO1' := Lib.hid (VOwn.up _ _ (VOwn.up _ _ HO1.out HG2.out) HG3.out)
  have HO2' := Lib.hid (IOwn.up _ _ HO2.out HG3.out)
  clear hg
  go_wp2
  refine bodyPost_ret (v := GeoF 4 l r (.slice A5 n5 c5) (.slice A6 n6 c6) (.slice A7 n7 c7) (.slice none 0 0)) (by simp [results, Try.results37, go_sem, r0, r1, r2, r3, r4, r5, r6, q0, q1, q2, q3, q4, q5, q6]) rfl ?_
  refine PQ.mk (B := w.heap.size + 2) (by omega) ?_ ?_ ?_ ?_
  · exact (((((((((((HG.out).setCell (by simp <;> omega) _).setCell (by simp <;> omega) _).setCell (by simp <;> omega) _).setCell (by simp <;> omega) _).setCell (by simp <;> omega) _).setCell (by simp <;> omega) _).setCell (by simp <;> omega) _).setCell (by simp <;> omega) _).setCell (by simp <;> omega) _).setCell (by simp <;> omega) _).setCell (by simp <;> omega) _
  · exact (((((((((((VOwn.mono HO1'.out (by simp)).setCell (by simp <;> omega) _).setCell (by simp <;> omega) _).setCell (by simp <;> omega) _).setCell (by simp <;> omega) _).setCell (by simp <;> omega) _).setCell (by simp <;> omega) _).setCell (by simp <;> omega) _).setCell (by simp <;> omega) _).setCell (by simp <;> omega) _).setCell (by simp <;> omega) _).setCell (by simp <;> omega) _
  · exact (((((((((((VOwn.mono HO2'.out HB1.out).setCell (by simp <;> omega) _).setCell (by simp <;> omega) _).setCell (by simp <;> omega) _).setCell (by simp <;> omega) _).setCell (by simp <;> omega) _).setCell (by simp <;> omega) _).setCell (by simp <;> omega) _).setCell (by simp <;> omega) _).setCell (by simp <;> omega) _).setCell (by simp <;> omega) _).setCell (by simp <;> omega) _
  · exact (((((((((((IIOwn.mono HO3.out HB2.out).setCell (by simp <;> omega) _).setCell (by simp <;> omega) _).setCell (by simp <;> omega) _).setCell (by simp <;> omega) _).setCell (by simp <;> omega) _).setCell (by simp <;> omega) _).setCell (by simp <;> omega) _).setCell (by simp <;> omega) _).setCell (by simp <;> omega) _).setCell (by simp <;> omega) _).setCell (by simp <;> omega) _
theorem mSRID5 (b : Nat) (w : World) : (method 293 73 (.pointer (some ⟨b, 0, none⟩)) "SRID").run Try.prog w = .ok (129, .pointer (some ⟨b, 0, none⟩)) w := by kernel_rfl
theorem mLayout5 (b : Nat) (w : World) : (method 293 73 (.pointer (some ⟨b, 0, none⟩)) "Layout").run Try.prog w = .ok (126, .pointer (some ⟨b, 0, none⟩)) w := by kernel_rfl
theorem mFlatCoords5 (b : Nat) (w : World) : (method 293 73 (.pointer (some ⟨b, 0, none⟩)) "FlatCoords").run Try.prog w = .ok (125, .pointer (some ⟨b, 0, none⟩)) w := by kernel_rfl
theorem mEnds5 (b : Nat) (w : World) : (method 293 73 (.pointer (some ⟨b, 0, none⟩)) "Ends").run Try.prog w = .ok (123, .pointer (some ⟨b, 0, none⟩)) w := by kernel_rfl
theorem mEndss5 (b : Nat) (w : World) : (method 293 73 (.pointer (some ⟨b, 0, none⟩)) "Endss").run Try.prog w = .ok (124, .pointer (some ⟨b, 0, none⟩)) w := by kernel_rfl

set_option maxRecDepth 100000 in
set_option maxHeartbeats 8000000 in
theorem plain5 (b : Nat) (l r s : Int) (A n c : _) (fl : List Nat) (A2 : Option Addr) (n2 c2 : Nat) (en : List Int) (w : World) (ho : Obj4 b l s r (.slice A n c) w) (hu : FSl (.slice A n c) fl w) (hl : fl.length ≤ 17592186044416) (he : w.cell? ⟨b, 4, none⟩ = some (.slice A2 n2 c2)) (hi : ISl (.slice A2 n2 c2) en w) (hil : en.length ≤ 17592186044416) :
    Calls Try.prog 37 #[.iface 73 (.pointer (some ⟨b, 0, none⟩))] w (PQ (.mk 5 l r fl en [] []) w) := by
  have m1 := mSRID5 b; have m2 := mLayout5 b; have m3 := mFlatCoords5 b; have m4 := mEnds5 b; have m5 := mEndss5 b
  obtain ⟨x0, -, x2, x3, -⟩ := ho
  have hb := cell_ltH x0
  have X0 := Lib.hid x0; have X2 := Lib.hid x2; have X3 := Lib.hid x3; have HU := Lib.hid hu
  have HE0 := Lib.hid he; have HI0 := Lib.hid hi; clear he hi
  clear x0 x2 x3 hu
  go_enter Try.func37, Try.ntmps37
  go_wp2_with fail
  refine (g0SRID b r _ (up_cell X3.out ((Grow.refl w).alloc _))).mono ?_
  rintro e w' ⟨rfl, rfl⟩
  go_wp2_with fail
  have HA := Lib.hid ((((Grow.refl w).alloc (Obj.cells #[.int .i64 0, .int .i64 0, .int .i64 0, .slice none 0 0, .slice none 0 0, .slice none 0 0, .slice none 0 0] 28)).alloc (Obj.cells #[.int .i64 5, .int .i64 0, .int .i64 r, .slice none 0 0, .slice none 0 0, .slice none 0 0, .slice none 0 0] 28)))
  refine (g0Layout b l _ (up_cell X0.out HA.out)).mono ?_
  rintro e w' ⟨rfl, rfl⟩
  go_wp2_with fail
  refine (g0Flat b A n c _ (up_cell X2.out HA.out)).mono ?_
  rintro e w' ⟨rfl, rfl⟩
  go_wp2_with fail
  refine (floats_calls44 _ fl _ (FSl.up _ _ HU.out HA.out) hl).mono ?_
  rintro e w1 ⟨V1, rfl, hg1, hown1⟩
  have HO1 := Lib.hid hown1; have HG1 := Lib.hid hg1
  obtain ⟨A5, n5, c5, rfl⟩ := VOwn.isSl hown1
  clear hg1 hown1
  go_wp2_with fail
  refine (p2Ends b _ _ _ _ (up_cell HE0.out (HA.out.trans HG1.out))).mono ?_
  rintro e w' ⟨rfl, rfl⟩
  go_wp2_with fail
  refine (ints_calls _ en _ (ISl.up _ _ HI0.out (HA.out.trans HG1.out)) hil).mono ?_
  rintro e w2 ⟨V2, rfl, hg2, hown2⟩
  have HO2 := Lib.hid hown2; have HG2 := Lib.hid hg2
  obtain ⟨A6, n6, c6, rfl⟩ := VOwn.isSl hown2
  clear hg2 hown2
  go_wp2_with fail
  refine (p0Endss b _).mono ?_
  rintro e w' ⟨rfl, rfl⟩
  go_wp2_with fail
  refine (intss_calls _ [] _ (ISSl.nil) (by simp) (by simp)).mono ?_
  rintro e w3 ⟨V3, rfl, hg3, hown3⟩
  have HO3 := Lib.hid hown3; have HG3 := Lib.hid hg3
  obtain ⟨A7, n7, c7, rfl⟩ : ∃ A n c, V3 = .slice A n c := by obtain ⟨us, h1, -⟩ := hown3; exact VOwn.isSl h1
  have hg := HG1.out.trans (HG2.out.trans hg3)
  clear hg3 hown3
  have r0 := up_cell (a := ⟨w.heap.size, 0, none⟩) (v := .int .i64 0) (by go_simp) hg
  have r1 := up_cell (a := ⟨w.heap.size, 1, none⟩) (v := .int .i64 0) (by go_simp) hg
  have r2 := up_cell (a := ⟨w.heap.size, 2, none⟩) (v := .int .i64 0) (by go_simp) hg
  have r3 := up_cell (a := ⟨w.heap.size, 3, none⟩) (v := .slice none 0 0) (by go_simp) hg
  have r4 := up_cell (a := ⟨w.heap.size, 4, none⟩) (v := .slice none 0 0) (by go_simp) hg
  have r5 := up_cell (a := ⟨w.heap.size, 5, none⟩) (v := .slice none 0 0) (by go_simp) hg
  have r6 := up_cell (a := ⟨w.heap.size, 6, none⟩) (v := .slice none 0 0) (by go_simp) hg
  have q0 := up_cell (a := ⟨w.heap.size + 1, 0, none⟩) (v := .int .i64 5) (by go_simp) hg
  have q1 := up_cell (a := ⟨w.heap.size + 1, 1, none⟩) (v := .int .i64 0) (by go_simp) hg
  have q2 := up_cell (a := ⟨w.heap.size + 1, 2, none⟩) (v := .int .i64 r) (by go_simp) hg
  have q3 := up_cell (a := ⟨w.heap.size + 1, 3, none⟩) (v := .slice none 0 0) (by go_simp) hg
  have q4 := up_cell (a := ⟨w.heap.size + 1, 4, none⟩) (v := .slice none 0 0) (by go_simp) hg
  have q5 := up_cell (a := ⟨w.heap.size + 1, 5, none⟩) (v := .slice none 0 0) (by go_simp) hg
  have q6 := up_cell (a := ⟨w.heap.size + 1, 6, none⟩) (v := .slice none 0 0) (by go_simp) hg
  have f1 : ∀ o, w3.frozen? ⟨w.heap.size, o, none⟩ = false := fun o => (grow_frozen hg _ _ (by simp <;> omega)).trans (by go_simp)
  have f2 : ∀ o, w3.frozen? ⟨w.heap.size + 1, o, none⟩ = false := fun o => (grow_frozen hg _ _ (by simp <;> omega)).trans (by go_simp)
  have HG := Lib.hid (HA.out.trans hg)
  have hb1 := HG1.out.size
  have hb2 := Nat.le_trans hb1 HG2.out.size
  simp only [World.size_alloc] at hb1 hb2
  have HB1 := Lib.hid hb1; have HB2 := Lib.hid hb2
  clear hb1 hb2
  have HO1' := Lib.hid (VOwn.up _ _ (VOwn.up _ _ HO1.out HG2.out) HG3.out)
  have HO2' := Lib.hid (IOwn.up _ _ HO2.out HG3.out)
  clear hg
  go_wp2
  refine bodyPost_ret (v := GeoF 5 l r (.slice A5 n5 c5) (.slice A6 n6 c6) (.slice A7 n7 c7) (.slice none 0 0)) (by simp [results, Try.results37, go_sem, r0, r1, r2, r3, r4, r5, r6, q0, q1, q2, q3, q4, q5, q6]) rfl ?_
  refine PQ.mk (B := w.heap.size + 2) (by omega) ?_ ?_ ?_ ?_
  · exact (((((((((((HG.out).setCell (by simp <;> omega) _).setCell (by simp <;> omega) _).setCell (by simp <;> omega) _).setCell (by simp <;> omega) _).setCell (by simp <;> omega) _).setCell (by simp <;> omega) _).setCell (by simp <;> omega) _).setCell (by simp <;> omega) _).setCell (by simp <;> omega) _).setCell (by simp <;> omega) _).setCell (by simp <;> omega) _
  · exact (((((((((((VOwn.mono HO1'.out (by simp)).setCell (by simp <;> omega) _).setCell (by simp <;> omega) _).setCell (by simp <;> omega) _).setCell (by simp <;> omega) _).setCell (by simp <;> omega) _).setCell (by simp <;> omega) _).setCell (by simp <;> omega) _).setCell (by simp <;> omega) _).setCell (by simp <;> omega) _).setCell (by simp <;> omega) _).setCell (by simp <;> omega) _
  · exact (((((((((((VOwn.mono HO2'.out HB1.out).setCell (by simp <;> omega) _).setCell (by simp <;> omega) _).setCell (by simp <;> omega) _).setCell (by simp <;> omega) _).setCell (by simp <;> omega) _).setCell (by simp <;> omega) _).setCell (by simp <;> omega) _).setCell (by simp <;> omega) _).setCell (by simp <;> omega) _).setCell (by simp <;> omega) _).setCell (by simp <;> omega) _
  · exact (((((((((((IIOwn.mono HO3.out HB2.out).setCell (by simp <;> omega) _).setCell (by simp <;> omega) _).setCell (by simp <;> omega) _).setCell (by simp <;> omega) _).setCell (by simp <;> omega) _).setCell (by simp <;> omega) _).setCell (by simp <;> omega) _).setCell (by simp <;> omega) _).setCell (by simp <;> omega) _).setCell (by simp <;> omega) _).setCell (by simp <;> omega) _
theorem mSRID6 (b : Nat) (w : World) : (method 293 76 (.pointer (some ⟨b, 0, none⟩)) "SRID").run Try.prog w = .ok (129, .pointer (some ⟨b, 0, none⟩)) w := by kernel_rfl
theorem mLayout6 (b : Nat) (w : World) : (method 293 76 (.pointer (some ⟨b, 0, none⟩)) "Layout").run Try.prog w = .ok (126, .pointer (some ⟨b, 0, none⟩)) w := by kernel_rfl
theorem mFlatCoords6 (b : Nat) (w : World) : (method 293 76 (.pointer (some ⟨b, 0, none⟩)) "FlatCoords").run Try.prog w = .ok (125, .pointer (some ⟨b, 0, none⟩)) w := by kernel_rfl
theorem mEnds6 (b : Nat) (w : World) : (method 293 76 (.pointer (some ⟨b, 0, none⟩)) "Ends").run Try.prog w = .ok (145, .pointer (some ⟨b, 0, none⟩)) w := by kernel_rfl
theorem mEndss6 (b : Nat) (w : World) : (method 293 76 (.pointer (some ⟨b, 0, none⟩)) "Endss").run Try.prog w = .ok (153, .pointer (some ⟨b, 0, none⟩)) w := by kernel_rfl

set_option maxRecDepth 100000 in
set_option maxHeartbeats 8000000 in
theorem plain6 (b : Nat) (l r s : Int) (A n c : _) (fl : List Nat) (A2 : Option Addr) (n2 c2 : Nat) (ens : List (List Int)) (w : World) (ho : Obj4 b l s r (.slice A n c) w) (hu : FSl (.slice A n c) fl w) (hl : fl.length ≤ 17592186044416) (he : w.cell? ⟨b, 4, none⟩ = some (.slice A2 n2 c2)) (hi : ISSl (.slice A2 n2 c2) ens w) (hil : ens.length ≤ 5864062014805) (hil2 : ∀ l ∈ ens, l.length ≤ 17592186044416) :
    Calls Try.prog 37 #[.iface 76 (.pointer (some ⟨b, 0, none⟩))] w (PQ (.mk 6 l r fl [] ens []) w) := by
  have m1 := mSRID6 b; have m2 := mLayout6 b; have m3 := mFlatCoords6 b; have m4 := mEnds6 b; have m5 := mEndss6 b
  obtain ⟨x0, -, x2, x3, -⟩ := ho
  have hb := cell_ltH x0
  have X0 := Lib.hid x0; have X2 := Lib.hid x2; have X3 := Lib.hid x3; have HU := Lib.hid hu
  have HE0 := Lib.hid he; have HI0 := Lib.hid hi; have HL2 := Lib.hid hil2; clear he hi hil2
  clear x0 x2 x3 hu
  go_enter Try.func37, Try.ntmps37
  go_wp2_with fail
  refine (g0SRID b r _ (up_cell X3.out ((Grow.refl w).alloc _))).mono ?_
  rintro e w' ⟨rfl, rfl⟩
  go_wp2_with fail
  have HA := Lib.hid ((((Grow.refl w).alloc (Obj.cells #[.int .i64 0, .int .i64 0, .int .i64 0, .slice none 0 0, .slice none 0 0, .slice none 0 0, .slice none 0 0] 28)).alloc (Obj.cells #[.int .i64 6, .int .i64 0, .int .i64 r, .slice none 0 0, .slice none 0 0, .slice none 0 0, .slice none 0 0] 28)))
  refine (g0Layout b l _ (up_cell X0.out HA.out)).mono ?_
  rintro e w' ⟨rfl, rfl⟩
  go_wp2_with fail
  refine (g0Flat b A n c _ (up_cell X2.out HA.out)).mono ?_
  rintro e w' ⟨rfl, rfl⟩
  go_wp2_with fail
  refine (floats_calls44 _ fl _ (FSl.up _ _ HU.out HA.out) hl).mono ?_
  rintro e w1 ⟨V1, rfl, hg1, hown1⟩
  have HO1 := Lib.hid hown1; have HG1 := Lib.hid hg1
  obtain ⟨A5, n5, c5, rfl⟩ := VOwn.isSl hown1
  clear hg1 hown1
  go_wp2_with fail
  refine (p0Ends b _).mono ?_
  rintro e w' ⟨rfl, rfl⟩
  go_wp2_with fail
  refine (ints_calls _ [] _ (ISl.nil) (by simp)).mono ?_
  rintro e w2 ⟨V2, rfl, hg2, hown2⟩
  have HO2 := Lib.hid hown2; have HG2 := Lib.hid hg2
  obtain ⟨A6, n6, c6, rfl⟩ := VOwn.isSl hown2
  clear hg2 hown2
  go_wp2_with fail
  refine (p3Endss b _ _ _ _ (up_cell HE0.out (HA.out.trans (HG1.out.trans HG2.out)))).mono ?_
  rintro e w' ⟨rfl, rfl⟩
  go_wp2_with fail
  refine (intss_calls _ ens _ (ISSl.up _ _ HI0.out (HA.out.trans (HG1.out.trans HG2.out))) hil (fun i xs hx => HL2.out xs (List.mem_of_getElem? hx))).mono ?_
  rintro e w3 ⟨V3, rfl, hg3, hown3⟩
  have HO3 := Lib.hid hown3; have HG3 := Lib.hid hg3
  obtain ⟨A7, n7, c7, rfl⟩ : ∃ A n c, V3 = .slice A n c := by obtain ⟨us, h1, -⟩ := hown3; exact VOwn.isSl h1
  have hg := HG1.out.trans (HG2.out.trans hg3)
  clear hg3 hown3
  have r0 := up_cell (a := ⟨w.heap.size, 0, none⟩) (v := .int .i64 0) (by go_simp) hg
  have r1 := up_cell (a := ⟨w.heap.size, 1, none⟩) (v := .int .i64 0) (by go_simp) hg
  have r2 := up_cell (a := ⟨w.heap.size, 2, none⟩) (v := .int .i64 0) (by go_simp) hg
  have r3 := up_cell (a := ⟨w.heap.size, 3, none⟩) (v := .slice none 0 0) (by go_simp) hg
  have r4 := up_cell (a := ⟨w.heap.size, 4, none⟩) (v := .slice none 0 0) (by go_simp) hg
  have r5 := up_cell (a := ⟨w.heap.size, 5, none⟩) (v := .slice none 0 0) (by go_simp) hg
  have r6 := up_cell (a := ⟨w.heap.size, 6, none⟩) (v := .slice none 0 0) (by go_simp) hg
  have q0 := up_cell (a := ⟨w.heap.size + 1, 0, none⟩) (v := .int .i64 6) (by go_simp) hg
  have q1 := up_cell (a := ⟨w.heap.size + 1, 1, none⟩) (v := .int .i64 0) (by go_simp) hg
  have q2 := up_cell (a := ⟨w.heap.size + 1, 2, none⟩) (v := .int .i64 r) (by go_simp) hg
  have q3 := up_cell (a := ⟨w.heap.size + 1, 3, none⟩) (v := .slice none 0 0) (by go_simp) hg
  have q4 := up_cell (a := ⟨w.heap.size + 1, 4, none⟩) (v := .slice none 0 0) (by go_simp) hg
  have q5 := up_cell (a := ⟨w.heap.size + 1, 5, none⟩) (v := .slice none 0 0) (by go_simp) hg
  have q6 := up_cell (a := ⟨w.heap.size + 1, 6, none⟩) (v := .slice none 0 0) (by go_simp) hg
  have f1 : ∀ o, w3.frozen? ⟨w.heap.size, o, none⟩ = false := fun o => (grow_frozen hg _ _ (by simp <;> omega)).trans (by go_simp)
  have f2 : ∀ o, w3.frozen? ⟨w.heap.size + 1, o, none⟩ = false := fun o => (grow_frozen hg _ _ (by simp <;> omega)).trans (by go_simp)
  have HG := Lib.hid (HA.out.trans hg)
  have hb1 := HG1.out.size
  have hb2 := Nat.le_trans hb1 HG2.out.size
  simp only [World.size_alloc] at hb1 hb2
  have HB1 := Lib.hid hb1; have HB2 := Lib.hid hb2
  clear hb1 hb2
  have HO1' := Lib.hid (VOwn.up _ _ (VOwn.up _ _ HO1.out HG2.out) HG3.out)
  have HO2' := Lib.hid (IOwn.up _ _ HO2.out HG3.out)
  clear hg
  go_wp2
  refine bodyPost_ret (v := GeoF 6 l r (.slice A5 n5 c5) (.slice A6 n6 c6) (.slice A7 n7 c7) (.slice none 0 0)) (by simp [results, Try.results37, go_sem, r0, r1, r2, r3, r4, r5, r6, q0, q1, q2, q3, q4, q5, q6]) rfl ?_
  refine PQ.mk (B := w.heap.size + 2) (by omega) ?_ ?_ ?_ ?_
  · exact (((((((((((HG.out).setCell (by simp <;> omega) _).setCell (by simp <;> omega) _).setCell (by simp <;> omega) _).setCell (by simp <;> omega) _).setCell (by simp <;> omega) _).setCell (by simp <;> omega) _).setCell (by simp <;> omega) _).setCell (by simp <;> omega) _).setCell (by simp <;> omega) _).setCell (by simp <;> omega) _).setCell (by simp <;> omega) _
  · exact (((((((((((VOwn.mono HO1'.out (by simp)).setCell (by simp <;> omega) _).setCell (by simp <;> omega) _).setCell (by simp <;> omega) _).setCell (by simp <;> omega) _).setCell (by simp <;> omega) _).setCell (by simp <;> omega) _).setCell (by simp <;> omega) _).setCell (by simp <;> omega) _).setCell (by simp <;> omega) _).setCell (by simp <;> omega) _).setCell (by simp <;> omega) _
  · exact (((((((((((VOwn.mono HO2'.out HB1.out).setCell (by simp <;> omega) _).setCell (by simp <;> omega) _).setCell (by simp <;> omega) _).setCell (by simp <;> omega) _).setCell (by simp <;> omega) _).setCell (by simp <;> omega) _).setCell (by simp <;> omega) _).setCell (by simp <;> omega) _).setCell (by simp <;> omega) _).setCell (by simp <;> omega) _).setCell (by simp <;> omega) _
  · exact (((((((((((IIOwn.mono HO3.out HB2.out).setCell (by simp <;> omega) _).setCell (by simp <;> omega) _).setCell (by simp <;> omega) _).setCell (by simp <;> omega) _).setCell (by simp <;> omega) _).setCell (by simp <;> omega) _).setCell (by simp <;> omega) _).setCell (by simp <;> omega) _).setCell (by simp <;> omega) _).setCell (by simp <;> omega) _).setCell (by simp <;> omega) _
theorem mSRID8 (b : Nat) (w : World) : (method 293 68 (.pointer (some ⟨b, 0, none⟩)) "SRID").run Try.prog w = .ok (129, .pointer (some ⟨b, 0, none⟩)) w := by kernel_rfl
theorem mLayout8 (b : Nat) (w : World) : (method 293 68 (.pointer (some ⟨b, 0, none⟩)) "Layout").run Try.prog w = .ok (126, .pointer (some ⟨b, 0, none⟩)) w := by kernel_rfl
theorem mFlatCoords8 (b : Nat) (w : World) : (method 293 68 (.pointer (some ⟨b, 0, none⟩)) "FlatCoords").run Try.prog w = .ok (125, .pointer (some ⟨b, 0, none⟩)) w := by kernel_rfl
theorem mEnds8 (b : Nat) (w : World) : (method 293 68 (.pointer (some ⟨b, 0, none⟩)) "Ends").run Try.prog w = .ok (145, .pointer (some ⟨b, 0, none⟩)) w := by kernel_rfl
theorem mEndss8 (b : Nat) (w : World) : (method 293 68 (.pointer (some ⟨b, 0, none⟩)) "Endss").run Try.prog w = .ok (124, .pointer (some ⟨b, 0, none⟩)) w := by kernel_rfl

set_option maxRecDepth 100000 in
set_option maxHeartbeats 8000000 in
theorem plain8 (b : Nat) (l r s : Int) (A n c : _) (fl : List Nat)  (w : World) (ho : Obj4 b l s r (.slice A n c) w) (hu : FSl (.slice A n c) fl w) (hl : fl.length ≤ 17592186044416)  :
    Calls Try.prog 37 #[.iface 68 (.pointer (some ⟨b, 0, none⟩))] w (PQ (.mk 8 l r fl [] [] []) w) := by
  have m1 := mSRID8 b; have m2 := mLayout8 b; have m3 := mFlatCoords8 b; have m4 := mEnds8 b; have m5 := mEndss8 b
  obtain ⟨x0, -, x2, x3, -⟩ := ho
  have hb := cell_ltH x0
  have X0 := Lib.hid x0; have X2 := Lib.hid x2; have X3 := Lib.hid x3; have HU := Lib.hid hu
  clear x0 x2 x3 hu
  go_enter Try.func37, Try.ntmps37
  go_wp2_with fail
  refine (g0SRID b r _ (up_cell X3.out ((Grow.refl w).alloc _))).mono ?_
  rintro e w' ⟨rfl, rfl⟩
  go_wp2_with fail
  have HA := Lib.hid ((((Grow.refl w).alloc (Obj.cells #[.int .i64 0, .int .i64 0, .int .i64 0, .slice none 0 0, .slice none 0 0, .slice none 0 0, .slice none 0 0] 28)).alloc (Obj.cells #[.int .i64 8, .int .i64 0, .int .i64 r, .slice none 0 0, .slice none 0 0, .slice none 0 0, .slice none 0 0] 28)))
  refine (g0Layout b l _ (up_cell X0.out HA.out)).mono ?_
  rintro e w' ⟨rfl, rfl⟩
  go_wp2_with fail
  refine (g0Flat b A n c _ (up_cell X2.out HA.out)).mono ?_
  rintro e w' ⟨rfl, rfl⟩
  go_wp2_with fail
  refine (floats_calls44 _ fl _ (FSl.up _ _ HU.out HA.out) hl).mono ?_
  rintro e w1 ⟨V1, rfl, hg1, hown1⟩
  have HO1 := Lib.hid hown1; have HG1 := Lib.hid hg1
  obtain ⟨A5, n5, c5, rfl⟩ := VOwn.isSl hown1
  clear hg1 hown1
  go_wp2_with fail
  refine (p0Ends b _).mono ?_
  rintro e w' ⟨rfl, rfl⟩
  go_wp2_with fail
  refine (ints_calls _ [] _ (ISl.nil) (by simp)).mono ?_
  rintro e w2 ⟨V2, rfl, hg2, hown2⟩
  have HO2 := Lib.hid hown2; have HG2 := Lib.hid hg2
  obtain ⟨A6, n6, c6, rfl⟩ := VOwn.isSl hown2
  clear hg2 hown2
  go_wp2_with fail
  refine (p0Endss b _).mono ?_
  rintro e w' ⟨rfl, rfl⟩
  go_wp2_with fail
  refine (intss_calls _ [] _ (ISSl.nil) (by simp) (by simp)).mono ?_
  rintro e w3 ⟨V3, rfl, hg3, hown3⟩
  have HO3 := Lib.hid hown3; have HG3 := Lib.hid hg3
  obtain ⟨A7, n7, c7, rfl⟩ : ∃ A n c, V3 = .slice A n c := by obtain ⟨us, h1, -⟩ := hown3; exact VOwn.isSl h1
  have hg := HG1.out.trans (HG2.out.trans hg3)
  clear hg3 hown3
  have r0 := up_cell (a := ⟨w.heap.size, 0, none⟩) (v := .int .i64 0) (by go_simp) hg
  have r1 := up_cell (a := ⟨w.heap.size, 1, none⟩) (v := .int .i64 0) (by go_simp) hg
  have r2 := up_cell (a := ⟨w.heap.size, 2, none⟩) (v := .int .i64 0) (by go_simp) hg
  have r3 := up_cell (a := ⟨w.heap.size, 3, none⟩) (v := .slice none 0 0) (by go_simp) hg
  have r4 := up_cell (a := ⟨w.heap.size, 4, none⟩) (v := .slice none 0 0) (by go_simp) hg
  have r5 := up_cell (a := ⟨w.heap.size, 5, none⟩) (v := .slice none 0 0) (by go_simp) hg
  have r6 := up_cell (a := ⟨w.heap.size, 6, none⟩) (v := .slice none 0 0) (by go_simp) hg
  have q0 := up_cell (a := ⟨w.heap.size + 1, 0, none⟩) (v := .int .i64 8) (by go_simp) hg
  have q1 := up_cell (a := ⟨w.heap.size + 1, 1, none⟩) (v := .int .i64 0) (by go_simp) hg
  have q2 := up_cell (a := ⟨w.heap.size + 1, 2, none⟩) (v := .int .i64 r) (by go_simp) hg
  have q3 := up_cell (a := ⟨w.heap.size + 1, 3, none⟩) (v := .slice none 0 0) (by go_simp) hg
  have q4 := up_cell (a := ⟨w.heap.size + 1, 4, none⟩) (v := .slice none 0 0) (by go_simp) hg
  have q5 := up_cell (a := ⟨w.heap.size + 1, 5, none⟩) (v := .slice none 0 0) (by go_simp) hg
  have q6 := up_cell (a := ⟨w.heap.size + 1, 6, none⟩) (v := .slice none 0 0) (by go_simp) hg
  have f1 : ∀ o, w3.frozen? ⟨w.heap.size, o, none⟩ = false := fun o => (grow_frozen hg _ _ (by simp <;> omega)).trans (by go_simp)
  have f2 : ∀ o, w3.frozen? ⟨w.heap.size + 1, o, none⟩ = false := fun o => (grow_frozen hg _ _ (by simp <;> omega)).trans (by go_simp)
  have HG := Lib.hid (HA.out.trans hg)
  have hb1 := HG1.out.size
  have hb2 := Nat.le_trans hb1 HG2.out.size
  simp only [World.size_alloc] at hb1 hb2
  have HB1 := Lib.hid hb1; have HB2 := Lib.hid hb2
  clear hb1 hb2
  have HO1' := Lib.hid (VOwn.up _ _ (VOwn.up _ _ HO1.out HG2.out) HG3.out)
  have HO2' := Lib.hid (IOwn.up _ _ HO2.out HG3.out)
  clear hg
  go_wp2
  refine bodyPost_ret (v := GeoF 8 l r (.slice A5 n5 c5) (.slice A6 n6 c6) (.slice A7 n7 c7) (.slice none 0 0)) (by simp [results, Try.results37, go_sem, r0, r1, r2, r3, r4, r5, r6, q0, q1, q2, q3, q4, q5, q6]) rfl ?_
  refine PQ.mk (B := w.heap.size + 2) (by omega) ?_ ?_ ?_ ?_
  · exact (((((((((((HG.out).setCell (by simp <;> omega) _).setCell (by simp <;> omega) _).setCell (by simp <;> omega) _).setCell (by simp <;> omega) _).setCell (by simp <;> omega) _).setCell (by simp <;> omega) _).setCell (by simp <;> omega) _).setCell (by simp <;> omega) _).setCell (by simp <;> omega) _).setCell (by simp <;> omega) _).setCell (by simp <;> omega) _
  · exact (((((((((((VOwn.mono HO1'.out (by simp)).setCell (by simp <;> omega) _).setCell (by simp <;> omega) _).setCell (by simp <;> omega) _).setCell (by simp <;> omega) _).setCell (by simp <;> omega) _).setCell (by simp <;> omega) _).setCell (by simp <;> omega) _).setCell (by simp <;> omega) _).setCell (by simp <;> omega) _).setCell (by simp <;> omega) _).setCell (by simp <;> omega) _
  · exact (((((((((((VOwn.mono HO2'.out HB1.out).setCell (by simp <;> omega) _).setCell (by simp <;> omega) _).setCell (by simp <;> omega) _).setCell (by simp <;> omega) _).setCell (by simp <;> omega) _).setCell (by simp <;> omega) _).setCell (by simp <;> omega) _).setCell (by simp <;> omega) _).setCell (by simp <;> omega) _).setCell (by simp <;> omega) _).setCell (by simp <;> omega) _
  · exact (((((((((((IIOwn.mono HO3.out HB2.out).setCell (by simp <;> omega) _).setCell (by simp <;> omega) _).setCell (by simp <;> omega) _).setCell (by simp <;> omega) _).setCell (by simp <;> omega) _).setCell (by simp <;> omega) _).setCell (by simp <;> omega) _).setCell (by simp <;> omega) _).setCell (by simp <;> omega) _).setCell (by simp <;> omega) _).setCell (by simp <;> omega) _
end Go.Proofs.Ytemobphkgbhhhaa
