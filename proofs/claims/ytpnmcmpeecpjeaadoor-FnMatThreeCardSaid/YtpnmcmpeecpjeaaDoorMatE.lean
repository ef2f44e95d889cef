import Derived.Test.YtpnmcmpeecpjeaaDoorMatD
namespace Go.Proofs.YtpnmcmpeecpjeaaDoor
open Go.ChangeShapes Go.WideShapes Go.ChangeAt Go.RowKit Go.GrowR
set_option linter.unusedVariables false
set_option linter.unusedSimpArgs false

/-- the products, their sums of two and of three -/
def MulF (A B p : Nat → Nat) (mm : Nat → Nat → Nat → Nat) (ss : Nat → Nat → Nat) : Prop :=
  (∀ i j l, i < 3 → j < 3 → l < 3 → floatBits .mul .f64 (A (3 * i + l)) (B (3 * l + j)) = some (mm i j l)) ∧
  (∀ i j, i < 3 → j < 3 → floatBits .add .f64 (mm i j 0) (mm i j 1) = some (ss i j)) ∧
  (∀ i j, i < 3 → j < 3 → floatBits .add .f64 (ss i j) (mm i j 2) = some (p (3 * i + j)))
theorem gn_set9 {S : Nat → Prop} {g : Nat} {w0 w : World} (h : GN S w0 w) (hg : S g) (ds : Nat → Nat) : GN S w0 (set9 g ds w) := by
  have st : ∀ {w1 : World} (p : Addr) (v : Value), GN S w0 w1 → S p.block → GN S w0 (w1.setCell p v) := fun p v h1 hp => h1.trans (GX.setCell v hp (fun X hX => hX.elim))
  exact st ⟨g, 8, none⟩ _ (st ⟨g, 7, none⟩ _ (st ⟨g, 6, none⟩ _ (st ⟨g, 5, none⟩ _ (st ⟨g, 4, none⟩ _ (st ⟨g, 3, none⟩ _ (st ⟨g, 2, none⟩ _ (st ⟨g, 1, none⟩ _ (st ⟨g, 0, none⟩ _ h hg) hg) hg) hg) hg) hg) hg) hg) hg
theorem cell_set9 {g b o : Nat} {v : Value} {w : World} (h : w.cell? ⟨b, o, none⟩ = some v) (hg : g ≠ b) (ds : Nat → Nat) : (set9 g ds w).cell? ⟨b, o, none⟩ = some v := by
  have st : ∀ {w1 : World} (p : Addr) (u : Value), w1.cell? ⟨b, o, none⟩ = some v → p.block ≠ b → (w1.setCell p u).cell? ⟨b, o, none⟩ = some v := fun p u h1 hp => by rw [World.cell?_setCell_other _ _ _ _ (by intro hc; apply hp; rw [hc])]; exact h1
  exact st ⟨g, 8, none⟩ _ (st ⟨g, 7, none⟩ _ (st ⟨g, 6, none⟩ _ (st ⟨g, 5, none⟩ _ (st ⟨g, 4, none⟩ _ (st ⟨g, 3, none⟩ _ (st ⟨g, 2, none⟩ _ (st ⟨g, 1, none⟩ _ (st ⟨g, 0, none⟩ _ h hg) hg) hg) hg) hg) hg) hg) hg) hg
theorem dims_calls (v : Value) (w : World) : Calls Tryd.prog 52 #[v] w fun e w' => e = .returned (.tuple #[.int .i64 3, .int .i64 3]) ∧ w' = w := by
  go_enter Tryd.func52, Tryd.ntmps52
  go_wp2
  exact bodyPost_ret (v := .tuple #[.int .i64 3, .int .i64 3]) (by simp [results, Tryd.results52, go_sem]) rfl ⟨rfl, rfl⟩
def MulP (B mb : Nat) (p : Nat → Nat) (w : World) (e : Ending) (w' : World) : Prop := ∃ db, e = .returned (.tuple #[]) ∧ M9 B mb db p w' ∧ GN (fun k => k = mb) w w'
set_option maxRecDepth 100000 in
set_option maxHeartbeats 8000000 in
theorem mul_calls (B mb pa da pb db : Nat) (A C p : Nat → Nat) (mm : Nat → Nat → Nat → Nat) (ss : Nat → Nat → Nat) (w : World) (h0 : w.cell? ⟨mb, 0, none⟩ = some (.pointer none)) (f0 : w.frozen? ⟨mb, 0, none⟩ = false) (hB : B ≤ mb)
    (ha : MR pa da A w) (hb : MR pb db C w) (n1 : mb ≠ pa) (n2 : mb ≠ da) (n3 : mb ≠ pb) (n4 : mb ≠ db) (hF : MulF A C p mm ss) :
    Calls Tryd.prog 18 #[.pointer (some ⟨mb, 0, none⟩), .iface 48 (.pointer (some ⟨pa, 0, none⟩)), .iface 48 (.pointer (some ⟨pb, 0, none⟩))] w (MulP B mb p w) := by
  have lb := cell_lt h0
  dsimp only at lb
  have HF := Lib.hid hF; clear hF
  have HB := Lib.hid hB; clear hB
  have HA := Lib.hid ha; have HC := Lib.hid hb
  have HN1 := Lib.hid n1; have HN2 := Lib.hid n2; have HN3 := Lib.hid n3; have HN4 := Lib.hid n4
  clear ha hb n1 n2 n3 n4
  have hne : ¬ mb = w.heap.size := by omega
  have hne' : ¬ w.heap.size = mb := by omega
  have hD : ∀ (b : Nat) (w : World), (method 192 48 (.pointer (some ⟨b, 0, none⟩)) "Dims").run Tryd.prog w = .ok (52, .pointer (some ⟨b, 0, none⟩)) w := fun _ _ => by kernel_rfl
  have hA : ∀ (b : Nat) (w : World), (method 192 48 (.pointer (some ⟨b, 0, none⟩)) "At").run Tryd.prog w = .ok (26, .pointer (some ⟨b, 0, none⟩)) w := fun _ _ => by kernel_rfl
  go_enter Tryd.func18, Tryd.ntmps18
  go_wp2_with (go_at_call 52; refine (dims_calls _ _).mono ?_; rintro e w' ⟨rfl, rfl⟩)
  have HLB := Lib.hid (show mb < w'.heap.size from lb)
  obtain ⟨wm, hwm⟩ : ∃ wm, wm = ((w'.setCell ⟨mb, 0, none⟩ (.pointer (some ⟨w'.heap.size, 0, none⟩))).alloc (Obj.cells #[.float .f64 0, .float .f64 0, .float .f64 0, .float .f64 0, .float .f64 0, .float .f64 0, .float .f64 0, .float .f64 0, .float .f64 0] 64)) := ⟨_, rfl⟩
  have HAm : Hid (MR pa da A wm) := by rw [hwm]; exact MR.up _ _ (HA.out.other HN1.out HN2.out _) ((Grow.refl _).alloc _)
  have HCm : Hid (MR pb db C wm) := by rw [hwm]; exact MR.up _ _ (HC.out.other HN3.out HN4.out _) ((Grow.refl _).alloc _)
  have m0 : wm.cell? ⟨mb, 0, none⟩ = some (.pointer (some ⟨w'.heap.size, 0, none⟩)) := by rw [hwm]; go_simp
  have HN9 : Hid (N9 w'.heap.size (fun _ => 0) wm) := by
    rw [hwm]
    refine ⟨fun k hk => ?_, fun o => by go_simp⟩
    rcases lit9 hk with rfl | rfl | rfl | rfl | rfl | rfl | rfl | rfl | rfl <;> go_simp
  have HGm : Hid (GN (fun k => k = mb ∨ k = w'.heap.size) w' wm) := by rw [hwm]; exact (GX.setCell _ (Or.inl rfl) (fun X hX => hX.elim)).trans (GX.of_grow (fun _ h => h.elim) ((Grow.refl _).alloc _))
  have HM0 := Lib.hid m0
  rw [← hwm]
  clear hwm h0 f0 lb hne hne' HA HC m0 HN1 HN2 HN3 HN4
  refine (show Calls Tryd.prog 26 #[.pointer (some ⟨pa, 0, none⟩), .int .i64 0, .int .i64 0] wm (AtP (A 0) wm) from atR_calls pa da 0 0 A wm HAm.out (by decide) (by decide)).mono ?_
  rintro e w2 ⟨rfl, hw⟩
  obtain rfl := hw.symm
  clear hw
  go_wp2_with fail
  refine (show Calls Tryd.prog 26 #[.pointer (some ⟨pb, 0, none⟩), .int .i64 0, .int .i64 0] wm (AtP (C 0) wm) from atR_calls pb db 0 0 C wm HCm.out (by decide) (by decide)).mono ?_
  rintro e w2 ⟨rfl, hw⟩
  obtain rfl := hw.symm
  clear hw
  go_wp2_with fail
  refine (show Calls Tryd.prog 26 #[.pointer (some ⟨pa, 0, none⟩), .int .i64 0, .int .i64 1] wm (AtP (A 1) wm) from atR_calls pa da 0 1 A wm HAm.out (by decide) (by decide)).mono ?_
  rintro e w2 ⟨rfl, hw⟩
  obtain rfl := hw.symm
  clear hw
  go_wp2_with fail
  refine (show Calls Tryd.prog 26 #[.pointer (some ⟨pb, 0, none⟩), .int .i64 0, .int .i64 1] wm (AtP (C 1) wm) from atR_calls pb db 0 1 C wm HCm.out (by decide) (by decide)).mono ?_
  rintro e w2 ⟨rfl, hw⟩
  obtain rfl := hw.symm
  clear hw
  go_wp2_with fail
  refine (show Calls Tryd.prog 26 #[.pointer (some ⟨pa, 0, none⟩), .int .i64 0, .int .i64 2] wm (AtP (A 2) wm) from atR_calls pa da 0 2 A wm HAm.out (by decide) (by decide)).mono ?_
  rintro e w2 ⟨rfl, hw⟩
  obtain rfl := hw.symm
  clear hw
  go_wp2_with fail
  refine (show Calls Tryd.prog 26 #[.pointer (some ⟨pb, 0, none⟩), .int .i64 0, .int .i64 2] wm (AtP (C 2) wm) from atR_calls pb db 0 2 C wm HCm.out (by decide) (by decide)).mono ?_
  rintro e w2 ⟨rfl, hw⟩
  obtain rfl := hw.symm
  clear hw
  go_wp2_with fail
  refine (show Calls Tryd.prog 26 #[.pointer (some ⟨pa, 0, none⟩), .int .i64 1, .int .i64 0] wm (AtP (A 3) wm) from atR_calls pa da 1 0 A wm HAm.out (by decide) (by decide)).mono ?_
  rintro e w2 ⟨rfl, hw⟩
  obtain rfl := hw.symm
  clear hw
  go_wp2_with fail
  refine (show Calls Tryd.prog 26 #[.pointer (some ⟨pb, 0, none⟩), .int .i64 1, .int .i64 0] wm (AtP (C 3) wm) from atR_calls pb db 1 0 C wm HCm.out (by decide) (by decide)).mono ?_
  rintro e w2 ⟨rfl, hw⟩
  obtain rfl := hw.symm
  clear hw
  go_wp2_with fail
  refine (show Calls Tryd.prog 26 #[.pointer (some ⟨pa, 0, none⟩), .int .i64 1, .int .i64 1] wm (AtP (A 4) wm) from atR_calls pa da 1 1 A wm HAm.out (by decide) (by decide)).mono ?_
  rintro e w2 ⟨rfl, hw⟩
  obtain rfl := hw.symm
  clear hw
  go_wp2_with fail
  refine (show Calls Tryd.prog 26 #[.pointer (some ⟨pb, 0, none⟩), .int .i64 1, .int .i64 1] wm (AtP (C 4) wm) from atR_calls pb db 1 1 C wm HCm.out (by decide) (by decide)).mono ?_
  rintro e w2 ⟨rfl, hw⟩
  obtain rfl := hw.symm
  clear hw
  go_wp2_with fail
  refine (show Calls Tryd.prog 26 #[.pointer (some ⟨pa, 0, none⟩), .int .i64 1, .int .i64 2] wm (AtP (A 5) wm) from atR_calls pa da 1 2 A wm HAm.out (by decide) (by decide)).mono ?_
  rintro e w2 ⟨rfl, hw⟩
  obtain rfl := hw.symm
  clear hw
  go_wp2_with fail
  refine (show Calls Tryd.prog 26 #[.pointer (some ⟨pb, 0, none⟩), .int .i64 1, .int .i64 2] wm (AtP (C 5) wm) from atR_calls pb db 1 2 C wm HCm.out (by decide) (by decide)).mono ?_
  rintro e w2 ⟨rfl, hw⟩
  obtain rfl := hw.symm
  clear hw
  go_wp2_with fail
  refine (show Calls Tryd.prog 26 #[.pointer (some ⟨pa, 0, none⟩), .int .i64 2, .int .i64 0] wm (AtP (A 6) wm) from atR_calls pa da 2 0 A wm HAm.out (by decide) (by decide)).mono ?_
  rintro e w2 ⟨rfl, hw⟩
  obtain rfl := hw.symm
  clear hw
  go_wp2_with fail
  refine (show Calls Tryd.prog 26 #[.pointer (some ⟨pb, 0, none⟩), .int .i64 2, .int .i64 0] wm (AtP (C 6) wm) from atR_calls pb db 2 0 C wm HCm.out (by decide) (by decide)).mono ?_
  rintro e w2 ⟨rfl, hw⟩
  obtain rfl := hw.symm
  clear hw
  go_wp2_with fail
  refine (show Calls Tryd.prog 26 #[.pointer (some ⟨pa, 0, none⟩), .int .i64 2, .int .i64 1] wm (AtP (A 7) wm) from atR_calls pa da 2 1 A wm HAm.out (by decide) (by decide)).mono ?_
  rintro e w2 ⟨rfl, hw⟩
  obtain rfl := hw.symm
  clear hw
  go_wp2_with fail
  refine (show Calls Tryd.prog 26 #[.pointer (some ⟨pb, 0, none⟩), .int .i64 2, .int .i64 1] wm (AtP (C 7) wm) from atR_calls pb db 2 1 C wm HCm.out (by decide) (by decide)).mono ?_
  rintro e w2 ⟨rfl, hw⟩
  obtain rfl := hw.symm
  clear hw
  go_wp2_with fail
  refine (show Calls Tryd.prog 26 #[.pointer (some ⟨pa, 0, none⟩), .int .i64 2, .int .i64 2] wm (AtP (A 8) wm) from atR_calls pa da 2 2 A wm HAm.out (by decide) (by decide)).mono ?_
  rintro e w2 ⟨rfl, hw⟩
  obtain rfl := hw.symm
  clear hw
  go_wp2_with fail
  refine (show Calls Tryd.prog 26 #[.pointer (some ⟨pb, 0, none⟩), .int .i64 2, .int .i64 2] wm (AtP (C 8) wm) from atR_calls pb db 2 2 C wm HCm.out (by decide) (by decide)).mono ?_
  rintro e w2 ⟨rfl, hw⟩
  obtain rfl := hw.symm
  clear hw
  have g000 : ∀ (t : TypeId) (w : World), (binOp .mul t (.float .f64 (A 0)) (.float .f64 (C 0))).run Tryd.prog w = .ok (.float .f64 (mm 0 0 0)) w := fop (HF.out.1 0 0 0 (by decide) (by decide) (by decide))
  have g001 : ∀ (t : TypeId) (w : World), (binOp .mul t (.float .f64 (A 1)) (.float .f64 (C 3))).run Tryd.prog w = .ok (.float .f64 (mm 0 0 1)) w := fop (HF.out.1 0 0 1 (by decide) (by decide) (by decide))
  have g002 : ∀ (t : TypeId) (w : World), (binOp .mul t (.float .f64 (A 2)) (.float .f64 (C 6))).run Tryd.prog w = .ok (.float .f64 (mm 0 0 2)) w := fop (HF.out.1 0 0 2 (by decide) (by decide) (by decide))
  have s00 : ∀ (t : TypeId) (w : World), (binOp .add t (.float .f64 (mm 0 0 0)) (.float .f64 (mm 0 0 1))).run Tryd.prog w = .ok (.float .f64 (ss 0 0)) w := fop (HF.out.2.1 0 0 (by decide) (by decide))
  have q00 : ∀ (t : TypeId) (w : World), (binOp .add t (.float .f64 (ss 0 0)) (.float .f64 (mm 0 0 2))).run Tryd.prog w = .ok (.float .f64 (p 0)) w := fop (HF.out.2.2 0 0 (by decide) (by decide))
  have g010 : ∀ (t : TypeId) (w : World), (binOp .mul t (.float .f64 (A 0)) (.float .f64 (C 1))).run Tryd.prog w = .ok (.float .f64 (mm 0 1 0)) w := fop (HF.out.1 0 1 0 (by decide) (by decide) (by decide))
  have g011 : ∀ (t : TypeId) (w : World), (binOp .mul t (.float .f64 (A 1)) (.float .f64 (C 4))).run Tryd.prog w = .ok (.float .f64 (mm 0 1 1)) w := fop (HF.out.1 0 1 1 (by decide) (by decide) (by decide))
  have g012 : ∀ (t : TypeId) (w : World), (binOp .mul t (.float .f64 (A 2)) (.float .f64 (C 7))).run Tryd.prog w = .ok (.float .f64 (mm 0 1 2)) w := fop (HF.out.1 0 1 2 (by decide) (by decide) (by decide))
  have s01 : ∀ (t : TypeId) (w : World), (binOp .add t (.float .f64 (mm 0 1 0)) (.float .f64 (mm 0 1 1))).run Tryd.prog w = .ok (.float .f64 (ss 0 1)) w := fop (HF.out.2.1 0 1 (by decide) (by decide))
  have q01 : ∀ (t : TypeId) (w : World), (binOp .add t (.float .f64 (ss 0 1)) (.float .f64 (mm 0 1 2))).run Tryd.prog w = .ok (.float .f64 (p 1)) w := fop (HF.out.2.2 0 1 (by decide) (by decide))
  have g020 : ∀ (t : TypeId) (w : World), (binOp .mul t (.float .f64 (A 0)) (.float .f64 (C 2))).run Tryd.prog w = .ok (.float .f64 (mm 0 2 0)) w := fop (HF.out.1 0 2 0 (by decide) (by decide) (by decide))
  have g021 : ∀ (t : TypeId) (w : World), (binOp .mul t (.float .f64 (A 1)) (.float .f64 (C 5))).run Tryd.prog w = .ok (.float .f64 (mm 0 2 1)) w := fop (HF.out.1 0 2 1 (by decide) (by decide) (by decide))
  have g022 : ∀ (t : TypeId) (w : World), (binOp .mul t (.float .f64 (A 2)) (.float .f64 (C 8))).run Tryd.prog w = .ok (.float .f64 (mm 0 2 2)) w := fop (HF.out.1 0 2 2 (by decide) (by decide) (by decide))
  have s02 : ∀ (t : TypeId) (w : World), (binOp .add t (.float .f64 (mm 0 2 0)) (.float .f64 (mm 0 2 1))).run Tryd.prog w = .ok (.float .f64 (ss 0 2)) w := fop (HF.out.2.1 0 2 (by decide) (by decide))
  have q02 : ∀ (t : TypeId) (w : World), (binOp .add t (.float .f64 (ss 0 2)) (.float .f64 (mm 0 2 2))).run Tryd.prog w = .ok (.float .f64 (p 2)) w := fop (HF.out.2.2 0 2 (by decide) (by decide))
  have g100 : ∀ (t : TypeId) (w : World), (binOp .mul t (.float .f64 (A 3)) (.float .f64 (C 0))).run Tryd.prog w = .ok (.float .f64 (mm 1 0 0)) w := fop (HF.out.1 1 0 0 (by decide) (by decide) (by decide))
  have g101 : ∀ (t : TypeId) (w : World), (binOp .mul t (.float .f64 (A 4)) (.float .f64 (C 3))).run Tryd.prog w = .ok (.float .f64 (mm 1 0 1)) w := fop (HF.out.1 1 0 1 (by decide) (by decide) (by decide))
  have g102 : ∀ (t : TypeId) (w : World), (binOp .mul t (.float .f64 (A 5)) (.float .f64 (C 6))).run Tryd.prog w = .ok (.float .f64 (mm 1 0 2)) w := fop (HF.out.1 1 0 2 (by decide) (by decide) (by decide))
  have s10 : ∀ (t : TypeId) (w : World), (binOp .add t (.float .f64 (mm 1 0 0)) (.float .f64 (mm 1 0 1))).run Tryd.prog w = .ok (.float .f64 (ss 1 0)) w := fop (HF.out.2.1 1 0 (by decide) (by decide))
  have q10 : ∀ (t : TypeId) (w : World), (binOp .add t (.float .f64 (ss 1 0)) (.float .f64 (mm 1 0 2))).run Tryd.prog w = .ok (.float .f64 (p 3)) w := fop (HF.out.2.2 1 0 (by decide) (by decide))
  have g110 : ∀ (t : TypeId) (w : World), (binOp .mul t (.float .f64 (A 3)) (.float .f64 (C 1))).run Tryd.prog w = .ok (.float .f64 (mm 1 1 0)) w := fop (HF.out.1 1 1 0 (by decide) (by decide) (by decide))
  have g111 : ∀ (t : TypeId) (w : World), (binOp .mul t (.float .f64 (A 4)) (.float .f64 (C 4))).run Tryd.prog w = .ok (.float .f64 (mm 1 1 1)) w := fop (HF.out.1 1 1 1 (by decide) (by decide) (by decide))
  have g112 : ∀ (t : TypeId) (w : World), (binOp .mul t (.float .f64 (A 5)) (.float .f64 (C 7))).run Tryd.prog w = .ok (.float .f64 (mm 1 1 2)) w := fop (HF.out.1 1 1 2 (by decide) (by decide) (by decide))
  have s11 : ∀ (t : TypeId) (w : World), (binOp .add t (.float .f64 (mm 1 1 0)) (.float .f64 (mm 1 1 1))).run Tryd.prog w = .ok (.float .f64 (ss 1 1)) w := fop (HF.out.2.1 1 1 (by decide) (by decide))
  have q11 : ∀ (t : TypeId) (w : World), (binOp .add t (.float .f64 (ss 1 1)) (.float .f64 (mm 1 1 2))).run Tryd.prog w = .ok (.float .f64 (p 4)) w := fop (HF.out.2.2 1 1 (by decide) (by decide))
  have g120 : ∀ (t : TypeId) (w : World), (binOp .mul t (.float .f64 (A 3)) (.float .f64 (C 2))).run Tryd.prog w = .ok (.float .f64 (mm 1 2 0)) w := fop (HF.out.1 1 2 0 (by decide) (by decide) (by decide))
  have g121 : ∀ (t : TypeId) (w : World), (binOp .mul t (.float .f64 (A 4)) (.float .f64 (C 5))).run Tryd.prog w = .ok (.float .f64 (mm 1 2 1)) w := fop (HF.out.1 1 2 1 (by decide) (by decide) (by decide))
  have g122 : ∀ (t : TypeId) (w : World), (binOp .mul t (.float .f64 (A 5)) (.float .f64 (C 8))).run Tryd.prog w = .ok (.float .f64 (mm 1 2 2)) w := fop (HF.out.1 1 2 2 (by decide) (by decide) (by decide))
  have s12 : ∀ (t : TypeId) (w : World), (binOp .add t (.float .f64 (mm 1 2 0)) (.float .f64 (mm 1 2 1))).run Tryd.prog w = .ok (.float .f64 (ss 1 2)) w := fop (HF.out.2.1 1 2 (by decide) (by decide))
  have q12 : ∀ (t : TypeId) (w : World), (binOp .add t (.float .f64 (ss 1 2)) (.float .f64 (mm 1 2 2))).run Tryd.prog w = .ok (.float .f64 (p 5)) w := fop (HF.out.2.2 1 2 (by decide) (by decide))
  have g200 : ∀ (t : TypeId) (w : World), (binOp .mul t (.float .f64 (A 6)) (.float .f64 (C 0))).run Tryd.prog w = .ok (.float .f64 (mm 2 0 0)) w := fop (HF.out.1 2 0 0 (by decide) (by decide) (by decide))
  have g201 : ∀ (t : TypeId) (w : World), (binOp .mul t (.float .f64 (A 7)) (.float .f64 (C 3))).run Tryd.prog w = .ok (.float .f64 (mm 2 0 1)) w := fop (HF.out.1 2 0 1 (by decide) (by decide) (by decide))
  have g202 : ∀ (t : TypeId) (w : World), (binOp .mul t (.float .f64 (A 8)) (.float .f64 (C 6))).run Tryd.prog w = .ok (.float .f64 (mm 2 0 2)) w := fop (HF.out.1 2 0 2 (by decide) (by decide) (by decide))
  have s20 : ∀ (t : TypeId) (w : World), (binOp .add t (.float .f64 (mm 2 0 0)) (.float .f64 (mm 2 0 1))).run Tryd.prog w = .ok (.float .f64 (ss 2 0)) w := fop (HF.out.2.1 2 0 (by decide) (by decide))
  have q20 : ∀ (t : TypeId) (w : World), (binOp .add t (.float .f64 (ss 2 0)) (.float .f64 (mm 2 0 2))).run Tryd.prog w = .ok (.float .f64 (p 6)) w := fop (HF.out.2.2 2 0 (by decide) (by decide))
  have g210 : ∀ (t : TypeId) (w : World), (binOp .mul t (.float .f64 (A 6)) (.float .f64 (C 1))).run Tryd.prog w = .ok (.float .f64 (mm 2 1 0)) w := fop (HF.out.1 2 1 0 (by decide) (by decide) (by decide))
  have g211 : ∀ (t : TypeId) (w : World), (binOp .mul t (.float .f64 (A 7)) (.float .f64 (C 4))).run Tryd.prog w = .ok (.float .f64 (mm 2 1 1)) w := fop (HF.out.1 2 1 1 (by decide) (by decide) (by decide))
  have g212 : ∀ (t : TypeId) (w : World), (binOp .mul t (.float .f64 (A 8)) (.float .f64 (C 7))).run Tryd.prog w = .ok (.float .f64 (mm 2 1 2)) w := fop (HF.out.1 2 1 2 (by decide) (by decide) (by decide))
  have s21 : ∀ (t : TypeId) (w : World), (binOp .add t (.float .f64 (mm 2 1 0)) (.float .f64 (mm 2 1 1))).run Tryd.prog w = .ok (.float .f64 (ss 2 1)) w := fop (HF.out.2.1 2 1 (by decide) (by decide))
  have q21 : ∀ (t : TypeId) (w : World), (binOp .add t (.float .f64 (ss 2 1)) (.float .f64 (mm 2 1 2))).run Tryd.prog w = .ok (.float .f64 (p 7)) w := fop (HF.out.2.2 2 1 (by decide) (by decide))
  have g220 : ∀ (t : TypeId) (w : World), (binOp .mul t (.float .f64 (A 6)) (.float .f64 (C 2))).run Tryd.prog w = .ok (.float .f64 (mm 2 2 0)) w := fop (HF.out.1 2 2 0 (by decide) (by decide) (by decide))
  have g221 : ∀ (t : TypeId) (w : World), (binOp .mul t (.float .f64 (A 7)) (.float .f64 (C 5))).run Tryd.prog w = .ok (.float .f64 (mm 2 2 1)) w := fop (HF.out.1 2 2 1 (by decide) (by decide) (by decide))
  have g222 : ∀ (t : TypeId) (w : World), (binOp .mul t (.float .f64 (A 8)) (.float .f64 (C 8))).run Tryd.prog w = .ok (.float .f64 (mm 2 2 2)) w := fop (HF.out.1 2 2 2 (by decide) (by decide) (by decide))
  have s22 : ∀ (t : TypeId) (w : World), (binOp .add t (.float .f64 (mm 2 2 0)) (.float .f64 (mm 2 2 1))).run Tryd.prog w = .ok (.float .f64 (ss 2 2)) w := fop (HF.out.2.1 2 2 (by decide) (by decide))
  have q22 : ∀ (t : TypeId) (w : World), (binOp .add t (.float .f64 (ss 2 2)) (.float .f64 (mm 2 2 2))).run Tryd.prog w = .ok (.float .f64 (p 8)) w := fop (HF.out.2.2 2 2 (by decide) (by decide))
  have z0 : wm.cell? ⟨w'.heap.size, 0, none⟩ = some (.float .f64 0) := HN9.out.1 0 (by decide)
  have z1 : wm.cell? ⟨w'.heap.size, 1, none⟩ = some (.float .f64 0) := HN9.out.1 1 (by decide)
  have z2 : wm.cell? ⟨w'.heap.size, 2, none⟩ = some (.float .f64 0) := HN9.out.1 2 (by decide)
  have z3 : wm.cell? ⟨w'.heap.size, 3, none⟩ = some (.float .f64 0) := HN9.out.1 3 (by decide)
  have z4 : wm.cell? ⟨w'.heap.size, 4, none⟩ = some (.float .f64 0) := HN9.out.1 4 (by decide)
  have z5 : wm.cell? ⟨w'.heap.size, 5, none⟩ = some (.float .f64 0) := HN9.out.1 5 (by decide)
  have z6 : wm.cell? ⟨w'.heap.size, 6, none⟩ = some (.float .f64 0) := HN9.out.1 6 (by decide)
  have z7 : wm.cell? ⟨w'.heap.size, 7, none⟩ = some (.float .f64 0) := HN9.out.1 7 (by decide)
  have z8 : wm.cell? ⟨w'.heap.size, 8, none⟩ = some (.float .f64 0) := HN9.out.1 8 (by decide)
  have fz := HN9.out.2
  have m0 := HM0.out
  go_wp2
  refine bodyPost_end (results_none rfl _ _ _) rfl ?_
  show MulP B mb p w' _ (set9 w'.heap.size p wm)
  refine ⟨w'.heap.size, rfl, ⟨?_, (HN9.out.nine p).1, (HN9.out.nine p).2, by have := HLB.out; omega, by have := HLB.out; have := HB.out; omega⟩, ?_⟩
  · exact cell_set9 HM0.out (by have := HLB.out; omega) p
  · exact GX.shrink (gn_set9 HGm.out (Or.inr rfl) p) (fun k hk => ⟨fun h => h.elim id (fun h => by omega), fun h => .inl h⟩)
end Go.Proofs.YtpnmcmpeecpjeaaDoor
