import Derived.Test.YtpnmcmpeecpjeaaDoorMatF
namespace Go.Proofs.YtpnmcmpeecpjeaaDoor
open Go.ChangeShapes Go.WideShapes Go.ChangeAt Go.RowKit Go.GrowR
set_option linter.unusedVariables false
set_option linter.unusedSimpArgs false

def AddF (A C p : Nat → Nat) : Prop := ∀ k, k < 9 → floatBits .add .f64 (A k) (C k) = some (p k)
theorem MR.upN {mb db dm : Nat} {ds : Nat → Nat} {w w' : World} (h : MR mb db ds w) (hg : GN (fun k => k = dm) w w') (h1 : dm ≠ mb) (h2 : dm ≠ db) : MR mb db ds w' :=
  ⟨(hg.cell mb 0 (cell_lt h.1) (fun e => h1 e.symm)).trans h.1, fun k hk => (hg.cell db k (cell_lt (h.2 k hk)) (fun e => h2 e.symm)).trans (h.2 k hk)⟩
theorem GX.wider {mb dm : Nat} {a b : World} (h : GN (fun k => k = dm) a b) : GN (fun k => k = mb ∨ k = dm) a b :=
  ⟨h.os, h.tape, h.output, h.size, fun k hk hn => h.block k hk (fun hs => hn (.inr hs)), fun k o hs hk => h.froz k o hk, fun k o hs hk hx => h.some hx, fun X hX => hX.elim⟩
set_option maxRecDepth 100000 in
set_option maxHeartbeats 8000000 in
theorem add_calls (B mb pa da pb db : Nat) (A C p : Nat → Nat) (w : World) (h0 : w.cell? ⟨mb, 0, none⟩ = some (.pointer none)) (f0 : w.frozen? ⟨mb, 0, none⟩ = false) (hB : B ≤ mb)
    (ha : MR pa da A w) (hb : MR pb db C w) (n1 : mb ≠ pa) (n2 : mb ≠ da) (n3 : mb ≠ pb) (n4 : mb ≠ db) (hF : AddF A C p) :
    Calls Tryd.prog 21 #[.pointer (some ⟨mb, 0, none⟩), .iface 48 (.pointer (some ⟨pa, 0, none⟩)), .iface 48 (.pointer (some ⟨pb, 0, none⟩))] w (MulP B mb p w) := by
  have LA := Lib.hid (cell_lt ha.1); have LA2 := Lib.hid (cell_lt (ha.2 0 (by decide))); have LC := Lib.hid (cell_lt hb.1); have LC2 := Lib.hid (cell_lt (hb.2 0 (by decide)))
  have lb := cell_lt h0
  dsimp only at lb
  have HF := Lib.hid hF; clear hF
  have HB := Lib.hid hB; clear hB
  have HA := Lib.hid ha; have HC := Lib.hid hb
  have HN1 := Lib.hid n1; have HN2 := Lib.hid n2; have HN3 := Lib.hid n3; have HN4 := Lib.hid n4
  clear ha hb n1 n2 n3 n4
  have hne : ¬ mb = w.heap.size := by omega
  have hne' : ¬ w.heap.size = mb := by omega
  have hD : ∀ (b : Nat) (w : World), (method 192 48 (.pointer (some ⟨b, 0, none⟩)) "Dims").run Tryd.prog w = .ok (52, .pointer (some ⟨b, 0, none⟩)) w := fun _ _ => by kernel_rfl
  have hA : ∀ (b : Nat) (w : World), (method 192 48 (.pointer (some ⟨b, 0, none⟩)) "At").run Tryd.prog w = .ok (26, .pointer (some ⟨b, 0, none⟩)) w := fun _ _ => by kernel_rfl
  go_enter Tryd.func21, Tryd.ntmps21
  go_wp2_with (go_at_call 52; refine (dims_calls _ _).mono ?_; rintro e w' ⟨rfl, rfl⟩)
  have HLB := Lib.hid (show mb < w'.heap.size from lb)
  obtain ⟨wm, hwm⟩ : ∃ wm, wm = ((w'.setCell ⟨mb, 0, none⟩ (.pointer (some ⟨w'.heap.size, 0, none⟩))).alloc (Obj.cells #[.float .f64 0, .float .f64 0, .float .f64 0, .float .f64 0, .float .f64 0, .float .f64 0, .float .f64 0, .float .f64 0, .float .f64 0] 64)) := ⟨_, rfl⟩
  have HAm : Hid (MR pa da A wm) := by rw [hwm]; exact MR.up _ _ (HA.out.other HN1.out HN2.out _) ((Grow.refl _).alloc _)
  have HCm : Hid (MR pb db C wm) := by rw [hwm]; exact MR.up _ _ (HC.out.other HN3.out HN4.out _) ((Grow.refl _).alloc _)
  have m0 : wm.cell? ⟨mb, 0, none⟩ = some (.pointer (some ⟨w'.heap.size, 0, none⟩)) := by rw [hwm]; go_simp
  have HN9 : Hid (N9 w'.heap.size (fun _ => 0) wm) := by
    rw [hwm]
    refine ⟨fun k hk => ?_, fun o => by go_simp⟩
    rcases lit9 hk with rfl | rfl | rfl | rfl | rfl | rfl | rfl | rfl | rfl <;> go_simp
  have HGm : Hid (GN (fun k => k = mb ∨ k = w'.heap.size) w' wm) := by rw [hwm]; exact (GX.setCell _ (Or.inl rfl) (fun X hX => hX.elim)).trans (GX.of_grow (fun _ h => h.elim) ((Grow.refl _).alloc _))
  have HM0 := Lib.hid m0
  rw [← hwm]
  clear hwm h0 f0 lb hne hne' HA HC m0 HN1 HN2 HN3 HN4
  have nA : w'.heap.size ≠ pa := by have h := LA.out; omega
  have nA2 : w'.heap.size ≠ da := by have h := LA2.out; omega
  have nC : w'.heap.size ≠ pb := by have h := LC.out; omega
  have nC2 : w'.heap.size ≠ db := by have h := LC2.out; omega
  have NA := Lib.hid nA; have NA2 := Lib.hid nA2; have NC := Lib.hid nC; have NC2 := Lib.hid nC2
  have HM9 : Hid (M9 B mb w'.heap.size (fun _ => 0) wm) := ⟨HM0.out, HN9.out.1, HN9.out.2, by have := HLB.out; omega, by have := HLB.out; have := HB.out; omega⟩
  clear nA nA2 nC nC2 HM0 HN9
  refine (show Calls Tryd.prog 26 #[.pointer (some ⟨pa, 0, none⟩), .int .i64 0, .int .i64 0] wm (AtP (A 0) wm) from atR_calls pa da 0 0 A wm HAm.out (by decide) (by decide)).mono ?_
  rintro e w2 ⟨rfl, hw⟩
  obtain rfl := hw.symm
  clear hw
  go_wp2_with fail
  refine (show Calls Tryd.prog 26 #[.pointer (some ⟨pb, 0, none⟩), .int .i64 0, .int .i64 0] wm (AtP (C 0) wm) from atR_calls pb db 0 0 C wm HCm.out (by decide) (by decide)).mono ?_
  rintro e w2 ⟨rfl, hw⟩
  obtain rfl := hw.symm
  clear hw
  have g0 : ∀ (t : TypeId) (w : World), (binOp .add t (.float .f64 (A 0)) (.float .f64 (C 0))).run Tryd.prog w = .ok (.float .f64 (p 0)) w := fop (HF.out 0 (by decide))
  go_wp2_with fail
  clear g0
  refine (set_calls B mb w'.heap.size 0 0 (p 0) _ _ HM9.out (by decide) (by decide)).mono ?_
  rintro e w2 ⟨rfl, hm, hg⟩
  have HM9' := Lib.hid hm
  have HGm' : Hid (GN (fun k => k = mb ∨ k = w'.heap.size) w' w2) := HGm.out.trans (GX.wider hg)
  have HAm' := Lib.hid (HAm.out.upN hg NA.out NA2.out); have HCm' := Lib.hid (HCm.out.upN hg NC.out NC2.out)
  clear HM9 HGm HAm HCm hm hg
  obtain ⟨wm, hwm⟩ : ∃ wm : World, wm = w2 := ⟨_, rfl⟩
  subst hwm
  have HM9 := HM9'; have HGm := HGm'; have HAm := HAm'; have HCm := HCm'
  clear HM9' HGm' HAm' HCm'
  go_wp2_with fail
  refine (show Calls Tryd.prog 26 #[.pointer (some ⟨pa, 0, none⟩), .int .i64 0, .int .i64 1] wm (AtP (A 1) wm) from atR_calls pa da 0 1 A wm HAm.out (by decide) (by decide)).mono ?_
  rintro e w2 ⟨rfl, hw⟩
  obtain rfl := hw.symm
  clear hw
  go_wp2_with fail
  refine (show Calls Tryd.prog 26 #[.pointer (some ⟨pb, 0, none⟩), .int .i64 0, .int .i64 1] wm (AtP (C 1) wm) from atR_calls pb db 0 1 C wm HCm.out (by decide) (by decide)).mono ?_
  rintro e w2 ⟨rfl, hw⟩
  obtain rfl := hw.symm
  clear hw
  have g0 : ∀ (t : TypeId) (w : World), (binOp .add t (.float .f64 (A 1)) (.float .f64 (C 1))).run Tryd.prog w = .ok (.float .f64 (p 1)) w := fop (HF.out 1 (by decide))
  go_wp2_with fail
  clear g0
  refine (set_calls B mb w'.heap.size 0 1 (p 1) _ _ HM9.out (by decide) (by decide)).mono ?_
  rintro e w2 ⟨rfl, hm, hg⟩
  have HM9' := Lib.hid hm
  have HGm' : Hid (GN (fun k => k = mb ∨ k = w'.heap.size) w' w2) := HGm.out.trans (GX.wider hg)
  have HAm' := Lib.hid (HAm.out.upN hg NA.out NA2.out); have HCm' := Lib.hid (HCm.out.upN hg NC.out NC2.out)
  clear HM9 HGm HAm HCm hm hg
  obtain ⟨wm, hwm⟩ : ∃ wm : World, wm = w2 := ⟨_, rfl⟩
  subst hwm
  have HM9 := HM9'; have HGm := HGm'; have HAm := HAm'; have HCm := HCm'
  clear HM9' HGm' HAm' HCm'
  go_wp2_with fail
  refine (show Calls Tryd.prog 26 #[.pointer (some ⟨pa, 0, none⟩), .int .i64 0, .int .i64 2] wm (AtP (A 2) wm) from atR_calls pa da 0 2 A wm HAm.out (by decide) (by decide)).mono ?_
  rintro e w2 ⟨rfl, hw⟩
  obtain rfl := hw.symm
  clear hw
  go_wp2_with fail
  refine (show Calls Tryd.prog 26 #[.pointer (some ⟨pb, 0, none⟩), .int .i64 0, .int .i64 2] wm (AtP (C 2) wm) from atR_calls pb db 0 2 C wm HCm.out (by decide) (by decide)).mono ?_
  rintro e w2 ⟨rfl, hw⟩
  obtain rfl := hw.symm
  clear hw
  have g0 : ∀ (t : TypeId) (w : World), (binOp .add t (.float .f64 (A 2)) (.float .f64 (C 2))).run Tryd.prog w = .ok (.float .f64 (p 2)) w := fop (HF.out 2 (by decide))
  go_wp2_with fail
  clear g0
  refine (set_calls B mb w'.heap.size 0 2 (p 2) _ _ HM9.out (by decide) (by decide)).mono ?_
  rintro e w2 ⟨rfl, hm, hg⟩
  have HM9' := Lib.hid hm
  have HGm' : Hid (GN (fun k => k = mb ∨ k = w'.heap.size) w' w2) := HGm.out.trans (GX.wider hg)
  have HAm' := Lib.hid (HAm.out.upN hg NA.out NA2.out); have HCm' := Lib.hid (HCm.out.upN hg NC.out NC2.out)
  clear HM9 HGm HAm HCm hm hg
  obtain ⟨wm, hwm⟩ : ∃ wm : World, wm = w2 := ⟨_, rfl⟩
  subst hwm
  have HM9 := HM9'; have HGm := HGm'; have HAm := HAm'; have HCm := HCm'
  clear HM9' HGm' HAm' HCm'
  go_wp2_with fail
  refine (show Calls Tryd.prog 26 #[.pointer (some ⟨pa, 0, none⟩), .int .i64 1, .int .i64 0] wm (AtP (A 3) wm) from atR_calls pa da 1 0 A wm HAm.out (by decide) (by decide)).mono ?_
  rintro e w2 ⟨rfl, hw⟩
  obtain rfl := hw.symm
  clear hw
  go_wp2_with fail
  refine (show Calls Tryd.prog 26 #[.pointer (some ⟨pb, 0, none⟩), .int .i64 1, .int .i64 0] wm (AtP (C 3) wm) from atR_calls pb db 1 0 C wm HCm.out (by decide) (by decide)).mono ?_
  rintro e w2 ⟨rfl, hw⟩
  obtain rfl := hw.symm
  clear hw
  have g0 : ∀ (t : TypeId) (w : World), (binOp .add t (.float .f64 (A 3)) (.float .f64 (C 3))).run Tryd.prog w = .ok (.float .f64 (p 3)) w := fop (HF.out 3 (by decide))
  go_wp2_with fail
  clear g0
  refine (set_calls B mb w'.heap.size 1 0 (p 3) _ _ HM9.out (by decide) (by decide)).mono ?_
  rintro e w2 ⟨rfl, hm, hg⟩
  have HM9' := Lib.hid hm
  have HGm' : Hid (GN (fun k => k = mb ∨ k = w'.heap.size) w' w2) := HGm.out.trans (GX.wider hg)
  have HAm' := Lib.hid (HAm.out.upN hg NA.out NA2.out); have HCm' := Lib.hid (HCm.out.upN hg NC.out NC2.out)
  clear HM9 HGm HAm HCm hm hg
  obtain ⟨wm, hwm⟩ : ∃ wm : World, wm = w2 := ⟨_, rfl⟩
  subst hwm
  have HM9 := HM9'; have HGm := HGm'; have HAm := HAm'; have HCm := HCm'
  clear HM9' HGm' HAm' HCm'
  go_wp2_with fail
  refine (show Calls Tryd.prog 26 #[.pointer (some ⟨pa, 0, none⟩), .int .i64 1, .int .i64 1] wm (AtP (A 4) wm) from atR_calls pa da 1 1 A wm HAm.out (by decide) (by decide)).mono ?_
  rintro e w2 ⟨rfl, hw⟩
  obtain rfl := hw.symm
  clear hw
  go_wp2_with fail
  refine (show Calls Tryd.prog 26 #[.pointer (some ⟨pb, 0, none⟩), .int .i64 1, .int .i64 1] wm (AtP (C 4) wm) from atR_calls pb db 1 1 C wm HCm.out (by decide) (by decide)).mono ?_
  rintro e w2 ⟨rfl, hw⟩
  obtain rfl := hw.symm
  clear hw
  have g0 : ∀ (t : TypeId) (w : World), (binOp .add t (.float .f64 (A 4)) (.float .f64 (C 4))).run Tryd.prog w = .ok (.float .f64 (p 4)) w := fop (HF.out 4 (by decide))
  go_wp2_with fail
  clear g0
  refine (set_calls B mb w'.heap.size 1 1 (p 4) _ _ HM9.out (by decide) (by decide)).mono ?_
  rintro e w2 ⟨rfl, hm, hg⟩
  have HM9' := Lib.hid hm
  have HGm' : Hid (GN (fun k => k = mb ∨ k = w'.heap.size) w' w2) := HGm.out.trans (GX.wider hg)
  have HAm' := Lib.hid (HAm.out.upN hg NA.out NA2.out); have HCm' := Lib.hid (HCm.out.upN hg NC.out NC2.out)
  clear HM9 HGm HAm HCm hm hg
  obtain ⟨wm, hwm⟩ : ∃ wm : World, wm = w2 := ⟨_, rfl⟩
  subst hwm
  have HM9 := HM9'; have HGm := HGm'; have HAm := HAm'; have HCm := HCm'
  clear HM9' HGm' HAm' HCm'
  go_wp2_with fail
  refine (show Calls Tryd.prog 26 #[.pointer (some ⟨pa, 0, none⟩), .int .i64 1, .int .i64 2] wm (AtP (A 5) wm) from atR_calls pa da 1 2 A wm HAm.out (by decide) (by decide)).mono ?_
  rintro e w2 ⟨rfl, hw⟩
  obtain rfl := hw.symm
  clear hw
  go_wp2_with fail
  refine (show Calls Tryd.prog 26 #[.pointer (some ⟨pb, 0, none⟩), .int .i64 1, .int .i64 2] wm (AtP (C 5) wm) from atR_calls pb db 1 2 C wm HCm.out (by decide) (by decide)).mono ?_
  rintro e w2 ⟨rfl, hw⟩
  obtain rfl := hw.symm
  clear hw
  have g0 : ∀ (t : TypeId) (w : World), (binOp .add t (.float .f64 (A 5)) (.float .f64 (C 5))).run Tryd.prog w = .ok (.float .f64 (p 5)) w := fop (HF.out 5 (by decide))
  go_wp2_with fail
  clear g0
  refine (set_calls B mb w'.heap.size 1 2 (p 5) _ _ HM9.out (by decide) (by decide)).mono ?_
  rintro e w2 ⟨rfl, hm, hg⟩
  have HM9' := Lib.hid hm
  have HGm' : Hid (GN (fun k => k = mb ∨ k = w'.heap.size) w' w2) := HGm.out.trans (GX.wider hg)
  have HAm' := Lib.hid (HAm.out.upN hg NA.out NA2.out); have HCm' := Lib.hid (HCm.out.upN hg NC.out NC2.out)
  clear HM9 HGm HAm HCm hm hg
  obtain ⟨wm, hwm⟩ : ∃ wm : World, wm = w2 := ⟨_, rfl⟩
  subst hwm
  have HM9 := HM9'; have HGm := HGm'; have HAm := HAm'; have HCm := HCm'
  clear HM9' HGm' HAm' HCm'
  go_wp2_with fail
  refine (show Calls Tryd.prog 26 #[.pointer (some ⟨pa, 0, none⟩), .int .i64 2, .int .i64 0] wm (AtP (A 6) wm) from atR_calls pa da 2 0 A wm HAm.out (by decide) (by decide)).mono ?_
  rintro e w2 ⟨rfl, hw⟩
  obtain rfl := hw.symm
  clear hw
  go_wp2_with fail
  refine (show Calls Tryd.prog 26 #[.pointer (some ⟨pb, 0, none⟩), .int .i64 2, .int .i64 0] wm (AtP (C 6) wm) from atR_calls pb db 2 0 C wm HCm.out (by decide) (by decide)).mono ?_
  rintro e w2 ⟨rfl, hw⟩
  obtain rfl := hw.symm
  clear hw
  have g0 : ∀ (t : TypeId) (w : World), (binOp .add t (.float .f64 (A 6)) (.float .f64 (C 6))).run Tryd.prog w = .ok (.float .f64 (p 6)) w := fop (HF.out 6 (by decide))
  go_wp2_with fail
  clear g0
  refine (set_calls B mb w'.heap.size 2 0 (p 6) _ _ HM9.out (by decide) (by decide)).mono ?_
  rintro e w2 ⟨rfl, hm, hg⟩
  have HM9' := Lib.hid hm
  have HGm' : Hid (GN (fun k => k = mb ∨ k = w'.heap.size) w' w2) := HGm.out.trans (GX.wider hg)
  have HAm' := Lib.hid (HAm.out.upN hg NA.out NA2.out); have HCm' := Lib.hid (HCm.out.upN hg NC.out NC2.out)
  clear HM9 HGm HAm HCm hm hg
  obtain ⟨wm, hwm⟩ : ∃ wm : World, wm = w2 := ⟨_, rfl⟩
  subst hwm
  have HM9 := HM9'; have HGm := HGm'; have HAm := HAm'; have HCm := HCm'
  clear HM9' HGm' HAm' HCm'
  go_wp2_with fail
  refine (show Calls Tryd.prog 26 #[.pointer (some ⟨pa, 0, none⟩), .int .i64 2, .int .i64 1] wm (AtP (A 7) wm) from atR_calls pa da 2 1 A wm HAm.out (by decide) (by decide)).mono ?_
  rintro e w2 ⟨rfl, hw⟩
  obtain rfl := hw.symm
  clear hw
  go_wp2_with fail
  refine (show Calls Tryd.prog 26 #[.pointer (some ⟨pb, 0, none⟩), .int .i64 2, .int .i64 1] wm (AtP (C 7) wm) from atR_calls pb db 2 1 C wm HCm.out (by decide) (by decide)).mono ?_
  rintro e w2 ⟨rfl, hw⟩
  obtain rfl := hw.symm
  clear hw
  have g0 : ∀ (t : TypeId) (w : World), (binOp .add t (.float .f64 (A 7)) (.float .f64 (C 7))).run Tryd.prog w = .ok (.float .f64 (p 7)) w := fop (HF.out 7 (by decide))
  go_wp2_with fail
  clear g0
  refine (set_calls B mb w'.heap.size 2 1 (p 7) _ _ HM9.out (by decide) (by decide)).mono ?_
  rintro e w2 ⟨rfl, hm, hg⟩
  have HM9' := Lib.hid hm
  have HGm' : Hid (GN (fun k => k = mb ∨ k = w'.heap.size) w' w2) := HGm.out.trans (GX.wider hg)
  have HAm' := Lib.hid (HAm.out.upN hg NA.out NA2.out); have HCm' := Lib.hid (HCm.out.upN hg NC.out NC2.out)
  clear HM9 HGm HAm HCm hm hg
  obtain ⟨wm, hwm⟩ : ∃ wm : World, wm = w2 := ⟨_, rfl⟩
  subst hwm
  have HM9 := HM9'; have HGm := HGm'; have HAm := HAm'; have HCm := HCm'
  clear HM9' HGm' HAm' HCm'
  go_wp2_with fail
  refine (show Calls Tryd.prog 26 #[.pointer (some ⟨pa, 0, none⟩), .int .i64 2, .int .i64 2] wm (AtP (A 8) wm) from atR_calls pa da 2 2 A wm HAm.out (by decide) (by decide)).mono ?_
  rintro e w2 ⟨rfl, hw⟩
  obtain rfl := hw.symm
  clear hw
  go_wp2_with fail
  refine (show Calls Tryd.prog 26 #[.pointer (some ⟨pb, 0, none⟩), .int .i64 2, .int .i64 2] wm (AtP (C 8) wm) from atR_calls pb db 2 2 C wm HCm.out (by decide) (by decide)).mono ?_
  rintro e w2 ⟨rfl, hw⟩
  obtain rfl := hw.symm
  clear hw
  have g0 : ∀ (t : TypeId) (w : World), (binOp .add t (.float .f64 (A 8)) (.float .f64 (C 8))).run Tryd.prog w = .ok (.float .f64 (p 8)) w := fop (HF.out 8 (by decide))
  go_wp2_with fail
  clear g0
  refine (set_calls B mb w'.heap.size 2 2 (p 8) _ _ HM9.out (by decide) (by decide)).mono ?_
  rintro e w2 ⟨rfl, hm, hg⟩
  have HM9' := Lib.hid hm
  have HGm' : Hid (GN (fun k => k = mb ∨ k = w'.heap.size) w' w2) := HGm.out.trans (GX.wider hg)
  have HAm' := Lib.hid (HAm.out.upN hg NA.out NA2.out); have HCm' := Lib.hid (HCm.out.upN hg NC.out NC2.out)
  clear HM9 HGm HAm HCm hm hg
  obtain ⟨wm, hwm⟩ : ∃ wm : World, wm = w2 := ⟨_, rfl⟩
  subst hwm
  have HM9 := HM9'; have HGm := HGm'; have HAm := HAm'; have HCm := HCm'
  clear HM9' HGm' HAm' HCm'
  go_wp2
  refine bodyPost_end (results_none rfl _ _ _) rfl ?_
  refine ⟨w'.heap.size, rfl, M9.congr HM9.out (fun k hk => ?_), GX.shrink HGm.out (fun k hk => ⟨fun h => h.elim id (fun h => by omega), fun h => .inl h⟩)⟩
  rcases lit9 hk with rfl | rfl | rfl | rfl | rfl | rfl | rfl | rfl | rfl <;> simp [upd]
set_option maxRecDepth 100000 in
set_option maxHeartbeats 8000000 in
theorem matAdd_calls (A C p : Nat → Nat) (w : World) (hF : AddF A C p) : Calls Tryd.prog 12 #[MatV A, MatV C] w (MoP p w) := by
  have HO := Lib.hid (fun B mb pa da pb db w h0 f0 hB ha hb n1 n2 n3 n4 => add_calls B mb pa da pb db A C p w h0 f0 hB ha hb n1 n2 n3 n4 hF)
  clear hF
  have HW0 := Lib.hid (rfl : w.heap.size = w.heap.size)
  go_enter Tryd.func12, Tryd.ntmps12
  go_wp2
  refine wp_region_grow_tail 6 (fun i => if i = 1 then some (fun _ _ => (fun V ww => IsM (w.heap.size + 1 + 1 + 1 + 1) A V ww)) else if i = 4 then some (fun _ _ => (fun V ww => IsM (w.heap.size + 1 + 1 + 1 + 1) C V ww)) else none) (by kernel_rfl) (by kernel_rfl) ?_ ?_
  · intro i Φ h lo hi v
    (repeat' split at h) <;> cases h
    · exact IsM.up
    · exact IsM.up
  simp only [List.take_succ_cons, List.take_zero, List.drop_succ_cons, List.drop_zero]
  repeat (first
    | (refine wpGrow_skip (by rfl) ?_; simp only [Act.put, List.setIfInBounds_toArray, List.set_cons_zero, List.set_cons_succ, Nat.reduceAdd])
    | (refine wpGrow_det' (by rfl) (by rfl) ?_; apply Exists.intro; refine ⟨fun w' hc hh => ?_, ?_⟩; (have hcell := grow_cell hc; clear hc hh; go_simp; rfl); simp only [Act.put, List.setIfInBounds_toArray, List.set_cons_zero, List.set_cons_succ, Nat.reduceAdd]))
  refine wpGrow_eff' (by rfl) (by rfl) (fun w' hc hh => ?_) (fun v lo hi w' hap hc hh hv => ?_)
  · have hs := hc.size
    simp only [heap_size_alloc_] at hs
    clear hc hh
    go_simp
    go_at_call 19
    refine (mat_calls _ _).mono ?_
    rintro e w2 ⟨mb, db, rfl, h1, h2, hm, hg⟩
    exact EffPost.mk hg ⟨mb, db, rfl, by omega, by omega, hm⟩
  obtain ⟨pa, da, rfl, la, la2, -⟩ := hv
  clear hc hh hap w'
  simp only [Act.put, List.setIfInBounds_toArray, List.set_cons_zero, List.set_cons_succ, Nat.reduceAdd]
  repeat (first
    | (refine wpGrow_skip (by rfl) ?_; simp only [Act.put, List.setIfInBounds_toArray, List.set_cons_zero, List.set_cons_succ, Nat.reduceAdd])
    | (refine wpGrow_det' (by rfl) (by rfl) ?_; apply Exists.intro; refine ⟨fun w' hc hh => ?_, ?_⟩; (have hcell := grow_cell hc; clear hc hh; go_simp; rfl); simp only [Act.put, List.setIfInBounds_toArray, List.set_cons_zero, List.set_cons_succ, Nat.reduceAdd]))
  refine wpGrow_eff' (by rfl) (by rfl) (fun w' hc hh => ?_) (fun v lo hi w' hap hc hh hv => ?_)
  · have hs := hc.size
    simp only [heap_size_alloc_] at hs
    clear hc hh
    go_simp
    go_at_call 19
    refine (mat_calls _ _).mono ?_
    rintro e w2 ⟨mb, db, rfl, h1, h2, hm, hg⟩
    exact EffPost.mk hg ⟨mb, db, rfl, by omega, by omega, hm⟩
  obtain ⟨pb, db_, rfl, lb, lb2, -⟩ := hv
  clear hc hh hap w'
  simp only [Act.put, List.setIfInBounds_toArray, List.set_cons_zero, List.set_cons_succ, Nat.reduceAdd]
  repeat (first
    | (refine wpGrow_skip (by rfl) ?_; simp only [Act.put, List.setIfInBounds_toArray, List.set_cons_zero, List.set_cons_succ, Nat.reduceAdd])
    | (refine wpGrow_det' (by rfl) (by rfl) ?_; apply Exists.intro; refine ⟨fun w' hc hh => ?_, ?_⟩; (have hcell := grow_cell hc; clear hc hh; go_simp; rfl); simp only [Act.put, List.setIfInBounds_toArray, List.set_cons_zero, List.set_cons_succ, Nat.reduceAdd]))
  refine wpGrow_nil ?_
  intro w1 hg hh
  have v6 : N9 (w.heap.size + 1 + 1) (fun _ => 0) w1 := ⟨fun k hk => up_cell (by
    have : k = 0 ∨ k = 1 ∨ k = 2 ∨ k = 3 ∨ k = 4 ∨ k = 5 ∨ k = 6 ∨ k = 7 ∨ k = 8 := by omega
    rcases this with rfl | rfl | rfl | rfl | rfl | rfl | rfl | rfl | rfl <;> go_simp) hg, fun o => (grow_frozen hg _ _ (by simp)).trans (by go_simp)⟩
  have m0 : w1.cell? ⟨w.heap.size + 1 + 1 + 1, 0, none⟩ = some (.pointer none) := up_cell (by go_simp) hg
  have mf : w1.frozen? ⟨w.heap.size + 1 + 1 + 1, 0, none⟩ = false := (grow_frozen hg _ _ (by simp)).trans (by go_simp)
  have HG1 := Lib.hid (((((Grow.refl w).alloc _).alloc _).alloc _).alloc _ |>.trans hg)
  have hsz := hg.size
  simp only [heap_size_alloc_] at hsz
  have HSZ := Lib.hid hsz
  obtain ⟨pa', da', e1, ga1, ga2, HRA⟩ := (hh 1).1
  cases e1
  obtain ⟨pb', db', e1, gb1, gb2, HRB⟩ := (hh 4).1
  cases e1
  have HO1 := Lib.hid (HO.out (w.heap.size + 1 + 1 + 1) (w.heap.size + 1 + 1 + 1) pa da' pb db' w1 m0 mf (Nat.le_refl _) HRA HRB (by omega) (by omega) (by omega) (by omega))
  have H6 := Lib.hid v6
  clear hh hg hsz m0 mf v6 HRA HRB ga1 ga2 gb1 gb2 la la2 lb lb2
  go_wp2_with fail
  refine HO1.out.mono ?_
  rintro e w2 ⟨db, rfl, hm, hg⟩
  have HM := Lib.hid hm
  have HG2 := Lib.hid hg
  have H62 : Hid (N9 (w.heap.size + 1 + 1) (fun _ => 0) w2) := ⟨fun k hk => (hg.cell _ k (cell_lt (H6.out.1 k hk)) (by intro h; have h1 : w.heap.size + 1 + 1 = w.heap.size + 1 + 1 + 1 := h; omega)).trans (H6.out.1 k hk), fun o => (hg.froz _ o (cell_lt (H6.out.1 0 (by decide)))).trans (H6.out.2 o)⟩
  clear hm hg
  go_wp2_with fail
  refine (plainMat_calls _ _ _ _ _ HM.out).mono ?_
  rintro e w3 ⟨rfl, hg⟩
  have HG3 := Lib.hid hg
  have H63 : Hid (N9 (w.heap.size + 1 + 1) (fun _ => 0) w3) := ⟨fun k hk => up_cell (H62.out.1 k hk) hg, fun o => (grow_frozen hg _ o (cell_lt (H62.out.1 0 (by decide)))).trans (H62.out.2 o)⟩
  clear hg
  have HGB : Hid (GB w.heap.size w w3) := ((GX.of_grow (fun _ h => h.elim) HG1.out).trans (GX.shrinkB HG2.out (by omega))).trans (GX.of_grow (fun _ h => h.elim) HG3.out)
  have z0 : w3.cell? ⟨w.heap.size + 1 + 1, 0, none⟩ = some (.float .f64 0) := H63.out.1 0 (by decide)
  have z1 : w3.cell? ⟨w.heap.size + 1 + 1, 1, none⟩ = some (.float .f64 0) := H63.out.1 1 (by decide)
  have z2 : w3.cell? ⟨w.heap.size + 1 + 1, 2, none⟩ = some (.float .f64 0) := H63.out.1 2 (by decide)
  have z3 : w3.cell? ⟨w.heap.size + 1 + 1, 3, none⟩ = some (.float .f64 0) := H63.out.1 3 (by decide)
  have z4 : w3.cell? ⟨w.heap.size + 1 + 1, 4, none⟩ = some (.float .f64 0) := H63.out.1 4 (by decide)
  have z5 : w3.cell? ⟨w.heap.size + 1 + 1, 5, none⟩ = some (.float .f64 0) := H63.out.1 5 (by decide)
  have z6 : w3.cell? ⟨w.heap.size + 1 + 1, 6, none⟩ = some (.float .f64 0) := H63.out.1 6 (by decide)
  have z7 : w3.cell? ⟨w.heap.size + 1 + 1, 7, none⟩ = some (.float .f64 0) := H63.out.1 7 (by decide)
  have z8 : w3.cell? ⟨w.heap.size + 1 + 1, 8, none⟩ = some (.float .f64 0) := H63.out.1 8 (by decide)
  have fz := H63.out.2
  go_wp2
  refine bodyPost_ret (v := MatV p) ?_ rfl ⟨rfl, ?_⟩
  · have HF := H63.out.nine p
    show Sem.run Tryd.prog (results Tryd.f12 _) (set9 (w.heap.size + 1 + 1) p w3) = Result.ok (MatV p) (set9 (w.heap.size + 1 + 1) p w3)
    generalize set9 (w.heap.size + 1 + 1) p w3 = wf at HF ⊢
    clear z0 z1 z2 z3 z4 z5 z6 z7 z8 fz
    have q0 : wf.cell? ⟨w.heap.size + 1 + 1, 0, none⟩ = some (.float .f64 (p 0)) := HF.1 0 (by decide)
    have q1 : wf.cell? ⟨w.heap.size + 1 + 1, 1, none⟩ = some (.float .f64 (p 1)) := HF.1 1 (by decide)
    have q2 : wf.cell? ⟨w.heap.size + 1 + 1, 2, none⟩ = some (.float .f64 (p 2)) := HF.1 2 (by decide)
    have q3 : wf.cell? ⟨w.heap.size + 1 + 1, 3, none⟩ = some (.float .f64 (p 3)) := HF.1 3 (by decide)
    have q4 : wf.cell? ⟨w.heap.size + 1 + 1, 4, none⟩ = some (.float .f64 (p 4)) := HF.1 4 (by decide)
    have q5 : wf.cell? ⟨w.heap.size + 1 + 1, 5, none⟩ = some (.float .f64 (p 5)) := HF.1 5 (by decide)
    have q6 : wf.cell? ⟨w.heap.size + 1 + 1, 6, none⟩ = some (.float .f64 (p 6)) := HF.1 6 (by decide)
    have q7 : wf.cell? ⟨w.heap.size + 1 + 1, 7, none⟩ = some (.float .f64 (p 7)) := HF.1 7 (by decide)
    have q8 : wf.cell? ⟨w.heap.size + 1 + 1, 8, none⟩ = some (.float .f64 (p 8)) := HF.1 8 (by decide)
    simp [results, Tryd.results12, go_sem, q0, q1, q2, q3, q4, q5, q6, q7, q8]
  · show Grow w (set9 (w.heap.size + 1 + 1) p w3)
    exact (gb_set9 HGB.out (by omega) p).grow (Grow.refl w) (fun k hk => hk)
end Go.Proofs.YtpnmcmpeecpjeaaDoor
