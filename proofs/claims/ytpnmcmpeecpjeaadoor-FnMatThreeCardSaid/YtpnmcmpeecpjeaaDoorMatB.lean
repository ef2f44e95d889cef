import Derived.Test.YtpnmcmpeecpjeaaDoorMatA
namespace Go.Proofs.YtpnmcmpeecpjeaaDoor
open Go.ChangeShapes Go.WideShapes Go.ChangeAt Go.RowKit Go.GrowR
set_option linter.unusedVariables false
set_option linter.unusedSimpArgs false

theorem GX.shrink {S S' : Nat → Prop} {a b : World} (h : GN S a b) (hS : ∀ k, k < a.heap.size → (S k ↔ S' k)) : GN S' a b :=
  ⟨h.os, h.tape, h.output, h.size, fun k hk hn => h.block k hk (fun hs => hn ((hS k hk).1 hs)), fun k o hs hk => h.frozen k o ((hS k hk).2 hs) hk, fun k o hs hk hx => h.there k o ((hS k hk).2 hs) hk hx, fun X hX => hX.elim⟩
theorem GX.shrinkR {mb db : Nat} {a b : World} (h : GN (fun k => k = db) a b) : GN (fun k => k = mb ∨ k = db) a b :=
  ⟨h.os, h.tape, h.output, h.size, fun k hk hn => h.block k hk (fun hs => hn (.inr hs)), fun k o hs hk => h.froz k o hk, fun k o hs hk hx => h.some hx, fun X hX => hX.elim⟩
theorem M9.congr {B mb db : Nat} {ds ds' : Nat → Nat} {w : World} (h : M9 B mb db ds w) (hd : ∀ k, k < 9 → ds k = ds' k) : M9 B mb db ds' w := ⟨h.1, fun k hk => by rw [h.2.1 k hk, hd k hk], h.2.2.1, h.2.2.2.1, h.2.2.2.2⟩
def OutP (B mb : Nat) (p : Nat → Nat) (w : World) (e : Ending) (w' : World) : Prop := ∃ db, e = .returned (.tuple #[]) ∧ M9 B mb db p w' ∧ w.heap.size ≤ db ∧ GN (fun k => k = mb) w w'
set_option maxRecDepth 100000 in
set_option maxHeartbeats 4000000 in
theorem outer_calls (B mb al x0 x1 x2 y0 y1 y2 a0 a1 a2 : Nat) (p : Nat → Nat) (w : World) (h0 : w.cell? ⟨mb, 0, none⟩ = some (.pointer none)) (f0 : w.frozen? ⟨mb, 0, none⟩ = false) (hB : B ≤ mb)
    (ha0 : floatBits .mul .f64 al x0 = some a0)
    (ha1 : floatBits .mul .f64 al x1 = some a1)
    (ha2 : floatBits .mul .f64 al x2 = some a2)
    (hp00 : floatBits .mul .f64 a0 y0 = some (p 0))
    (hp01 : floatBits .mul .f64 a0 y1 = some (p 1))
    (hp02 : floatBits .mul .f64 a0 y2 = some (p 2))
    (hp10 : floatBits .mul .f64 a1 y0 = some (p 3))
    (hp11 : floatBits .mul .f64 a1 y1 = some (p 4))
    (hp12 : floatBits .mul .f64 a1 y2 = some (p 5))
    (hp20 : floatBits .mul .f64 a2 y0 = some (p 6))
    (hp21 : floatBits .mul .f64 a2 y1 = some (p 7))
    (hp22 : floatBits .mul .f64 a2 y2 = some (p 8))
    : Calls Tryd.prog 15 #[.pointer (some ⟨mb, 0, none⟩), .float .f64 al, P3V x0 x1 x2, P3V y0 y1 y2] w (OutP B mb p w) := by
  have ga0 := fop (P := Tryd.prog) ha0
  have ga1 := fop (P := Tryd.prog) ha1
  have ga2 := fop (P := Tryd.prog) ha2
  have gp00 := fop (P := Tryd.prog) hp00
  have gp01 := fop (P := Tryd.prog) hp01
  have gp02 := fop (P := Tryd.prog) hp02
  have gp10 := fop (P := Tryd.prog) hp10
  have gp11 := fop (P := Tryd.prog) hp11
  have gp12 := fop (P := Tryd.prog) hp12
  have gp20 := fop (P := Tryd.prog) hp20
  have gp21 := fop (P := Tryd.prog) hp21
  have gp22 := fop (P := Tryd.prog) hp22
  clear ha0 ha1 ha2 hp00 hp01 hp02 hp10 hp11 hp12 hp20 hp21 hp22
  have lb := cell_lt h0
  dsimp only at lb
  have LB := Lib.hid lb
  have hne0 : ¬ w.heap.size + 1 = mb := by omega
  have hne1 : ¬ w.heap.size = mb := by omega
  obtain ⟨wa, hwa⟩ : ∃ wa, wa = (w.alloc (Obj.cells #[.float .f64 x0, .float .f64 x1, .float .f64 x2] 45)).alloc (Obj.cells #[.float .f64 y0, .float .f64 y1, .float .f64 y2] 45) := ⟨_, rfl⟩
  have HWA := Lib.hid hwa
  have h0' : wa.cell? ⟨mb, 0, none⟩ = some (.pointer none) := by rw [hwa]; go_simp
  have f0' : wa.frozen? ⟨mb, 0, none⟩ = false := by rw [hwa]; go_simp
  have HS0 := Lib.hid (fun v => setNil_calls B mb v wa h0' f0' hB)
  have cx0 : wa.cell? ⟨w.heap.size, 0, none⟩ = some (.float .f64 x0) := by rw [hwa]; go_simp
  have cx1 : wa.cell? ⟨w.heap.size, 1, none⟩ = some (.float .f64 x1) := by rw [hwa]; go_simp
  have cx2 : wa.cell? ⟨w.heap.size, 2, none⟩ = some (.float .f64 x2) := by rw [hwa]; go_simp
  have cy0 : wa.cell? ⟨w.heap.size + 1, 0, none⟩ = some (.float .f64 y0) := by rw [hwa]; go_simp
  have cy1 : wa.cell? ⟨w.heap.size + 1, 1, none⟩ = some (.float .f64 y1) := by rw [hwa]; go_simp
  have cy2 : wa.cell? ⟨w.heap.size + 1, 2, none⟩ = some (.float .f64 y2) := by rw [hwa]; go_simp
  have hwz : wa.heap.size = w.heap.size + 1 + 1 := by rw [hwa]; go_simp
  have HWZ := Lib.hid hwz
  have HGA : Hid (Grow w wa) := by rw [hwa]; exact ((Grow.refl _).alloc _).alloc _
  clear hwa h0 f0 h0' f0' hwz
  have CX0 := Lib.hid cx0
  have CX1 := Lib.hid cx1
  have CX2 := Lib.hid cx2
  have CY0 := Lib.hid cy0
  have CY1 := Lib.hid cy1
  have CY2 := Lib.hid cy2
  clear cx0 cx1 cx2 cy0 cy1 cy2
  go_enter Tryd.func15, Tryd.ntmps15
  go_wp2_with fail
  rw [← HWA.out]
  refine (HS0.out _).mono ?_
  rintro e w0 ⟨db, rfl, hm, hdb, hg⟩
  have HM := Lib.hid hm; have HDB := Lib.hid hdb
  have HG : Hid (GN (fun k => k = mb ∨ k = db) wa w0) := GX.shrink hg (fun k hk => ⟨fun h => .inl h, fun h => h.elim id (fun h => by omega)⟩)
  clear hm hdb hg lb hne0 hne1
  have dx0 : w0.cell? ⟨w.heap.size, 0, none⟩ = some (.float .f64 x0) := (HG.out.cell w.heap.size 0 (by have := HWZ.out; omega) (by have := HWZ.out; have := HDB.out; have := LB.out; omega)).trans CX0.out
  have dx1 : w0.cell? ⟨w.heap.size, 1, none⟩ = some (.float .f64 x1) := (HG.out.cell w.heap.size 1 (by have := HWZ.out; omega) (by have := HWZ.out; have := HDB.out; have := LB.out; omega)).trans CX1.out
  have dx2 : w0.cell? ⟨w.heap.size, 2, none⟩ = some (.float .f64 x2) := (HG.out.cell w.heap.size 2 (by have := HWZ.out; omega) (by have := HWZ.out; have := HDB.out; have := LB.out; omega)).trans CX2.out
  have dy0 : w0.cell? ⟨(w.heap.size + 1), 0, none⟩ = some (.float .f64 y0) := (HG.out.cell (w.heap.size + 1) 0 (by have := HWZ.out; omega) (by have := HWZ.out; have := HDB.out; have := LB.out; omega)).trans CY0.out
  have dy1 : w0.cell? ⟨(w.heap.size + 1), 1, none⟩ = some (.float .f64 y1) := (HG.out.cell (w.heap.size + 1) 1 (by have := HWZ.out; omega) (by have := HWZ.out; have := HDB.out; have := LB.out; omega)).trans CY1.out
  have dy2 : w0.cell? ⟨(w.heap.size + 1), 2, none⟩ = some (.float .f64 y2) := (HG.out.cell (w.heap.size + 1) 2 (by have := HWZ.out; omega) (by have := HWZ.out; have := HDB.out; have := LB.out; omega)).trans CY2.out
  go_wp2_with fail
  refine (set_calls B mb db 0 1 (p 1) _ _ HM.out (by decide) (by decide)).mono ?_
  rintro e w1 ⟨rfl, hm, hg⟩
  have HM' := Lib.hid hm
  have HG' : Hid (GN (fun k => k = mb ∨ k = db) wa w1) := HG.out.trans (GX.shrinkR hg)
  clear HM HG hm hg dx0 dx1 dx2 dy0 dy1 dy2
  have HM := HM'; have HG := HG'
  clear HM' HG'
  have dx0 : w1.cell? ⟨w.heap.size, 0, none⟩ = some (.float .f64 x0) := (HG.out.cell w.heap.size 0 (by have := HWZ.out; omega) (by have := HWZ.out; have := HDB.out; have := LB.out; omega)).trans CX0.out
  have dx1 : w1.cell? ⟨w.heap.size, 1, none⟩ = some (.float .f64 x1) := (HG.out.cell w.heap.size 1 (by have := HWZ.out; omega) (by have := HWZ.out; have := HDB.out; have := LB.out; omega)).trans CX1.out
  have dx2 : w1.cell? ⟨w.heap.size, 2, none⟩ = some (.float .f64 x2) := (HG.out.cell w.heap.size 2 (by have := HWZ.out; omega) (by have := HWZ.out; have := HDB.out; have := LB.out; omega)).trans CX2.out
  have dy0 : w1.cell? ⟨(w.heap.size + 1), 0, none⟩ = some (.float .f64 y0) := (HG.out.cell (w.heap.size + 1) 0 (by have := HWZ.out; omega) (by have := HWZ.out; have := HDB.out; have := LB.out; omega)).trans CY0.out
  have dy1 : w1.cell? ⟨(w.heap.size + 1), 1, none⟩ = some (.float .f64 y1) := (HG.out.cell (w.heap.size + 1) 1 (by have := HWZ.out; omega) (by have := HWZ.out; have := HDB.out; have := LB.out; omega)).trans CY1.out
  have dy2 : w1.cell? ⟨(w.heap.size + 1), 2, none⟩ = some (.float .f64 y2) := (HG.out.cell (w.heap.size + 1) 2 (by have := HWZ.out; omega) (by have := HWZ.out; have := HDB.out; have := LB.out; omega)).trans CY2.out
  go_wp2_with fail
  refine (set_calls B mb db 0 2 (p 2) _ _ HM.out (by decide) (by decide)).mono ?_
  rintro e w2 ⟨rfl, hm, hg⟩
  have HM' := Lib.hid hm
  have HG' : Hid (GN (fun k => k = mb ∨ k = db) wa w2) := HG.out.trans (GX.shrinkR hg)
  clear HM HG hm hg dx0 dx1 dx2 dy0 dy1 dy2
  have HM := HM'; have HG := HG'
  clear HM' HG'
  have dx0 : w2.cell? ⟨w.heap.size, 0, none⟩ = some (.float .f64 x0) := (HG.out.cell w.heap.size 0 (by have := HWZ.out; omega) (by have := HWZ.out; have := HDB.out; have := LB.out; omega)).trans CX0.out
  have dx1 : w2.cell? ⟨w.heap.size, 1, none⟩ = some (.float .f64 x1) := (HG.out.cell w.heap.size 1 (by have := HWZ.out; omega) (by have := HWZ.out; have := HDB.out; have := LB.out; omega)).trans CX1.out
  have dx2 : w2.cell? ⟨w.heap.size, 2, none⟩ = some (.float .f64 x2) := (HG.out.cell w.heap.size 2 (by have := HWZ.out; omega) (by have := HWZ.out; have := HDB.out; have := LB.out; omega)).trans CX2.out
  have dy0 : w2.cell? ⟨(w.heap.size + 1), 0, none⟩ = some (.float .f64 y0) := (HG.out.cell (w.heap.size + 1) 0 (by have := HWZ.out; omega) (by have := HWZ.out; have := HDB.out; have := LB.out; omega)).trans CY0.out
  have dy1 : w2.cell? ⟨(w.heap.size + 1), 1, none⟩ = some (.float .f64 y1) := (HG.out.cell (w.heap.size + 1) 1 (by have := HWZ.out; omega) (by have := HWZ.out; have := HDB.out; have := LB.out; omega)).trans CY1.out
  have dy2 : w2.cell? ⟨(w.heap.size + 1), 2, none⟩ = some (.float .f64 y2) := (HG.out.cell (w.heap.size + 1) 2 (by have := HWZ.out; omega) (by have := HWZ.out; have := HDB.out; have := LB.out; omega)).trans CY2.out
  go_wp2_with fail
  refine (set_calls B mb db 1 0 (p 3) _ _ HM.out (by decide) (by decide)).mono ?_
  rintro e w3 ⟨rfl, hm, hg⟩
  have HM' := Lib.hid hm
  have HG' : Hid (GN (fun k => k = mb ∨ k = db) wa w3) := HG.out.trans (GX.shrinkR hg)
  clear HM HG hm hg dx0 dx1 dx2 dy0 dy1 dy2
  have HM := HM'; have HG := HG'
  clear HM' HG'
  have dx0 : w3.cell? ⟨w.heap.size, 0, none⟩ = some (.float .f64 x0) := (HG.out.cell w.heap.size 0 (by have := HWZ.out; omega) (by have := HWZ.out; have := HDB.out; have := LB.out; omega)).trans CX0.out
  have dx1 : w3.cell? ⟨w.heap.size, 1, none⟩ = some (.float .f64 x1) := (HG.out.cell w.heap.size 1 (by have := HWZ.out; omega) (by have := HWZ.out; have := HDB.out; have := LB.out; omega)).trans CX1.out
  have dx2 : w3.cell? ⟨w.heap.size, 2, none⟩ = some (.float .f64 x2) := (HG.out.cell w.heap.size 2 (by have := HWZ.out; omega) (by have := HWZ.out; have := HDB.out; have := LB.out; omega)).trans CX2.out
  have dy0 : w3.cell? ⟨(w.heap.size + 1), 0, none⟩ = some (.float .f64 y0) := (HG.out.cell (w.heap.size + 1) 0 (by have := HWZ.out; omega) (by have := HWZ.out; have := HDB.out; have := LB.out; omega)).trans CY0.out
  have dy1 : w3.cell? ⟨(w.heap.size + 1), 1, none⟩ = some (.float .f64 y1) := (HG.out.cell (w.heap.size + 1) 1 (by have := HWZ.out; omega) (by have := HWZ.out; have := HDB.out; have := LB.out; omega)).trans CY1.out
  have dy2 : w3.cell? ⟨(w.heap.size + 1), 2, none⟩ = some (.float .f64 y2) := (HG.out.cell (w.heap.size + 1) 2 (by have := HWZ.out; omega) (by have := HWZ.out; have := HDB.out; have := LB.out; omega)).trans CY2.out
  go_wp2_with fail
  refine (set_calls B mb db 1 1 (p 4) _ _ HM.out (by decide) (by decide)).mono ?_
  rintro e w4 ⟨rfl, hm, hg⟩
  have HM' := Lib.hid hm
  have HG' : Hid (GN (fun k => k = mb ∨ k = db) wa w4) := HG.out.trans (GX.shrinkR hg)
  clear HM HG hm hg dx0 dx1 dx2 dy0 dy1 dy2
  have HM := HM'; have HG := HG'
  clear HM' HG'
  have dx0 : w4.cell? ⟨w.heap.size, 0, none⟩ = some (.float .f64 x0) := (HG.out.cell w.heap.size 0 (by have := HWZ.out; omega) (by have := HWZ.out; have := HDB.out; have := LB.out; omega)).trans CX0.out
  have dx1 : w4.cell? ⟨w.heap.size, 1, none⟩ = some (.float .f64 x1) := (HG.out.cell w.heap.size 1 (by have := HWZ.out; omega) (by have := HWZ.out; have := HDB.out; have := LB.out; omega)).trans CX1.out
  have dx2 : w4.cell? ⟨w.heap.size, 2, none⟩ = some (.float .f64 x2) := (HG.out.cell w.heap.size 2 (by have := HWZ.out; omega) (by have := HWZ.out; have := HDB.out; have := LB.out; omega)).trans CX2.out
  have dy0 : w4.cell? ⟨(w.heap.size + 1), 0, none⟩ = some (.float .f64 y0) := (HG.out.cell (w.heap.size + 1) 0 (by have := HWZ.out; omega) (by have := HWZ.out; have := HDB.out; have := LB.out; omega)).trans CY0.out
  have dy1 : w4.cell? ⟨(w.heap.size + 1), 1, none⟩ = some (.float .f64 y1) := (HG.out.cell (w.heap.size + 1) 1 (by have := HWZ.out; omega) (by have := HWZ.out; have := HDB.out; have := LB.out; omega)).trans CY1.out
  have dy2 : w4.cell? ⟨(w.heap.size + 1), 2, none⟩ = some (.float .f64 y2) := (HG.out.cell (w.heap.size + 1) 2 (by have := HWZ.out; omega) (by have := HWZ.out; have := HDB.out; have := LB.out; omega)).trans CY2.out
  go_wp2_with fail
  refine (set_calls B mb db 1 2 (p 5) _ _ HM.out (by decide) (by decide)).mono ?_
  rintro e w5 ⟨rfl, hm, hg⟩
  have HM' := Lib.hid hm
  have HG' : Hid (GN (fun k => k = mb ∨ k = db) wa w5) := HG.out.trans (GX.shrinkR hg)
  clear HM HG hm hg dx0 dx1 dx2 dy0 dy1 dy2
  have HM := HM'; have HG := HG'
  clear HM' HG'
  have dx0 : w5.cell? ⟨w.heap.size, 0, none⟩ = some (.float .f64 x0) := (HG.out.cell w.heap.size 0 (by have := HWZ.out; omega) (by have := HWZ.out; have := HDB.out; have := LB.out; omega)).trans CX0.out
  have dx1 : w5.cell? ⟨w.heap.size, 1, none⟩ = some (.float .f64 x1) := (HG.out.cell w.heap.size 1 (by have := HWZ.out; omega) (by have := HWZ.out; have := HDB.out; have := LB.out; omega)).trans CX1.out
  have dx2 : w5.cell? ⟨w.heap.size, 2, none⟩ = some (.float .f64 x2) := (HG.out.cell w.heap.size 2 (by have := HWZ.out; omega) (by have := HWZ.out; have := HDB.out; have := LB.out; omega)).trans CX2.out
  have dy0 : w5.cell? ⟨(w.heap.size + 1), 0, none⟩ = some (.float .f64 y0) := (HG.out.cell (w.heap.size + 1) 0 (by have := HWZ.out; omega) (by have := HWZ.out; have := HDB.out; have := LB.out; omega)).trans CY0.out
  have dy1 : w5.cell? ⟨(w.heap.size + 1), 1, none⟩ = some (.float .f64 y1) := (HG.out.cell (w.heap.size + 1) 1 (by have := HWZ.out; omega) (by have := HWZ.out; have := HDB.out; have := LB.out; omega)).trans CY1.out
  have dy2 : w5.cell? ⟨(w.heap.size + 1), 2, none⟩ = some (.float .f64 y2) := (HG.out.cell (w.heap.size + 1) 2 (by have := HWZ.out; omega) (by have := HWZ.out; have := HDB.out; have := LB.out; omega)).trans CY2.out
  go_wp2_with fail
  refine (set_calls B mb db 2 0 (p 6) _ _ HM.out (by decide) (by decide)).mono ?_
  rintro e w6 ⟨rfl, hm, hg⟩
  have HM' := Lib.hid hm
  have HG' : Hid (GN (fun k => k = mb ∨ k = db) wa w6) := HG.out.trans (GX.shrinkR hg)
  clear HM HG hm hg dx0 dx1 dx2 dy0 dy1 dy2
  have HM := HM'; have HG := HG'
  clear HM' HG'
  have dx0 : w6.cell? ⟨w.heap.size, 0, none⟩ = some (.float .f64 x0) := (HG.out.cell w.heap.size 0 (by have := HWZ.out; omega) (by have := HWZ.out; have := HDB.out; have := LB.out; omega)).trans CX0.out
  have dx1 : w6.cell? ⟨w.heap.size, 1, none⟩ = some (.float .f64 x1) := (HG.out.cell w.heap.size 1 (by have := HWZ.out; omega) (by have := HWZ.out; have := HDB.out; have := LB.out; omega)).trans CX1.out
  have dx2 : w6.cell? ⟨w.heap.size, 2, none⟩ = some (.float .f64 x2) := (HG.out.cell w.heap.size 2 (by have := HWZ.out; omega) (by have := HWZ.out; have := HDB.out; have := LB.out; omega)).trans CX2.out
  have dy0 : w6.cell? ⟨(w.heap.size + 1), 0, none⟩ = some (.float .f64 y0) := (HG.out.cell (w.heap.size + 1) 0 (by have := HWZ.out; omega) (by have := HWZ.out; have := HDB.out; have := LB.out; omega)).trans CY0.out
  have dy1 : w6.cell? ⟨(w.heap.size + 1), 1, none⟩ = some (.float .f64 y1) := (HG.out.cell (w.heap.size + 1) 1 (by have := HWZ.out; omega) (by have := HWZ.out; have := HDB.out; have := LB.out; omega)).trans CY1.out
  have dy2 : w6.cell? ⟨(w.heap.size + 1), 2, none⟩ = some (.float .f64 y2) := (HG.out.cell (w.heap.size + 1) 2 (by have := HWZ.out; omega) (by have := HWZ.out; have := HDB.out; have := LB.out; omega)).trans CY2.out
  go_wp2_with fail
  refine (set_calls B mb db 2 1 (p 7) _ _ HM.out (by decide) (by decide)).mono ?_
  rintro e w7 ⟨rfl, hm, hg⟩
  have HM' := Lib.hid hm
  have HG' : Hid (GN (fun k => k = mb ∨ k = db) wa w7) := HG.out.trans (GX.shrinkR hg)
  clear HM HG hm hg dx0 dx1 dx2 dy0 dy1 dy2
  have HM := HM'; have HG := HG'
  clear HM' HG'
  have dx0 : w7.cell? ⟨w.heap.size, 0, none⟩ = some (.float .f64 x0) := (HG.out.cell w.heap.size 0 (by have := HWZ.out; omega) (by have := HWZ.out; have := HDB.out; have := LB.out; omega)).trans CX0.out
  have dx1 : w7.cell? ⟨w.heap.size, 1, none⟩ = some (.float .f64 x1) := (HG.out.cell w.heap.size 1 (by have := HWZ.out; omega) (by have := HWZ.out; have := HDB.out; have := LB.out; omega)).trans CX1.out
  have dx2 : w7.cell? ⟨w.heap.size, 2, none⟩ = some (.float .f64 x2) := (HG.out.cell w.heap.size 2 (by have := HWZ.out; omega) (by have := HWZ.out; have := HDB.out; have := LB.out; omega)).trans CX2.out
  have dy0 : w7.cell? ⟨(w.heap.size + 1), 0, none⟩ = some (.float .f64 y0) := (HG.out.cell (w.heap.size + 1) 0 (by have := HWZ.out; omega) (by have := HWZ.out; have := HDB.out; have := LB.out; omega)).trans CY0.out
  have dy1 : w7.cell? ⟨(w.heap.size + 1), 1, none⟩ = some (.float .f64 y1) := (HG.out.cell (w.heap.size + 1) 1 (by have := HWZ.out; omega) (by have := HWZ.out; have := HDB.out; have := LB.out; omega)).trans CY1.out
  have dy2 : w7.cell? ⟨(w.heap.size + 1), 2, none⟩ = some (.float .f64 y2) := (HG.out.cell (w.heap.size + 1) 2 (by have := HWZ.out; omega) (by have := HWZ.out; have := HDB.out; have := LB.out; omega)).trans CY2.out
  go_wp2_with fail
  refine (set_calls B mb db 2 2 (p 8) _ _ HM.out (by decide) (by decide)).mono ?_
  rintro e w8 ⟨rfl, hm, hg⟩
  have HM' := Lib.hid hm
  have HG' : Hid (GN (fun k => k = mb ∨ k = db) wa w8) := HG.out.trans (GX.shrinkR hg)
  clear HM HG hm hg dx0 dx1 dx2 dy0 dy1 dy2
  have HM := HM'; have HG := HG'
  clear HM' HG'
  go_wp2
  refine bodyPost_end (results_none rfl _ _ _) rfl ?_
  refine ⟨db, rfl, M9.congr HM.out (fun k hk => ?_), Nat.le_trans HGA.out.size HDB.out, ?_⟩
  · have : k = 0 ∨ k = 1 ∨ k = 2 ∨ k = 3 ∨ k = 4 ∨ k = 5 ∨ k = 6 ∨ k = 7 ∨ k = 8 := by omega
    rcases this with rfl | rfl | rfl | rfl | rfl | rfl | rfl | rfl | rfl <;> simp [upd]
  · refine GX.shrink ((GX.of_grow (fun _ h => h.elim) HGA.out).trans HG.out) (fun k hk => ⟨fun h => h.elim id (fun h => ?_), fun h => .inl h⟩)
    have := HDB.out; have := HGA.out.size; omega
end Go.Proofs.YtpnmcmpeecpjeaaDoor
