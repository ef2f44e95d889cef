import Derived.Test.YtlkoaanagbgpkaaBufB
import Derived.Lib.AppendZeros
import Derived.Laws.CopyOwn
import Derived.Defers
import Derived.Recover
import Derived.Laws.Rows
import Derived.Deep.OwnRows
namespace Go.Proofs.Ytlkoaanagbgpkaa
open Go.ChangeShapes Go.WideShapes Go.ChangeAt Go.RowKit Go.GrowR
set_option linter.unusedVariables false
set_option linter.unusedSimpArgs false

theorem infoU8 : (Try.prog.info? 5).map (fun i => (i.zero, i.size, i.bytes)) = some (some (.int .u8 0), 1, 1) := by kernel_rfl
theorem undU8 : Try.prog.underlying 25 = some (.slice 5) := by kernel_rfl
theorem undInt : Try.prog.underlying 3 = some (.int .i64) := by kernel_rfl
theorem make_bytes (n c : Nat) (hn : n ≤ c) (hc : c ≤ 1000000) (w : World) : (Instr.makeSlice 25 (.int .i64 (n : Int)) (.int .i64 (c : Int))).run Try.prog w = .ok (.slice (some ⟨w.heap.size, 0, none⟩) n c) (w.alloc (.cells (madeCells #[.int .u8 0] c) 5)) := by
  obtain ⟨i, hi, hz, hs, hb⟩ := info_parts infoU8
  have hr := run_make (P := Try.prog) w _ _ i (.int .u8 0) undU8 hi hz .i64 .i64 n c (by omega) (by omega) (by rw [hb]; omega) (by omega)
  simp only [Int.toNat_natCast, hs, Nat.mul_one] at hr
  exact hr
/-- a fresh buffer in block b -/
def Fresh (b : Nat) (w : World) : Prop := w.cell? ⟨b, 0, none⟩ = some (.slice none 0 0) ∧ w.cell? ⟨b, 1, none⟩ = some (.int .i64 0) ∧ (∃ k, w.cell? ⟨b, 2, none⟩ = some (.int .i8 k)) ∧ ∀ o, w.frozen? ⟨b, o, none⟩ = false
def TryP (w : World) (e : Ending) (w' : World) : Prop := e = .returned (.tuple #[.int .i64 0, .bool false]) ∧ w' = w
theorem tryGrow_calls (b : Nat) (n : Int) (w : World) (h : Fresh b w) (hn : 0 < n) : Calls Try.prog 181 #[.pointer (some ⟨b, 0, none⟩), .int .i64 n] w (TryP w) := by
  obtain ⟨c0, c1, -, f⟩ := h
  go_enter Try.func181, Try.ntmps181
  go_wp2
  exact bodyPost_ret (v := .tuple #[.int .i64 0, .bool false]) (by simp [results, Try.results181, go_sem]) rfl ⟨rfl, rfl⟩
theorem eqlNil (w : World) : (binOp .eql 25 (.slice none 0 0) (.slice none 0 0)).run Try.prog w = .ok (.bool true) w := by kernel_rfl
theorem len_calls (b : Nat) (w : World) (h : Fresh b w) : Calls Try.prog 60 #[.pointer (some ⟨b, 0, none⟩)] w fun e w' => e = .returned (.int .i64 0) ∧ ∃ n, w' = w.drewN n := by
  obtain ⟨c0, c1, -, f⟩ := h
  go_enter Try.func60, Try.ntmps60
  go_wp2
  go_quiet (fail)
  go_wp2
  go_ret
  exact ⟨rfl, _, rfl⟩
/-- the buffer holds a row of n bytes in block h, which has room for c -/
def Grown (b h n c : Nat) (w : World) : Prop := w.cell? ⟨b, 0, none⟩ = some (.slice (some ⟨h, 0, none⟩) n c) ∧ w.cell? ⟨b, 1, none⟩ = some (.int .i64 0) ∧ (∀ o, w.frozen? ⟨b, o, none⟩ = false) ∧ n ≤ c ∧ ∃ cur : Array Value, w.heap[h]? = some (.cells cur 5 (0, 0)) ∧ cur.size = c
def GrowP (b n : Nat) (w : World) (e : Ending) (w' : World) : Prop := e = .returned (.int .i64 0) ∧ ∃ h c, w.heap.size ≤ h ∧ Grown b h n c w' ∧ GX (fun k => k = b) (fun _ => False) w w'
theorem Fresh.up {b : Nat} {w w' : World} (h : Fresh b w) (hg : Grow w w') : Fresh b w' := ⟨up_cell h.1 hg, up_cell h.2.1 hg, let ⟨k, hk⟩ := h.2.2.1; ⟨k, up_cell hk hg⟩, fun o => (froz_up (cell_lt h.1) hg).trans (h.2.2.2 o)⟩
set_option maxRecDepth 100000 in
set_option maxHeartbeats 4000000 in
theorem growSmall_calls (b n : Nat) (w : World) (hf : Fresh b w) (h1 : 1 ≤ n) (h64 : n ≤ 64) : Calls Try.prog 182 #[.pointer (some ⟨b, 0, none⟩), .int .i64 n] w (GrowP b n w) := by
  have heq := eqlNil
  have HF := Lib.hid hf
  have hlt := cell_lt hf.1
  dsimp only at hlt
  have HT := Lib.hid (fun w' (hg : Grow w w') => tryGrow_calls b n w' (hf.up hg) (by omega))
  have HL := Lib.hid (len_calls b w hf)
  have hmk : ∀ w : World, (Instr.makeSlice 25 (.int .i64 (n : Int)) (.int .i64 64)).run Try.prog w = .ok (.slice (some ⟨w.heap.size, 0, none⟩) n 64) (w.alloc (.cells (madeCells #[.int .u8 0] 64) 5)) := fun w => make_bytes n 64 h64 (by decide) w
  clear hf
  go_enter Try.func182, Try.ntmps182
  go_wp2_with fail
  refine HL.out.mono ?_
  rintro e w' ⟨rfl, k, rfl⟩
  have HG := Lib.hid ((Grow.refl w).drewN k)
  obtain ⟨c0, c1, -, f⟩ := HF.out.up HG.out
  have hlt2 : b < (w.drewN k).heap.size := cell_lt c0
  have h64i : (n : Int) ≤ 64 := by omega
  obtain ⟨d0, d1, -, f'⟩ := HF.out
  have fw : ((w.drewN k).alloc (.cells (madeCells #[.int .u8 0] 64) 5)).frozen? ⟨b, 0, none⟩ = false := (froz_up hlt2 ((Grow.refl _).alloc _)).trans (f 0)
  have cw : ((w.drewN k).alloc (.cells (madeCells #[.int .u8 0] 64) 5)).cell? ⟨b, 0, none⟩ = some (.slice none 0 0) := up_cell c0 ((Grow.refl _).alloc _)
  have hlt2 : b < (w.drewN k).heap.size := cell_lt c0
  go_wp2_with fail
  refine (HT.out _ HG.out).mono ?_
  rintro e w' ⟨rfl, rfl⟩
  go_wp2
  go_ret
  have hne : ¬ b = w.heap.size := by omega
  have hne' : ¬ w.heap.size = b := by omega
  have d1w : ((w.drewN k).alloc (.cells (madeCells #[.int .u8 0] 64) 5)).cell? ⟨b, 1, none⟩ = some (.int .i64 0) := up_cell c1 ((Grow.refl _).alloc _)
  show GrowP b n w _ (((w.drewN k).alloc (.cells (madeCells #[.int .u8 0] 64) 5)).setCell ⟨b, 0, none⟩ (.slice (some ⟨w.heap.size, 0, none⟩) n 64))
  refine ⟨rfl, w.heap.size, 64, Nat.le_refl _, ⟨World.cell?_setCell_same _ _ _ cw, ?_, fun o => ?_, h64, madeCells #[.int .u8 0] 64, ?_, ?_⟩, ?_⟩
  · rw [World.cell?_setCell_other _ _ _ _ (by intro hc; cases hc)]; exact d1w
  · rw [World.frozen?_setCell]; exact (froz_up hlt2 ((Grow.refl _).alloc _)).trans (f o)
  · rw [Below.heap_setCell _ _ _ _ (fun e => hne e.symm)]; exact heap_alloc_new _ _
  · simp [size_madeCells]
  · exact (GX.of_grow (fun _ h => h.elim) (HG.out.alloc _)).trans (GX.setCell _ rfl (fun X hX => hX.elim))
end Go.Proofs.Ytlkoaanagbgpkaa
