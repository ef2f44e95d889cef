import Derived.Test.YtlkoaanagbgpkaaBufD
namespace Go.Proofs.Ytlkoaanagbgpkaa
open Go.ChangeShapes Go.WideShapes Go.ChangeAt Go.RowKit Go.GrowR
set_option linter.unusedVariables false
set_option linter.unusedSimpArgs false

/-- n numbers of the empty point in block a -/
def NaNs (a n : Nat) (w : World) : Prop := (∀ k, k < n → w.cell? ⟨a, k, none⟩ = some (.float .f64 9221120237041090560)) ∧ ∀ o, w.frozen? ⟨a, o, none⟩ = false
theorem NaNs.up {a n : Nat} {w w' : World} (h : NaNs a n w) (hn : 0 < n) (hg : Grow w w') : NaNs a n w' := ⟨fun k hk => up_cell (h.1 k hk) hg, fun o => (froz_up (cell_lt (h.1 0 hn)) hg).trans (h.2 o)⟩
def fB (big : Bool) (n i : Nat) (k : Nat) : Int := if k < 8 * i then eB big (k % 8) else 0
theorem rowI_new (n : Nat) (w : World) : RowI w.heap.size n (fun _ => 0) (w.alloc (.cells (madeCells #[.int .u8 0] n) 5)) := by
  refine ⟨fun k hk => ?_, fun o => by go_simp⟩
  rw [cell_of_row _ _ _ _ _ _ (heap_alloc_new w _)]
  have h1 : k % 1 = 0 := Nat.mod_one k
  simp [madeCells, hk, h1]
def WfP (big : Bool) (b n : Nat) (w : World) (e : Ending) (w' : World) : Prop := e = .returned .nilIface ∧ Full b (8 * n) (fB big n n) w' ∧ Below b w w'
set_option maxRecDepth 100000 in
set_option maxHeartbeats 4000000 in
theorem writeArr_calls (big : Bool) (b a n : Nat) (w : World) (hf : Fresh b w) (ha : NaNs a n w) (h1 : 1 ≤ n) (h9 : n ≤ 9) :
    Calls Try.prog 132 #[.iface 96 (.pointer (some ⟨b, 0, none⟩)), ordV big, .slice (some ⟨a, 0, none⟩) n n] w (WfP big b n w) := by
  have hD : ∀ (w : World), (method 343 96 (.pointer (some ⟨b, 0, none⟩)) "Write").run Try.prog w = .ok (179, .pointer (some ⟨b, 0, none⟩)) w := fun _ => by kernel_rfl
  have hwr : IntKind.i64.wrap (8 * (n : Int)) = 8 * (n : Int) := by rw [IntKind.wrap_i64]; omega
  have hmk : ∀ w : World, (Instr.makeSlice 25 (.int .i64 (8 * (n : Int))) (.int .i64 (8 * (n : Int)))).run Try.prog w = .ok (.slice (some ⟨w.heap.size, 0, none⟩) (8 * n) (8 * n)) (w.alloc (.cells (madeCells #[.int .u8 0] (8 * n)) 5)) := fun w => by
    have h := make_bytes (8 * n) (8 * n) (Nat.le_refl _) (by omega) w
    rw [show ((8 * n : Nat) : Int) = 8 * (n : Int) from by omega] at h
    exact h
  have HF := Lib.hid hf; have HA := Lib.hid ha
  have hltb := cell_lt hf.1
  have hlta := cell_lt (ha.1 0 (by omega))
  dsimp only at hltb hlta
  have HLB := Lib.hid hltb; have HLA := Lib.hid hlta
  clear hf ha hltb hlta
  go_enter Try.func132, Try.ntmps132
  go_wp2
  go_loopw [18] (fun i wr => ∃ k : Nat, i = .int .i64 k ∧ k ≤ n ∧ Grow w wr ∧ RowI w.heap.size (8 * n) (fB big n k) wr) (fun i _ => n - (intOf i).toNat)
  case atStart =>
    refine ⟨0, rfl, Nat.zero_le _, (Grow.refl _).alloc _, (rowI_new (8 * n) w).congr (fun k hk => ?_)⟩
    unfold fB; rw [if_neg (by omega)]
  case round =>
    obtain ⟨k, rfl, hk, hg, hr⟩ := hrel
    have HG := Lib.hid hg; have HR := Lib.hid hr
    clear hg hr
    by_cases hkn : k < n
    case neg =>
      have e : k = n := by omega
      subst e
      have HFr := Lib.hid (HF.out.up HG.out)
      have HW := Lib.hid (write_calls b w.heap.size (8 * k) (8 * k) (fB big k k) wr HFr.out HR.out (by have := HLB.out; omega) (by omega) (by omega))
      have HN := Lib.hid h1
      go_wp2_with (go_at_call 179; refine HW.out.mono ?_; rintro e w' ⟨rfl, hfull, hb⟩)
      go_ret
      exact ⟨rfl, hfull, (show Below b w wr from HG.out.mono (Nat.le_of_lt HLB.out)).trans hb⟩
    case pos =>
      have hcell : wr.cell? ⟨a, k, none⟩ = some (.float .f64 9221120237041090560) := up_cell (HA.out.1 k hkn) HG.out
      have hlt : (k : Int) < (n : Int) := by omega
      have hw8 : IntKind.i64.wrap (8 * (k : Int)) = 8 * (k : Int) := by rw [IntKind.wrap_i64]; omega
      have hT : (8 * (k : Int)).toNat = 8 * k := by omega
      have hle : 8 * (k : Int) ≤ 8 * (n : Int) := by omega
      have h0 : (0 : Int) ≤ 8 * (k : Int) := by omega
      have HP := Lib.hid (fun c => writeFloat_calls big w.heap.size (8 * n) (8 * k) (8 * n - 8 * k) c (fB big n k) wr HR.out rfl (by omega) (by omega))
      have HKN := Lib.hid (show k < n from hkn)
      go_wp2_with fail
      refine (HP.out _).mono ?_
      rintro e w' ⟨rfl, hr2, hg2⟩
      have HR2 := Lib.hid hr2
      have HG2 := Lib.hid (hg2.grow HG.out (fun k hk => Nat.le_of_eq hk.symm))
      clear hr2 hg2
      have hwk : IntKind.i64.wrap ((k : Int) + 1) = (k : Int) + 1 := by rw [IntKind.wrap_i64]; omega
      go_wp2
      go_roundw
      case rel =>
        refine ⟨k + 1, by go_num, by have := HKN.out; omega, HG2.out, HR2.out.congr (fun j hj => ?_)⟩
        unfold fB
        by_cases hj1 : 8 * k ≤ j ∧ j < 8 * k + 8
        · rw [if_pos hj1, if_pos (by omega)]
          have : j - 8 * k = j % 8 := by omega
          rw [this]
        · rw [if_neg hj1]
          by_cases hj2 : j < 8 * k
          · rw [if_pos hj2, if_pos (by omega)]
          · rw [if_neg hj2, if_neg (by omega)]
      case measure => simp [intOf]; omega
def WfP2 (big : Bool) (b n : Nat) (w : World) (e : Ending) (w' : World) : Prop := WfP big b n w e w'
set_option maxHeartbeats 4000000 in
theorem flat0_calls (big : Bool) (b a n : Nat) (w : World) (hf : Fresh b w) (ha : NaNs a n w) (h1 : 1 ≤ n) (h9 : n ≤ 9) :
    Calls Try.prog 107 #[.iface 96 (.pointer (some ⟨b, 0, none⟩)), ordV big, .slice (some ⟨a, 0, none⟩) n n] w (WfP big b n w) := by
  have HW := Lib.hid (writeArr_calls big b a n w hf ha h1 h9)
  clear hf ha
  go_enter Try.func107, Try.ntmps107
  go_wp2_with fail
  refine HW.out.mono ?_
  rintro e w' ⟨rfl, h2, h3⟩
  have H2 := Lib.hid h2
  have H3 := Lib.hid h3
  go_wp2
  go_ret
  exact ⟨rfl, H2.out, H3.out⟩
theorem infoFl : (Try.prog.info? 33).map (fun i => (i.zero, i.size, i.bytes)) = some (some (.float .f64 0), 1, 8) := by kernel_rfl
theorem undFl : Try.prog.underlying 22 = some (.slice 33) := by kernel_rfl
theorem make_floats (n : Nat) (hn : n ≤ 9) (w : World) : (Instr.makeSlice 22 (.int .i64 (n : Int)) (.int .i64 (n : Int))).run Try.prog w = .ok (.slice (some ⟨w.heap.size, 0, none⟩) n n) (w.alloc (.cells (madeCells #[.float .f64 0] n) 33)) := by
  obtain ⟨i, hi, hz, hs, hb⟩ := info_parts infoFl
  have hr := run_make (P := Try.prog) w _ _ i (.float .f64 0) undFl hi hz .i64 .i64 n n (by omega) (by omega) (by rw [hb]; omega) (by omega)
  simp only [Int.toNat_natCast, hs, Nat.mul_one] at hr
  exact hr
/-- a row of n numbers whose first k are those of the empty point -/
def RowN (a n k : Nat) (w : World) : Prop := (∀ j, j < n → ∃ v, w.cell? ⟨a, j, none⟩ = some v) ∧ (∀ j, j < k → w.cell? ⟨a, j, none⟩ = some (.float .f64 9221120237041090560)) ∧ ∀ o, w.frozen? ⟨a, o, none⟩ = false
theorem RowN.set {a n k : Nat} {w : World} (h : RowN a n k w) (hk : k < n) : RowN a n (k + 1) (w.setCell ⟨a, k, none⟩ (.float .f64 9221120237041090560)) := by
  obtain ⟨v, hv⟩ := h.1 k hk
  have hs := World.cell?_setCell_same w ⟨a, k, none⟩ (.float .f64 9221120237041090560) hv
  have ho : ∀ j, j ≠ k → (w.setCell ⟨a, k, none⟩ (.float .f64 9221120237041090560)).cell? ⟨a, j, none⟩ = w.cell? ⟨a, j, none⟩ := fun j hj => World.cell?_setCell_other _ _ _ _ (by intro hc; injection hc with h5 h6; exact hj (by omega))
  refine ⟨fun j hj => ?_, fun j hj => ?_, fun o => by rw [World.frozen?_setCell]; exact h.2.2 o⟩
  · by_cases he : j = k
    · subst he; exact ⟨_, hs⟩
    · obtain ⟨u, hu⟩ := h.1 j hj; exact ⟨u, by rw [ho j he]; exact hu⟩
  · by_cases he : j = k
    · subst he; exact hs
    · rw [ho j he]; exact h.2.1 j (by omega)
theorem rowN_new (n : Nat) (w : World) : RowN w.heap.size n 0 (w.alloc (.cells (madeCells #[.float .f64 0] n) 33)) := by
  refine ⟨fun k hk => ⟨.float .f64 0, ?_⟩, fun j hj => by omega, fun o => by go_simp⟩
  rw [cell_of_row _ _ _ _ _ _ (heap_alloc_new w _)]
  have h1 : k % 1 = 0 := Nat.mod_one k
  simp [madeCells, hk, h1]
set_option maxRecDepth 100000 in
set_option maxHeartbeats 4000000 in
theorem nan_calls (big : Bool) (b n : Nat) (w : World) (hf : Fresh b w) (h1 : 1 ≤ n) (h9 : n ≤ 9) :
    Calls Try.prog 71 #[.iface 96 (.pointer (some ⟨b, 0, none⟩)), ordV big, .int .i64 n] w (WfP big b n w) := by
  have hmk := make_floats n h9
  have HF := Lib.hid hf
  have hltb := cell_lt hf.1
  dsimp only at hltb
  have HLB := Lib.hid hltb
  clear hf hltb
  have HPE := Lib.hid pointEmpty_calls
  go_enter Try.func71, Try.ntmps71
  go_wp2
  go_loopw [12] (fun i wr => ∃ k : Nat, i = .int .i64 k ∧ k ≤ n ∧ Grow w wr ∧ RowN w.heap.size n k wr) (fun i _ => n - (intOf i).toNat)
  case atStart =>
    exact ⟨0, rfl, Nat.zero_le _, (Grow.refl _).alloc _, rowN_new n w⟩
  case round =>
    obtain ⟨k, rfl, hk, hg, hr⟩ := hrel
    have HG := Lib.hid hg; have HR := Lib.hid hr
    clear hg hr
    by_cases hkn : k < n
    case neg =>
      have e : k = n := by omega
      subst e
      have HW := Lib.hid (flat0_calls big b w.heap.size k wr (HF.out.up HG.out) ⟨HR.out.2.1, HR.out.2.2⟩ h1 h9)
      go_wp2_with (go_at_call 107; refine HW.out.mono ?_; rintro e w' ⟨rfl, hfull, hb⟩; have HU := Lib.hid hfull; have HB := Lib.hid hb; clear hfull hb)
      go_ret
      exact ⟨rfl, HU.out, (show Below b w wr from HG.out.mono (Nat.le_of_lt HLB.out)).trans HB.out⟩
    case pos =>
      obtain ⟨v, hcell⟩ := HR.out.1 k hkn
      have hfz := HR.out.2.2
      have hlt : (k : Int) < (n : Int) := by omega
      have hwk : IntKind.i64.wrap ((k : Int) + 1) = (k : Int) + 1 := by rw [IntKind.wrap_i64]; omega
      have HKN := Lib.hid (show k < n from hkn)
      go_wp2_with (go_at_call 106; refine (HPE.out _).mono ?_; rintro e w' ⟨rfl, rfl⟩)
      go_roundw
      case rel =>
        refine ⟨k + 1, by go_num, by have := HKN.out; omega, ?_, HR.out.set HKN.out⟩
        exact HG.out.setCell (Nat.le_refl _) _
      case measure => simp [intOf]; omega
end Go.Proofs.Ytlkoaanagbgpkaa
