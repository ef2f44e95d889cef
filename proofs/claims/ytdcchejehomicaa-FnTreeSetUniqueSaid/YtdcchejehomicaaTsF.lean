import Derived.Test.YtdcchejehomicaaTsE
namespace Go.Proofs.Ytdcchejehomicaa
open Go.ChangeShapes Go.WideShapes Go.ChangeAt Go.RowKit Go.GrowR
set_option linter.unusedVariables false
set_option linter.unusedSimpArgs false

abbrev VisF (b1 b2 b3 : Nat) : Value := .func (Fn.func 25) #[] #[.pointer (some ⟨b1, 0, none⟩), .pointer (some ⟨b2, 0, none⟩), .pointer (some ⟨b3, 0, none⟩)]
theorem NT.rowsL {lo hi n : Nat} : ∀ {t : BT} {v : Value} {F : List Nat} {w : World}, NT lo hi n t v F w → ∀ r ∈ t.rows, r.length = n
  | .leaf, _, _, _, _, r, hr => by cases hr
  | .node l q t, v, F, w, ⟨b, V, lv, rv, Fl, Fr, _, _, _, _, ⟨A, c, _, h5, _⟩, _, h7, h8⟩, r, hr => by
    simp only [BT.rows, List.mem_append, List.mem_cons] at hr
    rcases hr with hr | rfl | hr
    · exact rowsL h7 r hr
    · exact h5.symm
    · exact rowsL h8 r hr
theorem bt_flat_len {n : Nat} (t : BT) (h : ∀ r ∈ t.rows, r.length = n) : t.rows.flatten.length = t.size * n := by rw [flat_len h, BT.rows_len]
theorem bt_node_flat (l t : BT) (r Y : List Nat) : Y ++ (BT.node l r t).rows.flatten = ((Y ++ l.rows.flatten) ++ r) ++ t.rows.flatten := by simp [BT.rows]
set_option maxRecDepth 100000 in
set_option maxHeartbeats 8000000 in
theorem walk_node (lo hi n s b1 b2 b3 g N : Nat) (l t : BT) (r : List Nat) (v : Value) (F : List Nat) (Y : List Nat) (w0 w : World) (hn : NT lo hi n (.node l r t) v F w0) (h : WA w0 b1 b2 b3 g n N Y w) (hN : Y.length + (BT.node l r t).size * n ≤ N) (hNl : N ≤ 100000) (n2 : 2 ≤ n) (n9 : n ≤ 9) (hh : hi ≤ w0.heap.size)
    (ihl : ∀ v F Y w, NT lo hi n l v F w0 → WA w0 b1 b2 b3 g n N Y w → Y.length + l.size * n ≤ N → Calls Try.prog 24 #[.pointer (some ⟨s, 0, none⟩), v, VisF b1 b2 b3] w fun e w' => e = .returned (.tuple #[]) ∧ WA w0 b1 b2 b3 g n N (Y ++ l.rows.flatten) w')
    (iht : ∀ v F Y w, NT lo hi n t v F w0 → WA w0 b1 b2 b3 g n N Y w → Y.length + t.size * n ≤ N → Calls Try.prog 24 #[.pointer (some ⟨s, 0, none⟩), v, VisF b1 b2 b3] w fun e w' => e = .returned (.tuple #[]) ∧ WA w0 b1 b2 b3 g n N (Y ++ t.rows.flatten) w') :
    Calls Try.prog 24 #[.pointer (some ⟨s, 0, none⟩), v, VisF b1 b2 b3] w fun e w' => e = .returned (.tuple #[]) ∧ WA w0 b1 b2 b3 g n N (Y ++ (BT.node l r t).rows.flatten) w' := by
  obtain ⟨b, V, lv, rv, Fl, Fr, rfl, rfl, hnd, hnc, hV, hbo, hnl, hnr⟩ := hn
  obtain ⟨B, cv, rfl, hrl, hrs⟩ := hV
  have hfl := bt_flat_len l hnl.rowsL
  have hsz : (BT.node l r t).size * n = l.size * n + n + t.size * n := by simp only [BT.size, Nat.add_mul, Nat.one_mul]
  have HF := Lib.hid (bt_node_flat l t r Y)
  obtain ⟨al, rfl⟩ := hnl.isP
  obtain ⟨ar, rfl⟩ := hnr.isP
  have HC := Lib.hid hnc
  have HL := Lib.hid (ihl _ Fl Y w hnl h (by omega))
  have HR := Lib.hid (fun w' (h' : WA w0 b1 b2 b3 g n N ((Y ++ l.rows.flatten) ++ r) w') => iht _ Fr _ w' hnr h' (by simp only [List.length_append, hfl]; omega))
  have HV := Lib.hid (fun w' (h' : WA w0 b1 b2 b3 g n N (Y ++ l.rows.flatten) w') => visit_calls w0 b1 b2 b3 g n N cv B r _ w' h' (FSl.up _ _ hrs.now h'.gr) (fun bb o e => by
    obtain ⟨b', o', e', hc⟩ := fcell hrs.now (show 0 < n by omega)
    rw [e] at e'; cases e'
    have := cell_ltH hc; have := h'.lb.2; simp at *; omega) hrl (by simp only [List.length_append, hfl]; omega) hNl n9)
  have c0 := up_cell hnc.c0 h.gr
  clear ihl iht hnl hnr hnc hbo hnd hrs hfl hsz hN h hrl
  go_enter Try.func24, Try.ntmps24
  go_wp2_with fail
  refine HL.out.mono ?_
  rintro e w2 ⟨rfl, h2⟩
  have c1 := up_cell HC.out.c1 h2.gr
  have HVV := Lib.hid (HV.out w2 h2)
  clear c0 h2
  go_wp2_with fail
  refine HVV.out.mono ?_
  rintro e w3 ⟨rfl, h3⟩
  have c2 := up_cell HC.out.c2 h3.gr
  have HRR := Lib.hid (HR.out w3 h3)
  clear c1 h3
  go_wp2_with fail
  refine HRR.out.mono ?_
  rintro e w4 ⟨rfl, h4⟩
  go_wp2
  exact bodyPost_end (results_none rfl _ _ _) rfl ⟨rfl, by rw [HF.out]; exact h4⟩
theorem walk_calls (lo hi n s b1 b2 b3 g N : Nat) (w0 : World) (hNl : N ≤ 100000) (n2 : 2 ≤ n) (n9 : n ≤ 9) (hh : hi ≤ w0.heap.size) : ∀ (t : BT) (v : Value) (F Y : List Nat) (w : World), NT lo hi n t v F w0 → WA w0 b1 b2 b3 g n N Y w → Y.length + t.size * n ≤ N → Calls Try.prog 24 #[.pointer (some ⟨s, 0, none⟩), v, VisF b1 b2 b3] w fun e w' => e = .returned (.tuple #[]) ∧ WA w0 b1 b2 b3 g n N (Y ++ t.rows.flatten) w'
  | .leaf, v, F, Y, w, hn, h, _ => by
    rw [hn.1]
    have HH := Lib.hid h
    clear h
    go_enter Try.func24, Try.ntmps24
    go_wp2
    exact bodyPost_ret (v := .tuple #[]) (by simp [results, Try.results24]) rfl ⟨rfl, by simpa [BT.rows] using HH.out⟩
  | .node l r t, v, F, Y, w, hn, h, hN => walk_node lo hi n s b1 b2 b3 g N l t r v F Y w0 w hn h hN hNl n2 n9 hh
      (fun v F Y w a b c => walk_calls lo hi n s b1 b2 b3 g N w0 hNl n2 n9 hh l v F Y w a b c) (fun v F Y w a b c => walk_calls lo hi n s b1 b2 b3 g N w0 hNl n2 n9 hh t v F Y w a b c)
theorem own_made {w : World} {B N : Nat} (hB : B ≤ w.heap.size) (hN : N ≤ 100000) : VOwn 52 B (.slice (some ⟨w.heap.size, 0, none⟩) N N) (([] ++ List.replicate N 0).map (.float .f64)) (w.alloc (.cells (madeCells #[.float .f64 0] N) 52)) := by
  refine ⟨by simp, .inr ⟨w.heap.size, N, _, by simp, hB, heap_alloc_new w _, by simp, by simp [maxLen]; omega, by simp [size_madeCells], ?_⟩⟩
  apply List.ext_getElem?
  intro i
  by_cases hi : i < N
  · have h1 : i % 1 = 0 := Nat.mod_one i
    simp [madeCells, hi, h1]
  · rw [List.getElem?_eq_none (by simp [size_madeCells]; omega), List.getElem?_eq_none (by simp; omega)]
theorem WA.start {w0 W : World} {b1 b2 g n N : Nat} {t : TypeId} (hg : Grow w0 W) (k1 : W.cell? ⟨b1, 0, none⟩ = some (.int .i64 (n : Nat))) (k2 : W.cell? ⟨b2, 0, none⟩ = some (.slice (some ⟨g, 0, none⟩) N N)) (hr : VOwn 52 w0.heap.size (.slice (some ⟨g, 0, none⟩) N N) (([] ++ List.replicate N 0).map (.float .f64)) W) (n1 : b1 ≠ g) (n2 : b2 ≠ g) :
    WA w0 b1 b2 W.heap.size g n N [] (W.alloc (.cells #[.int .i64 0] t)) := by
  have l1 := cell_ltH k1; have l2 := cell_ltH k2
  have lg : w0.heap.size ≤ g ∧ g < W.heap.size := World.ownsRow.lt hr g rfl
  simp only at l1 l2
  exact ⟨hg.alloc _, up_cell k1 ((Grow.refl _).alloc _), up_cell k2 ((Grow.refl _).alloc _), by go_simp, by go_simp, ⟨_, VOwn.up _ _ hr ((Grow.refl _).alloc _)⟩, ⟨n1, n2, by omega, by omega, by omega⟩, ⟨hg.size, lg.1⟩⟩
set_option maxRecDepth 100000 in
set_option maxHeartbeats 8000000 in
theorem toFlat_calls (lo hi n s : Nat) (lay c : Int) (t : BT) (F : List Nat) (w : World) (h : SetS lo hi n s lay c t F w) (h1 : 1 ≤ lay) (h9 : lay ≤ 9) (hs : strideN lay = n) (n2 : 2 ≤ n) (n9 : n ≤ 9) (hsz : t.size ≤ 10000) :
    Calls Try.prog 20 #[.pointer (some ⟨s, 0, none⟩)] w fun e w' => ∃ V, e = .returned V ∧ Grow w w' ∧ VOwn 52 w.heap.size V (t.rows.flatten.map (.float .f64)) w' := by
  have hmf : ∀ (fn : Fn) (first cap : Array Value) (w : World), (Instr.makeFunc fn first cap).run Try.prog w = .ok (.func fn first cap) w := fun _ _ _ _ => rfl
  have HL := Lib.hid (fun w => layStride lay n w h1 h9 hs)
  obtain ⟨v, hc, hn⟩ := h.ex
  have hfl := bt_flat_len t hn.rowsL
  obtain ⟨a, rfl⟩ := hn.isP
  obtain ⟨N, hN⟩ : ∃ N, N = t.size * n := ⟨_, rfl⟩
  have HH := Lib.hid h; have HN := Lib.hid hn; have HSC := Lib.hid hc
  have hNl : N ≤ 100000 := by
    have h1 : t.size * n ≤ 10000 * 9 := Nat.mul_le_mul hsz n9
    omega
  obtain ⟨z, hz⟩ : ∃ z, z = t.size := ⟨_, rfl⟩
  have c1 := hc.c1; have c2 := hc.c2; have c3 := hc.c3
  have hsl := h.lt
  rw [← hz] at c2
  have hzn : (z : Int) * (n : Int) = (N : Int) := by rw [hN, hz, Int.natCast_mul]
  have hw : IntKind.i64.wrap ((z : Int) * (n : Int)) = (N : Int) := by rw [hzn]; exact IntWalk.i64_in _ (by omega)
  have hmk := fun w => run_make_row' (P := Try.prog) 22 52 (.float .f64 0) 8 undR0 infoR0 rfl .i64 .i64 N (by omega) (by omega) w
  have HNN := Lib.hid hN; have HZZ := Lib.hid hz; have HFL := Lib.hid hfl
  clear h hn hc hs hN hz hfl hzn hsz
  go_enter Try.func20, Try.ntmps20
  go_wp2_with (go_at_call 18; refine (HL.out _).mono ?_; rintro e w' ⟨rfl, rfl⟩)
  have k0 : (w'.alloc (.cells #[.int .i64 (n : Int)] 3)).cell? ⟨w'.heap.size, 0, none⟩ = some (.int .i64 (n : Int)) := by go_simp
  have hg := (Grow.refl w').alloc (.cells #[.int .i64 (n : Int)] 3)
  replace c1 := up_cell c1 hg
  replace c2 := up_cell c2 hg
  have HG := Lib.hid hg
  have hsz : (w'.alloc (.cells #[.int .i64 (n : Int)] 3)).heap.size = w'.heap.size + 1 := by simp
  clear c3 hg
  generalize (w'.alloc (.cells #[.int .i64 (n : Int)] 3)) = W1 at *
  obtain ⟨b1, hb1⟩ : ∃ b1, b1 = w'.heap.size := ⟨_, rfl⟩
  have HB1 := Lib.hid hb1
  rw [← hb1] at k0 hsz hsl ⊢
  clear hb1
  go_region
  · have q1 : Grow w' (((W1.alloc (.cells (madeCells #[.float .f64 0] N) 52)).alloc (.cells #[.slice (some ⟨b1 + 1, 0, none⟩) N N] 22)).drew) := ((HG.out.alloc _).alloc _).drew
    have q2 := up_cell k0 ((((Grow.refl W1).alloc _).alloc _).drew : Grow W1 (((W1.alloc (.cells (madeCells #[.float .f64 0] N) 52)).alloc (.cells #[.slice (some ⟨b1 + 1, 0, none⟩) N N] 22)).drew))
    have e0 : ((W1.alloc (.cells (madeCells #[.float .f64 0] N) 52)).alloc (.cells #[.slice (some ⟨b1 + 1, 0, none⟩) N N] 22)).cell? ⟨b1 + 1 + 1, 0, none⟩ = some (.slice (some ⟨b1 + 1, 0, none⟩) N N) := by
      rw [show b1 + 1 + 1 = (W1.alloc (.cells (madeCells #[.float .f64 0] N) 52)).heap.size by simp [hsz]]; go_simp
    have q3 := up_cell e0 ((Grow.refl _).drew : Grow _ (((W1.alloc (.cells (madeCells #[.float .f64 0] N) 52)).alloc (.cells #[.slice (some ⟨b1 + 1, 0, none⟩) N N] 22)).drew))
    have e1 : VOwn 52 w'.heap.size (.slice (some ⟨b1 + 1, 0, none⟩) N N) (([] ++ List.replicate N 0).map (.float .f64)) (W1.alloc (.cells (madeCells #[.float .f64 0] N) 52)) := by
      have := own_made (w := W1) (B := w'.heap.size) (N := N) HG.out.size hNl
      rw [hsz] at this
      exact this
    have q4 := VOwn.up _ _ e1 (((Grow.refl _).alloc _).drew : Grow _ (((W1.alloc (.cells (madeCells #[.float .f64 0] N) 52)).alloc (.cells #[.slice (some ⟨b1 + 1, 0, none⟩) N N] 22)).drew))
    have q5 : b1 ≠ b1 + 1 := by omega
    have q6 : b1 + 1 + 1 ≠ b1 + 1 := by omega
    clear e0 e1
    have QS := Lib.hid (WA.start (t := 3) q1 q2 q3 q4 q5 q6)
    have d1 := up_cell c1 ((((Grow.refl W1).alloc _).alloc _).drew : Grow W1 (((W1.alloc (.cells (madeCells #[.float .f64 0] N) 52)).alloc (.cells #[.slice (some ⟨b1 + 1, 0, none⟩) N N] 22)).drew))
    have lsW := cell_ltH d1
    simp only [] at lsW
    clear c1 c2
    clear q1 q2 q3 q4 q5 q6 k0 hsz
    generalize ((W1.alloc (.cells (madeCells #[.float .f64 0] N) 52)).alloc (.cells #[.slice (some ⟨b1 + 1, 0, none⟩) N N] 22)).drew = W at *
    go_wp2_with fail
    refine (walk_calls lo hi n s b1 (b1 + 1 + 1) W.heap.size (b1 + 1) N w' hNl n2 n9 HH.out.hh t (.pointer a) F [] _ HN.out QS.out (by rw [HNN.out]; simp)).mono ?_
    rintro e w5 ⟨rfl, h5⟩
    have H5 := Lib.hid h5
    have z2 := h5.c2
    clear h5 d1
    go_wp2
    go_ret
    obtain ⟨Z, hz⟩ := H5.out.row
    have hl := own_len hz
    rw [List.length_map, List.length_append, List.nil_append, HFL.out, ← HNN.out] at hl
    have hZ : Z = [] := List.length_eq_zero_iff.1 (by omega)
    subst hZ
    exact ⟨_, rfl, H5.out.gr, by simpa using hz⟩
  · have q1 : Grow w' (((W1.alloc (.cells #[.slice (some ⟨b1 + 1 + 1, 0, none⟩) N N] 22)).alloc (.cells (madeCells #[.float .f64 0] N) 52)).drew) := ((HG.out.alloc _).alloc _).drew
    have q2 := up_cell k0 ((((Grow.refl W1).alloc _).alloc _).drew : Grow W1 (((W1.alloc (.cells #[.slice (some ⟨b1 + 1 + 1, 0, none⟩) N N] 22)).alloc (.cells (madeCells #[.float .f64 0] N) 52)).drew))
    have e0 : (W1.alloc (.cells #[.slice (some ⟨b1 + 1 + 1, 0, none⟩) N N] 22)).cell? ⟨b1 + 1, 0, none⟩ = some (.slice (some ⟨b1 + 1 + 1, 0, none⟩) N N) := by rw [← hsz]; go_simp
    have q3 := up_cell e0 (((Grow.refl _).alloc _).drew : Grow _ (((W1.alloc (.cells #[.slice (some ⟨b1 + 1 + 1, 0, none⟩) N N] 22)).alloc (.cells (madeCells #[.float .f64 0] N) 52)).drew))
    have e1 : VOwn 52 w'.heap.size (.slice (some ⟨b1 + 1 + 1, 0, none⟩) N N) (([] ++ List.replicate N 0).map (.float .f64)) ((W1.alloc (.cells #[.slice (some ⟨b1 + 1 + 1, 0, none⟩) N N] 22)).alloc (.cells (madeCells #[.float .f64 0] N) 52)) := by
      have := own_made (w := W1.alloc (.cells #[.slice (some ⟨b1 + 1 + 1, 0, none⟩) N N] 22)) (B := w'.heap.size) (N := N) (by have := HG.out.size; simp; omega) hNl
      rw [show (W1.alloc (.cells #[.slice (some ⟨b1 + 1 + 1, 0, none⟩) N N] 22)).heap.size = b1 + 1 + 1 by simp [hsz]] at this
      exact this
    have q4 := VOwn.up _ _ e1 (Grow.refl _).drew
    have q5 : b1 ≠ b1 + 1 + 1 := by omega
    have q6 : b1 + 1 ≠ b1 + 1 + 1 := by omega
    clear e0 e1
    have QS := Lib.hid (WA.start (t := 3) q1 q2 q3 q4 q5 q6)
    have d1 := up_cell c1 ((((Grow.refl W1).alloc _).alloc _).drew : Grow W1 (((W1.alloc (.cells #[.slice (some ⟨b1 + 1 + 1, 0, none⟩) N N] 22)).alloc (.cells (madeCells #[.float .f64 0] N) 52)).drew))
    have lsW := cell_ltH d1
    simp only [] at lsW
    clear c1 c2
    clear q1 q2 q3 q4 q5 q6 k0 hsz
    generalize ((W1.alloc (.cells #[.slice (some ⟨b1 + 1 + 1, 0, none⟩) N N] 22)).alloc (.cells (madeCells #[.float .f64 0] N) 52)).drew = W at *
    go_wp2_with fail
    refine (walk_calls lo hi n s b1 (b1 + 1) W.heap.size (b1 + 1 + 1) N w' hNl n2 n9 HH.out.hh t (.pointer a) F [] _ HN.out QS.out (by rw [HNN.out]; simp)).mono ?_
    rintro e w5 ⟨rfl, h5⟩
    have H5 := Lib.hid h5
    have z2 := h5.c2
    clear h5 d1
    go_wp2
    go_ret
    obtain ⟨Z, hz⟩ := H5.out.row
    have hl := own_len hz
    rw [List.length_map, List.length_append, List.nil_append, HFL.out, ← HNN.out] at hl
    have hZ : Z = [] := List.length_eq_zero_iff.1 (by omega)
    subst hZ
    exact ⟨_, rfl, H5.out.gr, by simpa using hz⟩
end Go.Proofs.Ytdcchejehomicaa
