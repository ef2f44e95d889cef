import Derived.Test.YtegknlnkkoeahaaArrA
import Derived.Test.YtegknlnkkoeahaaSegB
import Derived.Laws.CopyOwn
import Derived.Deep.OwnRows
namespace Go.Proofs.Ytegknlnkkoeahaa
open Go.ChangeShapes Go.WideShapes Go.ChangeAt Go.RowKit Go.GrowR
set_option linter.unusedVariables false
set_option linter.unusedSimpArgs false

theorem wrapM {n : Int} (h0 : 0 ≤ n) (h1 : n ≤ 1099511627776000) : IntKind.i64.wrap n = n := IntWalk.i64_in _ (by omega)
/-- what a function makes: a value of which something is known that hangs on the call's own blocks *)-/
def MQ (E : Value → World → Prop) (w : World) (e : Ending) (w' : World) : Prop := ∃ v, e = .returned v ∧ Grow w w' ∧ Stab w.heap.size w'.heap.size (E v) w'
abbrev L1 (rows : List (List Nat)) (v : Value) (w : World) : Prop := SlE (fun xs u w => FSl u xs w) v rows w
abbrev L2 (segs : List (List (List Nat))) (v : Value) (w : World) : Prop := SlE (fun rows u w => L1 rows u w) v segs w
abbrev L3 (segss : List (List (List (List Nat)))) (v : Value) (w : World) : Prop := SlE (fun segs u w => L2 segs u w) v segss w
theorem L1.form {rows : List (List Nat)} {v : Value} {w : World} (h : L1 rows v w) : ∃ A c, v = .slice A rows.length c := let ⟨A, c, h1, _⟩ := SlE.form h; ⟨A, c, h1⟩
theorem infoR0 : (Try.prog.info? 42).map (fun i => (i.zero, i.size, i.bytes)) = some (some (.float .f64 0), 1, 8) := by kernel_rfl
theorem undR0 : Try.prog.underlying 22 = some (.slice 42) := by kernel_rfl
theorem infoR1 : (Try.prog.info? 93).map (fun i => (i.zero, i.size, i.bytes)) = some (some (.slice none 0 0), 1, 24) := by kernel_rfl
theorem undR1 : Try.prog.underlying 90 = some (.slice 93) := by kernel_rfl
theorem undCo : Try.prog.underlying 93 = some (.slice 42) := by kernel_rfl
theorem infoR2 : (Try.prog.info? 90).map (fun i => (i.zero, i.size, i.bytes)) = some (some (.slice none 0 0), 1, 24) := by kernel_rfl
theorem undR2 : Try.prog.underlying 98 = some (.slice 90) := by kernel_rfl
theorem infoR3 : (Try.prog.info? 98).map (fun i => (i.zero, i.size, i.bytes)) = some (some (.slice none 0 0), 1, 24) := by kernel_rfl
theorem undR3 : Try.prog.underlying 66 = some (.slice 98) := by kernel_rfl
theorem arr_start {w : World} {n : Nat} {F : Nat → Value → World → Prop} (e : TypeId) (z : Value) : Arr w w.heap.size n 0 F (w.alloc (.cells (madeCells #[z] n) e)) := by
  refine ⟨Nat.le_refl _, fun k hk => ⟨z, ?_⟩, fun o => by go_simp, (Grow.refl w).alloc _, fun i hi => by omega⟩
  rw [cell_of_row _ _ _ _ _ _ (heap_alloc_new w _)]
  have h1 : k % 1 = 0 := Nat.mod_one k
  simp [madeCells, hk, h1]
set_option maxRecDepth 100000 in
set_option maxHeartbeats 4000000 in
theorem inflate0_calls (A : Option Addr) (n c s : Nat) (X row Z : List Nat) (w : World) (hu : FSl (.slice A n c) (X ++ row ++ Z) w) (hr : row.length = s) (hs : 0 < s) (hs9 : s ≤ 9) (hn : n ≤ 17592186044416) :
    Calls Try.prog 96 #[.slice A n c, .int .i64 X.length, .int .i64 ((X.length : Int) + s), .int .i64 s] w (MQ (fun v w => FSl v row w) w) := by
  obtain ⟨A', c', he, hcc, hA⟩ := hu
  simp only [Value.slice.injEq] at he
  obtain ⟨rfl, rfl, rfl⟩ := he
  have hxn : X.length + s + Z.length = (X ++ row ++ Z).length := by simp only [List.length_append]; omega
  rcases hA with h0 | ⟨b, o, rfl, hcell⟩
  · exfalso; have := congrArg List.length h0; simp only [List.length_append, List.length_nil] at this; omega
  have hmk := fun w => run_make_row' (P := Try.prog) 22 42 (.float .f64 0) 8 undR0 infoR0 rfl .i64 .i64 s (by omega) (by omega) w
  have hund := Lib.hid undR0
  have hsz := Lib.hid (show (Try.prog.info? 42).map (·.size) = some 1 by kernel_rfl)
  have HR := Lib.hid hr
  have HROW : Hid (∀ j x, row[j]? = some x → w.cell? ⟨b, o + X.length + j, none⟩ = some (.float .f64 x)) := fun j x hj => by
    have := hcell (X.length + j) x (by rw [List.append_assoc, List.getElem?_append_right (by omega), List.getElem?_append_left (by have := (List.getElem?_eq_some_iff.1 hj).1; omega)]; rw [← hj]; congr 1; omega)
    rwa [Nat.add_assoc]
  have hb : b < w.heap.size := by
    obtain ⟨x, hx⟩ : ∃ x, row[0]? = some x := ⟨row[0]'(by omega), by simp [show 0 < row.length by omega]⟩
    exact cell_ltH (HROW.out 0 x hx)
  have HXN := Lib.hid hxn
  have hXs : X.length + s ≤ (X ++ row ++ Z).length := by omega
  have hXs2 : (X.length : Int) + s ≤ ((X ++ row ++ Z).length : Int) := by omega
  clear hr hcell hxn
  generalize (X ++ row ++ Z).length = n at *
  generalize X.length = x at *
  have e0 : ((x : Int) + (s : Int) != (x : Int) + (s : Int)) = false := by simp
  have e1 : ((x : Int) + (s : Int)).toNat = x + s := by omega
  have e2 : x + s - x = s := by omega
  go_enter Try.func96, Try.ntmps96
  have HH := Lib.hid (show (w.alloc (.cells (madeCells #[.float .f64 0] s) 42)).heap[w.heap.size]? = some (.cells (madeCells #[.float .f64 0] s).toList.toArray 42 (0, 0)) by simpa using heap_alloc_new w (.cells (madeCells #[.float .f64 0] s) 42))
  have HBL := Lib.hid (show Below w.heap.size w (w.alloc (.cells (madeCells #[.float .f64 0] s) 42)) from (Grow.refl w).alloc _)
  have HC : Hid (∀ j v, (row.map (Value.float .f64))[j]? = some v → (w.alloc (.cells (madeCells #[.float .f64 0] s) 42)).cell? (Addr.add ⟨b, o + x, none⟩ j) = some v) := by
    intro j v hj
    rw [List.getElem?_map] at hj
    cases hx : row[j]? with
    | none => rw [hx] at hj; cases hj
    | some n => rw [hx] at hj; cases hj; rw [addr_add]; exact up_cell (HROW.out j n hx) ((Grow.refl w).alloc _)
  go_wp2_with (with_reducible refine wpList_copy_splice rfl (.tmp 18) (.tmp 22) 22 22 rfl 42 hund.out hsz.out (some ⟨w.heap.size, 0, none⟩) (some ⟨b, o + x, none⟩) s s s (c - x) rfl rfl w.heap.size 0 (madeCells #[.float .f64 0] s).toList 42 HH.out (row.map (.float .f64)) (by rw [List.length_map, HR.out]; exact (Nat.min_self _).symm) (fun _ => ⟨rfl, _, rfl, HC.out⟩) (by have := HR.out; simp [size_madeCells]; omega) (fl_one _) w.heap.size w HBL.out (Nat.le_refl _) ?_; intro w' hg' hb')
  go_ret
  refine ⟨.slice (some ⟨w.heap.size, 0, none⟩) s s, rfl, hb', fun w2 hw => ⟨some ⟨w.heap.size, 0, none⟩, s, by rw [HR.out], by rw [HR.out]; exact Nat.le_refl _, .inr ⟨w.heap.size, 0, rfl, fun i q hi => ?_⟩⟩⟩
  have hlt : w.heap.size < w'.heap.size := by
    rcases Nat.lt_or_ge w.heap.size w'.heap.size with h1 | h1
    · exact h1
    · have h2 := hg'.out
      rw [Array.getElem?_eq_none h1] at h2; cases h2
  rw [Nat.zero_add, cell_of_row w2 w.heap.size i _ 42 (0, 0) ((hw _ (Nat.le_refl _) hlt).trans hg'.out)]
  have hil : i < row.length := (List.getElem?_eq_some_iff.1 hi).1
  simp only [splice, List.getElem?_toArray, List.take_zero, List.nil_append]
  rw [List.getElem?_append_left (by simpa using hil), List.getElem?_map, hi]; rfl
set_option maxRecDepth 100000 in
set_option maxHeartbeats 4000000 in
theorem inflate1_calls (A : Option Addr) (n c s e : Nat) (X : List Nat) (rows : List (List Nat)) (Z : List Nat) (w : World) (hu : FSl (.slice A n c) (X ++ rows.flatten ++ Z) w) (hr : ∀ r ∈ rows, r.length = s) (hs : 0 < s) (hs9 : s ≤ 9) (hn : n ≤ 17592186044416) (he : e = X.length + rows.length * s) (hrl : rows.length ≤ 10000000000) :
    Calls Try.prog 77 #[.slice A n c, .int .i64 X.length, .int .i64 e, .int .i64 s] w (MQ (L1 rows) w) := by
  have HU := Lib.hid hu; have HR := Lib.hid hr
  have hlen : n = X.length + rows.length * s + Z.length := by
    obtain ⟨A', c', he', -, -⟩ := hu
    simp only [Value.slice.injEq] at he'
    rw [he'.2.1]; simp only [List.length_append, flat_len hr]
  have hq : ((e : Int) - (X.length : Int)).tdiv (s : Int) = (rows.length : Int) := by
    have h1 : (e : Int) - (X.length : Int) = ((rows.length * s : Nat) : Int) := by omega
    rw [h1, Int.natCast_mul, Int.mul_tdiv_cancel _ (by omega)]
  have hq2 : ((e : Int) - (X.length : Int)) / (s : Int) = (rows.length : Int) := by
    have h1 : (e : Int) - (X.length : Int) = ((rows.length * s : Nat) : Int) := by omega
    rw [h1, Int.natCast_mul, Int.mul_ediv_cancel _ (by omega)]
  have hsub : 0 ≤ (e : Int) - (X.length : Int) := by omega
  have hel : e ≤ 17592186044416 := by omega
  have hmk := fun w => run_make_row' (P := Try.prog) 90 93 (.slice none 0 0) 24 undR1 infoR1 rfl .i64 .i64 rows.length (by omega) (by omega) w
  have hxl : X.length ≤ e := by omega
  have HE := Lib.hid he; have HN := Lib.hid hlen
  have HA0 := Lib.hid (arr_start (w := w) (n := rows.length) (F := fun i u w => ∀ r, rows[i]? = some r → FSl u r w) 93 (.slice none 0 0))
  clear hr hu he hlen
  go_enter Try.func77, Try.ntmps77
  go_wp2
  clear hq hq2 hsub hmk
  go_loopw [1, 10, 19] (fun vo _ vi wr => ∃ q : Nat, q ≤ rows.length ∧ vi = .int .i64 q ∧ vo = .int .i64 ((X ++ (rows.take q).flatten).length : Nat) ∧ w.heap.size < wr.heap.size ∧ Arr w w.heap.size rows.length q (fun i u w => ∀ r, rows[i]? = some r → FSl u r w) wr) (fun _ _ vi _ => (rows.length - intOf vi).toNat)
  case atStart => exact ⟨0, Nat.zero_le _, rfl, by simp, by simp, HA0.out⟩
  case round =>
    obtain ⟨q, hq, rfl, rfl, hwl, har⟩ := hrel
    have HAR := Lib.hid har
    clear HA0 har
    by_cases hlt : q < rows.length
    · obtain ⟨row, hrow⟩ : ∃ p, rows[q]? = some p := ⟨rows[q], by simp [hlt]⟩
      have hrw := HR.out row (List.mem_of_getElem? hrow)
      have hsp : rows = rows.take q ++ row :: rows.drop (q + 1) := by
        obtain ⟨hq', rfl⟩ := List.getElem?_eq_some_iff.1 hrow
        rw [← List.drop_eq_getElem_cons hq', List.take_append_drop]
      have hfl : X ++ rows.flatten ++ Z = (X ++ (rows.take q).flatten) ++ row ++ ((rows.drop (q + 1)).flatten ++ Z) := by
        conv => lhs; rw [hsp]
        simp [List.append_assoc]
      have HC := Lib.hid (inflate0_calls A n c s (X ++ (rows.take q).flatten) row ((rows.drop (q + 1)).flatten ++ Z) wr (by rw [← hfl]; exact FSl.up _ _ HU.out HAR.out.g) hrw hs hs9 hn)
      have hxq : (X ++ (rows.take q).flatten).length + s ≤ n := by
        have h1 := congrArg List.length hfl
        have h2 := HN.out
        simp only [List.length_append, flat_len HR.out] at h1 ⊢
        omega
      have HST := Lib.hid (fun (w2 : World) (u : Value) (h1 : Grow wr w2) (h2 : Stab wr.heap.size w2.heap.size (FSl u row) w2) => HAR.out.step (u := u) hlt hwl h1 (h2.imp fun w' h r hr => by rw [hrow] at hr; cases hr; exact h))
      have HXE : Hid ((X ++ (rows.take (q + 1)).flatten).length = (X ++ (rows.take q).flatten).length + s) := by
        show _ = _
        rw [List.take_add_one, hrow]
        simp only [Option.toList, List.flatten_append, List.flatten_cons, List.flatten_nil, List.append_nil, List.length_append, hrw]; omega
      obtain ⟨v0, hv0⟩ := HAR.out.c q hlt
      have HV0 := Lib.hid hv0; have HF0 := Lib.hid (HAR.out.f q)
      have hq1 : IntKind.i64.wrap ((q : Int) + 1) = (q : Int) + 1 := IntWalk.i64_in _ (by omega)
      clear hrow hrw hsp hfl hv0
      generalize (X ++ (rows.take q).flatten).length = x at *
      go_wp2_with (go_at_call 96; refine (HC.out).mono ?_; rintro e w2 ⟨v2, rfl, hg2, hst2⟩; have HG2 := Lib.hid hg2; have HS2 := Lib.hid (HST.out _ _ hg2 hst2); obtain ⟨A2, c2, h2, -, -⟩ := hst2.now; subst h2; have y0 := up_cell HV0.out hg2; have y1 := (grow_frozen hg2 _ q hwl).trans HF0.out; clear hg2 hst2)
      go_roundw
      case rel => exact ⟨q + 1, by omega, by go_num, by rw [HXE.out]; go_num, by have := HG2.out.size; simp [World.setCell]; omega, HS2.out⟩
      case measure => simp [intOf]; omega
    · have hqe : q = rows.length := by omega
      have HQ := Lib.hid hqe
      clear hqe
      go_wp2
      go_ret
      have h1 := HAR.out
      rw [HQ.out] at h1
      exact ⟨_, rfl, h1.g, h1.fin hwl (fun i x u w' hx h => h x hx) _ (Nat.le_refl _)⟩

/-- the ends' cells, that are read alone -/
def EndR (E : Option Addr) (en : List Nat) (w : World) : Prop := en = [] ∨ ∃ b o, E = some ⟨b, o, none⟩ ∧ ∀ (i x : Nat), en[i]? = some x → w.cell? ⟨b, o + i, none⟩ = some (.int .i64 x)
theorem EndR.up {E : Option Addr} {en : List Nat} : Up (EndR E en) := fun _ _ h hg => h.imp id fun ⟨b, o, h1, h3⟩ => ⟨b, o, h1, fun i x hi => up_cell (h3 i x hi) hg⟩
theorem EndR.of {A : Option Addr} {n c : Nat} {ns : List Nat} {w : World} (h : ISl (.slice A n c) (ns.map Int.ofNat) w) : n = ns.length ∧ EndR A ns w := by
  obtain ⟨A', c', he, hc, hx⟩ := SlE.form h
  simp only [Value.slice.injEq, List.length_map] at he
  obtain ⟨rfl, rfl, rfl⟩ := he
  refine ⟨rfl, ?_⟩
  rcases hx with h0 | ⟨b, o, rfl, hx⟩
  · exact .inl (by simpa using h0)
  · exact .inr ⟨b, o, rfl, fun i x hi => by
      obtain ⟨u, h1, h2⟩ := hx i (Int.ofNat x) (by rw [List.getElem?_map, hi]; rfl)
      rw [h1, h2]; rfl⟩
theorem seg_flat {segs : List (List (List Nat))} {q : Nat} {rows : List (List Nat)} (h : segs[q]? = some rows) : fwd segs = fwd (segs.take q) ++ rows.flatten ++ fwd (segs.drop (q + 1)) := by
  have h1 := seg_split h
  conv => lhs; rw [← List.take_append_drop q segs, h1]
  rw [fwd_append]; simp [fwd]
set_option maxRecDepth 100000 in
set_option maxHeartbeats 4000000 in
theorem inflate2_calls (A E : Option Addr) (n c s ce : Nat) (X : List Nat) (segs : List (List (List Nat))) (Z : List Nat) (w : World) (hu : FSl (.slice A n c) (X ++ fwd segs ++ Z) w) (hr : ∀ rows ∈ segs, ∀ r ∈ rows, r.length = s) (hs : 0 < s) (hs9 : s ≤ 9) (hn : n ≤ 10000000000) (hE : EndR E (cum s X.length segs) w) (hsl : segs.length ≤ 10000000000) :
    Calls Try.prog 86 #[.slice A n c, .int .i64 X.length, .slice E segs.length ce, .int .i64 s] w (MQ (L2 segs) w) := by
  have HU := Lib.hid hu; have HR := Lib.hid hr; have HE := Lib.hid hE
  have hlen : n = X.length + (fwd segs).length + Z.length := by
    obtain ⟨A', c', he', -, -⟩ := hu
    simp only [Value.slice.injEq] at he'
    rw [he'.2.1]; simp only [List.length_append]
  have hmk := fun w => run_make_row' (P := Try.prog) 98 90 (.slice none 0 0) 24 undR2 infoR2 rfl .i64 .i64 segs.length (by omega) (by omega) w
  have HN := Lib.hid hlen
  have HA0 := Lib.hid (arr_start (w := w) (n := segs.length) (F := fun i u w => ∀ rows, segs[i]? = some rows → L1 rows u w) 90 (.slice none 0 0))
  clear hr hu hlen hE
  go_enter Try.func86, Try.ntmps86
  go_wp2
  clear hmk
  go_loopw [1, 10, 11, 17] (fun vo _ _ vi wr => ∃ q : Nat, q ≤ segs.length ∧ vi = .int .i64 q ∧ vo = .int .i64 ((X ++ fwd (segs.take q)).length : Nat) ∧ w.heap.size < wr.heap.size ∧ Arr w w.heap.size segs.length q (fun i u w => ∀ rows, segs[i]? = some rows → L1 rows u w) wr) (fun _ _ _ vi _ => (segs.length - intOf vi).toNat)
  case atStart => exact ⟨0, Nat.zero_le _, rfl, by simp [fwd], by simp, HA0.out⟩
  case round =>
    obtain ⟨q, hq, rfl, rfl, hwl, har⟩ := hrel
    have HAR := Lib.hid har
    clear HA0 har
    by_cases hlt : q < segs.length
    · obtain ⟨rows, hrow⟩ : ∃ p, segs[q]? = some p := ⟨segs[q], by simp [hlt]⟩
      have hrw := HR.out rows (List.mem_of_getElem? hrow)
      have hend := cum_at (o := X.length) HR.out hrow
      have hfl := seg_flat hrow
      rcases EndR.up _ _ HE.out HAR.out.g with h0 | ⟨be, oe, rfl, hce⟩
      · exfalso; have := congrArg List.length h0; rw [cum_len] at this; simp at this; rw [this] at hlt; simp at hlt
      have hcell := hce q _ hend
      have hxq : X.length + (fwd (segs.take q)).length + rows.length * s ≤ n := by
        have h1 := congrArg List.length hfl
        have h2 := HN.out
        simp only [List.length_append, flat_len hrw] at h1
        omega
      have hx0 : (X ++ fwd (segs.take q)).length = X.length + (fwd (segs.take q)).length := List.length_append
      have hrn : rows.length ≤ 10000000000 := by
        have := Nat.le_mul_of_pos_right rows.length hs
        omega
      have HC := Lib.hid (inflate1_calls A n c s (X.length + (fwd (segs.take q)).length + rows.length * s) (X ++ fwd (segs.take q)) rows (fwd (segs.drop (q + 1)) ++ Z) wr (by have := FSl.up _ _ HU.out HAR.out.g; rw [hfl] at this; simpa [List.append_assoc] using this) hrw hs hs9 (by omega) (by rw [hx0]) hrn)
      have HST := Lib.hid (fun (w2 : World) (u : Value) (h1 : Grow wr w2) (h2 : Stab wr.heap.size w2.heap.size (L1 rows u) w2) => HAR.out.step (u := u) hlt hwl h1 (h2.imp fun w' h r hr => by rw [hrow] at hr; cases hr; exact h))
      have HXE : Hid ((X ++ fwd (segs.take (q + 1))).length = X.length + (fwd (segs.take q)).length + rows.length * s) := by
        show _ = _
        rw [fwd_snoc hrow]
        simp only [List.length_append, flat_len hrw]; omega
      obtain ⟨v0, hv0⟩ := HAR.out.c q hlt
      have HV0 := Lib.hid hv0; have HF0 := Lib.hid (HAR.out.f q)
      have hq1 : IntKind.i64.wrap ((q : Int) + 1) = (q : Int) + 1 := IntWalk.i64_in _ (by omega)
      clear hrow hrw hfl hv0 hx0 hce hend
      generalize (X ++ fwd (segs.take q)).length = x at *
      generalize X.length + (fwd (segs.take q)).length + rows.length * s = y at *
      go_wp2_with (go_at_call 77; refine (HC.out).mono ?_; rintro e w2 ⟨v2, rfl, hg2, hst2⟩; have HG2 := Lib.hid hg2; have HS2 := Lib.hid (HST.out _ _ hg2 hst2); obtain ⟨A2, c2, h2⟩ := hst2.now.form; subst h2; have y0 := up_cell HV0.out hg2; have y1 := (grow_frozen hg2 _ q hwl).trans HF0.out; clear hg2 hst2)
      go_roundw
      case rel => exact ⟨q + 1, by omega, by go_num, by rw [HXE.out], by have := HG2.out.size; simp [World.setCell]; omega, HS2.out⟩
      case measure => simp [intOf]; omega
    · have hqe : q = segs.length := by omega
      have HQ := Lib.hid hqe
      clear hqe
      go_wp2
      go_ret
      have h1 := HAR.out
      rw [HQ.out] at h1
      exact ⟨_, rfl, h1.g, h1.fin hwl (fun i x u w' hx h => h x hx) _ (Nat.le_refl _)⟩
def EndRR (E : Option Addr) (ens : List (List Nat)) (w : World) : Prop := ens = [] ∨ ∃ b o, E = some ⟨b, o, none⟩ ∧ ∀ (i : Nat) (l : List Nat), ens[i]? = some l → ∃ A c, w.cell? ⟨b, o + i, none⟩ = some (.slice A l.length c) ∧ EndR A l w
theorem EndRR.up {E : Option Addr} {ens : List (List Nat)} : Up (EndRR E ens) := fun _ _ h hg => h.imp id fun ⟨b, o, h1, h3⟩ => ⟨b, o, h1, fun i l hi => let ⟨A, c, h4, h5⟩ := h3 i l hi; ⟨A, c, up_cell h4 hg, EndR.up _ _ h5 hg⟩⟩
theorem EndRR.of {A : Option Addr} {n c : Nat} {nss : List (List Nat)} {w : World} (h : ISSl (.slice A n c) (nss.map (·.map Int.ofNat)) w) : n = nss.length ∧ EndRR A nss w := by
  obtain ⟨A', c', he, hc, hx⟩ := SlE.form h
  simp only [Value.slice.injEq, List.length_map] at he
  obtain ⟨rfl, rfl, rfl⟩ := he
  refine ⟨rfl, ?_⟩
  rcases hx with h0 | ⟨b, o, rfl, hx⟩
  · exact .inl (by simpa using h0)
  · exact .inr ⟨b, o, rfl, fun i l hi => by
      obtain ⟨u, h1, h2⟩ := hx i (l.map Int.ofNat) (by rw [List.getElem?_map, hi]; rfl)
      obtain ⟨A2, c2, rfl, -, -⟩ := SlE.form h2
      obtain ⟨h3, h4⟩ := EndR.of h2
      rw [h3] at h1
      exact ⟨A2, c2, h1, h4⟩⟩
theorem L2.form {segs : List (List (List Nat))} {v : Value} {w : World} (h : L2 segs v w) : ∃ A c, v = .slice A segs.length c := let ⟨A, c, h1, _⟩ := SlE.form h; ⟨A, c, h1⟩
theorem L3.form {segss : List (List (List (List Nat)))} {v : Value} {w : World} (h : L3 segss v w) : ∃ A c, v = .slice A segss.length c := let ⟨A, c, h1, _⟩ := SlE.form h; ⟨A, c, h1⟩
set_option maxRecDepth 100000 in
set_option maxHeartbeats 4000000 in
theorem inflate3_calls (A E : Option Addr) (n c s ce : Nat) (X : List Nat) (segss : List (List (List (List Nat)))) (Z : List Nat) (w : World) (hu : FSl (.slice A n c) (X ++ fwd segss.flatten ++ Z) w) (hr : ∀ segs ∈ segss, ∀ rows ∈ segs, ∀ r ∈ rows, r.length = s) (hs : 0 < s) (hs9 : s ≤ 9) (hn : n ≤ 10000000000) (hE : EndRR E (cums s X.length segss) w) (hsl : segss.length ≤ 10000000000) (hsl2 : ∀ segs ∈ segss, segs.length ≤ 10000000000) :
    Calls Try.prog 64 #[.slice A n c, .int .i64 X.length, .slice E segss.length ce, .int .i64 s] w (MQ (L3 segss) w) := by
  have HU := Lib.hid hu; have HR := Lib.hid hr; have HE := Lib.hid hE; have HSL := Lib.hid hsl2
  have hlen : n = X.length + (fwd segss.flatten).length + Z.length := by
    obtain ⟨A', c', he', -, -⟩ := hu
    simp only [Value.slice.injEq] at he'
    rw [he'.2.1]; simp only [List.length_append]
  have hmk := fun w => run_make_row' (P := Try.prog) 66 98 (.slice none 0 0) 24 undR3 infoR3 rfl .i64 .i64 segss.length (by omega) (by omega) w
  have HN := Lib.hid hlen
  have HA0 := Lib.hid (arr_start (w := w) (n := segss.length) (F := fun i u w => ∀ segs, segss[i]? = some segs → L2 segs u w) 98 (.slice none 0 0))
  clear hr hu hlen hE hsl2
  go_enter Try.func64, Try.ntmps64
  go_wp2
  clear hmk
  go_loopw [1, 10, 11, 17] (fun vo _ _ vi wr => ∃ q : Nat, q ≤ segss.length ∧ vi = .int .i64 q ∧ vo = .int .i64 ((X ++ fwd (segss.take q).flatten).length : Nat) ∧ w.heap.size < wr.heap.size ∧ Arr w w.heap.size segss.length q (fun i u w => ∀ segs, segss[i]? = some segs → L2 segs u w) wr) (fun _ _ _ vi _ => (segss.length - intOf vi).toNat)
  case atStart => exact ⟨0, Nat.zero_le _, rfl, by simp [fwd], by simp, HA0.out⟩
  case round =>
    obtain ⟨q, hq, rfl, rfl, hwl, har⟩ := hrel
    have HAR := Lib.hid har
    clear HA0 har
    by_cases hlt : q < segss.length
    · obtain ⟨segs, hseg⟩ : ∃ p, segss[q]? = some p := ⟨segss[q], by simp [hlt]⟩
      have hrw := HR.out segs (List.mem_of_getElem? hseg)
      have hsn := HSL.out segs (List.mem_of_getElem? hseg)
      have hend := cums_at (s := s) (o := X.length) hseg
      have hdr : segss.drop q = segs :: segss.drop (q + 1) := by
        obtain ⟨hq', rfl⟩ := List.getElem?_eq_some_iff.1 hseg
        exact List.drop_eq_getElem_cons hq'
      have hfl : fwd segss.flatten = fwd (segss.take q).flatten ++ fwd segs ++ fwd (segss.drop (q + 1)).flatten := by
        conv => lhs; rw [← List.take_append_drop q segss, hdr]
        simp [fwd_append, List.append_assoc]
      have htk : fwd (segss.take (q + 1)).flatten = fwd (segss.take q).flatten ++ fwd segs := by
        rw [List.take_add_one, hseg]; simp [fwd_append]
      rcases EndRR.up _ _ HE.out HAR.out.g with h0 | ⟨be, oe, rfl, hce⟩
      · exfalso; have := congrArg List.length h0; rw [cums_len] at this; simp at this; rw [this] at hlt; simp at hlt
      obtain ⟨A2, c2, hcell, hec⟩ := hce q _ hend
      rw [cum_len] at hcell
      have hxq : X.length + (fwd (segss.take q).flatten).length + (fwd segs).length ≤ n := by
        have h1 := congrArg List.length hfl
        have h2 := HN.out
        simp only [List.length_append] at h1
        omega
      have hx0 : (X ++ fwd (segss.take q).flatten).length = X.length + (fwd (segss.take q).flatten).length := List.length_append
      have HEC := Lib.hid hec
      have HC := Lib.hid (inflate2_calls A A2 n c s c2 (X ++ fwd (segss.take q).flatten) segs (fwd (segss.drop (q + 1)).flatten ++ Z) wr (by have := FSl.up _ _ HU.out HAR.out.g; rw [hfl] at this; simpa [List.append_assoc] using this) hrw hs hs9 hn (by rw [hx0]; exact hec) hsn)
      have HST := Lib.hid (fun (w2 : World) (u : Value) (h1 : Grow wr w2) (h2 : Stab wr.heap.size w2.heap.size (L2 segs u) w2) => HAR.out.step (u := u) hlt hwl h1 (h2.imp fun w' h r hr => by rw [hseg] at hr; cases hr; exact h))
      have HXE : Hid ((X ++ fwd (segss.take (q + 1)).flatten).length = X.length + (fwd (segss.take q).flatten).length + (fwd segs).length) := by
        show _ = _
        rw [htk]
        simp only [List.length_append]; omega
      obtain ⟨v0, hv0⟩ := HAR.out.c q hlt
      have HV0 := Lib.hid hv0; have HF0 := Lib.hid (HAR.out.f q); have HX0 := Lib.hid hx0
      have hq1 : IntKind.i64.wrap ((q : Int) + 1) = (q : Int) + 1 := IntWalk.i64_in _ (by omega)
      by_cases h0 : segs = []
      · subst h0
        have HXZ := Lib.hid (show (X ++ fwd (segss.take (q + 1)).flatten).length = (X ++ fwd (segss.take q).flatten).length by rw [HXE.out, HX0.out]; simp [fwd])
        simp only [List.length_nil] at hcell HC
        clear hseg hrw hfl hv0 hx0 hce hend hdr htk hec HXE HX0 hxq
        generalize (X ++ fwd (segss.take q).flatten).length = x at *
        go_wp2_with (go_at_call 86; refine (HC.out).mono ?_; rintro e w2 ⟨v2, rfl, hg2, hst2⟩; have HG2 := Lib.hid hg2; have HS2 := Lib.hid (HST.out _ _ hg2 hst2); obtain ⟨A2, c2, h2⟩ := hst2.now.form; subst h2; have y0 := up_cell HV0.out hg2; have y1 := (grow_frozen hg2 _ q hwl).trans HF0.out; clear hg2 hst2)
        go_roundw
        case rel => exact ⟨q + 1, by omega, by go_num, by rw [HXZ.out], by have := HG2.out.size; simp [World.setCell]; omega, HS2.out⟩
        case measure => simp [intOf]; omega
      · obtain ⟨m, hm⟩ : ∃ m, segs.length = m + 1 := ⟨segs.length - 1, by have : segs.length ≠ 0 := fun h => h0 (List.eq_nil_of_length_eq_zero h); omega⟩
        have hlast := cum_last (o := X.length + (fwd (segss.take q).flatten).length) hrw hm
        rcases HEC.out with h1 | ⟨b2, o2, rfl, hc2⟩
        · exfalso; have := congrArg List.length h1; rw [cum_len] at this; simp at this; exact h0 this
        have hl2 := hc2 m _ hlast
        have hsl0 : (0 : Int) < (segs.length : Int) := by omega
        have hsm : IntKind.i64.wrap ((segs.length : Int) - 1) = (m : Int) := by rw [hm]; exact (wrapM (by omega) (by omega)).trans (by omega)
        have hsm2 : (segs.length : Int) - 1 = (m : Int) := by omega
        have hmlt : (m : Int) < (segs.length : Int) := by omega
        have hne : 0 < segs.length := by omega
        have HL2 := Lib.hid hl2
        have hbw : be < wr.heap.size := cell_ltH hcell
        have hbw2 : b2 < wr.heap.size := cell_ltH hl2
        have hnb : be ≠ w.heap.size := by
          have h8 := HE.out
          rcases h8 with h9 | ⟨b9, o9, h9, h10⟩
          · exfalso; have := congrArg List.length h9; rw [cums_len] at this; simp at this; rw [this] at hlt; simp at hlt
          · cases h9
            obtain ⟨A9, c9, h11, -⟩ := h10 q _ (cums_at hseg)
            exact Nat.ne_of_lt (cell_ltH h11)
        have hnb2 : b2 ≠ w.heap.size := by
          have h8 := HE.out
          rcases h8 with h9 | ⟨b9, o9, h9, h10⟩
          · exfalso; have := congrArg List.length h9; rw [cums_len] at this; simp at this; rw [this] at hlt; simp at hlt
          · cases h9
            obtain ⟨A9, c9, h11, h12⟩ := h10 q _ (cums_at hseg)
            have h13 := up_cell h11 HAR.out.g
            rw [hcell] at h13
            simp only [Option.some.injEq, Value.slice.injEq] at h13
            obtain ⟨rfl, -, -⟩ := h13
            rcases h12 with h14 | ⟨b8, o8, h14, h15⟩
            · exfalso; have := congrArg List.length h14; rw [cum_len] at this; simp at this; exact h0 this
            · cases h14
              exact Nat.ne_of_lt (cell_ltH (h15 m _ hlast))
        clear hseg hrw hfl hv0 hx0 hce hend hdr htk hec HX0 h0 hc2 hm hlast hl2 HEC
        generalize segs.length = sl at *
        generalize (X ++ fwd (segss.take q).flatten).length = x at *
        generalize X.length + (fwd (segss.take q).flatten).length + (fwd segs).length = y at *
        go_wp2_with (go_at_call 86; refine (HC.out).mono ?_; rintro e w2 ⟨v2, rfl, hg2, hst2⟩; have HG2 := Lib.hid hg2; have HS2 := Lib.hid (HST.out _ _ hg2 hst2); obtain ⟨A2, c2, h2⟩ := hst2.now.form; subst h2; have y0 := up_cell HV0.out hg2; have y1 := (grow_frozen hg2 _ q hwl).trans HF0.out; have y2 := up_cell hcell hg2; have y3 := up_cell HL2.out hg2; clear hg2 hst2)
        go_roundw
        case rel => exact ⟨q + 1, by omega, by go_num, by rw [HXE.out], by have := HG2.out.size; simp [World.setCell]; omega, HS2.out⟩
        case measure => simp [intOf]; omega
    · have hqe : q = segss.length := by omega
      have HQ := Lib.hid hqe
      clear hqe
      go_wp2
      go_ret
      have h1 := HAR.out
      rw [HQ.out] at h1
      exact ⟨_, rfl, h1.g, h1.fin hwl (fun i x u w' hx h => h x hx) _ (Nat.le_refl _)⟩
end Go.Proofs.Ytegknlnkkoeahaa
