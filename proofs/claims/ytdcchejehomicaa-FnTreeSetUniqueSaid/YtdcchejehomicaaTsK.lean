import Derived.Test.YtdcchejehomicaaFloats
import Derived.Test.YtdcchejehomicaaArrA
import Derived.Test.YtdcchejehomicaaRevP
import Derived.Defers
import Derived.Recover
import Derived.Laws.CopyOwn
import Derived.Deep.OwnRows
import Derived.BigQuiet
import Derived.Deep.QuietTactic
namespace Go.Proofs.Ytdcchejehomicaa
open Go.ChangeShapes Go.WideShapes Go.ChangeAt Go.RowKit Go.GrowR
set_option linter.unusedVariables false
set_option linter.unusedSimpArgs false
def strideN (n : Int) : Int := if n < 1 then 0 else if n = 1 then 2 else if n = 2 ∨ n = 3 then 3 else n
theorem stride_calls (n : Int) (w : World) : Calls Try.prog 9 #[.int .i64 n] w fun e w' => e = .returned (.int .i64 (strideN n)) ∧ w' = w := by
  by_cases h1 : n < 1
  · go_enter Try.func9, Try.ntmps9
    go_wp2
    go_ret
    exact ⟨by simp [strideN, h1], rfl⟩
  by_cases h2 : n = 1
  · subst h2
    go_enter Try.func9, Try.ntmps9
    go_wp2
    go_ret
    exact ⟨by simp [strideN], rfl⟩
  by_cases h3 : n = 2
  · subst h3
    go_enter Try.func9, Try.ntmps9
    go_wp2
    go_ret
    exact ⟨by simp [strideN], rfl⟩
  by_cases h4 : n = 3
  · subst h4
    go_enter Try.func9, Try.ntmps9
    go_wp2
    go_ret
    exact ⟨by simp [strideN], rfl⟩
  have R : Hid (strideN n = n) := by show _ = _; simp [strideN, h1, h2, h3, h4]
  have e2 : (n == 1) = false := by rw [beq_eq_false_iff_ne]; exact h2
  have e3 : (n == 2) = false := by rw [beq_eq_false_iff_ne]; exact h3
  have e4 : (n == 3) = false := by rw [beq_eq_false_iff_ne]; exact h4
  clear h2 h3 h4
  go_enter Try.func9, Try.ntmps9
  go_wp2
  go_ret
  exact ⟨by rw [R.out]; rfl, rfl⟩
theorem gNumber_calls (x : Nat) (w : World) : Calls Try.prog 11 #[.float .f64 x] w fun e w' => e = .returned (.bool (FloatKind.f64.format.order x x == some .eq)) ∧ w' = w := by
  go_enter Try.func11, Try.ntmps11
  go_wp2
  go_ret
  exact ⟨rfl, rfl⟩
theorem strideS (lay : Int) (s : Nat) (w : World) (h : strideN lay = s) : Calls Try.prog 9 #[.int .i64 lay] w fun e w' => e = .returned (.int .i64 s) ∧ w' = w := by
  rw [← h]; exact stride_calls lay w
theorem stride_nat (lay : Int) (h1 : 1 ≤ lay) (h9 : lay ≤ 9) : ∃ s : Nat, strideN lay = s ∧ 2 ≤ s ∧ s ≤ 9 := by
  unfold strideN
  repeat' split
  all_goals first | omega | exact ⟨2, rfl, by omega, by omega⟩ | exact ⟨3, rfl, by omega, by omega⟩ | exact ⟨lay.toNat, by omega, by omega, by omega⟩
abbrev numB (x : Nat) : Bool := FloatKind.f64.format.order x x == some .eq
def Told (r : Bool) (w : World) (e : Ending) (w' : World) : Prop := e = .returned (.bool r) ∧ Grow w w'
theorem Told.mk {r r' : Bool} {w w' : World} (h : r = r') (hg : Grow w w') : Told r w (.returned (.bool r')) w' := by subst h; exact ⟨rfl, hg⟩
abbrev GeoV (k l r : Int) (u : Value) : Value := .agg #[.int .i64 k, .int .i64 l, .int .i64 r, u, .slice none 0 0, .slice none 0 0, .slice none 0 0]
theorem all_take {xs : List Nat} {P : Nat → Bool} {k x : Nat} (hx : xs[k]? = some x) : (xs.take (k + 1)).all P = ((xs.take k).all P && P x) := by
  rw [List.take_add_one, hx, List.all_append]; simp
theorem all_false {xs : List Nat} {P : Nat → Bool} {k x : Nat} (hx : xs[k]? = some x) (h : P x = false) : xs.all P = false := by
  rw [List.all_eq_false]
  exact ⟨x, List.mem_of_getElem? hx, by rw [h]; simp⟩
theorem gNumberB (x : Nat) (b : Bool) (w : World) (h : numB x = b) : Calls Try.prog 11 #[.float .f64 x] w fun e w' => e = .returned (.bool b) ∧ w' = w := by
  subst h; exact gNumber_calls x w
set_option maxHeartbeats 2000000 in
theorem eachNumber_calls (k l r : Int) (u : Value) (xs : List Nat) (w : World) (hu : FSl u xs w) (hl : xs.length ≤ 1099511627776) :
    Calls Try.prog 10 #[GeoV k l r u, .func (Fn.func 11) #[] #[]] w (Told (xs.all numB) w) := by
  have HU := Lib.hid hu
  obtain ⟨A, c, rfl, -, hA⟩ := hu
  have HA := Lib.hid hA; clear hA
  go_enter Try.func10, Try.ntmps10
  go_wp2
  go_loop [12] (fun i => ∃ k : Nat, k ≤ xs.length ∧ i = .int .i64 k ∧ (xs.take k).all numB = true) (fun i => xs.length - (intOf i).toNat)
  case atStart => exact ⟨0, Nat.zero_le _, rfl, rfl⟩
  case round =>
    obtain ⟨j, hj, rfl, hall⟩ := hrel
    have HL := Lib.hid hall; clear hall
    by_cases hlt : j < xs.length
    case neg =>
      have hje : j = xs.length := by omega
      have HJ := Lib.hid hje; clear hje
      go_wp2
      go_loop [24] (fun i => i = .int .i64 0) (fun _ => 0)
      case atStart => rfl
      case round =>
        subst hrel
        go_wp2
        go_ret
        refine Told.mk ?_ ((Grow.refl w).alloc _)
        have := HL.out
        rwa [List.take_of_length_le (by have := HJ.out; omega)] at this
    case pos =>
      obtain ⟨x, hx⟩ : ∃ x, xs[j]? = some x := ⟨xs[j], by simp [hlt]⟩
      rcases HA.out with h0 | ⟨b1, o1, rfl, hcell⟩
      · exfalso; subst h0; simp at hlt
      have hxc := up_cell (hcell j x hx) ((Grow.refl w).alloc (Obj.cells #[.int .i64 k, .int .i64 l, .int .i64 r, .slice (some ⟨b1, o1, none⟩) xs.length c, .slice none 0 0, .slice none 0 0, .slice none 0 0] 38))
      have HX := Lib.hid hx
      clear hcell hx
      cases hb : numB x
      all_goals
        have HB := Lib.hid hb; clear hb
        go_wp2_with (go_at_call 11; refine (gNumberB _ _ _ HB.out).mono ?_; rintro e w' ⟨rfl, rfl⟩)
      · go_ret
        exact Told.mk (all_false HX.out HB.out) ((Grow.refl w).alloc _)
      · go_round
        case rel => exact ⟨j + 1, by omega, by go_num, by rw [all_take HX.out, HL.out, HB.out]; rfl⟩
        case measure => simp [intOf]; omega

theorem wrap_ok {n : Int} (h0 : 0 ≤ n) (h1 : n ≤ 1099511627776) : IntKind.i64.wrap n = n := IntWalk.i64_in _ (by omega)
def RowP (lay : Int) (xs : List Nat) (w : World) (e : Ending) (w' : World) : Prop := ∃ r, e = .returned (.bool r) ∧ Grow w w' ∧ (r = true → 1 ≤ lay ∧ lay ≤ 9 ∧ xs.length ≤ 1000 ∧ (xs.length : Int) % strideN lay = 0 ∧ xs.all numB = true)
theorem RowP.no {lay : Int} {xs : List Nat} {w w' : World} (hg : Grow w w') : RowP lay xs w (.returned (.bool false)) w' := ⟨false, rfl, hg, fun h => by cases h⟩
set_option maxHeartbeats 2000000 in
theorem sRow_calls (lay : Int) (u : Value) (xs : List Nat) (w : World) (hu : FSl u xs w) (hl : xs.length ≤ 2147483647) :
    Calls Try.prog 4 #[.int .i64 lay, u] w (RowP lay xs w) := by
  have HU := Lib.hid hu
  obtain ⟨A, c, rfl, -, hA⟩ := hu
  clear hA
  by_cases h1 : 1 ≤ lay
  case neg =>
    go_enter Try.func4, Try.ntmps4
    go_wp2_with (go_at_call 9; refine (stride_calls _ _).mono ?_; rintro e w' ⟨rfl, rfl⟩)
    go_ret
    exact RowP.no (Grow.refl _)
  by_cases h9 : lay ≤ 9
  case neg =>
    go_enter Try.func4, Try.ntmps4
    go_wp2_with (go_at_call 9; refine (stride_calls _ _).mono ?_; rintro e w' ⟨rfl, rfl⟩)
    go_ret
    exact RowP.no (Grow.refl _)
  obtain ⟨s, hs, s2, s9⟩ := stride_nat lay h1 h9
  have HS := Lib.hid hs; clear hs
  by_cases hk : xs.length ≤ 1000
  case neg =>
    go_enter Try.func4, Try.ntmps4
    go_wp2_with (go_at_call 9; refine (strideS _ _ _ HS.out).mono ?_; rintro e w' ⟨rfl, rfl⟩)
    go_ret
    exact RowP.no (Grow.refl _)
  have HE := Lib.hid (fun w' (hg : Grow w w') => eachNumber_calls 0 0 0 _ xs w' (FSl.up _ _ HU.out hg) (by omega))
  have hsp : (0 : Int) < (s : Int) := by omega
  cases hq : ((xs.length : Int) % (s : Int) == 0) <;> cases hall : xs.all numB
  all_goals
    have HQ := Lib.hid hq
    have HA := Lib.hid hall; clear hall
    go_enter Try.func4, Try.ntmps4
    go_wp2_with (first
      | (go_at_call 9; refine (strideS _ _ _ HS.out).mono ?_; rintro e w' ⟨rfl, rfl⟩)
      | (go_at_call 10; refine (HE.out _ (Grow.refl _)).mono ?_; rw [HA.out]; rintro e w' ⟨rfl, hg⟩))
    go_ret
  · exact RowP.no (Grow.refl _)
  · exact RowP.no (Grow.refl _)
  · exact RowP.no hg
  · exact ⟨true, rfl, hg, fun _ => ⟨h1, h9, hk, by rw [HS.out]; simpa using HQ.out, HA.out⟩⟩
theorem layStride (lay : Int) (s : Nat) (w : World) (h1 : 1 ≤ lay) (h9 : lay ≤ 9) (hs : strideN lay = s) : Calls Try.prog 18 #[.int .i64 lay] w fun e w' => e = .returned (.int .i64 s) ∧ w' = w := by
  have HS := Lib.hid hs; clear hs
  by_cases e1 : lay = 1
  · subst e1
    have hs := HS.out
    obtain rfl : s = 2 := by have : strideN 1 = 2 := rfl
                             omega
    clear hs
    go_enter Try.func18, Try.ntmps18
    go_wp2
    go_ret
    exact ⟨rfl, rfl⟩
  by_cases e2 : lay = 2
  · subst e2
    have hs := HS.out
    obtain rfl : s = 3 := by have : strideN 2 = 3 := rfl
                             omega
    clear hs
    go_enter Try.func18, Try.ntmps18
    go_wp2
    go_ret
    exact ⟨rfl, rfl⟩
  by_cases e3 : lay = 3
  · subst e3
    have hs := HS.out
    obtain rfl : s = 3 := by have : strideN 3 = 3 := rfl
                             omega
    clear hs
    go_enter Try.func18, Try.ntmps18
    go_wp2
    go_ret
    exact ⟨rfl, rfl⟩
  have hs := HS.out
  obtain rfl : lay = s := by
    unfold strideN at hs
    repeat' split at hs
    all_goals omega
  clear hs
  by_cases e4 : s = 4
  · subst e4
    go_enter Try.func18, Try.ntmps18
    go_wp2
    go_ret
    exact ⟨rfl, rfl⟩
  have f0 : ((s : Int) == 0) = false := by rw [beq_eq_false_iff_ne]; omega
  have f1 : ((s : Int) == 1) = false := by rw [beq_eq_false_iff_ne]; omega
  have f2 : ((s : Int) == 2) = false := by rw [beq_eq_false_iff_ne]; omega
  have f3 : ((s : Int) == 3) = false := by rw [beq_eq_false_iff_ne]; omega
  have f4 : ((s : Int) == 4) = false := by rw [beq_eq_false_iff_ne]; omega
  have g0 : (s == 0) = false := by rw [beq_eq_false_iff_ne]; omega
  have g1 : (s == 1) = false := by rw [beq_eq_false_iff_ne]; omega
  have g2 : (s == 2) = false := by rw [beq_eq_false_iff_ne]; omega
  have g3 : (s == 3) = false := by rw [beq_eq_false_iff_ne]; omega
  have g4 : (s == 4) = false := by rw [beq_eq_false_iff_ne]; omega
  clear e1 e2 e3 e4
  go_enter Try.func18, Try.ntmps18
  go_wp2
  go_ret
  exact ⟨rfl, rfl⟩
theorem wrapM {n : Int} (h0 : 0 ≤ n) (h1 : n ≤ 1099511627776000) : IntKind.i64.wrap n = n := IntWalk.i64_in _ (by omega)
/-- what a function makes: a value of which something is known that hangs on the call's own blocks *)-/
def MQ (E : Value → World → Prop) (w : World) (e : Ending) (w' : World) : Prop := ∃ v, e = .returned v ∧ Grow w w' ∧ Stab w.heap.size w'.heap.size (E v) w'
abbrev L1 (rows : List (List Nat)) (v : Value) (w : World) : Prop := SlE (fun xs u w => FSl u xs w) v rows w
theorem L1.form {rows : List (List Nat)} {v : Value} {w : World} (h : L1 rows v w) : ∃ A c, v = .slice A rows.length c := let ⟨A, c, h1, _⟩ := SlE.form h; ⟨A, c, h1⟩
theorem infoR0 : (Try.prog.info? 52).map (fun i => (i.zero, i.size, i.bytes)) = some (some (.float .f64 0), 1, 8) := by kernel_rfl
theorem undR0 : Try.prog.underlying 22 = some (.slice 52) := by kernel_rfl
theorem arr_start {w : World} {n : Nat} {F : Nat → Value → World → Prop} (e : TypeId) (z : Value) : Arr w w.heap.size n 0 F (w.alloc (.cells (madeCells #[z] n) e)) := by
  refine ⟨Nat.le_refl _, fun k hk => ⟨z, ?_⟩, fun o => by go_simp, (Grow.refl w).alloc _, fun i hi => by omega⟩
  rw [cell_of_row _ _ _ _ _ _ (heap_alloc_new w _)]
  have h1 : k % 1 = 0 := Nat.mod_one k
  simp [madeCells, hk, h1]
theorem infoR1 : (Try.prog.info? 49).map (fun i => (i.zero, i.size, i.bytes)) = some (some (.slice none 0 0), 1, 24) := by kernel_rfl
theorem undR1 : Try.prog.underlying 46 = some (.slice 49) := by kernel_rfl
theorem undCo : Try.prog.underlying 49 = some (.slice 52) := by kernel_rfl
set_option maxRecDepth 100000 in
set_option maxHeartbeats 4000000 in
theorem inflate0_calls (A : Option Addr) (n c s : Nat) (X row Z : List Nat) (w : World) (hu : FSl (.slice A n c) (X ++ row ++ Z) w) (hr : row.length = s) (hs : 0 < s) (hs9 : s ≤ 9) (hn : n ≤ 17592186044416) :
    Calls Try.prog 26 #[.slice A n c, .int .i64 X.length, .int .i64 ((X.length : Int) + s), .int .i64 s] w (MQ (fun v w => FSl v row w) w) := by
  obtain ⟨A', c', he, hcc, hA⟩ := hu
  simp only [Value.slice.injEq] at he
  obtain ⟨rfl, rfl, rfl⟩ := he
  have hxn : X.length + s + Z.length = (X ++ row ++ Z).length := by simp only [List.length_append]; omega
  rcases hA with h0 | ⟨b, o, rfl, hcell⟩
  · exfalso; have := congrArg List.length h0; simp only [List.length_append, List.length_nil] at this; omega
  have hmk := fun w => run_make_row' (P := Try.prog) 22 52 (.float .f64 0) 8 undR0 infoR0 rfl .i64 .i64 s (by omega) (by omega) w
  have hund := Lib.hid undR0
  have hsz := Lib.hid (show (Try.prog.info? 52).map (·.size) = some 1 by kernel_rfl)
  have HR := Lib.hid hr
  have HROW : Hid (∀ j x, row[j]? = some x → w.cell? ⟨b, o + X.length + j, none⟩ = some (.float .f64 x)) := fun j x hj => by
    have := hcell (X.length + j) x (by rw [List.append_assoc, List.getElem?_append_right (by omega), List.getElem?_append_left (by have := (List.getElem?_eq_some_iff.1 hj).1; omega)]; rw [← hj]; congr 1; omega)
    rwa [Nat.add_assoc]
  have hb : b < w.heap.size := by
    obtain ⟨x, hx⟩ : ∃ x, row[0]? = some x := ⟨row[0]'(by omega), by simp [show 0 < row.length by omega]⟩
    exact cell_ltH (HROW.out 0 x hx)
  have HXN := Lib.hid hxn
  have hXs : X.length + s ≤ (X ++ row ++ Z).length := by omega
  have hXs2 : (X.length : Int) + s ≤ ((X ++ row ++ Z).length : Int) := by omega
  clear hr hcell hxn
  generalize (X ++ row ++ Z).length = n at *
  generalize X.length = x at *
  have e0 : ((x : Int) + (s : Int) != (x : Int) + (s : Int)) = false := by simp
  have e1 : ((x : Int) + (s : Int)).toNat = x + s := by omega
  have e2 : x + s - x = s := by omega
  go_enter Try.func26, Try.ntmps26
  have HH := Lib.hid (show (w.alloc (.cells (madeCells #[.float .f64 0] s) 52)).heap[w.heap.size]? = some (.cells (madeCells #[.float .f64 0] s).toList.toArray 52 (0, 0)) by simpa using heap_alloc_new w (.cells (madeCells #[.float .f64 0] s) 52))
  have HBL := Lib.hid (show Below w.heap.size w (w.alloc (.cells (madeCells #[.float .f64 0] s) 52)) from (Grow.refl w).alloc _)
  have HC : Hid (∀ j v, (row.map (Value.float .f64))[j]? = some v → (w.alloc (.cells (madeCells #[.float .f64 0] s) 52)).cell? (Addr.add ⟨b, o + x, none⟩ j) = some v) := by
    intro j v hj
    rw [List.getElem?_map] at hj
    cases hx : row[j]? with
    | none => rw [hx] at hj; cases hj
    | some n => rw [hx] at hj; cases hj; rw [addr_add]; exact up_cell (HROW.out j n hx) ((Grow.refl w).alloc _)
  go_wp2_with (with_reducible refine wpList_copy_splice rfl (.tmp 18) (.tmp 22) 22 22 rfl 52 hund.out hsz.out (some ⟨w.heap.size, 0, none⟩) (some ⟨b, o + x, none⟩) s s s (c - x) rfl rfl w.heap.size 0 (madeCells #[.float .f64 0] s).toList 52 HH.out (row.map (.float .f64)) (by rw [List.length_map, HR.out]; exact (Nat.min_self _).symm) (fun _ => ⟨rfl, _, rfl, HC.out⟩) (by have := HR.out; simp [size_madeCells]; omega) (fl_one _) w.heap.size w HBL.out (Nat.le_refl _) ?_; intro w' hg' hb')
  go_ret
  refine ⟨.slice (some ⟨w.heap.size, 0, none⟩) s s, rfl, hb', fun w2 hw => ⟨some ⟨w.heap.size, 0, none⟩, s, by rw [HR.out], by rw [HR.out]; exact Nat.le_refl _, .inr ⟨w.heap.size, 0, rfl, fun i q hi => ?_⟩⟩⟩
  have hlt : w.heap.size < w'.heap.size := by
    rcases Nat.lt_or_ge w.heap.size w'.heap.size with h1 | h1
    · exact h1
    · have h2 := hg'.out
      rw [Array.getElem?_eq_none h1] at h2; cases h2
  rw [Nat.zero_add, cell_of_row w2 w.heap.size i _ 52 (0, 0) ((hw _ (Nat.le_refl _) hlt).trans hg'.out)]
  have hil : i < row.length := (List.getElem?_eq_some_iff.1 hi).1
  simp only [splice, List.getElem?_toArray, List.take_zero, List.nil_append]
  rw [List.getElem?_append_left (by simpa using hil), List.getElem?_map, hi]; rfl
set_option maxRecDepth 100000 in
set_option maxHeartbeats 4000000 in
theorem inflate1_calls (A : Option Addr) (n c s e : Nat) (X : List Nat) (rows : List (List Nat)) (Z : List Nat) (w : World) (hu : FSl (.slice A n c) (X ++ rows.flatten ++ Z) w) (hr : ∀ r ∈ rows, r.length = s) (hs : 0 < s) (hs9 : s ≤ 9) (hn : n ≤ 17592186044416) (he : e = X.length + rows.length * s) (hrl : rows.length ≤ 10000000000) :
    Calls Try.prog 22 #[.slice A n c, .int .i64 X.length, .int .i64 e, .int .i64 s] w (MQ (L1 rows) w) := by
  have HU := Lib.hid hu; have HR := Lib.hid hr
  have hlen : n = X.length + rows.length * s + Z.length := by
    obtain ⟨A', c', he', -, -⟩ := hu
    simp only [Value.slice.injEq] at he'
    rw [he'.2.1]; simp only [List.length_append, flat_len hr]
  have hq : ((e : Int) - (X.length : Int)).tdiv (s : Int) = (rows.length : Int) := by
    have h1 : (e : Int) - (X.length : Int) = ((rows.length * s : Nat) : Int) := by omega
    rw [h1, Int.natCast_mul, Int.mul_tdiv_cancel _ (by omega)]
  have hq2 : ((e : Int) - (X.length : Int)) / (s : Int) = (rows.length : Int) := by
    have h1 : (e : Int) - (X.length : Int) = ((rows.length * s : Nat) : Int) := by omega
    rw [h1, Int.natCast_mul, Int.mul_ediv_cancel _ (by omega)]
  have hsub : 0 ≤ (e : Int) - (X.length : Int) := by omega
  have hel : e ≤ 17592186044416 := by omega
  have hmk := fun w => run_make_row' (P := Try.prog) 46 49 (.slice none 0 0) 24 undR1 infoR1 rfl .i64 .i64 rows.length (by omega) (by omega) w
  have hxl : X.length ≤ e := by omega
  have HE := Lib.hid he; have HN := Lib.hid hlen
  have HA0 := Lib.hid (arr_start (w := w) (n := rows.length) (F := fun i u w => ∀ r, rows[i]? = some r → FSl u r w) 49 (.slice none 0 0))
  clear hr hu he hlen
  go_enter Try.func22, Try.ntmps22
  go_wp2
  clear hq hq2 hsub hmk
  go_loopw [1, 10, 19] (fun vo _ vi wr => ∃ q : Nat, q ≤ rows.length ∧ vi = .int .i64 q ∧ vo = .int .i64 ((X ++ (rows.take q).flatten).length : Nat) ∧ w.heap.size < wr.heap.size ∧ Arr w w.heap.size rows.length q (fun i u w => ∀ r, rows[i]? = some r → FSl u r w) wr) (fun _ _ vi _ => (rows.length - intOf vi).toNat)
  case atStart => exact ⟨0, Nat.zero_le _, rfl, by simp, by simp, HA0.out⟩
  case round =>
    obtain ⟨q, hq, rfl, rfl, hwl, har⟩ := hrel
    have HAR := Lib.hid har
    clear HA0 har
    by_cases hlt : q < rows.length
    · obtain ⟨row, hrow⟩ : ∃ p, rows[q]? = some p := ⟨rows[q], by simp [hlt]⟩
      have hrw := HR.out row (List.mem_of_getElem? hrow)
      have hsp : rows = rows.take q ++ row :: rows.drop (q + 1) := by
        obtain ⟨hq', rfl⟩ := List.getElem?_eq_some_iff.1 hrow
        rw [← List.drop_eq_getElem_cons hq', List.take_append_drop]
      have hfl : X ++ rows.flatten ++ Z = (X ++ (rows.take q).flatten) ++ row ++ ((rows.drop (q + 1)).flatten ++ Z) := by
        conv => lhs; rw [hsp]
        simp [List.append_assoc]
      have HC := Lib.hid (inflate0_calls A n c s (X ++ (rows.take q).flatten) row ((rows.drop (q + 1)).flatten ++ Z) wr (by rw [← hfl]; exact FSl.up _ _ HU.out HAR.out.g) hrw hs hs9 hn)
      have hxq : (X ++ (rows.take q).flatten).length + s ≤ n := by
        have h1 := congrArg List.length hfl
        have h2 := HN.out
        simp only [List.length_append, flat_len HR.out] at h1 ⊢
        omega
      have HST := Lib.hid (fun (w2 : World) (u : Value) (h1 : Grow wr w2) (h2 : Stab wr.heap.size w2.heap.size (FSl u row) w2) => HAR.out.step (u := u) hlt hwl h1 (h2.imp fun w' h r hr => by rw [hrow] at hr; cases hr; exact h))
      have HXE : Hid ((X ++ (rows.take (q + 1)).flatten).length = (X ++ (rows.take q).flatten).length + s) := by
        show _ = _
        rw [List.take_add_one, hrow]
        simp only [Option.toList, List.flatten_append, List.flatten_cons, List.flatten_nil, List.append_nil, List.length_append, hrw]; omega
      obtain ⟨v0, hv0⟩ := HAR.out.c q hlt
      have HV0 := Lib.hid hv0; have HF0 := Lib.hid (HAR.out.f q)
      have hq1 : IntKind.i64.wrap ((q : Int) + 1) = (q : Int) + 1 := IntWalk.i64_in _ (by omega)
      clear hrow hrw hsp hfl hv0
      generalize (X ++ (rows.take q).flatten).length = x at *
      go_wp2_with (go_at_call 26; refine (HC.out).mono ?_; rintro e w2 ⟨v2, rfl, hg2, hst2⟩; have HG2 := Lib.hid hg2; have HS2 := Lib.hid (HST.out _ _ hg2 hst2); obtain ⟨A2, c2, h2, -, -⟩ := hst2.now; subst h2; have y0 := up_cell HV0.out hg2; have y1 := (grow_frozen hg2 _ q hwl).trans HF0.out; clear hg2 hst2)
      go_roundw
      case rel => exact ⟨q + 1, by omega, by go_num, by rw [HXE.out]; go_num, by have := HG2.out.size; simp [World.setCell]; omega, HS2.out⟩
      case measure => simp [intOf]; omega
    · have hqe : q = rows.length := by omega
      have HQ := Lib.hid hqe
      clear hqe
      go_wp2
      go_ret
      have h1 := HAR.out
      rw [HQ.out] at h1
      exact ⟨_, rfl, h1.g, h1.fin hwl (fun i x u w' hx h => h x hx) _ (Nat.le_refl _)⟩

end Go.Proofs.Ytdcchejehomicaa
