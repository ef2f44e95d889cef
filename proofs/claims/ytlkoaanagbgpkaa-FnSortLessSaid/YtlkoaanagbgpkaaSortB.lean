import Derived.Test.YtlkoaanagbgpkaaSortA
namespace Go.Proofs.Ytlkoaanagbgpkaa
open Go.ChangeShapes Go.WideShapes Go.ChangeAt Go.RowKit Go.GrowR
set_option linter.unusedVariables false
set_option linter.unusedSimpArgs false

abbrev GeoV (k l r : Int) (u : Value) : Value := .agg #[.int .i64 k, .int .i64 l, .int .i64 r, u, .slice none 0 0, .slice none 0 0, .slice none 0 0]
theorem all_take {xs : List Nat} {P : Nat → Bool} {k x : Nat} (hx : xs[k]? = some x) : (xs.take (k + 1)).all P = ((xs.take k).all P && P x) := by
  rw [List.take_add_one, hx, List.all_append]; simp
theorem all_false {xs : List Nat} {P : Nat → Bool} {k x : Nat} (hx : xs[k]? = some x) (h : P x = false) : xs.all P = false := by
  rw [List.all_eq_false]
  exact ⟨x, List.mem_of_getElem? hx, by rw [h]; simp⟩
theorem gNumberB (x : Nat) (b : Bool) (w : World) (h : numB x = b) : Calls Try.prog 47 #[.float .f64 x] w fun e w' => e = .returned (.bool b) ∧ w' = w := by
  subst h; exact gNumber_calls x w
set_option maxHeartbeats 2000000 in
theorem eachNumber_calls (k l r : Int) (u : Value) (xs : List Nat) (w : World) (hu : FSl u xs w) (hl : xs.length ≤ 1099511627776) :
    Calls Try.prog 29 #[GeoV k l r u, .func (Fn.func 47) #[] #[]] w (Told (xs.all numB) w) := by
  have HU := Lib.hid hu
  obtain ⟨A, c, rfl, -, hA⟩ := hu
  have HA := Lib.hid hA; clear hA
  go_enter Try.func29, Try.ntmps29
  go_wp2
  go_loop [12] (fun i => ∃ k : Nat, k ≤ xs.length ∧ i = .int .i64 k ∧ (xs.take k).all numB = true) (fun i => xs.length - (intOf i).toNat)
  case atStart => exact ⟨0, Nat.zero_le _, rfl, rfl⟩
  case round =>
    obtain ⟨j, hj, rfl, hall⟩ := hrel
    have HL := Lib.hid hall; clear hall
    by_cases hlt : j < xs.length
    case neg =>
      have hje : j = xs.length := by omega
      have HJ := Lib.hid hje; clear hje
      go_wp2
      go_loop [24] (fun i => i = .int .i64 0) (fun _ => 0)
      case atStart => rfl
      case round =>
        subst hrel
        go_wp2
        go_ret
        refine Told.mk ?_ ((Grow.refl w).alloc _)
        have := HL.out
        rwa [List.take_of_length_le (by have := HJ.out; omega)] at this
    case pos =>
      obtain ⟨x, hx⟩ : ∃ x, xs[j]? = some x := ⟨xs[j], by simp [hlt]⟩
      rcases HA.out with h0 | ⟨b1, o1, rfl, hcell⟩
      · exfalso; subst h0; simp at hlt
      have hxc := up_cell (hcell j x hx) ((Grow.refl w).alloc (Obj.cells #[.int .i64 k, .int .i64 l, .int .i64 r, .slice (some ⟨b1, o1, none⟩) xs.length c, .slice none 0 0, .slice none 0 0, .slice none 0 0] 56))
      have HX := Lib.hid hx
      clear hcell hx
      cases hb : numB x
      all_goals
        have HB := Lib.hid hb; clear hb
        go_wp2_with (go_at_call 47; refine (gNumberB _ _ _ HB.out).mono ?_; rintro e w' ⟨rfl, rfl⟩)
      · go_ret
        exact Told.mk (all_false HX.out HB.out) ((Grow.refl w).alloc _)
      · go_round
        case rel => exact ⟨j + 1, by omega, by go_num, by rw [all_take HX.out, HL.out, HB.out]; rfl⟩
        case measure => simp [intOf]; omega

theorem wrap_ok {n : Int} (h0 : 0 ≤ n) (h1 : n ≤ 1099511627776) : IntKind.i64.wrap n = n := IntWalk.i64_in _ (by omega)
theorem strideS (lay : Int) (s : Nat) (w : World) (h : strideN lay = s) : Calls Try.prog 35 #[.int .i64 lay] w fun e w' => e = .returned (.int .i64 s) ∧ w' = w := by
  rw [← h]; exact stride_calls lay w
theorem stride_nat (lay : Int) (h1 : 1 ≤ lay) (h9 : lay ≤ 9) : ∃ s : Nat, strideN lay = s ∧ 2 ≤ s ∧ s ≤ 9 := by
  unfold strideN
  repeat' split
  all_goals first | omega | exact ⟨2, rfl, by omega, by omega⟩ | exact ⟨3, rfl, by omega, by omega⟩ | exact ⟨lay.toNat, by omega, by omega, by omega⟩
def RowP (lay : Int) (xs : List Nat) (w : World) (e : Ending) (w' : World) : Prop := ∃ r, e = .returned (.bool r) ∧ Grow w w' ∧ (r = true → 1 ≤ lay ∧ lay ≤ 9 ∧ xs.length ≤ 1000 ∧ (xs.length : Int) % strideN lay = 0 ∧ xs.all numB = true)
theorem RowP.no {lay : Int} {xs : List Nat} {w w' : World} (hg : Grow w w') : RowP lay xs w (.returned (.bool false)) w' := ⟨false, rfl, hg, fun h => by cases h⟩
set_option maxHeartbeats 2000000 in
theorem sRow_calls (lay : Int) (u : Value) (xs : List Nat) (w : World) (hu : FSl u xs w) (hl : xs.length ≤ 2147483647) :
    Calls Try.prog 33 #[.int .i64 lay, u] w (RowP lay xs w) := by
  have HU := Lib.hid hu
  obtain ⟨A, c, rfl, -, hA⟩ := hu
  clear hA
  by_cases h1 : 1 ≤ lay
  case neg =>
    go_enter Try.func33, Try.ntmps33
    go_wp2_with (go_at_call 35; refine (stride_calls _ _).mono ?_; rintro e w' ⟨rfl, rfl⟩)
    go_ret
    exact RowP.no (Grow.refl _)
  by_cases h9 : lay ≤ 9
  case neg =>
    go_enter Try.func33, Try.ntmps33
    go_wp2_with (go_at_call 35; refine (stride_calls _ _).mono ?_; rintro e w' ⟨rfl, rfl⟩)
    go_ret
    exact RowP.no (Grow.refl _)
  obtain ⟨s, hs, s2, s9⟩ := stride_nat lay h1 h9
  have HS := Lib.hid hs; clear hs
  by_cases hk : xs.length ≤ 1000
  case neg =>
    go_enter Try.func33, Try.ntmps33
    go_wp2_with (go_at_call 35; refine (strideS _ _ _ HS.out).mono ?_; rintro e w' ⟨rfl, rfl⟩)
    go_ret
    exact RowP.no (Grow.refl _)
  have HE := Lib.hid (fun w' (hg : Grow w w') => eachNumber_calls 0 0 0 _ xs w' (FSl.up _ _ HU.out hg) (by omega))
  have hsp : (0 : Int) < (s : Int) := by omega
  cases hq : ((xs.length : Int) % (s : Int) == 0) <;> cases hall : xs.all numB
  all_goals
    have HQ := Lib.hid hq
    have HA := Lib.hid hall; clear hall
    go_enter Try.func33, Try.ntmps33
    go_wp2_with (first
      | (go_at_call 35; refine (strideS _ _ _ HS.out).mono ?_; rintro e w' ⟨rfl, rfl⟩)
      | (go_at_call 29; refine (HE.out _ (Grow.refl _)).mono ?_; rw [HA.out]; rintro e w' ⟨rfl, hg⟩))
    go_ret
  · exact RowP.no (Grow.refl _)
  · exact RowP.no (Grow.refl _)
  · exact RowP.no hg
  · exact ⟨true, rfl, hg, fun _ => ⟨h1, h9, hk, by rw [HS.out]; simpa using HQ.out, HA.out⟩⟩
theorem infoS : (Try.prog.info? 22).map (fun i => (i.zero, i.size, i.bytes)) = some (some (.slice none 0 0), 1, 24) := by kernel_rfl
theorem undSS : Try.prog.underlying 37 = some (.slice 22) := by kernel_rfl
def rowsV (b o c s K : Nat) : List Value := (List.range K).map fun i => .slice (some ⟨b, o + i * s, none⟩) s (c - i * s)
theorem rowsV_succ (b o c s K : Nat) : rowsV b o c s (K + 1) = rowsV b o c s K ++ [.slice (some ⟨b, o + K * s, none⟩) s (c - K * s)] := by
  unfold rowsV; rw [List.range_succ, List.map_append]; rfl
theorem rowsV_len (b o c s K : Nat) : (rowsV b o c s K).length = K := by simp [rowsV]
def RowsP (b o c s K : Nat) (w : World) (e : Ending) (w' : World) : Prop := ∃ V, e = .returned V ∧ Grow w w' ∧ VOwn 22 w.heap.size V (rowsV b o c s K) w'
set_option maxRecDepth 100000 in
set_option maxHeartbeats 2000000 in
theorem rows_calls (b o c n s K : Nat) (w : World) (hs : 1 ≤ s) (hs9 : s ≤ 9) (hK : n = K * s) (hn : n ≤ 2147483647) (hc : n ≤ c) :
    Calls Try.prog 34 #[.slice (some ⟨b, o, none⟩) n c, .int .i64 s] w (RowsP b o c s K w) := by
  obtain ⟨i0, hi, hz0, hz1, hz2⟩ := info_parts infoS
  have HI := Lib.hid hi; have HZ0 := Lib.hid hz0; have HZ1 := Lib.hid hz1; have HZ2 := Lib.hid hz2; clear hi hz0 hz1 hz2
  have hKn : K ≤ n := by rw [hK]; exact Nat.le_mul_of_pos_right K (by omega)
  have HK := Lib.hid hK; clear hK
  go_enter Try.func34, Try.ntmps34
  go_wp2
  go_loopw [5, 6] (fun O i wr => ∃ k p : Nat, k ≤ K ∧ p = k * s ∧ p ≤ n ∧ i = .int .i64 p ∧ Grow w wr ∧ VOwn 22 w.heap.size O (rowsV b o c s k) wr) (fun _ i _ => n - (intOf i).toNat)
  case atStart => exact ⟨0, 0, Nat.zero_le _, by simp, by omega, rfl, Grow.refl w, VOwn.nil⟩
  case round =>
    obtain ⟨k, p, hk, hp, hpn, rfl, hg, hown⟩ := hrel
    have HP := Lib.hid hp; clear hp
    have HG := Lib.hid hg
    have HO := Lib.hid hown; clear hg hown
    by_cases hlt : k < K
    case neg =>
      have hge : (n : Int) < (p : Int) + (s : Int) := by
        have h1 := HP.out; have h2 := HK.out
        have h3 : k = K := by omega
        rw [h3] at h1; omega
      have hd1 : decide (p + s ≤ n) = false := by simp; omega
      have hd2 : decide ((p : Int) + (s : Int) ≤ (n : Int)) = false := by simp; omega
      go_wp2
      go_ret
      have h3 : k = K := by omega
      subst h3
      exact ⟨_, rfl, HG.out, HO.out⟩
    case pos =>
      have hle : p + s ≤ n := by
        have h1 := HP.out; have h2 := HK.out
        have h3 : (k + 1) * s ≤ K * s := Nat.mul_le_mul_right s hlt
        rw [Nat.add_mul] at h3; omega
      have hle' : (p : Int) + (s : Int) ≤ (n : Int) := by omega
      have hs0 : (0 : Int) < (s : Int) := by omega
      have hpc : ¬ c = p := by omega
      go_wp2_with (at_builtin; refine wpList_append_vsl rfl _ _ 37 rfl w.heap.size 22 i0 (.slice none 0 0) 24 undSS HI.out HZ0.out HZ1.out HZ2.out rfl rfl (VOwn.up _ _ HO.out ((Grow.refl wr).alloc _)) rfl (VSl.one (u := .slice (some ⟨b, o + p, none⟩) s (c - p)) (by go_simp)) (by intro x hx; simp at hx; subst hx; rfl) (by rw [rowsV_len]; simp [maxLen] at *; omega) (by rw [rowsV_len]; simp at *; omega) (by have := HG.out.size; simp; omega) ?_; intro O5 w5 hown5 hgrow5 hwh5; have H5 := Lib.hid hown5; have HGR := Lib.hid hgrow5; clear hown5 hgrow5 hwh5)
      go_roundw
      case rel =>
        refine ⟨k + 1, p + s, by omega, by rw [Nat.add_mul, HP.out]; omega, by omega, by go_num, Below.grown (HG.out.alloc _) HGR.out (by have := HG.out.size; simp; omega) HO.out.lt, ?_⟩
        rw [rowsV_succ, ← HP.out]; exact H5.out
      case measure => simp [intOf]; omega
end Go.Proofs.Ytlkoaanagbgpkaa
