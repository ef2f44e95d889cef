import Derived.Test.YtelfjglhmccecaaPlaneTo
import Derived.Test.YtelfjglhmccecaaOwnK
namespace Go.Proofs.Ytelfjglhmccecaa
open Go.ChangeShapes Go.WideShapes Go.ChangeAt Go.RowKit Go.GrowR
set_option linter.unusedVariables false
set_option linter.unusedSimpArgs false
def strideN (n : Int) : Int := if n < 1 then 0 else if n = 1 then 2 else if n = 2 ∨ n = 3 then 3 else n
theorem stride_calls (n : Int) (w : World) : Calls Try.prog 22 #[.int .i64 n] w fun e w' => e = .returned (.int .i64 (strideN n)) ∧ w' = w := by
  by_cases h1 : n < 1
  · go_enter Try.func22, Try.ntmps22
    go_wp2
    go_ret
    exact ⟨by simp [strideN, h1], rfl⟩
  by_cases h2 : n = 1
  · subst h2
    go_enter Try.func22, Try.ntmps22
    go_wp2
    go_ret
    exact ⟨by simp [strideN], rfl⟩
  by_cases h3 : n = 2
  · subst h3
    go_enter Try.func22, Try.ntmps22
    go_wp2
    go_ret
    exact ⟨by simp [strideN], rfl⟩
  by_cases h4 : n = 3
  · subst h4
    go_enter Try.func22, Try.ntmps22
    go_wp2
    go_ret
    exact ⟨by simp [strideN], rfl⟩
  have R : Hid (strideN n = n) := by show _ = _; simp [strideN, h1, h2, h3, h4]
  have e2 : (n == 1) = false := by rw [beq_eq_false_iff_ne]; exact h2
  have e3 : (n == 2) = false := by rw [beq_eq_false_iff_ne]; exact h3
  have e4 : (n == 3) = false := by rw [beq_eq_false_iff_ne]; exact h4
  clear h2 h3 h4
  go_enter Try.func22, Try.ntmps22
  go_wp2
  go_ret
  exact ⟨by rw [R.out]; rfl, rfl⟩

theorem strideS (lay : Int) (s : Nat) (w : World) (h : strideN lay = s) : Calls Try.prog 22 #[.int .i64 lay] w fun e w' => e = .returned (.int .i64 s) ∧ w' = w := by
  rw [← h]; exact stride_calls lay w
theorem stride_nat (lay : Int) (h1 : 1 ≤ lay) (h9 : lay ≤ 9) : ∃ s : Nat, strideN lay = s ∧ 2 ≤ s ∧ s ≤ 9 := by
  unfold strideN
  repeat' split
  all_goals first | omega | exact ⟨2, rfl, by omega, by omega⟩ | exact ⟨3, rfl, by omega, by omega⟩ | exact ⟨lay.toNat, by omega, by omega, by omega⟩
/-- the first k places of a row of places of s numbers -/
def pls (xs : List Nat) (s k : Nat) : List (Nat × Nat) := (List.range k).map fun i => (xs.getD (i * s) 0, xs.getD (i * s + 1) 0)
theorem pls_len (xs : List Nat) (s k : Nat) : (pls xs s k).length = k := by simp [pls]
theorem pls_succ (xs : List Nat) (s k : Nat) : pls xs s (k + 1) = pls xs s k ++ [(xs.getD (k * s) 0, xs.getD (k * s + 1) 0)] := by
  unfold pls; rw [List.range_succ, List.map_append]; rfl
def pcells (ps : List (Nat × Nat)) : List Value := ps.flatMap fun p => [.float .f64 p.1, .float .f64 p.2]
theorem pcells_app (a b : List (Nat × Nat)) : pcells (a ++ b) = pcells a ++ pcells b := by unfold pcells; exact List.flatMap_append
theorem pcells_get (ps : List (Nat × Nat)) (i : Nat) (p : Nat × Nat) (h : ps[i]? = some p) : (pcells ps)[i * 2]? = some (.float .f64 p.1) ∧ (pcells ps)[i * 2 + 1]? = some (.float .f64 p.2) := by
  induction ps generalizing i with
  | nil => simp at h
  | cons q ps ih =>
    have e : pcells (q :: ps) = .float .f64 q.1 :: .float .f64 q.2 :: pcells ps := rfl
    rw [e]
    cases i with
    | zero => simp at h; subst h; exact ⟨rfl, rfl⟩
    | succ i =>
      have := ih i (by simpa using h)
      rw [show (i + 1) * 2 = i * 2 + 1 + 1 by omega, show i * 2 + 1 + 1 + 1 = (i * 2 + 1) + 1 + 1 by omega]
      simpa using this
theorem psl_own {e : TypeId} {B n : Nat} {v : Value} {ps : List (Nat × Nat)} {w : World} (h : KOwn e 2 B v n (pcells ps) w) (hn : ps.length = n) : PSl v ps w := by
  obtain ⟨A, c, rfl, hc, hA⟩ := h.cells
  refine ⟨A, c, by rw [hn], by omega, ?_⟩
  rcases hA with h0 | ⟨b, rfl, hx⟩
  · exact .inl (List.eq_nil_of_length_eq_zero (by omega))
  · refine .inr ⟨b, 0, rfl, fun i p hi => ?_⟩
    have := pcells_get ps i p hi
    exact ⟨by rw [Nat.zero_add]; exact hx _ _ this.1, by rw [Nat.zero_add]; exact hx _ _ this.2⟩
theorem infoP2 : (Try.prog.info? 24).map (fun i => (i.zero, i.size, i.bytes)) = some (some (.agg #[.float .f64 0, .float .f64 0]), 2, 16) := by kernel_rfl
theorem cell_lt_ {w : World} {a : Addr} {v : Value} (h : w.cell? a = some v) : a.block < w.heap.size := by
  rcases Nat.lt_or_ge a.block w.heap.size with h1 | h1
  · exact h1
  · unfold World.cell? at h
    rw [Array.getElem?_eq_none h1] at h
    simp at h
theorem some_lt' {w : World} {a : Addr} {v : Value} (h : w.cell? a = some v) : a.block < w.heap.size := cell_lt_ h
def NewP (x y : Nat) (V : Value) (w : World) : Prop := ∃ g, V = .slice (some ⟨g, 0, none⟩) 1 1 ∧ w.cell? ⟨g, 0, none⟩ = some (.float .f64 x) ∧ w.cell? ⟨g, 1, none⟩ = some (.float .f64 y)
theorem NewP.up {x y : Nat} {V : Value} : Up (NewP x y V) := fun _ _ ⟨g, h1, h2, h3⟩ hg => ⟨g, h1, up_cell h2 hg, up_cell h3 hg⟩
theorem two_cells {w : World} {g x y : Nat} (h0 : w.cell? ⟨g, 0, none⟩ = some (.float .f64 x)) (h1 : w.cell? ⟨g, 1, none⟩ = some (.float .f64 y)) : ∀ j u, ([.float .f64 x, .float .f64 y] : List Value)[j]? = some u → w.cell? (Addr.add ⟨g, 0, none⟩ j) = some u := by
  intro j u hj
  rw [addr_add, Nat.zero_add]
  match j, hj with
  | 0, hj => cases hj; exact h0
  | 1, hj => cases hj; exact h1
def FlatP (b : Bool) (xs : List Nat) (s K : Nat) (w : World) (e : Ending) (w' : World) : Prop := ∃ u, e = .returned (.tuple #[u, .bool b]) ∧ PSl u (pls xs s K) w' ∧ Grow w w'
theorem undP2 : Try.prog.underlying 29 = some (.slice 24) := by kernel_rfl
set_option maxRecDepth 100000 in
set_option maxHeartbeats 4000000 in
/-- a layout that is none of 1 to 8, or numbers that fill no whole place, or too many: not told -/
theorem flatTo_out (lay : Int) (u : Value) (xs : List Nat) (mb : Nat) (q : Nat) (w : World) (hu : FSl u xs w) (hq : q ≤ 1000000) (hl : xs.length ≤ 1099511627776)
    (h : ¬ (1 ≤ lay ∧ lay ≤ 8) ∨ ∃ s : Nat, strideN lay = s ∧ 2 ≤ s ∧ s ≤ 9 ∧ 1 ≤ lay ∧ lay ≤ 8 ∧ ¬ (xs.length % s = 0 ∧ xs.length ≤ s * q)) :
    Calls Try.prog 16 #[.int .i64 lay, u, .float .f64 mb, .int .i64 q] w (FlatP false xs 1 0 w) := by
  obtain ⟨A, c, rfl, hc, hA⟩ := hu
  clear hA
  rcases h with h | ⟨s, hs, s2, s9, l1, l8, h⟩
  · by_cases h1 : 1 ≤ lay
    · have h2 : ¬ lay ≤ 8 := fun h2 => h ⟨h1, h2⟩
      clear h
      go_enter Try.func16, Try.ntmps16
      go_wp2
      exact bodyPost_ret (v := .tuple #[.slice none 0 0, .bool false]) (by simp [results, Try.results16, go_sem]) rfl ⟨_, rfl, ⟨none, 0, rfl, Nat.le_refl _, .inl rfl⟩, Grow.refl _⟩
    · clear h
      go_enter Try.func16, Try.ntmps16
      go_wp2
      exact bodyPost_ret (v := .tuple #[.slice none 0 0, .bool false]) (by simp [results, Try.results16, go_sem]) rfl ⟨_, rfl, ⟨none, 0, rfl, Nat.le_refl _, .inl rfl⟩, Grow.refl _⟩
  · have HS := Lib.hid hs; clear hs
    have hne : ((s : Int) == 0) = false := by rw [beq_eq_false_iff_ne]; omega
    by_cases hd : xs.length % s = 0
    · have hgt : (s : Int) * (q : Int) < (xs.length : Int) := by
        have hh : s * q < xs.length := Nat.lt_of_not_le fun hh => h ⟨hd, hh⟩
        exact_mod_cast hh
      have hd' : (xs.length : Int) % (s : Int) = 0 := by exact_mod_cast hd
      have hb : (s : Int) * (q : Int) ≤ 9000000 := by
        have h9 := Nat.mul_le_mul s9 hq
        have e : ((s * q : Nat) : Int) = (s : Int) * (q : Int) := Int.natCast_mul s q
        generalize s * q = z at *
        omega
      have hb0 : 0 ≤ (s : Int) * (q : Int) := Int.mul_nonneg (by omega) (by omega)
      clear h hd
      go_enter Try.func16, Try.ntmps16
      go_wp2_with (go_at_call 22; refine (strideS _ _ _ HS.out).mono ?_; rintro e w' ⟨rfl, rfl⟩)
      exact bodyPost_ret (v := .tuple #[.slice none 0 0, .bool false]) (by simp [results, Try.results16, go_sem]) rfl ⟨_, rfl, ⟨none, 0, rfl, Nat.le_refl _, .inl rfl⟩, Grow.refl _⟩
    · have hd' : ¬ (xs.length : Int) % (s : Int) = 0 := fun hh => hd (by exact_mod_cast hh)
      clear h hd
      go_enter Try.func16, Try.ntmps16
      go_wp2_with (go_at_call 22; refine (strideS _ _ _ HS.out).mono ?_; rintro e w' ⟨rfl, rfl⟩)
      exact bodyPost_ret (v := .tuple #[.slice none 0 0, .bool false]) (by simp [results, Try.results16, go_sem]) rfl ⟨_, rfl, ⟨none, 0, rfl, Nat.le_refl _, .inl rfl⟩, Grow.refl _⟩
theorem getD_some {xs : List Nat} {i : Nat} (h : i < xs.length) : xs[i]? = some (xs.getD i 0) := by
  rw [List.getD_eq_getElem?_getD, List.getElem?_eq_getElem h]; rfl
set_option maxRecDepth 100000 in
set_option maxHeartbeats 4000000 in
theorem flatTo_in (lay : Int) (s K : Nat) (u : Value) (xs : List Nat) (m : Int) (mb : Nat) (q : Nat) (hm : Fl.IsI mb m) (h53 : m ≤ 2 ^ 53) (w : World) (hu : FSl u xs w) (hq : q ≤ 1000000) (l1 : 1 ≤ lay) (l8 : lay ≤ 8) (hs : strideN lay = s) (s2 : 2 ≤ s) (s9 : s ≤ 9) (hK : xs.length = K * s) (hKq : K ≤ q) :
    Calls Try.prog 16 #[.int .i64 lay, u, .float .f64 mb, .int .i64 q] w (FlatP ((pls xs s K).all (placeB m)) xs s K w) := by
  have HP := Lib.hid (fun u w (h : PSl u (pls xs s K) w) => planeTo_calls m mb u (pls xs s K) hm h53 w h (by rw [pls_len]; omega)); clear hm h53
  obtain ⟨A, c, rfl, hc, hA⟩ := hu
  have HA := Lib.hid hA; clear hA
  have HS := Lib.hid hs; clear hs
  have hd' : (xs.length : Int) % (s : Int) = 0 := by
    have : xs.length % s = 0 := by rw [hK]; exact Nat.mul_mod_left K s
    exact_mod_cast this
  have hle0 : K * s ≤ q * s := Nat.mul_le_mul_right s hKq
  have hle : ¬ (s : Int) * (q : Int) < (xs.length : Int) := by
    have e : ((q * s : Nat) : Int) = (q : Int) * (s : Int) := Int.natCast_mul q s
    rw [Int.mul_comm]; omega
  have hb : (s : Int) * (q : Int) ≤ 9000000 := by
    have h9 := Nat.mul_le_mul s9 hq
    have e : ((s * q : Nat) : Int) = (s : Int) * (q : Int) := Int.natCast_mul s q
    generalize s * q = z at *
    omega
  have hb0 : 0 ≤ (s : Int) * (q : Int) := Int.mul_nonneg (by omega) (by omega)
  have hn : xs.length ≤ 9000000 := by omega
  obtain ⟨ip, hip⟩ : ∃ i, Try.prog.info? 24 = some i := by
    have h := infoP2
    cases hq : Try.prog.info? 24 with
    | none => rw [hq] at h; cases h
    | some i => exact ⟨i, rfl⟩
  have HZ := infoP2
  rw [hip] at HZ
  simp only [Option.map_some, Option.some.injEq, Prod.mk.injEq] at HZ
  have HI := Lib.hid hip
  have HZ0 := Lib.hid HZ.1
  have HZ1 := Lib.hid HZ.2.1
  have HZ2 := Lib.hid HZ.2.2
  clear HZ hip
  have HK := Lib.hid hK; clear hK
  have HKQ := Lib.hid hKq; clear hKq hle0
  have HLE := Lib.hid hle
  go_enter Try.func16, Try.ntmps16
  go_wp2_with (go_at_call 22; refine (strideS _ _ _ HS.out).mono ?_; rintro e w' ⟨rfl, rfl⟩)
  clear hd' hle hb hb0
  go_loopw [8, 11] (fun v i wr => ∃ k p : Nat, k ≤ K ∧ p = k * s ∧ i = .int .i64 p ∧ p ≤ xs.length ∧ Grow w' wr ∧ KOwn 24 2 w'.heap.size v k (pcells (pls xs s k)) wr) (fun _ i _ => xs.length - (intOf i).toNat)
  case atStart => exact ⟨0, 0, Nat.zero_le _, by simp, rfl, Nat.zero_le _, Grow.refl _, KOwn.nil⟩
  case round =>
    obtain ⟨k, p, hk, hp, rfl, hpn, hg, hown⟩ := hrel
    have HPP := Lib.hid hp; clear hp
    have HG := Lib.hid hg; clear hg
    have HO := Lib.hid hown; clear hown
    by_cases hlt : k < K
    case neg =>
      have hkK : k = K := by omega
      have hge : ¬ p < xs.length := by have h1 := HPP.out; have h2 := HK.out; rw [hkK] at h1; omega
      subst hkK
      go_wp2_with (go_at_call 14; refine (HP.out _ _ (psl_own HO.out (pls_len _ _ _))).mono ?_; rintro e w2 ⟨rfl, hg2⟩; have HG2 := Lib.hid hg2; clear hg2)
      exact bodyPost_ret (v := .tuple #[u8, .bool ((pls xs s k).all (placeB m))]) (by simp [results, Try.results16, go_sem]) rfl ⟨_, rfl, PSl.up _ _ (psl_own HO.out (pls_len _ _ _)) HG2.out, HG.out.trans HG2.out⟩
    case pos =>
      have hle1 : p + s ≤ xs.length := by
        have h1 := HPP.out; have h2 := HK.out
        have h3 : (k + 1) * s ≤ K * s := Nat.mul_le_mul_right s hlt
        rw [Nat.add_mul] at h3; omega
      have hkk : k ≤ 9000000 := by
        have h1 := HPP.out
        have h2 : k ≤ k * s := Nat.le_mul_of_pos_right k (by omega)
        omega
      have h0 : xs[p]? = some (xs.getD p 0) := getD_some (by omega)
      have h1 : xs[p + 1]? = some (xs.getD (p + 1) 0) := getD_some (by omega)
      rcases HA.out with h | ⟨b, o, rfl, hcell⟩
      · exfalso; subst h; simp at hle1; omega
      obtain ⟨x, hx⟩ : ∃ x, x = xs.getD p 0 := ⟨_, rfl⟩
      obtain ⟨y, hy⟩ : ∃ y, y = xs.getD (p + 1) 0 := ⟨_, rfl⟩
      rw [← hx] at h0
      rw [← hy] at h1
      have HX := Lib.hid hx
      have HY := Lib.hid hy
      have c0 := up_cell (hcell p x h0) HG.out
      have c1 := up_cell (hcell (p + 1) y h1) HG.out
      have l0 : b < wr.heap.size := some_lt' c0
      clear hx hy h0 h1 hcell
      have b0 : (p : Int) < (xs.length : Int) := by omega
      have b1 : (p : Int) + 1 < (xs.length : Int) := by omega
      have b4 : (0 : Int) ≤ (p : Int) + 1 := by omega
      have b5 : IntKind.i64.wrap ((p : Int) + 1) = (p : Int) + 1 := IntWalk.i64_in _ ⟨by omega, by omega⟩
      have b3 : ((p : Int) + 1).toNat = p + 1 := by omega
      go_wp2
      refine wp_region_grow_tail 12 (fun i => if i = 11 then some (fun _ _ V ww => NewP x y V ww) else none) (by kernel_rfl) (by kernel_rfl) ?_ ?_
      · intro i Φ h lo hi v
        (repeat' split at h) <;> cases h
        · exact NewP.up
      simp only [List.take_succ_cons, List.take_zero, List.drop_succ_cons, List.drop_zero]
      repeat (first
        | (refine wpGrow_skip (by rfl) ?_; simp only [Act.put, List.setIfInBounds_toArray, List.set_cons_zero, List.set_cons_succ, Nat.reduceAdd])
        | (refine wpGrow_det' (by rfl) (by rfl) ?_; apply Exists.intro; refine ⟨fun w' hc hh => ?_, ?_⟩; (have hcell := grow_cell hc; clear hc hh; go_simp; rfl); simp only [Act.put, List.setIfInBounds_toArray, List.set_cons_zero, List.set_cons_succ, Nat.reduceAdd]))
      refine wpGrow_eff' (by rfl) (by rfl) (fun w' hc hh => ?_) (fun v lo hi w' hap hc hh hv => ?_)
      · clear hc hh
        go_simp
        exact EffVal.mk ((Grow.refl _).alloc _) ⟨_, rfl, by go_simp, by go_simp⟩
      obtain ⟨g, rfl, -, -⟩ := hv
      clear hc hh hap w'
      simp only [Act.put, List.setIfInBounds_toArray, List.set_cons_zero, List.set_cons_succ, Nat.reduceAdd]
      repeat (first
        | (refine wpGrow_skip (by rfl) ?_; simp only [Act.put, List.setIfInBounds_toArray, List.set_cons_zero, List.set_cons_succ, Nat.reduceAdd])
        | (refine wpGrow_det' (by rfl) (by rfl) ?_; apply Exists.intro; refine ⟨fun w' hc hh => ?_, ?_⟩; (have hcell := grow_cell hc; clear hc hh; go_simp; rfl); simp only [Act.put, List.setIfInBounds_toArray, List.set_cons_zero, List.set_cons_succ, Nat.reduceAdd]))
      refine wpGrow_nil ?_
      intro w1 hg hh
      have HN := (hh 11).1
      obtain ⟨g', hg', e0, e1⟩ := HN
      cases hg'
      have HO1 := Lib.hid (KOwn.up _ _ HO.out hg)
      have HG1 := Lib.hid (HG.out.trans hg)
      clear hh hg
      refine wpList_append_k rfl _ _ 29 rfl w'.heap.size 2 24 ip (.agg #[.float .f64 0, .float .f64 0]) 16 undP2 HI.out HZ0.out HZ1.out HZ2.out rfl (by decide) rfl HO1.out rfl (ys := pcells [(x, y)]) rfl (two_cells e0 e1) (by intro z hz; simp [pcells] at hz; rcases hz with rfl | rfl <;> rfl) (by simp [maxLen]; omega) (by omega) HG1.out.size ?_
      intro O5 w5 hown5 hgrow5 hwh5
      have H5 := Lib.hid hown5
      have HGR := Lib.hid hgrow5
      clear hown5 hgrow5 hwh5
      go_wp2
      go_roundw
      case rel =>
        refine ⟨k + 1, p + s, by omega, by rw [Nat.add_mul, HPP.out]; omega, by go_num, by omega, Below.grown HG1.out HGR.out HG1.out.size HO1.out.lt, ?_⟩
        rw [pls_succ, pcells_app, ← HPP.out, ← HX.out, ← HY.out]; exact H5.out
      case measure => simp [intOf]; omega
end Go.Proofs.Ytelfjglhmccecaa
