import Derived.Test.YtcpdhkbmfgphpaaSortQ
import Derived.Test.YtcpdhkbmfgphpaaOwnK
import Derived.Laws.OwnMore
import Derived.RegionTactic
import Derived.BigRegion
namespace Go.Proofs.Ytcpdhkbmfgphpaa
open Go.ChangeShapes Go.WideShapes Go.ChangeAt Go.RowKit Go.GrowR
set_option linter.unusedVariables false
set_option linter.unusedSimpArgs false

theorem hbelow {B : Nat} {w w' : World} (h : Below B w w') {p : Addr} (hp : B ≤ p.block) (u : Value) : Below B w (w'.setCell p u) := Below.setCell h hp u
theorem row_form {e : TypeId} {B : Nat} {v : Value} {xs : List Value} {w : World} (h : VOwn e B v xs w) (hn : 0 < xs.length) : ∃ g cap, v = .slice (some ⟨g, 0, none⟩) xs.length cap ∧ B ≤ g ∧ g < w.heap.size ∧ xs.length ≤ cap := by
  rcases h.2 with ⟨-, h0⟩ | ⟨g, cap, cur, rfl, hb, hh, hr⟩
  · omega
  · refine ⟨g, cap, rfl, hb, ?_, hr.1⟩
    rcases Nat.lt_or_ge g w.heap.size with hlt | hge
    · exact hlt
    · rw [Array.getElem?_eq_none hge] at hh; cases hh
theorem row_isSl {e : TypeId} {B : Nat} {v : Value} {xs : List Value} {w : World} (h : VOwn e B v xs w) : ∃ A cap, v = .slice A xs.length cap ∧ xs.length ≤ cap ∧ (∀ a, A = some a → ∃ g, a = ⟨g, 0, none⟩ ∧ B ≤ g) ∧ (0 < xs.length → ∃ g, A = some ⟨g, 0, none⟩) := by
  rcases h.2 with ⟨rfl, h0⟩ | ⟨g, cap, cur, rfl, hb, hh, hr⟩
  · exact ⟨none, 0, by rw [h0], by omega, by simp, by omega⟩
  · exact ⟨_, cap, rfl, hr.1, fun a ha => ⟨g, by simpa using ha.symm, hb⟩, fun _ => ⟨g, rfl⟩⟩
theorem row_at {e : TypeId} {B g cap n : Nat} {xs : List Value} {w : World} (h : VOwn e B (.slice (some ⟨g, 0, none⟩) n cap) xs w) (hn : n = xs.length) (j : Nat) (hj : j < n) : w.cell? ⟨g, j, none⟩ = xs[j]? := by
  subst hn; exact World.ownsRow.cellAt h j (by omega)
theorem row_fz {e : TypeId} {B g cap n : Nat} {xs : List Value} {w : World} (h : VOwn e B (.slice (some ⟨g, 0, none⟩) n cap) xs w) (hn : n = xs.length) (j : Nat) : w.frozen? ⟨g, j, none⟩ = false := by
  subst hn; exact World.ownsRow.frozenAt h j
theorem row_put {e : TypeId} {B g cap n : Nat} {xs : List Value} {w : World} (h : VOwn e B (.slice (some ⟨g, 0, none⟩) n cap) xs w) (hn : n = xs.length) (j : Nat) (u : Value) : VOwn e B (.slice (some ⟨g, 0, none⟩) n cap) (xs.set j u) (w.setCell ⟨g, j, none⟩ u) := by
  subst hn
  have := (World.ownsRow.stored h j u).1
  unfold VOwn
  rw [List.length_set]; exact this
theorem row_new {e : TypeId} {w : World} : VOwn e w.heap.size (.slice (some ⟨w.heap.size, 0, none⟩) 0 0) [] (w.alloc (.cells #[] e)) :=
  ⟨rfl, .inr ⟨w.heap.size, 0, #[], rfl, Nat.le_refl _, heap_alloc_new w _, Nat.le_refl _, by simp [maxLen], rfl, rfl⟩⟩
/-- a row of floats, told by a function -/
def fl (f : Nat → Nat) (n : Nat) : List Value := (List.range n).map fun k => .float .f64 (f k)
theorem fl_len (f : Nat → Nat) (n : Nat) : (fl f n).length = n := by simp [fl]
theorem fl_at (f : Nat → Nat) {n k : Nat} (h : k < n) : (fl f n)[k]? = some (.float .f64 (f k)) := by simp [fl, h]
theorem fl_swp (f : Nat → Nat) {n i j : Nat} (hij : i ≠ j) (hi : i < n) (hj : j < n) : ((fl f n).set i (.float .f64 (f j))).set j (.float .f64 (f i)) = fl (swp f i j) n := by
  apply List.ext_getElem?
  intro k
  by_cases hk : k < n
  · rw [fl_at _ hk, List.getElem?_set, List.getElem?_set]
    simp only [List.length_set, fl_len]
    unfold swp
    by_cases h1 : j = k
    · subst h1; rw [if_pos rfl, if_pos hk, if_neg (fun e => hij e.symm), if_pos rfl]
    · rw [if_neg h1]
      by_cases h2 : i = k
      · subst h2; rw [if_pos rfl, if_pos hk, if_pos rfl]
      · rw [if_neg h2, if_neg (fun e => h2 e.symm), if_neg (fun e => h1 e.symm), fl_at _ hk]
  · rw [List.getElem?_eq_none (by simp [fl_len]; omega), List.getElem?_eq_none (by simp [fl_len]; omega)]
theorem fl_of (xs : List Nat) : fl (fun k => xs.getD k 0) xs.length = xs.map (Value.float .f64) := by
  apply List.ext_getElem?
  intro k
  by_cases hk : k < xs.length
  · rw [fl_at _ hk]; simp [hk]
  · rw [List.getElem?_eq_none (by simp [fl_len]; omega), List.getElem?_eq_none (by simp; omega)]
theorem range_of (xs : List Nat) : ((List.range xs.length).map fun k => xs.getD k 0) = xs := by
  apply List.ext_getElem?
  intro k
  by_cases hk : k < xs.length
  · simp [hk]
  · rw [List.getElem?_eq_none (by simp; omega), List.getElem?_eq_none (by omega)]
theorem srt_start {e : TypeId} {B n : Nat} {V : Value} {xs : List Nat} {w : World} (h : VOwn e B V ([] ++ xs.map (Value.float .f64)) w) (hn : n = xs.length) : ∃ A c, V = .slice A n c ∧ VOwn e B (.slice A n c) (fl (fun k => xs.getD k 0) n) w ∧ (0 < n → ∃ g, A = some ⟨g, 0, none⟩ ∧ B ≤ g) := by
  subst hn
  rw [List.nil_append, ← fl_of] at h
  obtain ⟨A, c, rfl, -, h1, h2⟩ := row_isSl h
  rw [fl_len] at *
  exact ⟨A, c, rfl, h, fun h0 => by obtain ⟨g, rfl⟩ := h2 h0; obtain ⟨g', e, hb⟩ := h1 _ rfl; cases e; exact ⟨g, rfl, hb⟩⟩
def srtB (xs : List Nat) : Bool := decide (xs.length ≤ 200) && xs.all finB
def SrtQ (xs : List Nat) (w : World) (e : Ending) (w' : World) : Prop := ∃ V ok, e = .returned (.tuple #[V, .bool ok]) ∧ ok = srtB xs ∧ Grow w w' ∧ (ok = true → ∃ f : Nat → Nat, VOwn 34 w.heap.size V (fl f xs.length) w' ∧ ((List.range xs.length).map f).Perm xs ∧ SortedTo f xs.length)
theorem SrtQ.no {xs : List Nat} {w w' : World} {V : Value} (h : srtB xs = false) (hg : Grow w w') : SrtQ xs w (.returned (.tuple #[V, .bool false])) w' := ⟨V, false, rfl, h.symm, hg, fun h => by cases h⟩
theorem gt_vq {x y : Nat} (hx : finB x = true) (hy : finB y = true) : (FloatKind.f64.format.order x y == some .gt) = decide (vq y < vq x) := Fl.gt_V (V_vq hx) (V_vq hy)
theorem perm_at {f : Nat → Nat} {n : Nat} {xs : List Nat} (h : ((List.range n).map f).Perm xs) {k : Nat} (hk : k < n) : f k ∈ xs := h.subset (List.mem_map.2 ⟨k, List.mem_range.2 hk, rfl⟩)
set_option maxRecDepth 100000 in
set_option maxHeartbeats 8000000 in
theorem sorted_callsN (A : Option Addr) (n c : Nat) (xs : List Nat) (w : World) (hu : FSl (.slice A n c) xs w) (hn : n = xs.length) (hl : n ≤ 2147483647) : Calls Try.prog 21 #[.slice A n c] w (SrtQ xs w) := by
  obtain ⟨i0, hi, hz0, hz1, hz2⟩ := info_parts infoF
  have HU := Lib.hid hu; have HN := Lib.hid hn
  clear hu hn
  by_cases h200 : n ≤ 200
  case neg =>
    have hgt : (200 : Int) < (n : Int) := by omega
    have HB : Hid (srtB xs = false) := by show _ = _; unfold srtB; rw [decide_eq_false (by rw [← HN.out]; exact h200)]; rfl
    go_enter Try.func21, Try.ntmps21
    go_wp2
    go_ret2
    exact SrtQ.no HB.out (Grow.refl w)
  case pos =>
    have hgt : ¬ (200 : Int) < (n : Int) := by omega
    go_enter Try.func21, Try.ntmps21
    go_wp2_with (at_builtin; refine wpList_append_vsl rfl _ _ 23 rfl w.heap.size 34 i0 (.float .f64 0) 8 undF hi hz0 hz1 hz2 rfl rfl row_new rfl (FSl.up _ _ HU.out ((Grow.refl w).alloc _)).v (fl_one _) (by have := HN.out; simp [maxLen]; omega) (by have := HN.out; simp; omega) (by simp) ?_; intro V w1 hown hgrow hwh; have HG1 : Hid (Grow w w1) := Below.grown ((Below.refl w.heap.size w).alloc (Nat.le_refl _) _) hgrow (by simp) (fun k hk => VOwn.lt (row_new (e := 34)) k hk); obtain ⟨A1, c1, rfl, ho1, ha1⟩ := srt_start hown HN.out; have HO1 := Lib.hid ho1; have HA1 := Lib.hid ha1; clear hown hgrow hwh ho1 ha1)
    have HPE : Hid (((List.range n).map fun k => xs.getD k 0).Perm xs) := by
      show List.Perm _ _
      rw [HN.out, range_of]
    clear hi hz0 hz1 hz2
    go_loopw [2, 15] (fun v2 i wr => ∃ (k : Nat) (f : Nat → Nat), v2 = .slice A1 n c1 ∧ i = .int .i64 k ∧ k ≤ n ∧ Grow w wr ∧ VOwn 34 w.heap.size (.slice A1 n c1) (fl f n) wr ∧ ((List.range n).map f).Perm xs ∧ SortedTo f k ∧ ∀ a, a < k → finB (f a) = true) (fun _ i _ => n - (intOf i).toNat)
    case atStart => exact ⟨0, _, rfl, rfl, Nat.zero_le _, HG1.out, HO1.out, HPE.out, fun a b _ hb => by omega, fun a ha => by omega⟩
    case round =>
      obtain ⟨k, f, rfl, rfl, hk, hg, ho, hp, hs, hf⟩ := hrel
      have HG := Lib.hid hg; have HO := Lib.hid ho; have HP := Lib.hid hp; have HS := Lib.hid hs; have HF := Lib.hid hf
      clear hg ho hp hs hf
      by_cases hlt : k < n
      case neg =>
        have HKN : Hid (k = n) := by show k = n; omega
        have HB : Hid (srtB xs = true) := by
          show _ = _
          unfold srtB
          rw [decide_eq_true (by rw [← HN.out]; exact h200), Bool.true_and, List.all_eq_true]
          intro x hx
          obtain ⟨a, ha, rfl⟩ := List.mem_map.1 (HP.out.symm.subset hx)
          exact HF.out a (by have := List.mem_range.1 ha; omega)
        go_wp2
        go_ret2
        exact ⟨_, true, rfl, HB.out.symm, HG.out, fun _ => ⟨f, by rw [← HN.out]; exact HO.out, by rw [← HN.out]; exact HP.out, by rw [← HN.out, ← HKN.out]; exact HS.out⟩⟩
      case pos =>
        obtain ⟨g, rfl, hB⟩ := HA1.out (by omega)
        have hlen : n = (fl f n).length := (fl_len _ _).symm
        have hck := row_at HO.out hlen k hlt
        rw [fl_at _ hlt] at hck
        have HHG := Lib.hid hB
        cases hfk : finB (f k) with
        | false =>
          have HB : Hid (srtB xs = false) := by
            show _ = _
            unfold srtB
            rw [Bool.and_eq_false_iff]; right
            rw [List.all_eq_false]
            exact ⟨f k, perm_at HP.out hlt, by rw [hfk]; decide⟩
          have HX := Lib.hid hfk
          clear hlen hfk
          generalize f k = x at *
          go_wp2_with (go_at_call 22; refine (finiteK_calls _ _).mono ?_; rintro e w' ⟨rfl, hg⟩; have HG2 := Lib.hid (HG.out.trans hg); clear hg; rw [HX.out])
          go_ret2
          exact SrtQ.no HB.out HG2.out
        | true =>
          have HX := Lib.hid hfk; have HFK := Lib.hid hfk
          clear hlen hfk hck
          have hck := row_at HO.out (fl_len _ _).symm k hlt
          rw [fl_at _ hlt] at hck
          obtain ⟨x, hx⟩ : ∃ x, x = f k := ⟨_, rfl⟩
          rw [← hx] at hck HX
          clear hx
          go_wp2_with (go_at_call 22; refine (finiteK_calls _ _).mono ?_; rintro e w' ⟨rfl, hg⟩; have HG2 := Lib.hid (HG.out.trans hg); have HO2 := Lib.hid (VOwn.up _ _ HO.out hg); clear hg; rw [HX.out])
          have hks : (k : Int) < (n : Int) := by omega
          go_loopw [6] (fun vj wq => ∃ (j : Nat) (F : Nat → Nat), vj = .int .i64 j ∧ j ≤ k ∧ Grow w wq ∧ VOwn 34 w.heap.size (.slice (some ⟨g, 0, none⟩) n c1) (fl F n) wq ∧ ((List.range n).map F).Perm xs ∧ (∀ a b, a < b → b ≤ k → b ≠ j → vq (F a) ≤ vq (F b)) ∧ ∀ a, a ≤ k → finB (F a) = true) (fun vj _ => (intOf vj).toNat)
          case atStart => exact ⟨k, f, rfl, Nat.le_refl _, HG2.out, HO2.out, HP.out, fun a b hab hb hne => HS.out a b hab (by omega), fun a ha => by
            by_cases e : a = k
            · subst e; exact HFK.out
            · exact HF.out a (by omega)⟩
          case round =>
            obtain ⟨j, F, rfl, hj, hg, ho, hp, hs, hf⟩ := hrel
            have HGj := Lib.hid hg; have HOj := Lib.hid ho; have HPj := Lib.hid hp; have HSj := Lib.hid hs; have HFj := Lib.hid hf
            clear hg ho hp hs hf HG2 HO2 hck
            by_cases h0 : j = 0
            · subst h0
              have HD := Lib.hid (ins_done (Nat.zero_le k) HSj.out (.inl rfl))
              go_wp2
              go_quiet (fail)
              go_wp2
              go_roundw
              case rel => exact ⟨k + 1, F, rfl, by go_num, by omega, HGj.out.trans ((Grow.refl _).drewN _), VOwn.up _ _ HOj.out ((Grow.refl _).drewN _), HPj.out, HD.out, fun a ha => HFj.out a (by omega)⟩
              case measure => simp [intOf]; omega
            · obtain ⟨i, rfl⟩ : ∃ i, j = i + 1 := ⟨j - 1, by omega⟩
              have c0 := row_at HOj.out (fl_len _ _).symm i (by omega)
              have c1' := row_at HOj.out (fl_len _ _).symm (i + 1) (by omega)
              have f0 := row_fz HOj.out (fl_len _ _).symm i
              have f1 := row_fz HOj.out (fl_len _ _).symm (i + 1)
              rw [fl_at _ (by omega)] at c0 c1'
              have t1 := gt_vq (HFj.out i (by omega)) (HFj.out (i + 1) (by omega))
              have HSW : Hid (∀ m, VOwn 34 w.heap.size (.slice (some ⟨g, 0, none⟩) n c1) (fl (swp F i (i + 1)) n) (((wr.drewN m).setCell ⟨g, i, none⟩ (.float .f64 (F (i + 1)))).setCell ⟨g, i + 1, none⟩ (.float .f64 (F i)))) := by
                intro m
                rw [← fl_swp F (show i ≠ i + 1 by omega) (by omega) (by omega)]
                exact row_put (row_put (VOwn.up _ _ HOj.out ((Grow.refl _).drewN _)) (fl_len _ _).symm i _) (by rw [List.length_set, fl_len]) (i + 1) _
              have HGW : Hid (∀ m, Grow w (((wr.drewN m).setCell ⟨g, i, none⟩ (.float .f64 (F (i + 1)))).setCell ⟨g, i + 1, none⟩ (.float .f64 (F i)))) := fun m => hbelow (hbelow (HGj.out.trans ((Grow.refl _).drewN m)) (by simpa using hB) _) (by simpa using hB) _
              have HPW : Hid (((List.range n).map (swp F i (i + 1))).Perm xs) := (swp_perm F (by omega) (by omega)).trans HPj.out
              have HFW : Hid (∀ a, a ≤ k → finB (swp F i (i + 1) a) = true) := fun a ha => by
                unfold swp; split
                · exact HFj.out _ (by omega)
                · split
                  · exact HFj.out _ (by omega)
                  · exact HFj.out _ ha
              have hk1 : (0 : Int) < ((i + 1 : Nat) : Int) := by omega
              have hk2 : IntKind.i64.wrap (((i + 1 : Nat) : Int) - 1) = (i : Int) := by rw [IntWalk.i64_in _ (by omega)]; omega
              have hk3 : ((i + 1 : Nat) : Int) < (n : Int) := by omega
              have hk4 : (i : Int) < (n : Int) := by omega
              by_cases hgt1 : vq (F (i + 1)) < vq (F i)
              · have HI := Lib.hid (ins_step (k := i + 1) (by omega) hj HSj.out (by simpa using hgt1))
                have HI2 : Hid (∀ a b, a < b → b ≤ k → b ≠ i → vq (swp F i (i + 1) a) ≤ vq (swp F i (i + 1) b)) := fun a b h1 h2 h3 => HI.out a b h1 h2 (by simpa using h3)
                rw [decide_eq_true hgt1] at t1
                clear hgt1 HI h0
                generalize F (i + 1) = x at *
                generalize F i = y at *
                go_wp2
                go_quiet (fail)
                go_wp2
                go_region
                go_wp2
                go_roundw
                case rel => exact ⟨i, _, rfl, by omega, HGW.out _, HSW.out _, HPW.out, HI2.out, HFW.out⟩
                case measure => simp [intOf]
              · have HD := Lib.hid (ins_done hj HSj.out (.inr (by simpa using hgt1)))
                rw [decide_eq_false hgt1] at t1
                clear hgt1 h0
                generalize F (i + 1) = x at *
                generalize F i = y at *
                go_wp2
                go_quiet (fail)
                go_wp2
                go_roundw
                case rel => exact ⟨k + 1, F, rfl, by go_num, by omega, HGj.out.trans ((Grow.refl _).drewN _), VOwn.up _ _ HOj.out ((Grow.refl _).drewN _), HPj.out, HD.out, fun a ha => HFj.out a (by omega)⟩
                case measure => simp [intOf]; omega
end Go.Proofs.Ytcpdhkbmfgphpaa
