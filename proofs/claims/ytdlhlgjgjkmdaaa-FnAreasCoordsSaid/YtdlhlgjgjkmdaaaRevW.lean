import Derived.Test.YtdlhlgjgjkmdaaaRevP
import Derived.Test.YtdlhlgjgjkmdaaaGeoV
import Derived.RegionTactic
import Derived.BigRegion
namespace Go.Proofs.Ytdlhlgjgjkmdaaa
open Go.ChangeShapes Go.WideShapes Go.ChangeAt Go.RowKit Go.GrowR
set_option linter.unusedVariables false
set_option linter.unusedSimpArgs false

abbrev G1 (g : Nat) : World → World → Prop := GX (fun k => k = g) (fun _ => False)
theorem G1.refl (g : Nat) (w : World) : G1 g w w := GX.of_grow (fun _ hX => hX.elim) (Grow.refl w)
theorem G1.set {g : Nat} {w w' : World} {p : Addr} (h : G1 g w w') (hp : p.block = g) (u : Value) : G1 g w (w'.setCell p u) := h.trans (GX.setCell _ hp (fun X hX => hX.elim))
theorem wrapN {n : Int} (h0 : 0 ≤ n) (h1 : n ≤ 1099511627776000) : IntKind.i64.wrap n = n := IntWalk.i64_in _ (by omega)
set_option maxRecDepth 100000 in
set_option maxHeartbeats 8000000 in
theorem rev1_calls (g n c s e : Nat) (X : List Nat) (rows : List (List Nat)) (Z : List Nat) (w : World) (hs : 0 < s) (hs9 : s ≤ 9) (hr : ∀ r ∈ rows, r.length = s) (hn : (X ++ rows.flatten ++ Z).length = n) (hnl : n ≤ 17592186044416) (hc : n ≤ c) (he : e = X.length + rows.length * s) (hfb : FB g (X ++ rows.flatten ++ Z) w) :
    Calls Try.prog 180 #[.slice (some ⟨g, 0, none⟩) n c, .int .i64 X.length, .int .i64 e, .int .i64 s] w fun e w' => e = .returned (.tuple #[]) ∧ FB g (X ++ rows.reverse.flatten ++ Z) w' ∧ G1 g w w' := by
  have hlen : X.length + rows.length * s ≤ n := by rw [← hn]; simp only [List.length_append, flat_len hr]; omega
  have HI0 := Lib.hid (RevI.start X rows Z s hs)
  rw [← he] at HI0
  have HR := Lib.hid hr; have HN := Lib.hid hn; have HFB := Lib.hid hfb
  have hxl : X.length ≤ 17592186044416 := by omega
  have hel : e ≤ 17592186044416 := by omega
  clear hr hn hfb he hlen
  generalize X.length = o at *
  go_enter Try.func180, Try.ntmps180
  go_wp2
  go_loopw [8, 9, 10, 24, 25] (fun vi vj _ _ _ wr => ∃ (i j : Nat) (cur : List Nat), vi = .int .i64 i ∧ vj = .int .i64 j ∧ i ≤ 17592186044416 + 10000 ∧ j ≤ 17592186044416 ∧ cur.length = n ∧ RevI X rows Z s i j cur ∧ FB g cur wr ∧ G1 g w wr) (fun vi vj _ _ _ _ => (intOf vj + 1 - intOf vi).toNat)
  case atStart => exact ⟨o + s, e, _, by go_num, rfl, by omega, by omega, HN.out, HI0.out, HFB.out, G1.refl g w⟩
  case round =>
    obtain ⟨i, j, cur, rfl, rfl, hi, hj, hcl, hrev, hfb, hg1⟩ := hrel
    have HREV := Lib.hid hrev; have HCL := Lib.hid hcl; have HF := Lib.hid hfb; have HG := Lib.hid hg1
    clear hrev hfb hg1 hcl HI0 HFB
    by_cases hij : i ≤ j
    · obtain ⟨h1, h2, h3, h4⟩ := HREV.out.step hs HR.out hij
      rw [HCL.out] at h3
      obtain ⟨x, hx⟩ : ∃ x, x = i - s := ⟨_, rfl⟩
      obtain ⟨y, hy⟩ : ∃ y, y = j - s := ⟨_, rfl⟩
      have HST := Lib.hid h4
      rw [← hx, ← hy] at HST
      have hxy : x + s ≤ y ∨ x = y := by omega
      have hyn : y + s ≤ n := by omega
      have hxs : (i : Int) - (s : Int) = (x : Int) := by omega
      have hys : (j : Int) - (s : Int) = (y : Int) := by omega
      have HIX := Lib.hid (show i = x + s by omega); have HJY := Lib.hid (show j = y + s by omega)
      clear h1 h2 h3 h4 hx hy
      go_wp2
      go_loopw [10, 25] (fun _ vk wq => ∃ (k : Nat), vk = .int .i64 k ∧ k ≤ s ∧ FB g (swp cur x y k) wq ∧ G1 g w wq) (fun _ vk _ => (s - intOf vk).toNat)
      case atStart => exact ⟨0, rfl, Nat.zero_le _, HF.out, HG.out⟩
      case round =>
        obtain ⟨k, rfl, hk, hfb, hg1⟩ := hrel
        have HF2 := Lib.hid hfb; have HG2 := Lib.hid hg1
        clear hfb hg1
        by_cases hks : k < s
        · have hgx : (swp cur x y k)[x + k]? = some (cur.getD (x + k) 0) := by
            rw [swp_get cur x y s hxy (by rw [HCL.out]; exact hyn) k hk, if_neg (by omega), if_neg (by omega), List.getD_eq_getElem?_getD, List.getElem?_eq_getElem (by rw [HCL.out]; omega)]; rfl
          have hgy : (swp cur x y k)[y + k]? = some (cur.getD (y + k) 0) := by
            rw [swp_get cur x y s hxy (by rw [HCL.out]; exact hyn) k hk, if_neg (by omega), if_neg (by omega), List.getD_eq_getElem?_getD, List.getElem?_eq_getElem (by rw [HCL.out]; omega)]; rfl
          obtain ⟨cx, fx⟩ := HF2.out.2 _ _ hgx
          obtain ⟨cy, fy⟩ := HF2.out.2 _ _ hgy
          have HS := Lib.hid (show FB g (swp cur x y (k + 1)) ((wr.setCell ⟨g, x + k, none⟩ (.float .f64 (cur.getD (y + k) 0))).setCell ⟨g, y + k, none⟩ (.float .f64 (cur.getD (x + k) 0))) from (HF2.out.set (j := x + k) (cur.getD (y + k) 0)).set (j := y + k) (cur.getD (x + k) 0))
          have e1 : IntKind.i64.wrap ((i : Int) - (s : Int)) = (x : Int) := by rw [hxs]; exact wrapN (by omega) (by omega)
          have e2 : IntKind.i64.wrap ((j : Int) - (s : Int)) = (y : Int) := by rw [hys]; exact wrapN (by omega) (by omega)
          have e3 : IntKind.i64.wrap ((x : Int) + (k : Int)) = (x : Int) + (k : Int) := wrapN (by omega) (by omega)
          have e4 : IntKind.i64.wrap ((y : Int) + (k : Int)) = (y : Int) + (k : Int) := wrapN (by omega) (by omega)
          have e5 : ((x : Int) + (k : Int)).toNat = x + k := by omega
          have e6 : ((y : Int) + (k : Int)).toNat = y + k := by omega
          have e7 : (0 : Int) ≤ (x : Int) + (k : Int) := by omega
          have e8 : (0 : Int) ≤ (y : Int) + (k : Int) := by omega
          have e9 : (x : Int) + (k : Int) < (n : Int) := by omega
          have e10 : (y : Int) + (k : Int) < (n : Int) := by omega
          clear hgx hgy hxs hys
          rcases hxy with hlt | rfl
          · have hne : ¬ x = y := by omega
            clear hlt
            generalize cur.getD (x + k) 0 = u at *
            generalize cur.getD (y + k) 0 = v at *
            go_wp2
            go_region
            go_wp2
            go_roundw
            case rel => exact ⟨k + 1, by go_num, by omega, FB.up _ _ HS.out (Grow.refl _).drew, ((HG2.out.set rfl _).set rfl _).trans (GX.of_grow (fun _ hX => hX.elim) (Grow.refl _).drew)⟩
            case measure => simp [intOf]; omega
          · generalize cur.getD (x + k) 0 = u at *
            go_wp2
            go_region
            go_wp2
            go_roundw
            case rel => exact ⟨k + 1, by go_num, by omega, FB.up _ _ HS.out (Grow.refl _).drew, ((HG2.out.set rfl _).set rfl _).trans (GX.of_grow (fun _ hX => hX.elim) (Grow.refl _).drew)⟩
            case measure => simp [intOf]; omega
        · have hks' : k = s := by omega
          subst hks'
          have e1 : IntKind.i64.wrap ((j : Int) - (k : Int)) = (y : Int) := by rw [hys]; exact wrapN (by omega) (by omega)
          have HI := Lib.hid (show i ≤ j by omega)
          have hb1 : i ≤ 17592186044416 := by omega
          clear hxy hxs hij
          go_wp2
          go_roundw
          case rel => exact ⟨i + k, y, swp cur x y k, by go_num, rfl, by omega, by omega, by rw [swp_len]; exact HCL.out, HST.out, HF2.out, HG2.out⟩
          case measure => have := HI.out; have := HIX.out; have := HJY.out; simp [intOf]; omega
    · have HD := Lib.hid (HREV.out.done hij)
      go_wp2
      refine bodyPost_end (results_none rfl _ _ _) rfl ⟨rfl, ?_, HG.out⟩
      rw [← HD.out]; exact HF.out
end Go.Proofs.Ytdlhlgjgjkmdaaa
