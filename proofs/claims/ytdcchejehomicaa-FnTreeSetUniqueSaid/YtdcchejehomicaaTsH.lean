import Derived.Test.YtdcchejehomicaaTsG
import Derived.OwnWalk
namespace Go.Proofs.Ytdcchejehomicaa
open Go.ChangeShapes Go.WideShapes Go.ChangeAt Go.RowKit Go.GrowR
set_option linter.unusedVariables false
set_option linter.unusedSimpArgs false

theorem VOwn.slf {e : TypeId} {B : Nat} {v : Value} {xs : List Value} {w : World} (h : VOwn e B v xs w) : ∃ A c, v = .slice A xs.length c ∧ xs.length ≤ c := by
  rcases h.2 with ⟨rfl, h0⟩ | ⟨g, cap, cur, rfl, hb, hh, hr⟩
  · exact ⟨none, 0, by rw [h0], by omega⟩
  · exact ⟨_, cap, rfl, hr.1⟩
/-- where the rows of a slice lie -/
structure RB (A : Option Addr) (n cap s : Nat) (rows : List (List Nat)) (lo hi : Nat) (w : World) : Prop where
  f : FSl (.slice A n cap) rows.flatten w
  l : ∀ r ∈ rows, r.length = s
  n' : n = rows.length * s
  h : hi ≤ w.heap.size
  a : 0 < rows.length → ∃ o, A = some ⟨lo, o, none⟩ ∧ hi = lo + 1
theorem RB.mk' {A : Option Addr} {n cap s : Nat} {rows : List (List Nat)} {w : World} (f : FSl (.slice A n cap) rows.flatten w) (l : ∀ r ∈ rows, r.length = s) (hn : n = rows.length * s) (hs : 0 < s) : ∃ lo hi, RB A n cap s rows lo hi w := by
  by_cases h0 : rows.length = 0
  · exact ⟨0, 0, f, l, hn, Nat.zero_le _, fun h => by omega⟩
  · have hn0 : 0 < n := by rw [hn]; exact Nat.mul_pos (by omega) hs
    obtain ⟨b, o, e, hc⟩ := fcell f hn0
    exact ⟨b, b + 1, f, l, hn, cell_ltH hc, fun _ => ⟨o, e, rfl⟩⟩
theorem VS.now' {lo hi n : Nat} {A : Option Addr} {m c : Nat} {r : List Nat} {w : World} (h : VS lo hi n (.slice A m c) r w) : ∀ w', (∀ k, lo ≤ k → k < hi → w'.heap[k]? = w.heap[k]?) → FSl (.slice A m c) r w' := fun w' hw => by
  obtain ⟨A', c', e, h1, h2⟩ := h
  cases e
  exact h2 w' hw
def UnQ (us : List (List Nat)) (w : World) (e : Ending) (w' : World) : Prop := ∃ V, e = .returned V ∧ Grow w w' ∧ FSl V us.flatten w'
set_option maxRecDepth 100000 in
set_option maxHeartbeats 8000000 in
theorem uniqueCoords_calls (A : Option Addr) (n cap s : Nat) (lay c : Int) (rows : List (List Nat)) (lo hi : Nat) (w : World) (h : RB A n cap s rows lo hi w) (h1 : 1 ≤ lay) (h9 : lay ≤ 9) (hs : strideN lay = s) (s2 : 2 ≤ s) (s9 : s ≤ 9) (hn : n ≤ 1000) (hcap : n ≤ cap) :
    Calls Try.prog 14 #[.int .i64 lay, .iface 43 (.int .i64 c), .slice A n cap] w (UnQ (tsAll c rows).us w) := by
  obtain ⟨i0, hi, hz0, hz1, hz2⟩ := info_parts infoR0
  have HI := Lib.hid hi; have HZ0 := Lib.hid hz0; have HZ1 := Lib.hid hz1; have HZ2 := Lib.hid hz2
  have HL := Lib.hid (fun w => layStride lay s w h1 h9 hs)
  have HNS := Lib.hid (fun w => newSet_calls s lay c w h1 h9 hs)
  have HH := Lib.hid h; have HC := Lib.hid hcap
  have hn' := h.n'
  have HRL : Hid (rows.length ≤ 1000 ∧ n = rows.length * s) := ⟨by
    have := Nat.mul_le_mul_left rows.length s2; omega, hn'⟩
  have hwh := h.h
  clear hi hz0 hz1 hz2 h hs hn' hcap
  go_enter Try.func14, Try.ntmps14
  go_wp2_with fail
  refine (HNS.out _).mono ?_
  rintro e w1 ⟨rfl, hg1, hsc⟩
  have HSC := Lib.hid hsc; have HG1 := Lib.hid hg1
  clear hsc hg1
  go_wp2_with (first
    | (go_at_call 18; refine (HL.out _).mono ?_; rintro e w' ⟨rfl, rfl⟩)
    | (at_make; refine wpList_make_own _ rfl _ _ 22 rfl w.heap.size 52 i0 (.float .f64 0) 1 undR0 HI.out HZ0.out HZ1.out _ _ _ n rfl rfl (by simp [go_sem]) (by rw [HZ2.out]; omega) (by simp [maxLen]; omega) HG1.out.size ?_; intro w2 hr2 hg2; have HR2 := Lib.hid hr2; have HG2 := Lib.hid hg2; clear hr2 hg2))
  have HG2' : Hid (Grow w w2) := HG1.out.trans (grow_of_grown HG2.out)
  have hs0 : w.heap.size < w'.heap.size := cell_ltH HSC.out.c0
  have HU0 : Hid (UQ w lo hi s w.heap.size lay c (tsAll c (rows.take 0)) [] (.slice (some ⟨w'.heap.size, 0, none⟩) 0 n) w2) := by
    refine ⟨HG2'.out, ⟨Nat.le_trans HH.out.h HG2'.out.size, fun e => by have := HH.out.h; omega, by simp, .pointer none, HSC.out.move ((grow_of_grown HG2.out).block _ hs0), rfl, rfl⟩, HR2.out, fun g hg => ?_, fun k hk => ?_⟩
    · have e : w'.heap.size = g := by simpa [Value.ownBlock] using hg
      exact ⟨by omega, by simp, by have := HH.out.h; omega⟩
    · simp at hk; omega
  clear HG2 HR2 HSC HG1 hs0 hwh
  go_loopw [9, 10, 11] (fun V cnt i wr => ∃ (k : Nat) (F : List Nat), cnt = .int .i64 ((tsAll c (rows.take k)).us.length : Nat) ∧ i = .int .i64 ((k * s : Nat) : Int) ∧ k ≤ rows.length ∧ UQ w lo hi s w.heap.size lay c (tsAll c (rows.take k)) F V wr) (fun _ _ i _ => n - (intOf i).toNat)
  case atStart => exact ⟨0, [], rfl, by simp, Nat.zero_le _, HU0.out⟩
  case round =>
    obtain ⟨k, F, rfl, rfl, hk, hu⟩ := hrel
    have HU := Lib.hid hu
    have hmem := (tsAll_mem c (rows.take k)).1
    have hul : (tsAll c (rows.take k)).us.flatten.length = (tsAll c (rows.take k)).us.length * s := flat_len fun r hr => HH.out.l r (List.mem_of_mem_take (hmem r hr))
    have hule : (tsAll c (rows.take k)).us.length ≤ k := by have := tsAll_le c (rows.take k); rw [List.length_take] at this; omega
    have hszl : (tsAll c (rows.take k)).t.size ≤ k := by rw [tsAll_size]; exact hule
    obtain ⟨A1, c1, rfl, hc1⟩ : ∃ A1 c1, _ ∧ _ := VOwn.slf hu.ow
    rw [List.length_map, hul] at HU hc1 ⊢
    clear hu HU0 hmem
    by_cases hlt : k < rows.length
    case neg =>
      have HK : Hid (k = rows.length) := by show k = _; omega
      obtain ⟨u, huu⟩ : ∃ u, u = (tsAll c (rows.take k)).us.length := ⟨_, rfl⟩
      rw [← huu] at HU hc1 hule ⊢
      obtain ⟨m, hm⟩ : ∃ m, m = u * s := ⟨_, rfl⟩
      rw [← hm] at HU hc1 ⊢
      have hnk : ¬ ((k * s : Nat) : Int) < (n : Int) := by have := HRL.out.2; rw [HK.out]; omega
      have hml : m ≤ 1000 := by have h1 := HRL.out.2; have h2 := Nat.mul_le_mul_right s hule; have := HK.out; subst this; omega
      have hw : IntKind.i64.wrap ((u : Int) * (s : Int)) = (m : Int) := by rw [hm, Int.natCast_mul]; exact IntWalk.i64_in _ (by have : ((u * s : Nat) : Int) = (u : Int) * (s : Int) := Int.natCast_mul _ _; omega)
      obtain ⟨q, hq⟩ : ∃ q, q = k * s := ⟨_, rfl⟩
      rw [← hq] at hnk ⊢
      clear hm hul huu hq hszl
      go_wp2
      go_ret
      have h2 := HU.out
      rw [HK.out, List.take_of_length_le (Nat.le_refl _)] at h2
      exact ⟨_, rfl, h2.gr, (VOwn.sl h2.ow).f⟩
    case pos =>
      obtain ⟨r, hr⟩ : ∃ r, rows[k]? = some r := ⟨rows[k], by simp [hlt]⟩
      obtain ⟨o, rfl, rfl⟩ := HH.out.a (by omega)
      have hkn : k * s + s ≤ n := by
        have h1 := HRL.out.2; have h2 := Nat.mul_le_mul_right s (show k + 1 ≤ rows.length by omega); rw [Nat.add_mul, Nat.one_mul] at h2; omega
      have hvs := VS.row HH.out.f HH.out.l hr hkn (by omega) wr (HU.out.gr.block lo (by have := HH.out.h; omega))
      have hstep := tsAll_take c rows k r hr
      have HST := Lib.hid hstep
      have hrl := HH.out.l r (List.mem_of_getElem? hr)
      have HVV := Lib.hid hvs.now'
      have HIN := Lib.hid (insert_calls lo (lo + 1) s w.heap.size lay c r _ (tsAll c (rows.take k)).t F wr HU.out.st hvs s2 s9 (by have := HRL.out.1; omega))
      have hk1 := (show (k + 1) * s = k * s + s by rw [Nat.add_mul, Nat.one_mul])
      have HK1 := Lib.hid hk1
      obtain ⟨u, huu⟩ : ∃ u, u = (tsAll c (rows.take k)).us.length := ⟨_, rfl⟩
      have HUU := Lib.hid huu
      rw [← huu] at HU hc1 hule ⊢
      obtain ⟨m, hm⟩ : ∃ m, m = u * s := ⟨_, rfl⟩
      rw [← hm] at HU hc1 ⊢
      have HFL : Hid ((tsAll c (rows.take k)).us.flatten.length = m) := by show _ = _; rw [hul, ← huu, hm]
      obtain ⟨q, hq⟩ : ∃ q, q = k * s := ⟨_, rfl⟩
      rw [← hq] at HIN HVV HK1 hkn hk1 ⊢
      have hcut := run_row (q := lo) (o := o) (n := n) (c := cap) (s := s) (i := q) (by omega) hkn HC.out
      have hqn : ((q : Nat) : Int) < (n : Int) := by omega
      have e1 : IntKind.i64.wrap ((q : Int) + (s : Int)) = (q : Int) + (s : Int) := IntWalk.i64_in _ (by omega)
      have HRK := Lib.hid hr
      have hml : m ≤ 1000 := by have h1 := HRL.out.2; have h2 := Nat.mul_le_mul_right s hule; rw [hm]; omega
      have HRLL := Lib.hid hrl
      have hu1000 : u ≤ 1000 := by have := HRL.out.1; omega
      clear hvs hstep hr hul hszl hm hq huu hk1 hrl
      cases ha : ((tsAll c (rows.take k)).t.ins c r).2 with
      | true =>
        have HA := Lib.hid ha
        clear ha
        go_wp2_with fail
        refine HIN.out.mono ?_
        rintro e w3 ⟨F3, rfl, hf3, hs3, hF3⟩
        rw [HA.out]
        obtain ⟨x1, x2, x3, x4⟩ := HU.out.ins hf3 hs3 hF3
        have HF3 := Lib.hid hf3; have HS3 := Lib.hid hs3; have HFF := Lib.hid hF3; have HX1 := Lib.hid x1; have HX2 := Lib.hid x2
        have HV3 : Hid (VSl (.slice (some ⟨lo, o + q, none⟩) s (cap - q)) (r.map (.float .f64)) w3) := (HVV.out w3 (fun j h1 h2 => by rw [show j = lo by omega]; exact hf3.block lo (by have := HU.out.gr.size; have := HH.out.h; omega) (fun hm => by have := HU.out.fb _ hm; have := HH.out.h; omega))).v
        clear x1 x2 x3 x4 hf3 hs3 hF3
        go_wp2_with (at_builtin; refine wpList_append_vsl rfl _ _ 22 rfl w.heap.size 52 i0 (.float .f64 0) 8 undR0 HI.out HZ0.out HZ1.out HZ2.out rfl rfl HX2.out rfl HV3.out (fl_one _) (by rw [List.length_map, List.length_map, HRLL.out, show (tsAll c (rows.take k)).us.flatten.length = m from HFL.out]; simp [maxLen]; omega) (by rw [List.length_map, List.length_map, HRLL.out, show (tsAll c (rows.take k)).us.flatten.length = m from HFL.out]; omega) HX1.out.size ?_; intro V' w5 hown5 hgrow5 hwh5; have HUU5 := Lib.hid (HU.out.yes HF3.out HS3.out HFF.out HA.out hown5 hgrow5 hwh5); clear hown5 hgrow5 hwh5)
        go_roundw
        case rel => exact ⟨k + 1, F3, by rw [HST.out]; unfold TsS.step; rw [HA.out]; simp only [if_true, List.length_append, List.length_cons, List.length_nil]; rw [← HUU.out]; go_num, by rw [HK1.out]; go_num, by omega, by rw [HST.out]; exact HUU5.out⟩
        case measure => simp [intOf]; omega
      | false =>
        have HA := Lib.hid ha
        clear ha
        go_wp2_with fail
        refine HIN.out.mono ?_
        rintro e w3 ⟨F3, rfl, hf3, hs3, hF3⟩
        rw [HA.out]
        have HUU5 := Lib.hid (HU.out.no hf3 hs3 hF3 HA.out)
        clear hf3 hs3 hF3
        go_wp2
        go_roundw
        case rel => exact ⟨k + 1, F3, by rw [HST.out]; unfold TsS.step; rw [HA.out]; simp only [Bool.false_eq_true, if_false]; rw [← HUU.out], by rw [HK1.out]; go_num, by omega, by rw [HST.out]; exact HUU5.out⟩
        case measure => simp [intOf]; omega
end Go.Proofs.Ytdcchejehomicaa
