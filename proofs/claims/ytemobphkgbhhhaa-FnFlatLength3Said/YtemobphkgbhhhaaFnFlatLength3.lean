import Derived.Test.YtemobphkgbhhhaaR3M
import Derived.Test.YtemobphkgbhhhaaAlongB
import Derived.Test.YtemobphkgbhhhaaHollow
import Derived.Test.YtemobphkgbhhhaaEachW
import Derived.Test.YtemobphkgbhhhaaLenAll
namespace Go.Proofs.Ytemobphkgbhhhaa
open Go.ChangeShapes Go.WideShapes Go.ChangeAt Go.RowKit Go.GrowR
set_option linter.unusedVariables false
set_option linter.unusedSimpArgs false

def LawQ (w : World) (e : Ending) (w' : World) : Prop := e = .returned (.bool true) ∧ Grow w w'
theorem wrows_of {s : Nat} {segs : List (List (List Nat))} (hr : ∀ rows ∈ segs, ∀ r ∈ rows, r.length = s) (h : (fwd segs).all w20 = true) : ∀ rows ∈ segs, WRow s rows := fun rows hm r hr' => ⟨hr rows hm r hr', fun x hx => w20_of (List.all_eq_true.1 h x (by
  unfold fwd
  exact List.mem_flatten.2 ⟨rows.flatten, List.mem_map.2 ⟨rows, hm, rfl⟩, List.mem_flatten.2 ⟨r, hr', hx⟩⟩))⟩
set_option maxRecDepth 100000 in
set_option maxHeartbeats 2000000 in
theorem law_calls (u v : Value) (fl : List Nat) (ens : List (List Int)) (q : Int) (w : World) (hu : FSl u fl w) (hv : ISSl v ens w) (hl1 : fl.length ≤ 17592186044416) (hw1 : ∀ x ∈ fl, (Lit.float .f64 x).wf = true) (hl2 : ens.length ≤ 5864062014805) (hl3 : ∀ l ∈ ens, l.length ≤ 17592186044416) (hw2 : ∀ l ∈ ens, ∀ x ∈ l, (Lit.int .i64 x).wf = true) (hq : (Lit.int .i64 q).wf = true) : Calls Try.prog 3 #[u, v, .int .i64 q] w (LawQ w) := by
  have HU := Lib.hid hu; have HV := Lib.hid hv
  have HFT := Lib.hid (fits3_calls v ens w hv (by omega) hl3)
  obtain ⟨A, c, rfl, -, -⟩ := hu
  obtain ⟨E, ce, rfl, -, -⟩ := SlE.form hv
  clear hv
  by_cases hbig : fl.length ≤ 2147483647
  case neg =>
    have hb : (2147483647 : Int) < (fl.length : Int) := by omega
    clear hw1 hw2 hq hl3
    go_enter Try.func3, Try.ntmps3
    go_wp2
    go_ret
    exact ⟨rfl, Grow.refl _⟩
  case pos =>
  have hb : ¬ ((2147483647 : Int) < (fl.length : Int)) := by omega
  by_cases hr : 2 ≤ q ∧ q ≤ 9
  case neg =>
    have HO := Lib.hid (fun w' => fRowss_out A E fl.length c ens.length ce q w' hr)
    clear hw1 hw2 hq hl3 hr
    go_enter Try.func3, Try.ntmps3
    go_wp2_with fail
    refine (HFT.out).mono ?_
    rintro e w1 ⟨r1, rfl, hg1, -⟩
    cases r1 with
    | false =>
      have HG1 := Lib.hid hg1
      clear hg1
      go_wp2
      go_ret
      exact ⟨rfl, HG1.out⟩
    | true =>
      have HG1 := Lib.hid hg1
      clear hg1
      go_wp2_with (go_at_call 8; refine (HO.out _).mono ?_; rintro e w2 ⟨rfl, hg2⟩; have HG2 := Lib.hid (HG1.out.trans hg2); clear hg2)
      go_ret
      exact ⟨rfl, HG2.out.alloc _⟩
  case pos =>
  obtain ⟨h2, h9⟩ := hr
  have hly : (Lit.int .i64 (layN q)).wf = true := by
    have h1 : 1 ≤ layN q ∧ layN q ≤ 9 := by
      unfold layN; repeat' split
      all_goals omega
    exact WalkArith.wf_i64 (by omega)
  have HRC : Hid (Reach44 (.mk 6 (layN q) 0 fl [] ens [])) := .mk hl1 (by simp) hl2 (by simp) hw1 hl3 (by simp) hw2 ⟨by decide, hly, by decide⟩ (by simp)
  have HIN := Lib.hid (fun w' (hw : Grow w w') => fRowss_in A E fl.length c ens.length ce q fl ens w' h2 h9 (FSl.up _ _ HU.out hw) (ISSl.up _ _ HV.out hw) HRC.out)
  have HR3 := Lib.hid (fun hg (h : ens.length ≤ 2147483647 ∧ ∀ x ∈ ens, x.length ≤ 2147483647) => r3_of (fl := fl) h2 h9 hg hbig h.1 h.2)
  clear hw1 hw2 hq hl3 hly h2 h9
  go_enter Try.func3, Try.ntmps3
  go_wp2_with fail
  refine (HFT.out).mono ?_
  rintro e w1 ⟨r1, rfl, hg1, hr1⟩
  have HG1 := Lib.hid hg1; have HR1 := Lib.hid hr1
  clear hg1 hr1
  cases r1 with
  | false =>
    go_wp2
    go_ret
    exact ⟨rfl, HG1.out⟩
  | true =>
    have HF := Lib.hid (HR1.out (by first | rfl | trivial))
    go_wp2_with fail
    refine (HIN.out _ HG1.out).mono ?_
    rintro e w2 ⟨r2, rfl, hg2, hr2⟩
    have HG2 := Lib.hid (HG1.out.trans hg2); have HR2 := Lib.hid hr2
    clear hg2 hr2
    cases r2 with
    | false =>
      go_wp2
      go_ret
      exact ⟨rfl, HG2.out.alloc _⟩
    | true =>
      obtain ⟨s, segss, hqs, h3⟩ := HR3.out (HR2.out (by first | rfl | trivial)) HF.out
      have H3 := Lib.hid h3
      have hgv : ∀ w', Grow w w' → GV (.mk 6 (layN q) 0 (fwd segss.flatten) [] ((cums s 0 segss).map (·.map Int.ofNat)) []) (Geo7 6 (layN q) 0 A fl.length c none 0 0 E ens.length ce none 0 0) w' := fun w' hw => by
        have h4 := FSl.up _ _ HU.out hw; have h5 := ISSl.up _ _ HV.out hw
        rw [h3.efl, h3.eens] at *
        unfold GV
        exact ⟨_, _, _, none, 0, rfl, Nat.le_refl _, h4, ISl.nil, h5, .inl rfl⟩
      have hgv : ∀ w', Grow w w' → GV (.mk 6 (layN q) 0 (fwd segss.flatten) [] ((cums s 0 segss).map (·.map Int.ofNat)) []) (Geo7 6 (layN q) 0 A fl.length c none 0 0 E ens.length ce none 0 0) w' := fun w' hw => by
        have h4 := FSl.up _ _ HU.out hw; have h5 := ISSl.up _ _ HV.out hw
        rw [h3.efl, h3.eens] at *
        unfold GV
        exact ⟨_, _, _, none, 0, rfl, Nat.le_refl _, h4, ISl.nil, h5, .inl rfl⟩
      have hel : ens.length = segss.length := by rw [h3.eens, List.length_map, cums_len]
      have HH : Hid (∀ w', Grow w w' → Calls Try.prog 9 #[Geo7 6 (layN q) 0 A fl.length c none 0 0 E ens.length ce none 0 0] w' (HolQ ens w')) := fun w' hw => gHollow_calls _ _ _ _ _ _ _ _ _ _ _ _ _ _ _ ens w' (ISSl.up _ _ HV.out hw) (by rw [hel]; have := h3.n2; omega)
      have HEC : Hid (∀ w', Grow w w' → Calls Try.prog 10 #[Geo7 6 (layN q) 0 A fl.length c none 0 0 E ens.length ce none 0 0, .func (Fn.func 11) #[] #[]] w' (WholeP (fl.all w20) w')) := fun w' hw => eachWholeG _ _ _ _ _ _ _ _ _ _ _ _ fl w' (FSl.up _ _ HU.out hw) (by omega)
      have HNE : Hid ((∀ l ∈ ens, l ≠ []) → ∀ segs ∈ segss, segs ≠ []) := fun h segs hm h0 => by
        obtain ⟨i, hi⟩ := List.mem_iff_getElem?.1 hm
        refine h _ (by rw [h3.eens]; exact List.mem_map.2 ⟨_, List.mem_of_getElem? (cums_at hi), rfl⟩) ?_
        apply List.eq_nil_of_length_eq_zero
        rw [List.length_map, cum_len, h0]; rfl
      have HWR : Hid (fl.all w20 = true → ∀ rows ∈ segss.flatten, WRow s rows) := fun h => wrows_of (fun rows hm r hr => by
        obtain ⟨segs, h1, h2⟩ := List.mem_flatten.1 hm
        exact h3.rw segs h1 rows h2 r hr) (by rw [← h3.efl]; exact h)
      have hflen : ∀ rows ∈ segss.flatten, rows.flatten.length ≤ 10000 := fun rows hm => by
        have h1 := seg_len_le hm
        have h2 := h3.n1
        rw [h3.efl] at h2; omega
      have HAL : Hid (fl.all w20 = true → (∀ l ∈ ens, l ≠ []) → ∀ w', Grow w w' → Calls Try.prog 12 #[Geo7 6 (layN q) 0 A fl.length c none 0 0 E ens.length ce none 0 0] w' (AlQ segss.flatten w')) := fun ha hn w' hw => by
        have hw20 := HWR.out ha
        have hb := bS_le (s := s) (by have := h3.s2; omega) segss.flatten hw20
        have h1 := h3.n1; rw [h3.efl] at h1
        have h2 := h3.n2; have h4 := h3.n3
        exact gAlong_calls 6 (layN q) 0 A none E none _ _ _ _ _ _ _ _ segss.flatten s (layN q) 0 0 w' h3.st h3.s2 h3.s9 hw20 (by omega) (by omega) (fun rows hm => by have := hflen rows hm; omega)
          fun w2 hw2 => areaLines 0 0 (hgv w2 (hw.trans hw2)) h3.rw (by omega) (by omega) (by omega) (HNE.out hn)
      have HFL : Hid (fl.all w20 = true → (∀ l ∈ ens, l ≠ []) → ∀ w', Grow w w' → Calls Try.prog 13 #[.slice A fl.length c, .slice E ens.length ce, .int .i64 q] w' (FL3 segss w')) := fun ha hn w' hw => by
        obtain ⟨g1, g2⟩ := EndRR.of (nss := cums s 0 segss) (A := E) (n := ens.length) (c := ce) (w := w') (by have := ISSl.up _ _ HV.out hw; rwa [h3.eens] at this ⊢)
        rw [cums_len] at g1
        rw [hqs]
        have h1 := h3.n1; have h2 := h3.n2; have h4 := h3.n3
        exact flatLen3_calls A E fl.length c s ce ens.length segss w' g1 (by have := FSl.up _ _ HU.out hw; rwa [h3.efl] at this ⊢) g2 (HWR.out ha) h3.s2 h3.s9 (by omega) (by omega) (by omega) (HNE.out hn)
      have HB : Hid (fl.all w20 = true → (lenS segss.flatten).natAbs ≤ 2 ^ 53) := fun ha => by
        have hw20 := HWR.out ha
        have hb := bS_le (s := s) (by have := h3.s2; omega) segss.flatten hw20
        have hl := lenS_bound h3.s2 segss.flatten hw20
        have h1 := h3.n1; rw [h3.efl] at h1
        have h4 := h3.n3
        omega
      clear hqs h3 hgv hel hflen
      generalize layN q = L at *
      go_wp2_with fail
      refine (HH.out _ (HG2.out.alloc _)).mono ?_
      rintro e w3 ⟨b3, rfl, -, hb3, hg3⟩
      have c0 := up_cell (a := ⟨w2.heap.size, 0, none⟩) (v := .int .i64 6) (by go_simp) hg3
      have c1 := up_cell (a := ⟨w2.heap.size, 1, none⟩) (v := .int .i64 L) (by go_simp) hg3
      have c2 := up_cell (a := ⟨w2.heap.size, 2, none⟩) (v := .int .i64 0) (by go_simp) hg3
      have c3 := up_cell (a := ⟨w2.heap.size, 3, none⟩) (v := .slice A fl.length c) (by go_simp) hg3
      have c4 := up_cell (a := ⟨w2.heap.size, 4, none⟩) (v := .slice none 0 0) (by go_simp) hg3
      have c5 := up_cell (a := ⟨w2.heap.size, 5, none⟩) (v := .slice E ens.length ce) (by go_simp) hg3
      have c6 := up_cell (a := ⟨w2.heap.size, 6, none⟩) (v := .slice none 0 0) (by go_simp) hg3
      have HG3 := Lib.hid ((HG2.out.alloc _).trans hg3)
      have HB3 := Lib.hid hb3
      clear hg3 hb3
      cases b3 with
      | true =>
        go_wp2
        go_ret
        exact ⟨rfl, HG3.out⟩
      | false =>
        have hne := HB3.out rfl
        have HN0 := Lib.hid hne
        clear hne
        cases hall : fl.all w20 with
        | false =>
          have HALL := Lib.hid hall
          clear hall
          go_wp2_with fail
          refine (HEC.out _ HG3.out).mono ?_
          rw [HALL.out]
          rintro e w4 ⟨rfl, hg4⟩
          have HG4 := Lib.hid (HG3.out.trans hg4)
          clear hg4
          go_wp2
          go_ret
          exact ⟨rfl, HG4.out⟩
        | true =>
          have HALL := Lib.hid hall
          clear hall
          go_wp2_with fail
          refine (HEC.out _ HG3.out).mono ?_
          rw [HALL.out]
          rintro e w4 ⟨rfl, hg4⟩
          have HG4 := Lib.hid (HG3.out.trans hg4)
          have c0 := up_cell c0 hg4; have c1 := up_cell c1 hg4; have c2 := up_cell c2 hg4; have c3 := up_cell c3 hg4; have c4 := up_cell c4 hg4; have c5 := up_cell c5 hg4; have c6 := up_cell c6 hg4
          clear hg4
          go_wp2_with fail
          refine (HAL.out HALL.out HN0.out _ HG4.out).mono ?_
          rintro e w5 ⟨n, b, rfl, hnb, hg5⟩
          have HNB := Lib.hid hnb
          have HG5 := Lib.hid (HG4.out.trans hg5)
          clear hnb hg5 c0 c1 c2 c3 c4 c5 c6
          go_wp2_with fail
          refine (HFL.out HALL.out HN0.out _ HG5.out).mono ?_
          rintro e w6 ⟨z, rfl, hz, hg6⟩
          have HZ := Lib.hid hz
          have HG6 := Lib.hid (HG5.out.trans hg6)
          clear hz hg6
          cases b with
          | false =>
            go_wp2
            go_ret
            exact ⟨rfl, HG6.out⟩
          | true =>
            obtain ⟨hn1, hn2⟩ := HNB.out rfl
            have hb53 := HB.out HALL.out
            rw [← hn2] at hb53
            have hcmp := Fl.eqB (by have := HZ.out.1 hn1; rwa [← hn2] at this) (Fl.ofInt_I n hb53)
            clear hn1 hn2 hb53
            go_wp2
            go_ret
            exact ⟨by first | rfl | simp, HG6.out⟩
end Go.Proofs.Ytemobphkgbhhhaa
