import Derived.Test.YtegknlnkkoeahaaInflI
import Derived.Test.YtegknlnkkoeahaaFRowss
import Derived.Test.YtegknlnkkoeahaaPlAll
import Derived.Test.YtegknlnkkoeahaaRowsQ
namespace Go.Proofs.Ytegknlnkkoeahaa
open Go.ChangeShapes Go.WideShapes Go.ChangeAt Go.RowKit Go.GrowR
set_option linter.unusedVariables false
set_option linter.unusedSimpArgs false

def LawQ (w : World) (e : Ending) (w' : World) : Prop := e = .returned (.bool true) ∧ Grow w w'
theorem lens_mem {nss : List (List Int)} {l : List Int} (h : l ∈ nss) : 1 + l.length ≤ lens nss := by
  unfold lens
  induction nss with
  | nil => simp at h
  | cons q t ih =>
    simp only [List.map_cons, List.sum_cons]
    rcases List.mem_cons.1 h with rfl | h
    · omega
    · have := ih h; omega
theorem lens_len (nss : List (List Int)) : nss.length ≤ lens nss := by
  unfold lens
  induction nss with
  | nil => simp
  | cons l t ih => simp only [List.map_cons, List.sum_cons, List.length_cons]; omega
/-- what good data of rows with lists of ends are *)-/
structure R3 (s : Nat) (L : Int) (fl : List Nat) (ens : List (List Int)) (segss : List (List (List (List Nat)))) : Prop where
  s2 : 2 ≤ s
  s9 : s ≤ 9
  st : strideN L = s
  rw : ∀ segs ∈ segss, ∀ rows ∈ segs, ∀ r ∈ rows, r.length = s
  efl : fl = fwd segss.flatten
  eens : ens = (cums s 0 segss).map (·.map Int.ofNat)
  n1 : fl.length ≤ 10000
  n2 : segss.length ≤ 10000
  b2 : ∀ segs ∈ segss, segs.length ≤ 10000
  b3 : ∀ segs ∈ segss, ∀ rows ∈ segs, rows.length ≤ 10000
theorem r3_of {q : Int} {fl : List Nat} {ens : List (List Int)} (h2 : 2 ≤ q) (h9 : q ≤ 9) (hg : GGood (.mk 6 (layN q) 0 fl [] ens [])) (hf : fl.length ≤ 2147483647) (he : ens.length ≤ 2147483647) (he2 : ∀ x ∈ ens, x.length ≤ 2147483647) : ∃ (s : Nat) (segss : List (List (List (List Nat)))), q = (s : Int) ∧ R3 s (layN q) fl ens segss := by
  obtain ⟨s, hpg⟩ := plainG hg ⟨hf, by simp, he, he2, by simp⟩ (by decide)
  have hsq := stride_lay q h2
  rw [hpg.st] at hsq
  have hwl := hpg.wt
  obtain ⟨hd3, hd4⟩ : EndsOk s false 0 ens.flatten ∧ lastE 0 ens.flatten = fl.length := by
    rcases hpg.dk with ⟨h, _⟩ | ⟨h, _⟩ | ⟨h, _⟩ | ⟨_, h1, h2, h3⟩
    · omega
    · omega
    · omega
    · exact ⟨h2, h3⟩
  have hs2 := hpg.s2
  obtain ⟨segss, hrw, hfle, hense⟩ := segss_ex (by omega) ens 0 fl hd3 (by simpa using hd4)
  unfold weightD at hwl
  have hlen1 := lens_len ens
  rw [hense, List.length_map, cums_len, ← hense] at hlen1
  refine ⟨s, segss, hsq.symm, hs2, hpg.s9, hpg.st, hrw, hfle, hense, by omega, by omega, fun segs h => ?_, fun segs h rows h' => ?_⟩
  · obtain ⟨i, hi⟩ := List.mem_iff_getElem?.1 h
    have h1 := lens_mem (nss := ens) (l := (cum s (0 + (fwd (segss.take i).flatten).length) segs).map Int.ofNat) (by rw [hense]; exact List.mem_map.2 ⟨_, List.mem_of_getElem? (cums_at hi), rfl⟩)
    rw [List.length_map, cum_len] at h1
    omega
  · have h1 := segs_len_le h
    rw [← hfle] at h1
    have h2 := seg_len_le h'
    rw [flat_len (hrw segs h rows h')] at h2
    have := Nat.le_mul_of_pos_right rows.length (show 0 < s by omega)
    omega
set_option maxRecDepth 100000 in
set_option maxHeartbeats 2000000 in
theorem law_calls (u v : Value) (fl : List Nat) (ens : List (List Int)) (q : Int) (w : World) (hu : FSl u fl w) (hv : ISSl v ens w) (hl1 : fl.length ≤ 17592186044416) (hw1 : ∀ x ∈ fl, (Lit.float .f64 x).wf = true) (hl2 : ens.length ≤ 5864062014805) (hl3 : ∀ l ∈ ens, l.length ≤ 17592186044416) (hw2 : ∀ l ∈ ens, ∀ x ∈ l, (Lit.int .i64 x).wf = true) (hq : (Lit.int .i64 q).wf = true) : Calls Try.prog 3 #[u, v, .int .i64 q] w (LawQ w) := by
  have HU := Lib.hid hu; have HV := Lib.hid hv
  have HFT := Lib.hid (fits3_calls v ens w hv (by omega) hl3)
  obtain ⟨A, c, rfl, -, -⟩ := hu
  obtain ⟨E, ce, rfl, -, -⟩ := SlE.form hv
  clear hv
  by_cases hbig : fl.length ≤ 2147483647
  case neg =>
    have hb : (2147483647 : Int) < (fl.length : Int) := by omega
    clear hw1 hw2 hq hl3
    go_enter Try.func3, Try.ntmps3
    go_wp2
    go_ret
    exact ⟨rfl, Grow.refl _⟩
  case pos =>
  have hb : ¬ ((2147483647 : Int) < (fl.length : Int)) := by omega
  by_cases hr : 2 ≤ q ∧ q ≤ 9
  case neg =>
    have HO := Lib.hid (fun w' => fRowss_out A E fl.length c ens.length ce q w' hr)
    clear hw1 hw2 hq hl3 hr
    go_enter Try.func3, Try.ntmps3
    go_wp2_with fail
    refine (HFT.out).mono ?_
    rintro e w1 ⟨r1, rfl, hg1, -⟩
    cases r1 with
    | false =>
      have HG1 := Lib.hid hg1
      clear hg1
      go_wp2
      go_ret
      exact ⟨rfl, HG1.out⟩
    | true =>
      have HG1 := Lib.hid hg1
      clear hg1
      go_wp2_with (go_at_call 8; refine (HO.out _).mono ?_; rintro e w2 ⟨rfl, hg2⟩; have HG2 := Lib.hid (HG1.out.trans hg2); clear hg2)
      go_ret
      exact ⟨rfl, HG2.out.alloc _⟩
  case pos =>
  obtain ⟨h2, h9⟩ := hr
  have hly : (Lit.int .i64 (layN q)).wf = true := by
    have h1 : 1 ≤ layN q ∧ layN q ≤ 9 := by
      unfold layN; repeat' split
      all_goals omega
    exact WalkArith.wf_i64 (by omega)
  have HRC : Hid (Reach44 (.mk 6 (layN q) 0 fl [] ens [])) := .mk hl1 (by simp) hl2 (by simp) hw1 hl3 (by simp) hw2 ⟨by decide, hly, by decide⟩ (by simp)
  have HIN := Lib.hid (fun w' (hw : Grow w w') => fRowss_in A E fl.length c ens.length ce q fl ens w' h2 h9 (FSl.up _ _ HU.out hw) (ISSl.up _ _ HV.out hw) HRC.out)
  have HR3 := Lib.hid (fun hg (h : ens.length ≤ 2147483647 ∧ ∀ x ∈ ens, x.length ≤ 2147483647) => r3_of (fl := fl) h2 h9 hg hbig h.1 h.2)
  clear hw1 hw2 hq hl3 hly h2 h9
  go_enter Try.func3, Try.ntmps3
  go_wp2_with fail
  refine (HFT.out).mono ?_
  rintro e w1 ⟨r1, rfl, hg1, hr1⟩
  have HG1 := Lib.hid hg1; have HR1 := Lib.hid hr1
  clear hg1 hr1
  cases r1 with
  | false =>
    go_wp2
    go_ret
    exact ⟨rfl, HG1.out⟩
  | true =>
    have HF := Lib.hid (HR1.out (by first | rfl | trivial))
    go_wp2_with fail
    refine (HIN.out _ HG1.out).mono ?_
    rintro e w2 ⟨r2, rfl, hg2, hr2⟩
    have HG2 := Lib.hid (HG1.out.trans hg2); have HR2 := Lib.hid hr2
    clear hg2 hr2
    cases r2 with
    | false =>
      go_wp2
      go_ret
      exact ⟨rfl, HG2.out.alloc _⟩
    | true =>
      obtain ⟨s, segss, hqs, h3⟩ := HR3.out (HR2.out (by first | rfl | trivial)) HF.out
      have H3 := Lib.hid h3
      have hgv : ∀ w', Grow w w' → GV (.mk 6 (layN q) 0 (fwd segss.flatten) [] ((cums s 0 segss).map (·.map Int.ofNat)) []) (Geo7 6 (layN q) 0 A fl.length c none 0 0 E ens.length ce none 0 0) w' := fun w' hw => by
        have h4 := FSl.up _ _ HU.out hw; have h5 := ISSl.up _ _ HV.out hw
        rw [h3.efl, h3.eens] at *
        unfold GV
        exact ⟨_, _, _, none, 0, rfl, Nat.le_refl _, h4, ISl.nil, h5, .inl rfl⟩
      have HI3 : Hid (∀ w', Grow w w' → Calls Try.prog 9 #[.slice A fl.length c, .slice E ens.length ce, .int .i64 q] w' (I3Q segss w')) := fun w' hw => by
        obtain ⟨g1, g2⟩ := EndRR.of (nss := cums s 0 segss) (A := E) (n := ens.length) (c := ce) (w := w') (by have := ISSl.up _ _ HV.out hw; rwa [h3.eens] at this ⊢)
        rw [cums_len] at g1
        rw [hqs]
        exact inflate3I_calls A E fl.length c s ce ens.length segss w' g1 (by have := FSl.up _ _ HU.out hw; rwa [h3.efl] at this ⊢) g2 (by have := h3.s2; omega) h3.s9 h3.rw h3.n1 h3.n2 h3.b2 h3.b3
      have HPL : Hid (∀ w', Grow w w' → Calls Try.prog 11 #[Geo7 6 (layN q) 0 A fl.length c none 0 0 E ens.length ce none 0 0] w' (MQ (L3 segss) w')) := fun w' hw => areaPlaces (hgv w' hw) h3.st (by have := h3.s2; omega) h3.s9 h3.rw (by have := h3.n1; rw [h3.efl] at this; omega) (by have := h3.n2; omega) (fun z hz => by have := h3.b2 z hz; omega)
      have HRO := Lib.hid (show ∀ z ∈ segss, z.length ≤ 10000000000 ∧ ∀ q ∈ z, q.length ≤ 10000000000 ∧ ∀ r ∈ q, r ≠ [] ∧ r.length ≤ 10000000000 from fun z hz => ⟨by have := H3.out.b2 z hz; omega, fun q hq => ⟨by have := H3.out.b3 z hz q hq; omega, fun r hr => by
        have h1 := H3.out.rw z hz q hq r hr
        have h2 := H3.out.s2; have h3 := H3.out.s9
        exact ⟨fun h => by rw [h] at h1; simp at h1; omega, by omega⟩⟩⟩)
      clear hqs h3 hgv
      generalize layN q = L at *
      go_wp2_with fail
      refine (HI3.out _ (HG2.out.alloc _)).mono ?_
      rintro e w3 ⟨v3, rfl, hg3, hv3⟩
      have c0 := up_cell (a := ⟨w2.heap.size, 0, none⟩) (v := .int .i64 6) (by go_simp) hg3
      have c1 := up_cell (a := ⟨w2.heap.size, 1, none⟩) (v := .int .i64 L) (by go_simp) hg3
      have c2 := up_cell (a := ⟨w2.heap.size, 2, none⟩) (v := .int .i64 0) (by go_simp) hg3
      have c3 := up_cell (a := ⟨w2.heap.size, 3, none⟩) (v := .slice A fl.length c) (by go_simp) hg3
      have c4 := up_cell (a := ⟨w2.heap.size, 4, none⟩) (v := .slice none 0 0) (by go_simp) hg3
      have c5 := up_cell (a := ⟨w2.heap.size, 5, none⟩) (v := .slice E ens.length ce) (by go_simp) hg3
      have c6 := up_cell (a := ⟨w2.heap.size, 6, none⟩) (v := .slice none 0 0) (by go_simp) hg3
      obtain ⟨A9, c9, h9⟩ := hv3.form
      subst h9
      have HV3 := Lib.hid hv3
      have HG3 := Lib.hid ((HG2.out.alloc _).trans hg3)
      clear hg3 hv3
      go_wp2_with fail
      refine (HPL.out _ HG3.out).mono ?_
      rintro e w4 ⟨v4, rfl, hg4, hst4⟩
      have HV4 := Lib.hid hst4.now; have HG4 := Lib.hid (HG3.out.trans hg4); have HV34 := Lib.hid (SlE.up (fun _ _ => SlE.up fun _ _ => SlE.up fun _ _ => FSl.up) _ _ HV3.out hg4)
      obtain ⟨A8, c8, h8⟩ := hst4.now.form
      subst h8
      clear hg4 hst4
      go_wp2_with (go_at_call 10; refine (gRowsss_calls _ _ segss w4 HV34.out HV4.out (by have := H3.out.n2; omega) HRO.out).mono ?_; rintro e w5 ⟨rfl, hg5⟩; have HG5 := Lib.hid (HG4.out.trans hg5); clear hg5)
      go_ret
      exact ⟨rfl, HG5.out⟩
end Go.Proofs.Ytegknlnkkoeahaa
