import Derived.Test.YtemobphkgbhhhaaLenAll
import Derived.Test.YtemobphkgbhhhaaOuts
namespace Go.Proofs.Ytemobphkgbhhhaa
open Go.ChangeShapes Go.WideShapes Go.ChangeAt Go.RowKit Go.GrowR
set_option linter.unusedVariables false
set_option linter.unusedSimpArgs false

set_option maxRecDepth 100000 in
set_option maxHeartbeats 4000000 in
theorem length3_out (A E : Option Addr) (n c s ce : Nat) (X : List Nat) (segss : List (List (List (List Nat)))) (Z : List Nat) (w : World) (hu : FSl (.slice A n c) (X ++ fwd segss.flatten ++ Z) w) (hW : ∀ rows ∈ segss.flatten, WRow s rows) (s2 : 2 ≤ s) (hs9 : s ≤ 9) (hn : n ≤ 10000000) (hE : EndRR E (cums s X.length segss) w) (hsl : segss.length ≤ 10000000) (hsl2 : segss.flatten.length ≤ 10000000) (hho : [] ∈ segss) :
    Calls Try.prog 58 #[.slice A n c, .int .i64 X.length, .slice E segss.length ce, .int .i64 s] w (Fell w) := by
  have HU := Lib.hid hu; have HE := Lib.hid hE; have HW := Lib.hid hW; have HHO := Lib.hid hho; have H2 := Lib.hid hsl2
  have hlen : n = X.length + (fwd segss.flatten).length + Z.length := by
    obtain ⟨A', c', he', -, -⟩ := hu
    simp only [Value.slice.injEq] at he'
    rw [he'.2.1]; simp only [List.length_append]
  have HN := Lib.hid hlen
  clear hu hlen hE hW hho hsl2
  go_enter Try.func58, Try.ntmps58
  go_wp2
  go_loopw [1, 9, 11, 14] (fun vo va _ vi wr => ∃ q z : Nat, q ≤ segss.length ∧ vi = .int .i64 q ∧ vo = .int .i64 ((X ++ fwd (segss.take q).flatten).length : Nat) ∧ va = .float .f64 z ∧ LQ z (AlongS (segss.take q).flatten) (lenS (segss.take q).flatten) ((bS (segss.take q).flatten : Nat) + (q : Nat)) ∧ Grow w wr ∧ Hid (∀ segs ∈ segss.take q, segs ≠ [])) (fun _ _ _ vi _ => (segss.length - intOf vi).toNat)
  case atStart => exact ⟨0, 0, Nat.zero_le _, rfl, by simp [fwd], rfl, by have := LQ.zero; simpa using this, Grow.refl w, Lib.hid (by simp)⟩
  case round =>
    obtain ⟨q, z, hq, rfl, rfl, rfl, hz, hg, HT⟩ := hrel
    have HZ := Lib.hid hz; have HG := Lib.hid hg
    clear hz hg
    by_cases hlt : q < segss.length
    · obtain ⟨segs, hseg⟩ : ∃ p, segss[q]? = some p := ⟨segss[q], by simp [hlt]⟩
      have hmem := List.mem_of_getElem? hseg
      have hww : ∀ rows ∈ segs, WRow s rows := fun rows h => HW.out rows (List.mem_flatten.2 ⟨segs, hmem, h⟩)
      have hrw : ∀ rows ∈ segs, ∀ r ∈ rows, r.length = s := fun rows h r h' => (hww rows h r h').1
      have hend := cums_at (s := s) (o := X.length) hseg
      have hdr : segss.drop q = segs :: segss.drop (q + 1) := by
        obtain ⟨hq', rfl⟩ := List.getElem?_eq_some_iff.1 hseg
        exact List.drop_eq_getElem_cons hq'
      have hff : segss.flatten = (segss.take q).flatten ++ (segs ++ (segss.drop (q + 1)).flatten) := by
        conv => lhs; rw [← List.take_append_drop q segss, hdr]
        simp
      have hfl : fwd segss.flatten = fwd (segss.take q).flatten ++ fwd segs ++ fwd (segss.drop (q + 1)).flatten := by
        rw [hff]; simp [fwd_append, List.append_assoc]
      have htk0 : (segss.take (q + 1)).flatten = (segss.take q).flatten ++ segs := by
        rw [List.take_add_one, hseg]; simp
      have htk : fwd (segss.take (q + 1)).flatten = fwd (segss.take q).flatten ++ fwd segs := by
        rw [htk0]; simp [fwd_append]
      have hcnt : (segss.take q).flatten.length + segs.length ≤ 10000000 := by
        have h1 := congrArg List.length hff
        have h2 := H2.out
        simp only [List.length_append] at h1; omega
      rcases EndRR.up _ _ HE.out HG.out with h0 | ⟨be, oe, rfl, hce⟩
      · exfalso; have := congrArg List.length h0; rw [cums_len] at this; simp at this; rw [this] at hlt; simp at hlt
      obtain ⟨A2, c2, hcell, hec⟩ := hce q _ hend
      rw [cum_len] at hcell
      have hxq : X.length + (fwd (segss.take q).flatten).length + (fwd segs).length ≤ n := by
        have h1 := congrArg List.length hfl
        have h2 := HN.out
        simp only [List.length_append] at h1
        omega
      have hx0 : (X ++ fwd (segss.take q).flatten).length = X.length + (fwd (segss.take q).flatten).length := List.length_append
      have HEC := Lib.hid hec
      have HC := Lib.hid (length2_calls A A2 n c s c2 (X ++ fwd (segss.take q).flatten) segs (fwd (segss.drop (q + 1)).flatten ++ Z) wr (by have := FSl.up _ _ HU.out HG.out; rw [hfl] at this; simpa [List.append_assoc] using this) hww s2 hs9 hn (by rw [hx0]; exact hec) (by omega))
      have HADD : Hid (∀ y, LQ y (AlongS segs) (lenS segs) (bS segs) → ∃ z', floatBits .add .f64 z y = some z' ∧ LQ z' (AlongS (segss.take (q + 1)).flatten) (lenS (segss.take (q + 1)).flatten) ((bS (segss.take (q + 1)).flatten : Nat) + ((q + 1 : Nat) : Nat))) := by
        intro y hy
        have hWt : ∀ r ∈ (segss.take (q + 1)).flatten, WRow s r := fun r h => HW.out r (by
          obtain ⟨l, h1, h2⟩ := List.mem_flatten.1 h
          exact List.mem_flatten.2 ⟨l, List.mem_of_mem_take h1, h2⟩)
        have hb1 := lenS_bound s2 _ hWt
        have hb2 := bS_le (s := s) (by omega) _ hWt
        have hf : (fwd (segss.take (q + 1)).flatten).length ≤ n := by
          rw [htk]; simp only [List.length_append]; omega
        have hln : (segss.take (q + 1)).flatten.length ≤ 10000000 := by rw [htk0, List.length_append]; exact hcnt
        have hbb : bS (segss.take (q + 1)).flatten = bS (segss.take q).flatten + bS segs := by rw [htk0, bS_append]
        have hll : lenS (segss.take (q + 1)).flatten = lenS (segss.take q).flatten + lenS segs := by rw [htk0, lenS_append]
        exact LQ.add HZ.out hy (fun h => ⟨fun r hr => h r (by rw [htk0]; exact List.mem_append_left _ hr), fun r hr => h r (by rw [htk0]; exact List.mem_append_right _ hr)⟩) hll (by omega) (by omega) (by omega)
      have HXE : Hid ((X ++ fwd (segss.take (q + 1)).flatten).length = X.length + (fwd (segss.take q).flatten).length + (fwd segs).length) := by
        show _ = _
        rw [htk]
        simp only [List.length_append]; omega
      have hq1 : IntKind.i64.wrap ((q : Int) + 1) = (q : Int) + 1 := IntWalk.i64_in _ (by omega)
      by_cases h0 : segs = []
      · subst h0
        obtain ⟨V1, W1, hg1, hv1, hr1⟩ := indexAt_outs (P := Try.prog) 25 A2 0 c2 (-1) (by kernel_rfl) (fun _ => rfl) (.inl (by decide))
        have hC0 := HC.out
        simp only [List.length_nil] at hC0 hcell
        have HC0 := Lib.hid hC0
        clear hC0 HC hseg hrw hfl hx0 hce hend hdr htk htk0 hec hff hww hmem hcnt HEC HXE HT HE HW HU
        generalize (X ++ fwd (segss.take q).flatten).length = x at *
        go_wp2_with (go_at_call 97; refine (HC0.out).mono ?_; rintro e w2 ⟨z2, rfl, hz2, hg2⟩; have HG2 := Lib.hid (HG.out.trans hg2); obtain ⟨z3, hf3, hz3⟩ := HADD.out _ hz2; have hfo := fop (P := Try.prog) hf3; clear hg2 hz2 hf3 hz3)
        exact ⟨rfl, fell_mk (hv1 _) (HG2.out.trans (hg1 _))⟩
      have HTN : Hid (∀ l ∈ segss.take (q + 1), l ≠ []) := fun l hl => by
        rw [List.take_add_one, hseg] at hl
        rcases List.mem_append.1 hl with hl | hl
        · exact HT.out l hl
        · simp at hl; subst hl; exact h0
      clear HT
      obtain ⟨m, hm⟩ : ∃ m, segs.length = m + 1 := ⟨segs.length - 1, by have : segs.length ≠ 0 := fun h => h0 (List.eq_nil_of_length_eq_zero h); omega⟩
      have hlast := cum_last (o := X.length + (fwd (segss.take q).flatten).length) hrw hm
      rcases HEC.out with h1 | ⟨b2, o2, rfl, hc2⟩
      · exfalso; have := congrArg List.length h1; rw [cum_len] at this; simp at this; exact h0 this
      have hl2 := hc2 m _ hlast
      have hsl0 : (0 : Int) < (segs.length : Int) := by omega
      have hsm : IntKind.i64.wrap ((segs.length : Int) - 1) = (m : Int) := by rw [hm]; exact (wrapM (by omega) (by omega)).trans (by omega)
      have hsm2 : (segs.length : Int) - 1 = (m : Int) := by omega
      have hmlt : (m : Int) < (segs.length : Int) := by omega
      have hne : 0 < segs.length := by omega
      have hmb : segs.length ≤ 10000000 := by omega
      have HL2 := Lib.hid hl2
      clear hseg hrw hfl hx0 hce hend hdr htk htk0 hec hff hww hmem h0 hm hlast hc2 hcnt
      generalize (X ++ fwd (segss.take q).flatten).length = x at *
      generalize X.length + (fwd (segss.take q).flatten).length + (fwd segs).length = y at *
      go_wp2_with (go_at_call 97; refine (HC.out).mono ?_; rintro e w2 ⟨z2, rfl, hz2, hg2⟩; have HG2 := Lib.hid (HG.out.trans hg2); have y0 := up_cell HL2.out hg2; obtain ⟨z3, hf3, hz3⟩ := HADD.out _ hz2; have HZ3 := Lib.hid hz3; have hfo := fop (P := Try.prog) hf3; clear hg2 hz2 hf3 hz3)
      go_roundw
      case rel => exact ⟨q + 1, z3, by omega, by go_num, by rw [HXE.out], rfl, HZ3.out, HG2.out, HTN⟩
      case measure => simp [intOf]; omega
    · exfalso
      have hqe : q = segss.length := by omega
      have := HT.out
      rw [hqe, List.take_length] at this
      exact this [] HHO.out rfl
end Go.Proofs.Ytemobphkgbhhhaa
