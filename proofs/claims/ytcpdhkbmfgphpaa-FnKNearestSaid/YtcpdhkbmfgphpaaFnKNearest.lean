import Derived.Test.YtcpdhkbmfgphpaaKnJ
namespace Go.Proofs.Ytcpdhkbmfgphpaa
open Go.ChangeShapes Go.WideShapes Go.ChangeAt Go.RowKit Go.GrowR
set_option linter.unusedVariables false
set_option linter.unusedSimpArgs false

theorem head_min {L : List Nat} {y : Nat} {L' : List Nat} {M : List Int} {m : Int} (hL : L = y :: L') (hs : L.Pairwise fun a b => Fl.ival a ≤ Fl.ival b) (hp : (L.map Fl.ival).Perm M) (hm : m ∈ M) (hle : ∀ a ∈ M, m ≤ a) : Fl.ival y = m := by
  subst hL
  have h1 : Fl.ival y ∈ M := hp.mem_iff.1 (by simp)
  have h2 := hle _ h1
  have h3 : m ∈ (y :: L').map Fl.ival := hp.mem_iff.2 hm
  obtain ⟨z, hz, hzm⟩ := List.mem_map.1 h3
  rcases List.mem_cons.1 hz with rfl | hz
  · exact hzm
  · have := (List.pairwise_cons.1 hs).1 z hz; omega
theorem cons_of {L : List Nat} {M : List Int} (h : (L.map Fl.ival).Perm M) (hM : 1 ≤ M.length) : ∃ y L', L = y :: L' := by
  cases L with
  | nil => have := h.length_eq; simp at this; omega
  | cons y L' => exact ⟨y, L', rfl⟩
set_option maxRecDepth 100000 in
set_option maxHeartbeats 8000000 in
theorem law_calls (v u : Value) (ns : List KN) (root : Int) (xs : List Nat) (w : World) (hv : KSl v ns w) (hwf : ∀ k ∈ ns, KN.wf k) (hu : FSl u xs w) :
    Calls Try.prog 4 #[v, .int .i64 root, u] w fun e w' => e = .returned (.bool true) ∧ Grow w w' := by
  have HV := Lib.hid hv; have HU := Lib.hid hu; have HWF := Lib.hid hwf
  have HF8 := Lib.hid (fits8_calls v ns w hv)
  clear hwf
  obtain ⟨A, c, rfl, -, -⟩ := hv
  obtain ⟨B, c', rfl, -, -⟩ := hu
  cases hf : fitsB ns with
  | false =>
    rw [hf] at HF8
    clear hf
    go_enter Try.func4, Try.ntmps4
    go_wp2_with (go_at_call 7; refine HF8.out.mono ?_; rintro e w1 ⟨rfl, hg1⟩; have HG1 := Lib.hid hg1; clear hg1)
    go_ret
    exact ⟨rfl, HG1.out⟩
  | true =>
  have HFI := Lib.hid hf
  rw [hf] at HF8
  clear hf
  by_cases hx : xs.length ≤ 2147483647
  case neg =>
    go_enter Try.func4, Try.ntmps4
    go_wp2_with (go_at_call 7; refine HF8.out.mono ?_; rintro e w1 ⟨rfl, hg1⟩; have HG1 := Lib.hid hg1; clear hg1)
    go_ret
    exact ⟨rfl, HG1.out⟩
  have HKD := Lib.hid (fun w' (hg : Grow w w') => kd_calls _ _ ns root xs w' (KSl.up _ _ HV.out hg) (FSl.up _ _ HU.out hg) HWF.out HFI.out hx)
  cases hk : kdB ns root xs with
  | false =>
    rw [hk] at HKD
    clear hk
    go_enter Try.func4, Try.ntmps4
    go_wp2_with (first | (go_at_call 7; refine HF8.out.mono ?_; rintro e w1 ⟨rfl, hg1⟩; have HG1 := Lib.hid hg1; clear hg1) | (go_at_call 8; refine (HKD.out _ HG1.out).mono ?_; rintro e w2 ⟨rfl, hg2⟩; have HG2 := Lib.hid (HG1.out.trans hg2); clear hg2))
    go_ret
    exact ⟨rfl, HG2.out⟩
  | true =>
  have HKB := Lib.hid hk
  rw [hk] at HKD
  clear hk
  obtain ⟨h1, h2, h3, h4, ⟨Q, hQ⟩, t, C, hkd⟩ := kdB_true HKB.out
  cases t with
  | nil => have := hkd.len; simp [Kt.KT.ins] at this; omega
  | node j l r =>
  have htr := hkd.tr
  have hpt := hkd.pt
  have HQ := Lib.hid hQ
  have hn : ns.length ≤ 2147483647 := by omega
  have hord : (kw ns root).ord.map (kP ns) = (toPT ns (.node j l r)).pts := by rw [hkd.ord, toPT_pts]
  have HPL : Hid ((toPT ns (.node j l r)).pts.length = ns.length) := by show _ = _; rw [toPT_pts, List.length_map, hkd.len]
  have HKP : Hid (∀ w', Grow w w' → Calls Try.prog 12 #[.slice A ns.length c, .int .i64 root] w' fun e w2 => ∃ V, e = .returned V ∧ Grow w' w2 ∧ FSSl V (toPT ns (.node j l r)).pts w2) := fun w' hg => (kpoints_calls _ ns root w' (KSl.up _ _ HV.out hg) hn).mono fun e w2 ⟨V, a, b, c⟩ => ⟨V, a, b, by rw [hord] at c; exact c⟩
  have HKN := Lib.hid (fun w' (hg : Grow w w') => knearest_calls _ _ ns root j l r xs xs.length Q w' (KSl.up _ _ HV.out hg) (FSl.up _ _ HU.out hg) HFI.out htr hpt hQ h4)
  have HNM := Lib.hid hpt.num
  clear hkd htr hpt hQ hord
  generalize toPT ns (.node j l r) = t at *
  have hpl2 : t.pts.length ≤ 1000000 := by have := HPL.out; omega
  have HSQ := Lib.hid (fun V w' (hg : Grow w w') (hp : FSSl V t.pts w') => squaresTo_calls V _ t.pts xs xs.length Q w' hp (FSl.up _ _ HU.out hg) HQ.out HNM.out h4 hpl2)
  go_enter Try.func4, Try.ntmps4
  go_wp2_with (first
    | (go_at_call 7; refine HF8.out.mono ?_; rintro e w1 ⟨rfl, hg1⟩; have HG1 := Lib.hid hg1; clear hg1)
    | (go_at_call 8; refine (HKD.out _ HG1.out).mono ?_; rintro e w2 ⟨rfl, hg2⟩; have HG2 := Lib.hid (HG1.out.trans hg2); clear hg2)
    | (go_at_call 12; refine (HKP.out _ HG2.out).mono ?_; rintro e w3 ⟨V3, rfl, hg3, hp3⟩; have HG3 := Lib.hid (HG2.out.trans hg3); have HP3 := Lib.hid hp3; clear hg3 hp3)
    | (go_at_call 13; refine (HKN.out _ HG3.out).mono ?_; rintro e w4 ⟨V4, z4, p4, rfl, hg4, hpm4, hf4, hz4, hm4⟩; have HG4 := Lib.hid (HG3.out.trans hg4); have HP4 := Lib.hid (FSSl.up _ _ HP3.out hg4); have HM4 := Lib.hid hpm4; have HF4 := Lib.hid hf4; have HZ4 := Lib.hid hz4; have HMI := Lib.hid hm4; obtain ⟨A4, c4, rfl, -, -⟩ := hf4; clear hg4 hpm4 hz4 hm4))
  refine (HSQ.out _ _ (HG4.out.alloc _) (FSSl.up _ _ HP4.out ((Grow.refl _).alloc _))).mono ?_
  rintro e w5 ⟨V5, L5, rfl, hg5, hown5, hper5, hsor5, hI5⟩
  have HG5 := Lib.hid hg5
  have HO5 := Lib.hid hown5
  have HPE := Lib.hid hper5
  have HSO := Lib.hid hsor5
  obtain ⟨y5, M5, hL5⟩ := cons_of hper5 (by rw [List.length_map, HPL.out]; exact h1)
  obtain ⟨g5, m5, rfl, -, -, hc5⟩ := VOwn.form1 hown5 (n := M5.length) (by rw [hL5]; simp)
  have HY5 := Lib.hid ((VOwn.at hown5 (by rw [hL5]; simp) 0 (by omega)).trans (show (L5.map (Value.float .f64))[0]? = some (.float .f64 y5) by rw [hL5]; rfl))
  have HEQ := Lib.hid (head_min hL5 hsor5 hper5 (List.mem_map.2 ⟨p4, HM4.out, rfl⟩) (fun a ha => by obtain ⟨q, hq, rfl⟩ := List.mem_map.1 ha; rw [sqN_comm (iv p4), sqN_comm (iv q)]; exact HMI.out q hq))
  have HIY := Lib.hid (hI5 y5 (by rw [hL5]; simp))
  have hc6 : (1 : Int) ≤ (m5 : Int) := by omega
  clear hg5 hown5 hper5 hsor5 hI5 hL5
  go_wp2_with fail
  have HG5' := Lib.hid ((HG4.out.alloc _).trans HG5.out)
  refine (nearest1_calls w4.heap.size g5 m5 _ _ _ p4 xs t.pts xs.length z4 y5 (sqN (iv p4) Q xs.length) Q w5 (up_cell (by go_simp) HG5.out) (up_cell (by go_simp) HG5.out) HY5.out (by omega) (FSl.up _ _ HF4.out (((Grow.refl _).alloc _).trans HG5.out)) (FSSl.up _ _ HP4.out (((Grow.refl _).alloc _).trans HG5.out)) (FSl.up _ _ HU.out HG5'.out) HM4.out HNM.out HQ.out h4 hpl2 (by rw [sqN_comm]; exact HZ4.out) (by rw [← HEQ.out]; exact HIY.out) rfl).mono ?_
  rintro e w6 ⟨rfl, hg6⟩
  have HG6 := Lib.hid (HG5'.out.trans hg6)
  clear hg6
  go_wp2
  go_ret
  exact ⟨rfl, HG6.out⟩
end Go.Proofs.Ytcpdhkbmfgphpaa
