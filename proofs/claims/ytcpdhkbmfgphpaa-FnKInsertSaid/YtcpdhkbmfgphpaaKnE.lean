import Derived.Test.YtcpdhkbmfgphpaaKnD
namespace Go.Proofs.Ytcpdhkbmfgphpaa
open Go.ChangeShapes Go.WideShapes Go.ChangeAt Go.RowKit Go.GrowR
set_option linter.unusedVariables false
set_option linter.unusedSimpArgs false

variable {G : List Nat}
set_option maxRecDepth 100000 in
set_option maxHeartbeats 16000000 in
theorem search_node (p : List Nat) (m : Nat) (bx : Option (List Nat × List Nat)) (l r : PT) (v u : Value) (F : List Nat) (xs : List Nat) (d : Nat) (Q : Nat → Int) (z : Nat) (o : Option Int) (w : World)
    (hn : NP (.node p (m : Int) bx l r) v F w) (hG : ∀ k ∈ F, k ∈ G) (hu : FSl u xs w) (hQ : Num xs d Q) (hp : Num p d (iv p)) (h6 : d ≤ 6) (hm : m < d) (hl : ∀ q ∈ l.pts, iv q m ≤ iv p m) (hr : ∀ q ∈ r.pts, iv p m ≤ iv q m) (hz : Fl.DI z o)
    (ihl : ∀ v F z o w', NP l v F w' → (∀ k ∈ F, k ∈ G) → FSl u xs w' → Fl.DI z o → Calls Try.prog 51 #[v, .iface 61 u, .float .f64 z] w' (SRes G d Q l o w'))
    (ihr : ∀ v F z o w', NP r v F w' → (∀ k ∈ F, k ∈ G) → FSl u xs w' → Fl.DI z o → Calls Try.prog 51 #[v, .iface 61 u, .float .f64 z] w' (SRes G d Q r o w')) :
    Calls Try.prog 51 #[v, .iface 61 u, .float .f64 z] w (SRes G d Q (.node p (m : Int) bx l r) o w) := by
  obtain ⟨b, P, lv, rv, bv, Fb, Fl', Fr, rfl, hF, -, ⟨n0, n1, n2, n3, -, -⟩, hown, -, hnl, hnr⟩ := hn
  obtain ⟨al, rfl⟩ := hnl.isP
  obtain ⟨ar, rfl⟩ := hnr.isP
  subst hF
  have HGP : Hid (∀ k ∈ blk P, k ∈ G) := fun k hk => hG k (by simp [hk])
  have HGL : Hid (∀ k ∈ Fl', k ∈ G) := fun k hk => hG k (by simp [hk])
  have HGR : Hid (∀ k ∈ Fr, k ∈ G) := fun k hk => hG k (by simp [hk])
  clear hG
  have HNL := Lib.hid hnl; have HNR := Lib.hid hnr
  have HO := Lib.hid hown; have HU := Lib.hid hu
  have HIL := Lib.hid ihl; have HIR := Lib.hid ihr
  have HCMP := Lib.hid (fun w' (hg : Grow w w') => compare_calls u P xs p d m Q (iv p) w' (FSl.up _ _ hu hg) (FSl.up _ _ hown.sl.f hg) hQ hp hm)
  have HDIS := Lib.hid (fun w' (hg : Grow w w') => distance_calls u P xs p d Q (iv p) w' (FSl.up _ _ hu hg) (FSl.up _ _ hown.sl.f hg) hQ hp h6)
  have hci := (sub_num hQ hp hm).2
  have hsi := sum_I hQ hp h6 d (Nat.le_refl _)
  have HD1 := Lib.hid (Fl.amin_DI hz hsi)
  have hb1 := (hQ.2 m hm).2
  have hb2 := (hp.2 m hm).2
  have HSI := Lib.hid hsi
  have HINV : Hid (Inv Q d o [p] (Fl.minO o (sqN Q (iv p) d)) (fun p => PtrTo G (.pointer (some ⟨b, 0, none⟩)) p w)) := Inv.start ⟨b, P, rfl, n0, hown, HGP.out⟩
  have hcc := mul_self_I hci (by omega) (by omega)
  have gm := fop (P := Try.prog) hcc.1
  have HCC := Lib.hid hcc.2
  have tc := leB hci zero_I
  have HCI := Lib.hid hci
  have HL := Lib.hid hl; have HR := Lib.hid hr
  obtain ⟨Au, cu, rfl, -, -⟩ := hu
  obtain ⟨AP, nP, cP, rfl⟩ := VOwn.isSl (B := 0) hown
  have HQ := Lib.hid hQ
  clear hnl hnr hown hQ hp hci hsi hz hcc hl hr ihl ihr
  generalize Fl.minO o (sqN Q (iv p) d) = cur at *
  generalize fb .sub (xs.getD m 0) (p.getD m 0) = cb at *
  generalize fb .mul cb cb = cc at *
  generalize sumX xs p d = sx at *
  generalize hc0 : Q m - iv p m = c at *
  have HC0 := Lib.hid hc0
  generalize hzd : Fl.amin z sx = zd at *
  have HZD := Lib.hid hzd
  clear hc0 hzd
  go_enter Try.func51, Try.ntmps51
  go_wp2
  go_quiet ((go_at_call 88; exact Calls.quiet_of (HCMP.out _ ((Grow.refl w).drewN _))))
  have HG1 := Lib.hid ((Grow.refl w).drewN nq)
  replace n0 := up_cell n0 HG1.out
  replace n2 := up_cell n2 HG1.out
  replace n3 := up_cell n3 HG1.out
  generalize w.drewN nq = W1 at *
  clear nq n1
  have hmin : ∀ w', Calls Try.prog 60 #[.float .f64 z, .float .f64 sx] w' fun e w'' => e = .returned (.float .f64 zd) ∧ w'' = w' := fun w' => by rw [← HZD.out]; exact min_calls z sx w'
  have HMIN := Lib.hid hmin
  clear hmin
  go_wp2
  go_quiet ((first | (go_at_call 90; exact Calls.quiet_of_same (HDIS.out _ (HG1.out.drewN _))) | (go_at_call 60; exact Calls.quiet_of_same (HMIN.out _))))
  have HG2 := Lib.hid (HG1.out.drewN nq)
  replace n2 : (W1.drewN nq).cell? ⟨b, 2, none⟩ = some (.pointer al) := n2
  replace n3 : (W1.drewN nq).cell? ⟨b, 3, none⟩ = some (.pointer ar) := n3
  generalize W1.drewN nq = W2 at *
  clear n0 nq
  have HI := Lib.hid (HINV.out.map fun q hq => PtrTo.up _ _ hq HG2.out)
  clear HINV
  by_cases hc : c ≤ 0
  · rw [decide_eq_true hc] at tc
    go_wp2_with fail
    refine (HIL.out _ _ _ (some cur) _ (NP.up _ _ HNL.out HG2.out) HGL.out (FSl.up _ _ HU.out HG2.out) HD1.out).mono ?_
    rintro e W3 ⟨v3, z3, o3, rfl, hg3, hd3, ⟨a3, rfl⟩, hc3⟩
    have HG3 := Lib.hid (HG2.out.trans hg3)
    have t3 := Fl.ltO_I hd3 (show Fl.DI zd (some cur) from HD1.out)
    replace n3 := up_cell n3 hg3
    rcases HI.out.side hg3 hc3 with ⟨k3, c3, rfl, hinv⟩ | ⟨k3, hinv⟩
    · rw [k3] at t3
      have HV := Lib.hid hinv
      have HZ : Hid (Fl.IsI z3 c3) := (show Fl.IsI z3 c3 from hd3)
      have tm : (FloatKind.f64.format.order cc z3 == some .lt) = decide (c * c < c3) := ltB HCC.out HZ.out
      clear hinv hc3 hg3 k3 hd3
      by_cases hpr : c * c < c3
      · rw [decide_eq_true hpr] at tm
        clear hpr
        go_wp2_with fail
        refine (HIR.out _ _ _ (some c3) _ (NP.up _ _ HNR.out HG3.out) HGR.out (FSl.up _ _ HU.out HG3.out) HZ.out).mono ?_
        rintro e W4 ⟨v4, z4, o4, rfl, hg4, hd4, ⟨a4, rfl⟩, hc4⟩
        have HG4 := Lib.hid (HG3.out.trans hg4)
        have t4 := Fl.ltO_I hd4 (show Fl.DI z3 (some c3) from HZ.out)
        rcases HV.out.side hg4 hc4 with ⟨k4, c4, rfl, hinv⟩ | ⟨k4, hinv⟩
        · rw [k4] at t4
          have HV4 := Lib.hid hinv
          have HZ4 : Hid (Fl.IsI z4 c4) := (show Fl.IsI z4 c4 from hd4)
          clear hinv hc4 hg4 k4 hd4
          go_wp2
          go_ret2
          exact sres_of HV4.out (fun q => by simp [PT.pts]; grind) HZ4.out HG4.out ⟨_, rfl⟩
        · rw [k4] at t4
          have HV4 := Lib.hid hinv
          clear hinv hc4 hg4 k4 hd4
          go_wp2
          go_ret2
          exact sres_of HV4.out (fun q => by simp [PT.pts]; grind) HZ.out HG4.out ⟨_, rfl⟩
      · have HV4 := Lib.hid (HV.out.prune hpr (fun q hq => by rw [← HC0.out]; exact far_le hm (.inl ⟨by have := HC0.out; omega, HR.out q hq⟩)))
        rw [decide_eq_false hpr] at tm
        clear hpr
        go_wp2
        go_ret2
        exact sres_of HV4.out (fun q => by simp [PT.pts]; grind) HZ.out HG3.out ⟨_, rfl⟩
    · rw [k3] at t3
      have HV := Lib.hid hinv
      have HZ : Hid (Fl.IsI zd cur) := HD1.out
      have tm : (FloatKind.f64.format.order cc zd == some .lt) = decide (c * c < cur) := ltB HCC.out HZ.out
      clear hinv hc3 hg3 k3 hd3
      by_cases hpr : c * c < cur
      · rw [decide_eq_true hpr] at tm
        clear hpr
        go_wp2_with fail
        refine (HIR.out _ _ _ (some cur) _ (NP.up _ _ HNR.out HG3.out) HGR.out (FSl.up _ _ HU.out HG3.out) HZ.out).mono ?_
        rintro e W4 ⟨v4, z4, o4, rfl, hg4, hd4, ⟨a4, rfl⟩, hc4⟩
        have HG4 := Lib.hid (HG3.out.trans hg4)
        have t4 := Fl.ltO_I hd4 (show Fl.DI zd (some cur) from HZ.out)
        rcases HV.out.side hg4 hc4 with ⟨k4, c4, rfl, hinv⟩ | ⟨k4, hinv⟩
        · rw [k4] at t4
          have HV4 := Lib.hid hinv
          have HZ4 : Hid (Fl.IsI z4 c4) := (show Fl.IsI z4 c4 from hd4)
          clear hinv hc4 hg4 k4 hd4
          go_wp2
          go_ret2
          exact sres_of HV4.out (fun q => by simp [PT.pts]; grind) HZ4.out HG4.out ⟨_, rfl⟩
        · rw [k4] at t4
          have HV4 := Lib.hid hinv
          clear hinv hc4 hg4 k4 hd4
          go_wp2
          go_ret2
          exact sres_of HV4.out (fun q => by simp [PT.pts]; grind) HZ.out HG4.out ⟨_, rfl⟩
      · have HV4 := Lib.hid (HV.out.prune hpr (fun q hq => by rw [← HC0.out]; exact far_le hm (.inl ⟨by have := HC0.out; omega, HR.out q hq⟩)))
        rw [decide_eq_false hpr] at tm
        clear hpr
        go_wp2
        go_ret2
        exact sres_of HV4.out (fun q => by simp [PT.pts]; grind) HZ.out HG3.out ⟨_, rfl⟩
  · rw [decide_eq_false hc] at tc
    go_wp2_with fail
    refine (HIR.out _ _ _ (some cur) _ (NP.up _ _ HNR.out HG2.out) HGR.out (FSl.up _ _ HU.out HG2.out) HD1.out).mono ?_
    rintro e W3 ⟨v3, z3, o3, rfl, hg3, hd3, ⟨a3, rfl⟩, hc3⟩
    have HG3 := Lib.hid (HG2.out.trans hg3)
    have t3 := Fl.ltO_I hd3 (show Fl.DI zd (some cur) from HD1.out)
    replace n2 := up_cell n2 hg3
    rcases HI.out.side hg3 hc3 with ⟨k3, c3, rfl, hinv⟩ | ⟨k3, hinv⟩
    · rw [k3] at t3
      have HV := Lib.hid hinv
      have HZ : Hid (Fl.IsI z3 c3) := (show Fl.IsI z3 c3 from hd3)
      have tm : (FloatKind.f64.format.order cc z3 == some .lt) = decide (c * c < c3) := ltB HCC.out HZ.out
      clear hinv hc3 hg3 k3 hd3
      by_cases hpr : c * c < c3
      · rw [decide_eq_true hpr] at tm
        clear hpr
        go_wp2_with fail
        refine (HIL.out _ _ _ (some c3) _ (NP.up _ _ HNL.out HG3.out) HGL.out (FSl.up _ _ HU.out HG3.out) HZ.out).mono ?_
        rintro e W4 ⟨v4, z4, o4, rfl, hg4, hd4, ⟨a4, rfl⟩, hc4⟩
        have HG4 := Lib.hid (HG3.out.trans hg4)
        have t4 := Fl.ltO_I hd4 (show Fl.DI z3 (some c3) from HZ.out)
        rcases HV.out.side hg4 hc4 with ⟨k4, c4, rfl, hinv⟩ | ⟨k4, hinv⟩
        · rw [k4] at t4
          have HV4 := Lib.hid hinv
          have HZ4 : Hid (Fl.IsI z4 c4) := (show Fl.IsI z4 c4 from hd4)
          clear hinv hc4 hg4 k4 hd4
          go_wp2
          go_ret2
          exact sres_of HV4.out (fun q => by simp [PT.pts]; grind) HZ4.out HG4.out ⟨_, rfl⟩
        · rw [k4] at t4
          have HV4 := Lib.hid hinv
          clear hinv hc4 hg4 k4 hd4
          go_wp2
          go_ret2
          exact sres_of HV4.out (fun q => by simp [PT.pts]; grind) HZ.out HG4.out ⟨_, rfl⟩
      · have HV4 := Lib.hid (HV.out.prune hpr (fun q hq => by rw [← HC0.out]; exact far_le hm (.inr ⟨by have := HC0.out; omega, HL.out q hq⟩)))
        rw [decide_eq_false hpr] at tm
        clear hpr
        go_wp2
        go_ret2
        exact sres_of HV4.out (fun q => by simp [PT.pts]; grind) HZ.out HG3.out ⟨_, rfl⟩
    · rw [k3] at t3
      have HV := Lib.hid hinv
      have HZ : Hid (Fl.IsI zd cur) := HD1.out
      have tm : (FloatKind.f64.format.order cc zd == some .lt) = decide (c * c < cur) := ltB HCC.out HZ.out
      clear hinv hc3 hg3 k3 hd3
      by_cases hpr : c * c < cur
      · rw [decide_eq_true hpr] at tm
        clear hpr
        go_wp2_with fail
        refine (HIL.out _ _ _ (some cur) _ (NP.up _ _ HNL.out HG3.out) HGL.out (FSl.up _ _ HU.out HG3.out) HZ.out).mono ?_
        rintro e W4 ⟨v4, z4, o4, rfl, hg4, hd4, ⟨a4, rfl⟩, hc4⟩
        have HG4 := Lib.hid (HG3.out.trans hg4)
        have t4 := Fl.ltO_I hd4 (show Fl.DI zd (some cur) from HZ.out)
        rcases HV.out.side hg4 hc4 with ⟨k4, c4, rfl, hinv⟩ | ⟨k4, hinv⟩
        · rw [k4] at t4
          have HV4 := Lib.hid hinv
          have HZ4 : Hid (Fl.IsI z4 c4) := (show Fl.IsI z4 c4 from hd4)
          clear hinv hc4 hg4 k4 hd4
          go_wp2
          go_ret2
          exact sres_of HV4.out (fun q => by simp [PT.pts]; grind) HZ4.out HG4.out ⟨_, rfl⟩
        · rw [k4] at t4
          have HV4 := Lib.hid hinv
          clear hinv hc4 hg4 k4 hd4
          go_wp2
          go_ret2
          exact sres_of HV4.out (fun q => by simp [PT.pts]; grind) HZ.out HG4.out ⟨_, rfl⟩
      · have HV4 := Lib.hid (HV.out.prune hpr (fun q hq => by rw [← HC0.out]; exact far_le hm (.inr ⟨by have := HC0.out; omega, HL.out q hq⟩)))
        rw [decide_eq_false hpr] at tm
        clear hpr
        go_wp2
        go_ret2
        exact sres_of HV4.out (fun q => by simp [PT.pts]; grind) HZ.out HG3.out ⟨_, rfl⟩

theorem search_calls (xs : List Nat) (d : Nat) (Q : Nat → Int) (u : Value) (hQ : Num xs d Q) (h6 : d ≤ 6) : ∀ (t : PT) (v : Value) (F : List Nat) (z : Nat) (o : Option Int) (w : World), t.KD d → NP t v F w → (∀ k ∈ F, k ∈ G) → FSl u xs w → Fl.DI z o →
    Calls Try.prog 51 #[v, .iface 61 u, .float .f64 z] w (SRes G d Q t o w)
  | .nil, v, F, z, o, w, _, hn, _, _, _ => by rw [hn.1]; exact searchNil _ _ _ _ _ _
  | .node p pl bx l r, v, F, z, o, w, hk, hn, hG, hu, hz => by
    obtain ⟨⟨h1, m, rfl, h3, h4, h5⟩, hl, hr⟩ := hk
    exact search_node p m bx l r v u F xs d Q z o w hn hG hu hQ h1 h6 h3 h4 h5 hz (fun v F z o w' a g b c => search_calls xs d Q u hQ h6 l v F z o w' hl a g b c) (fun v F z o w' a g b c => search_calls xs d Q u hQ h6 r v F z o w' hr a g b c)
end Go.Proofs.Ytcpdhkbmfgphpaa
