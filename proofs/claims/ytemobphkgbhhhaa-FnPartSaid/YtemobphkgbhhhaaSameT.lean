import Derived.Test.YtemobphkgbhhhaaGeoD
namespace Go.Proofs.Ytemobphkgbhhhaa
open Go.ChangeShapes Go.WideShapes Go.ChangeAt Go.RowKit Go.GrowR
set_option linter.unusedVariables false
set_option linter.unusedSimpArgs false

set_option maxHeartbeats 2000000 in
theorem sameInts_calls (A : Option Addr) (n c : Nat) (A2 : Option Addr) (n2 c2 : Nat) (ns : List Int) (w : World) (hl : ns.length ≤ 17592186044416) (h1 : ISl (.slice A n c) ns w) (h2 : ISl (.slice A2 n2 c2) ns w) : Calls Try.prog 44 #[.slice A n c, .slice A2 n2 c2] w fun e w' => e = .returned (.bool true) ∧ w' = w := by
  obtain ⟨A', c', he, -, hA⟩ := SlE.form h1
  obtain ⟨A2', c2', he2, -, hA2⟩ := SlE.form h2
  simp only [Value.slice.injEq] at he he2
  obtain ⟨rfl, rfl, rfl⟩ := he
  obtain ⟨rfl, rfl, rfl⟩ := he2
  have HA := Lib.hid hA; have HA2 := Lib.hid hA2
  have e1 : (ns.length != ns.length) = false := by simp
  clear hA hA2 h1 h2
  go_enter Try.func44, Try.ntmps44
  go_wp2
  go_loop [5, 6, 14] (fun _ _ i => ∃ j : Nat, j ≤ ns.length ∧ i = .int .i64 j) (fun _ _ i => ns.length - (intOf i).toNat)
  case atStart => exact ⟨0, Nat.zero_le _, rfl⟩
  case round =>
    obtain ⟨q, hq, rfl⟩ := hrel
    by_cases hlt : q < ns.length
    case neg =>
      go_wp2
      go_ret
      exact ⟨rfl, rfl⟩
    case pos =>
      obtain ⟨x, hx⟩ : ∃ x, ns[q]? = some x := ⟨ns[q], by simp [hlt]⟩
      rcases HA.out with h0 | ⟨b1, o1, rfl, hc1⟩
      · exfalso; rw [h0] at hlt; simp at hlt
      rcases HA2.out with h0 | ⟨b2, o2, rfl, hc2⟩
      · exfalso; rw [h0] at hlt; simp at hlt
      obtain ⟨u1, d1, rfl⟩ := hc1 q x hx
      obtain ⟨u2, d2, rfl⟩ := hc2 q x hx
      have e2 : (x != x) = false := by simp
      have hq1 : IntKind.i64.wrap ((q : Int) + 1) = (q : Int) + 1 := IntWalk.i64_in _ (by omega)
      clear hc1 hc2 hx
      go_wp2
      go_round
      case rel => exact ⟨q + 1, by omega, by go_num⟩
      case measure => simp [intOf]; omega
set_option maxHeartbeats 1000000 in
theorem same44 (u v : Value) (xs ys : List Nat) (w : World) (hu : FSl u xs w) (hv : FSl v ys w) (hl : xs.length ≤ 17592186044416) (hl2 : ys.length ≤ 17592186044416) :
    Calls Try.prog 43 #[u, v] w fun e w' => e = .returned (.bool (decide (xs = ys))) ∧ Grow w w' := by
  obtain ⟨A, c, rfl, hc, hA⟩ := hu
  obtain ⟨B, d, rfl, hd, hB⟩ := hv
  have HA := Lib.hid hA; clear hA
  have HB := Lib.hid hB; clear hB
  have hbits := run_bits
  by_cases hll : xs.length = ys.length
  case neg =>
    have HD : Hid (decide (xs = ys) = false) := by
      show decide _ = _
      simp only [decide_eq_false_iff_not]
      intro e; exact hll (by rw [e])
    have hne : ((xs.length : Int) != (ys.length : Int)) = true := by simp; omega
    clear hll
    go_enter Try.func43, Try.ntmps43
    go_wp2
    go_ret
    exact ⟨by rw [HD.out]; rfl, Grow.refl _⟩
  have hne : ((xs.length : Int) != (ys.length : Int)) = false := by simp; omega
  have HL := Lib.hid hll; clear hll
  go_enter Try.func43, Try.ntmps43
  go_wp2
  go_loopw [14] (fun i wr => ∃ j : Nat, i = .int .i64 j ∧ j ≤ xs.length ∧ Grow w wr ∧ xs.take j = ys.take j) (fun i _ => xs.length - (intOf i).toNat)
  case atStart => exact ⟨0, rfl, Nat.zero_le _, Grow.refl _, rfl⟩
  case round =>
    obtain ⟨j, rfl, hj, hg, heq⟩ := hrel
    have HE := Lib.hid heq; clear heq
    have HG := Lib.hid hg; clear hg
    by_cases hlt : j < xs.length
    case neg =>
      have HD : Hid (decide (xs = ys) = true) := by
        show decide _ = _
        have h := HE.out; have h2 := HL.out
        rw [List.take_of_length_le (by omega), List.take_of_length_le (by omega)] at h
        simp [h]
      go_wp2
      go_ret
      exact ⟨by rw [HD.out]; rfl, HG.out⟩
    case pos =>
      obtain ⟨x, hx⟩ : ∃ x, xs[j]? = some x := ⟨xs[j], by simp [hlt]⟩
      obtain ⟨y, hy⟩ : ∃ y, ys[j]? = some y := ⟨ys[j]'(by have := HL.out; omega), by simp⟩
      have hlt2 : (j : Int) < ys.length := by have := HL.out; omega
      have HX := Lib.hid hx
      have HY := Lib.hid hy
      rcases HA.out with h0 | ⟨b1, o1, rfl, hcell⟩
      · exfalso; subst h0; simp at hlt
      rcases HB.out with h0 | ⟨b2, o2, rfl, hcell2⟩
      · exfalso; subst h0; have := HL.out; simp at this; simp [this] at hlt
      have hxc := up_cell (hcell j x hx) HG.out
      have hyc := up_cell (hcell2 j y hy) HG.out
      clear hcell hcell2 hx hy
      by_cases hxy : x = y
      case neg =>
        have HD : Hid (decide (xs = ys) = false) := by
          show decide _ = _
          simp only [decide_eq_false_iff_not]
          intro e; apply hxy
          have h1 := HX.out; have h2 := HY.out
          rw [e] at h1; rw [h1] at h2; exact Option.some.inj h2
        have hb : ((x : Int) != (y : Int)) = true := by simp; omega
        clear hxy
        go_wp2
        go_quiet (fail)
        go_wp2
        go_ret
        exact ⟨by rw [HD.out]; rfl, by first | exact HG.out | exact HG.out.drewN _⟩
      case pos =>
        subst hxy
        go_wp2
        go_quiet (fail)
        go_wp2
        go_round
        case rel => exact ⟨j + 1, by go_num, by omega, by first | exact HG.out | exact HG.out.drewN _, take_succ_eq HE.out HX.out HY.out⟩
        case measure => simp [intOf]; omega


set_option maxRecDepth 100000 in
set_option maxHeartbeats 8000000 in
theorem sameGeom_calls : ∀ (g : GT) (va vb : Value) (w : World), Reach44 g → GV g va w → GV g vb w → Calls Try.prog 20 #[va, vb] w fun e w' => e = .returned (.bool true) ∧ Grow w w' := by
  refine GT.ind fun k l r fl en ens kids ih va vb w hr hv hv' => ?_
  have HV := Lib.hid hv; have HV' := Lib.hid hv'; have HR := Lib.hid hr; have IH := Lib.hid ih
  obtain ⟨k1, l1, r1, fl1, en1, ens1, kids1, A1, c1, A2, c2, A3, c3, A4, c4, he, rfl, hfl, hen, hens⟩ := hv.seven
  obtain ⟨k2, l2, r2, fl2, en2, ens2, kids2, B1, d1, B2, d2, B3, d3, B4, d4, he', rfl, hfl', hen', hens'⟩ := hv'.seven
  cases he; cases he'
  have HKA : Hid (kids = [] ∨ ∃ b o, A4 = some ⟨b, o, none⟩ ∧ GK kids b o w) := by
    have hv := HV.out
    unfold GV at hv
    obtain ⟨u, e1, e2, A, c, he, -, -, -, -, hk⟩ := hv
    simp only [Value.agg.injEq, Array.mk.injEq, List.cons.injEq, Value.int.injEq, Value.slice.injEq, true_and, and_true] at he
    obtain ⟨-, -, -, rfl, rfl⟩ := he
    exact hk
  have HKB : Hid (kids = [] ∨ ∃ b o, B4 = some ⟨b, o, none⟩ ∧ GK kids b o w) := by
    have hv := HV'.out
    unfold GV at hv
    obtain ⟨u, e1, e2, A, c, he, -, -, -, -, hk⟩ := hv
    simp only [Value.agg.injEq, Array.mk.injEq, List.cons.injEq, Value.int.injEq, Value.slice.injEq, true_and, and_true] at he
    obtain ⟨-, -, -, rfl, rfl⟩ := he
    exact hk
  have e1 : (k != k) = false := by simp
  have e2 : (l != l) = false := by simp
  have e3 : (r != r) = false := by simp
  clear hv hv' hr ih
  go_enter Try.func20, Try.ntmps20
  have hr0 : fl.length ≤ 17592186044416 ∧ en.length ≤ 17592186044416 ∧ ens.length ≤ 5864062014805 ∧ kids.length ≤ 1172812402961 := by cases HR.out with | mk a0 a1 a2 a3 => exact ⟨a0, a1, a2, a3⟩
  have HF := Lib.hid hfl; have HF' := Lib.hid hfl'; have HE := Lib.hid hen; have HE' := Lib.hid hen'; have HS := Lib.hid hens; have HS' := Lib.hid hens'
  have HR0 := Lib.hid hr0
  clear hfl hfl' hen hen' hens hens' hr0
  go_wp2_with fail
  have HGA := Lib.hid ((((Grow.refl w).alloc (Obj.cells #[.int .i64 k, .int .i64 l, .int .i64 r, .slice A1 fl.length c1, .slice A2 en.length c2, .slice A3 ens.length c3, .slice A4 kids.length c4] 28)).alloc (Obj.cells #[.int .i64 k, .int .i64 l, .int .i64 r, .slice B1 fl.length d1, .slice B2 en.length d2, .slice B3 ens.length d3, .slice B4 kids.length d4] 28)))
  refine (same44 _ _ fl fl _ (FSl.up _ _ HF.out HGA.out) (FSl.up _ _ HF'.out HGA.out) HR0.out.1 HR0.out.1).mono ?_
  rintro e w1 ⟨rfl, hg1⟩
  have hdec : decide (fl = fl) = true := by simp
  rw [hdec]
  have H7 : Hid (Seven w.heap.size 0 k l r A1 fl.length c1 A2 en.length c2 A3 ens.length c3 A4 kids.length c4 w1) := ⟨up_cell (by go_simp) hg1, up_cell (by go_simp) hg1, up_cell (by go_simp) hg1, up_cell (by go_simp) hg1, up_cell (by go_simp) hg1, up_cell (by go_simp) hg1, up_cell (by go_simp) hg1⟩
  have H8 : Hid (Seven (w.heap.size + 1) 0 k l r B1 fl.length d1 B2 en.length d2 B3 ens.length d3 B4 kids.length d4 w1) := ⟨up_cell (by go_simp) hg1, up_cell (by go_simp) hg1, up_cell (by go_simp) hg1, up_cell (by go_simp) hg1, up_cell (by go_simp) hg1, up_cell (by go_simp) hg1, up_cell (by go_simp) hg1⟩
  have HG1 := Lib.hid (HGA.out.trans hg1)
  clear hg1 hdec
  obtain ⟨q0, q1, q2, q3, q4, q5, q6⟩ := H7.out
  obtain ⟨p0, p1, p2, p3, p4, p5, p6⟩ := H8.out
  simp only [Nat.zero_add] at q1 q2 q3 q4 q5 q6 p1 p2 p3 p4 p5 p6
  have e4 : (ens.length != ens.length) = false := by simp
  have e5 : (kids.length != kids.length) = false := by simp
  go_wp2_with (go_at_call 44; refine (sameInts_calls A2 _ c2 B2 _ d2 en _ HR0.out.2.1 (ISl.up _ _ HE.out HG1.out) (ISl.up _ _ HE'.out HG1.out)).mono ?_; rintro e w2 ⟨rfl, rfl⟩)
  go_loop [5, 6, 65] (fun _ _ i => ∃ q : Nat, q ≤ ens.length ∧ i = .int .i64 q) (fun _ _ i => ens.length - (intOf i).toNat)
  case atStart => exact ⟨0, Nat.zero_le _, rfl⟩
  case round =>
    obtain ⟨q, hq, rfl⟩ := hrel
    by_cases hlt : q < ens.length
    · obtain ⟨p, hp⟩ : ∃ p, ens[q]? = some p := ⟨ens[q], by simp [hlt]⟩
      obtain ⟨b1, o1, X1, x1, m1, he1, hc1, hi1⟩ := iss_at (ISSl.up _ _ HS.out HG1.out) hp
      obtain ⟨b2, o2, X2, x2, m2, he2, hc2, hi2⟩ := iss_at (ISSl.up _ _ HS'.out HG1.out) hp
      simp only [Value.slice.injEq, true_and] at he1 he2
      obtain ⟨rfl, rfl⟩ := he1
      obtain ⟨rfl, rfl⟩ := he2
      have HI1 := Lib.hid hi1; have HI2 := Lib.hid hi2
      have hpl : p.length ≤ 17592186044416 := by cases HR.out with | mk a0 a1 a2 a3 a4 a5 => exact a5 p (List.mem_of_getElem? hp)
      have hq1 : IntKind.i64.wrap ((q : Int) + 1) = (q : Int) + 1 := IntWalk.i64_in _ (by have := HR0.out; omega)
      clear hp hi1 hi2
      go_wp2_with (go_at_call 44; refine (sameInts_calls X1 _ x1 X2 _ x2 p _ hpl HI1.out HI2.out).mono ?_; rintro e w3 ⟨rfl, rfl⟩)
      go_round
      case rel => exact ⟨q + 1, by omega, by go_num⟩
      case measure => simp [intOf]; omega
    · have p6z := p6
      have q6z := q6
      clear q0 q1 q2 q3 q4 q5 p0 p1 p2 p3 p4 p5
      go_wp2
      go_loopw [7, 8, 82] (fun _ _ i wr => ∃ j : Nat, j ≤ kids.length ∧ i = .int .i64 j ∧ Grow w2 wr) (fun _ _ i _ => kids.length - (intOf i).toNat)
      case atStart => exact ⟨0, Nat.zero_le _, rfl, Grow.refl _⟩
      case round =>
        obtain ⟨j, hj, rfl, hgr⟩ := hrel
        have HGr := Lib.hid hgr
        by_cases hlt2 : j < kids.length
        · obtain ⟨kid, hkid⟩ : ∃ p, kids[j]? = some p := ⟨kids[j], by simp [hlt2]⟩
          have gw := HG1.out.trans hgr
          obtain ⟨b1, o1, rfl, hgk1⟩ := gk_some HKA.out hlt2
          obtain ⟨b2, o2, rfl, hgk2⟩ := gk_some HKB.out hlt2
          obtain ⟨k', l', r', A1', n1', c1', A2', n2', c2', A3', n3', c3', A4', n4', c4', h7, hv⟩ := kid_at hgk1 hkid
          obtain ⟨k'', l'', r'', A1'', n1'', c1'', A2'', n2'', c2'', A3'', n3'', c3'', A4'', n4'', c4'', h8, hv'⟩ := kid_at hgk2 hkid
          have HR' := Lib.hid (show Reach44 kid by cases HR.out with | mk a0 a1 a2 a3 a4 a5 a6 a7 a8 a9 => exact a9 kid (List.mem_of_getElem? hkid))
          have HKID := Lib.hid (fun w' (hw : Grow wr w') => IH.out kid (List.mem_of_getElem? hkid) _ _ w' HR'.out (GV.up _ _ _ _ hv (gw.trans hw)) (GV.up _ _ _ _ hv' (gw.trans hw)))
          obtain ⟨k0, k1, k2, k3, k4, k5, k6⟩ := Seven.up _ _ h7 gw
          obtain ⟨m0, m1, m2, m3, m4, m5, m6⟩ := Seven.up _ _ h8 gw
          have p6' := up_cell p6z hgr
          have hb4 : b2 < wr.heap.size := cell_ltH m0
          have hb5 : w.heap.size + 1 < wr.heap.size := cell_ltH p6'
          have hb6 : w.heap.size < wr.heap.size := by omega
          have hb2 : b2 < wr.heap.size + 1 := Nat.lt_succ_of_lt (cell_ltH m0)
          have hb3 : w.heap.size + 1 < wr.heap.size + 1 := Nat.lt_succ_of_lt (cell_ltH p6')
          have hq1 : IntKind.i64.wrap ((j : Int) + 1) = (j : Int) + 1 := IntWalk.i64_in _ (by have := HR0.out; omega)
          clear hkid hgk1 hgk2 hv hv' h7 h8 gw hgr p6 q6 p6z q6z
          go_wp2
          refine wp_region_grow (fun i => if i = 6 then some (fun _ _ => (fun V _ => V = .bool true)) else none) (by kernel_rfl) (by kernel_rfl) ?_ ?_
          · intro i Φ h lo hi v
            (repeat' split at h) <;> cases h
            · exact fun _ _ h _ => h
          repeat (first
            | (refine wpGrow_skip (by rfl) ?_; simp only [Act.put, List.setIfInBounds_toArray, List.set_cons_zero, List.set_cons_succ, Nat.reduceAdd])
            | (refine wpGrow_det' (by rfl) (by rfl) ?_; apply Exists.intro; refine ⟨fun w' hc hh => ?_, ?_⟩; (have hcell := grow_cell hc; clear hc hh; go_simp; rfl); simp only [Act.put, List.setIfInBounds_toArray, List.set_cons_zero, List.set_cons_succ, Nat.reduceAdd]))
          refine wpGrow_eff' (by rfl) (by rfl) (fun w' hc hh => ?_) (fun v lo hi w' hap hc hh hv => ?_)
          · have HGC := Lib.hid (((Grow.refl wr).alloc _).trans hc)
            clear hc hh
            go_simp
            go_at_call 20
            refine (HKID.out _ HGC.out).mono ?_
            rintro e w5 ⟨rfl, hg⟩
            exact EffPost.mk hg rfl
          obtain rfl := hv
          clear hc hh hap w'
          simp only [Act.put, List.setIfInBounds_toArray, List.set_cons_zero, List.set_cons_succ, Nat.reduceAdd]
          repeat (first
            | (refine wpGrow_skip (by rfl) ?_; simp only [Act.put, List.setIfInBounds_toArray, List.set_cons_zero, List.set_cons_succ, Nat.reduceAdd])
            | (refine wpGrow_det' (by rfl) (by rfl) ?_; apply Exists.intro; refine ⟨fun w' hc hh => ?_, ?_⟩; (have hcell := grow_cell hc; clear hc hh; go_simp; rfl); simp only [Act.put, List.setIfInBounds_toArray, List.set_cons_zero, List.set_cons_succ, Nat.reduceAdd]))
          refine wpGrow_nil ?_
          intro w6 hg hh
          have HG5 := Lib.hid (HGr.out.trans (((Grow.refl wr).alloc _).trans hg))
          clear hh hg
          go_wp2
          go_roundw
          case rel => exact ⟨j + 1, by omega, by go_num, HG5.out⟩
          case measure => simp [intOf]; omega
        · clear hgr
          go_wp2
          go_ret
          exact ⟨rfl, HG1.out.trans HGr.out⟩
end Go.Proofs.Ytemobphkgbhhhaa
