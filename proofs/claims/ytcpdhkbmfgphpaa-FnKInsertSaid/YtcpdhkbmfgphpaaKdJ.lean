import Derived.Test.YtcpdhkbmfgphpaaKdI
import Derived.Test.YtcpdhkbmfgphpaaGrid
namespace Go.Proofs.Ytcpdhkbmfgphpaa
open Go.ChangeShapes Go.WideShapes Go.ChangeAt Go.RowKit Go.GrowR
set_option linter.unusedVariables false
set_option linter.unusedSimpArgs false

def kPl (ns : List KN) (i : Nat) : Int := (ns.getD i kn0).pl
def leF (x y : Nat) : Bool := FloatKind.f64.format.order x y == some .lt || FloatKind.f64.format.order x y == some .eq
def geF (x y : Nat) : Bool := FloatKind.f64.format.order x y == some .gt || FloatKind.f64.format.order x y == some .eq
def nodeB (ns : List KN) (d i : Nat) : Bool := (kP ns i).length == d && (decide (0 ≤ kPl ns i) && decide (kPl ns i < (d : Int)))
def leS (ns : List KN) (i j : Nat) : Bool := leF ((kP ns j).getD (kPl ns i).toNat 0) ((kP ns i).getD (kPl ns i).toNat 0)
def geS (ns : List KN) (i j : Nat) : Bool := geF ((kP ns j).getD (kPl ns i).toNat 0) ((kP ns i).getD (kPl ns i).toNat 0)
noncomputable def sidesB (ns : List KN) (i : Nat) : Bool := (kw ns (kL ns i)).ord.all (leS ns i) && (kw ns (kR ns i)).ord.all (geS ns i)
noncomputable def isKB (ns : List KN) (root : Int) (d : Nat) : Bool := (kw ns root).ok && ((kw ns root).ord.all (nodeB ns d) && (kw ns root).ord.all (sidesB ns))
theorem getD_of {l : List Nat} {m x : Nat} (h : l[m]? = some x) : l.getD m 0 = x := by rw [List.getD_eq_getElem?_getD, h]; rfl
theorem isK_bad {ns : List KN} {root : Int} {d j : Nat} (h0 : (kw ns root).ok = true) (h1 : (kw ns root).ord.all (nodeB ns d) = true) (hj : j ∈ (kw ns root).ord) (h : ((kw ns (kL ns j)).ord.all (leS ns j) && (kw ns (kR ns j)).ord.all (geS ns j)) = false) : isKB ns root d = false := by
  unfold isKB
  have : (kw ns root).ord.all (sidesB ns) = false := by rw [List.all_eq_false]; exact ⟨j, hj, by unfold sidesB; rw [h]; simp⟩
  rw [this]; simp
/-- what the walks of the sides of a node tell, if the tree's walk went well and its nodes are good -/
structure SubOk (ns : List KN) (d j : Nat) (m : Nat) : Prop where
  L : ∀ t ∈ (kw ns (kL ns j)).ord, (kP ns t).length = d ∧ ∃ x, (kP ns t)[m]? = some x
  R : ∀ t ∈ (kw ns (kR ns j)).ord, (kP ns t).length = d ∧ ∃ x, (kP ns t)[m]? = some x
theorem nodeB_true {ns : List KN} {d i : Nat} (h : nodeB ns d i = true) : (kP ns i).length = d ∧ ∃ m : Nat, kPl ns i = (m : Int) ∧ m < d := by
  unfold nodeB at h
  simp only [Bool.and_eq_true, beq_iff_eq, decide_eq_true_eq] at h
  obtain ⟨h1, h2, h3⟩ := h
  exact ⟨h1, (kPl ns i).toNat, by omega, by omega⟩
theorem kt_all_mem {P : Nat → Kt.KT → Kt.KT → Prop} : ∀ {t : Kt.KT}, t.All P → ∀ j ∈ t.ins, ∃ l r, P j l r ∧ (∀ x ∈ l.ins, x ∈ t.ins) ∧ ∀ x ∈ r.ins, x ∈ t.ins
  | .nil, _, j, h => by cases h
  | .node i l r, g, j, h => by
    simp only [Kt.KT.ins, List.mem_append, List.mem_cons] at h
    rcases h with h | h | h
    · obtain ⟨l', r', h1, h2, h3⟩ := kt_all_mem g.2.1 j h
      exact ⟨l', r', h1, fun x hx => by simp [Kt.KT.ins, h2 x hx], fun x hx => by simp [Kt.KT.ins, h3 x hx]⟩
    · subst h
      exact ⟨l, r, g.1, fun x hx => by simp [Kt.KT.ins, hx], fun x hx => by simp [Kt.KT.ins, hx]⟩
    · obtain ⟨l', r', h1, h2, h3⟩ := kt_all_mem g.2.2 j h
      exact ⟨l', r', h1, fun x hx => by simp [Kt.KT.ins, h2 x hx], fun x hx => by simp [Kt.KT.ins, h3 x hx]⟩
theorem sub_mem {ns : List KN} {root : Int} (h0 : (kw ns root).ok = true) {j : Nat} (hj : j ∈ (kw ns root).ord) : (∀ t ∈ (kw ns (kL ns j)).ord, t ∈ (kw ns root).ord) ∧ ∀ t ∈ (kw ns (kR ns j)).ord, t ∈ (kw ns root).ord := by
  obtain ⟨t, h1, h2, h3, -⟩ := Kt.walk0_ok h0
  have h4 := h1.all h2
  have h3' : (kw ns root).ord = t.ins := h3
  rw [h3'] at hj ⊢
  obtain ⟨l, r, ⟨a0, a1, a2, a3, a4⟩, a5, a6⟩ := kt_all_mem h4 j hj
  have e1 : (kw ns (kL ns j)).ord = l.ins := (Kt.walk0_of (by omega) a1 a3).2.1
  have e2 : (kw ns (kR ns j)).ord = r.ins := (Kt.walk0_of (by omega) a2 a4).2.1
  rw [e1, e2]
  exact ⟨a5, a6⟩
theorem subOk {ns : List KN} {root : Int} {d j m : Nat} (h0 : (kw ns root).ok = true) (h1 : (kw ns root).ord.all (nodeB ns d) = true) (hj : j ∈ (kw ns root).ord) (hm : m < d) : SubOk ns d j m := by
  have h2 := sub_mem h0 hj
  have key : ∀ t ∈ (kw ns root).ord, (kP ns t).length = d ∧ ∃ x, (kP ns t)[m]? = some x := fun t ht => by
    have := (nodeB_true (List.all_eq_true.1 h1 t ht)).1
    exact ⟨this, (kP ns t)[m]'(by omega), by simp⟩
  exact ⟨fun t ht => key t (h2.1 t ht), fun t ht => key t (h2.2 t ht)⟩
theorem pts_at {ns : List KN} {A : Option Addr} {n c : Nat} {l : List Nat} {w : World} (h : FSSl (.slice A n c) (l.map (kP ns)) w) {k t : Nat} (ht : l[k]? = some t) : ∃ b o, A = some ⟨b, o, none⟩ ∧ ∃ u, w.cell? ⟨b, o + k, none⟩ = some u ∧ FSl u (kP ns t) w := by
  obtain ⟨A', c', he, hc, h⟩ := h
  simp only [Value.slice.injEq] at he
  obtain ⟨rfl, rfl, rfl⟩ := he
  rcases h with h | ⟨b, o, rfl, h⟩
  · have := congrArg List.length h; simp at this; rw [this] at ht; simp at ht
  · obtain ⟨u, h1, h2⟩ := h k _ (by rw [List.getElem?_map, ht]; rfl)
    exact ⟨b, o, rfl, u, h1, h2⟩
theorem FC_at {A : Option Addr} {l : List Nat} {w : World} {m x : Nat} (h : l = [] ∨ ∃ b o, A = some ⟨b, o, none⟩ ∧ FCells w b o l) (hx : l[m]? = some x) : ∃ b o, A = some ⟨b, o, none⟩ ∧ w.cell? ⟨b, o + m, none⟩ = some (.float .f64 x) := by
  rcases h with h | ⟨b, o, rfl, h⟩
  · rw [h] at hx; simp at hx
  · exact ⟨b, o, rfl, h m x hx⟩
def KWB (ns : List KN) (root : Int) (b : Bool) (w : World) (e : Ending) (w' : World) : Prop :=
  ∃ V1 V2, e = .returned (.tuple #[V1, V2, .bool b]) ∧ Grow w w' ∧ VOwn 3 w.heap.size V1 ((kw ns root).ord.map natv) w' ∧ VOwn 3 w.heap.size V2 ((kw ns root).dep.map intv) w'
theorem kwalk_b {ns : List KN} {root : Int} {b : Bool} {v : Value} {w : World} (hv : KSl v ns w) (hn : ns.length ≤ 2147483647) (h : (kw ns root).ok = b) : Calls Try.prog 30 #[v, .int .i64 root] w (KWB ns root b w) :=
  (kwalk_calls v ns root w hv hn).mono fun e w' ⟨V1, V2, h1, h2⟩ => ⟨V1, V2, by rw [← h]; exact h1, h2⟩
def BoolQ (b : Bool) (w : World) (e : Ending) (w' : World) : Prop := e = .returned (.bool b) ∧ Grow w w'
set_option maxRecDepth 100000 in
set_option maxHeartbeats 16000000 in
theorem isK_calls (v : Value) (ns : List KN) (root : Int) (d : Nat) (w : World) (hv : KSl v ns w) (hn : ns.length ≤ 2147483647) (hwf : ∀ k ∈ ns, KN.wf k) :
    Calls Try.prog 18 #[v, .int .i64 root, .int .i64 (d : Nat)] w (BoolQ (isKB ns root d) w) := by
  have HV := Lib.hid hv
  have HK := Lib.hid (fun b => kwalk_b (b := b) (root := root) hv hn)
  have HPT := Lib.hid (fun (r : Int) (w' : World) (hg : Grow w w') => kpoints_calls v ns r w' (KSl.up _ _ hv hg) hn)
  have HLT := Lib.hid (Kt.walk0_lt (n := ns.length) (L := kL ns) (R := kR ns) root)
  have hlen : (kw ns root).ord.length ≤ 2147483647 := Nat.le_trans (Kt.walk0_len root) hn
  have hlenL : ∀ r, (kw ns r).ord.length ≤ 2147483647 := fun r => Nat.le_trans (Kt.walk0_len r) hn
  have HLN := Lib.hid hlenL
  obtain ⟨A, c, rfl, -, -⟩ := hv
  clear hlenL hwf
  go_enter Try.func18, Try.ntmps18
  cases hok : (kw ns root).ok with
  | false =>
    have HOK := Lib.hid hok
    have HFA : Hid (isKB ns root d = false) := by show _ = _; unfold isKB; rw [hok]; rfl
    clear hok
    go_wp2_with fail
    refine (HK.out _ HOK.out).mono ?_
    rintro e w1 ⟨V1, V2, rfl, hg, h1, h2⟩
    have HG := Lib.hid hg
    clear hg h1 h2
    go_wp2
    go_ret
    exact ⟨by rw [HFA.out]; rfl, HG.out⟩
  | true =>
  have HOK := Lib.hid hok
  clear hok
  go_wp2_with fail
  refine (HK.out _ HOK.out).mono ?_
  rintro e w1 ⟨V1, V2, rfl, hg, h1, h2⟩
  obtain ⟨A1, n1, c1, rfl⟩ := h1.isSl
  have HG := Lib.hid hg; have HO := Lib.hid h1.sl
  have hn1 : n1 = (kw ns root).ord.length := by
    obtain ⟨A', c', he, -, -⟩ := h1.sl
    simp at he; exact he.2.1
  subst hn1
  clear hg h1 h2
  go_wp2
  go_loopw [31] (fun i wr => ∃ k : Nat, i = .int .i64 k ∧ k ≤ (kw ns root).ord.length ∧ ((kw ns root).ord.take k).all (nodeB ns d) = true ∧ Grow w1 wr) (fun i _ => (kw ns root).ord.length - (intOf i).toNat)
  case atStart => exact ⟨0, rfl, Nat.zero_le _, rfl, Grow.refl _⟩
  case round =>
    obtain ⟨k, rfl, hk, hal, hgr⟩ := hrel
    have HAL := Lib.hid hal; have HGR := Lib.hid hgr
    clear hal hgr
    by_cases hlt : k < (kw ns root).ord.length
    · obtain ⟨j, hj⟩ : ∃ j, (kw ns root).ord[k]? = some j := ⟨(kw ns root).ord[k], by simp [hlt]⟩
      have HJ := Lib.hid hj
      have hjn : j < ns.length := HLT.out j (List.mem_of_getElem? hj)
      obtain ⟨-, hc1, b1, o1, rfl, hcell⟩ := int_at (e := 3) (B := 0) HO.out hj
      have e1 := up_cell hcell HGR.out
      obtain ⟨b, o, c', p, mn, mx, he, hc, ⟨q0, q1, q2, q3, q4, q5⟩, hp, hmn, hmx⟩ := HV.out.at (kn_at hjn)
      simp only [Value.slice.injEq] at he
      obtain ⟨rfl, -, rfl⟩ := he
      have hq := HG.out.trans HGR.out
      have r0 := up_cell q0 hq; have r1 := up_cell q1 hq; have r2 := up_cell q2 hq; have r3 := up_cell q3 hq; have r4 := up_cell q4 hq; have r5 := up_cell q5 hq
      have HNB : Hid (nodeB ns d j = ((kP ns j).length == d && (decide (0 ≤ kPl ns j) && decide (kPl ns j < (d : Int))))) := rfl
      have hp' : FSl p (kP ns j) w := hp
      have r1' : wr.cell? ⟨b, o + j * 6 + 1, none⟩ = some (.int .i64 (kPl ns j)) := r1
      have r2' : wr.cell? ⟨b, o + j * 6 + 2, none⟩ = some (.int .i64 (kL ns j)) := r2
      have r3' : wr.cell? ⟨b, o + j * 6 + 3, none⟩ = some (.int .i64 (kR ns j)) := r3
      obtain ⟨A2, c2, rfl, -, -⟩ := hp'
      obtain ⟨A3, c3, rfl, -, -⟩ := hmn
      obtain ⟨A4, c4, rfl, -, -⟩ := hmx
      clear q0 q1 q2 q3 q4 q5 r1 r2 r3 hp hq hj hcell
      have hj1 : (j : Int) < (ns.length : Int) := by omega
      have hj0 : (0 : Int) ≤ (j : Int) := by omega
      generalize (ns.getD j kn0).mn.length = l3 at *
      generalize (ns.getD j kn0).mx.length = l4 at *
      have HFA : Hid (nodeB ns d j = false → isKB ns root d = false) := fun h => by
        unfold isKB; rw [all_false_of _ _ k j HJ.out h]; simp
      have HTA : Hid (nodeB ns d j = true → ((kw ns root).ord.take (k + 1)).all (nodeB ns d) = true) := fun h => by
        rw [all_take_succ _ _ _ _ HJ.out, HAL.out, h]; rfl
      have HGN : ∀ o', Grow w1 o' → Hid (Grow w o') := fun o' h => HG.out.trans h
      generalize hP : (kP ns j).length = lp at *
      generalize hPl : kPl ns j = pl at *
      clear hP hPl
      by_cases t1 : lp = d
      case neg =>
        have hne : ((lp : Int) != (d : Int)) = true := by simp; omega
        have HF : Hid (isKB ns root d = false) := HFA.out (by rw [HNB.out]; simp [t1])
        clear t1
        go_wp2
        go_ret
        exact ⟨by rw [HF.out]; rfl, HGN _ (by exact (HGR.out.alloc _))⟩
      subst t1
      have hne : ((lp : Int) != (lp : Int)) = false := by simp
      by_cases t2 : 0 ≤ pl
      case neg =>
        have hlt2 : decide (pl < 0) = true := decide_eq_true (by omega)
        have HF : Hid (isKB ns root lp = false) := HFA.out (by rw [HNB.out]; simp [t2])
        go_wp2
        go_ret
        exact ⟨by rw [HF.out]; rfl, HGN _ (by exact (HGR.out.alloc _))⟩
      by_cases t3 : pl < (lp : Int)
      case neg =>
        have HF : Hid (isKB ns root lp = false) := HFA.out (by rw [HNB.out]; simp [t3])
        have t4 : (lp : Int) ≤ pl := by omega
        go_wp2
        go_ret
        exact ⟨by rw [HF.out]; rfl, HGN _ (by exact (HGR.out.alloc _))⟩
      have HT : Hid (((kw ns root).ord.take (k + 1)).all (nodeB ns lp) = true) := HTA.out (by rw [HNB.out]; simp [t2, t3])
      go_wp2
      go_roundw
      case rel => exact ⟨k + 1, by go_num, by omega, HT.out, (HGR.out.alloc _)⟩
      case measure => simp [intOf]; omega
    · have H1 : Hid ((kw ns root).ord.all (nodeB ns d) = true) := by have := HAL.out; rwa [List.take_of_length_le (by omega)] at this
      clear HAL
      have HG1 := Lib.hid (HG.out.trans HGR.out)
      have HO1 := Lib.hid (VSl.up _ _ HO.out HGR.out)
      clear HGR
      go_wp2
      clear hlt hk
      go_loopw [58] (fun i wr2 => ∃ k : Nat, i = .int .i64 k ∧ k ≤ (kw ns root).ord.length ∧ ((kw ns root).ord.take k).all (sidesB ns) = true ∧ Grow wr wr2) (fun i _ => (kw ns root).ord.length - (intOf i).toNat)
      case atStart => exact ⟨0, rfl, Nat.zero_le _, rfl, Grow.refl _⟩
      case round =>
        rename_i wS k0 _
        obtain ⟨k, rfl, hk, hal, hgr⟩ := hrel
        have HAL := Lib.hid hal; have HGR := Lib.hid hgr
        clear hal hgr
        by_cases hlt : k < (kw ns root).ord.length
        case neg =>
          have HT : Hid (isKB ns root d = true) := by
            have h := HAL.out
            rw [List.take_of_length_le (by omega)] at h
            show _ = _
            unfold isKB; rw [HOK.out, H1.out, h]; rfl
          go_wp2
          go_ret
          exact ⟨by rw [HT.out]; rfl, HG1.out.trans HGR.out⟩
        case pos =>
          obtain ⟨j, hj⟩ : ∃ j, (kw ns root).ord[k]? = some j := ⟨(kw ns root).ord[k], by simp [hlt]⟩
          have HJ := Lib.hid hj
          have HJM := Lib.hid (List.mem_of_getElem? hj)
          have hjn : j < ns.length := HLT.out j (List.mem_of_getElem? hj)
          obtain ⟨hpd, m, hplm, hmd⟩ := nodeB_true (List.all_eq_true.1 H1.out j HJM.out)
          have SUB := Lib.hid (subOk HOK.out H1.out HJM.out hmd)
          obtain ⟨-, hc1, b1, o1, rfl, hcell⟩ := int_at (e := 3) (B := 0) HO1.out hj
          have e1 := up_cell hcell HGR.out
          obtain ⟨b, o, c', p, mn, mx, he, hc, ⟨q0, q1, q2, q3, q4, q5⟩, hp, hmn, hmx⟩ := HV.out.at (kn_at hjn)
          simp only [Value.slice.injEq] at he
          obtain ⟨rfl, -, rfl⟩ := he
          have hq := HG1.out.trans HGR.out
          have hp' : FSl p (kP ns j) w := hp
          have r0 := up_cell q0 hq; have r4 := up_cell q4 hq; have r5 := up_cell q5 hq
          have r1' : wr.cell? ⟨b, o + j * 6 + 1, none⟩ = some (.int .i64 (m : Nat)) := by rw [← hplm]; exact up_cell q1 hq
          have r2' : wr.cell? ⟨b, o + j * 6 + 2, none⟩ = some (.int .i64 (kL ns j)) := up_cell q2 hq
          have r3' : wr.cell? ⟨b, o + j * 6 + 3, none⟩ = some (.int .i64 (kR ns j)) := up_cell q3 hq
          obtain ⟨A2, c2, rfl, hc2, hA2⟩ := hp'
          obtain ⟨A3, c3, rfl, -, -⟩ := hmn
          obtain ⟨A4, c4, rfl, -, -⟩ := hmx
          obtain ⟨y, hy⟩ : ∃ y, (kP ns j)[m]? = some y := ⟨(kP ns j)[m]'(by omega), by simp⟩
          obtain ⟨b2, o2, rfl, hyc⟩ := FC_at hA2 hy
          have HPM : Hid ((kPl ns j).toNat = m) := by show _ = _; rw [hplm]; simp
          have HY : Hid ((kP ns j).getD m 0 = y) := getD_of hy
          have HYC := Lib.hid (up_cell hyc hq)
          rw [hpd] at r0 hc2
          have HC2 := Lib.hid hc2
          clear q0 q1 q2 q3 q4 q5 hp hq hj hcell hplm hpd hA2 hy hyc hc2
          have hj1 : (j : Int) < (ns.length : Int) := by omega
          have hj0 : (0 : Int) ≤ (j : Int) := by omega
          have hm0 : (0 : Int) ≤ (m : Int) := by omega
          have hm1 : (m : Int) < (d : Int) := by omega
          generalize (ns.getD j kn0).mn.length = l3 at *
          generalize (ns.getD j kn0).mx.length = l4 at *
          have hll := HLN.out (kL ns j)
          have hlr := HLN.out (kR ns j)
          go_wp2_with fail
          refine (HPT.out _ _ (HG1.out.trans (HGR.out.alloc _))).mono ?_
          rintro e w3 ⟨V3, rfl, hg3, hpts3⟩
          obtain ⟨A7, c7, rfl, hc7, -⟩ := id hpts3
          have HP3 := Lib.hid hpts3
          have n0 := up_cell (a := ⟨wr.heap.size, 0, none⟩) (v := .slice (some ⟨b2, o2, none⟩) d c2) (by go_simp) hg3
          have n1 := up_cell (a := ⟨wr.heap.size, 1, none⟩) (v := .int .i64 (m : Nat)) (by go_simp) hg3
          have n3 := up_cell (a := ⟨wr.heap.size, 3, none⟩) (v := .int .i64 (kR ns j)) (by go_simp) hg3
          have hy3 := up_cell HYC.out (((Grow.refl _).alloc _).trans hg3)
          have HG3 := Lib.hid (HGR.out.trans (((Grow.refl _).alloc _).trans hg3))
          clear hg3 hpts3 r0 r1' r2' r3' r4 r5 e1
          rw [List.length_map] at *
          go_wp2
          have HLTK := Lib.hid hlt
          clear hlt
          go_loopw [71] (fun i wr => ∃ k : Nat, i = .int .i64 k ∧ k ≤ (kw ns (kL ns j)).ord.length ∧ ((kw ns (kL ns j)).ord.take k).all (leS ns j) = true ∧ Grow w3 wr) (fun i _ => (kw ns (kL ns j)).ord.length - (intOf i).toNat)
          case atStart => exact ⟨0, rfl, Nat.zero_le _, rfl, Grow.refl _⟩
          case round =>
            obtain ⟨k2, rfl, hki, hali, hgi⟩ := hrel
            have HALI := Lib.hid hali; have HGI := Lib.hid hgi
            clear hali hgi
            by_cases hlti : k2 < (kw ns (kL ns j)).ord.length
            case pos =>
              obtain ⟨t, ht⟩ : ∃ t, (kw ns (kL ns j)).ord[k2]? = some t := ⟨(kw ns (kL ns j)).ord[k2], by simp [hlti]⟩
              have HTI := Lib.hid ht
              obtain ⟨htl, x, hx⟩ := SUB.out.L t (List.mem_of_getElem? ht)
              obtain ⟨bv, ov, hbv, ub, hub, hfub⟩ := pts_at HP3.out ht
              subst hbv
              obtain ⟨A5, c5, rfl, hc5, hA5⟩ := hfub
              rw [htl] at hub hc5
              obtain ⟨b5, o5, rfl, hx5⟩ := FC_at hA5 hx
              have e5 := up_cell hx5 HGI.out
              have e6 := up_cell hub HGI.out
              have m0 := up_cell n0 HGI.out
              have m1 := up_cell n1 HGI.out
              have my := up_cell hy3 HGI.out
              have HCM : Hid (leS ns j t = leF x y) := by show _ = _; unfold leS; rw [HPM.out, getD_of hx, HY.out]
              have HC5 := Lib.hid hc5
              clear hub hx5 hA5 ht hx htl n0 n1 hy3 hc5
              cases hcmp : leF x y with
              | true =>
                have HALL : Hid (((kw ns (kL ns j)).ord.take (k2 + 1)).all (leS ns j) = true) := by show _ = _; rw [all_take_succ _ _ _ _ HTI.out, HALI.out, HCM.out, hcmp]; rfl
                unfold leF at hcmp
                go_wp2
                go_quiet (fail)
                go_wp2
                go_roundw
                case rel => exact ⟨k2 + 1, by go_num, by omega, HALL.out, HGI.out.drewN _⟩
                case measure => simp [intOf]; omega
              | false =>
                have HFA : Hid (isKB ns root d = false) := isK_bad HOK.out H1.out HJM.out (by rw [(all_false_of _ _ k2 t HTI.out (by rw [HCM.out, hcmp]) : ((kw ns (kL ns j)).ord).all (leS ns j) = false)]; simp)
                unfold leF at hcmp
                go_wp2
                go_quiet (fail)
                go_wp2
                go_ret
                exact ⟨by rw [HFA.out]; rfl, (HG1.out.trans HG3.out).trans (HGI.out.drewN _)⟩
            case neg =>
              have HDL : Hid (((kw ns (kL ns j)).ord).all (leS ns j) = true) := by have := HALI.out; rwa [List.take_of_length_le (by omega)] at this
              have m3 := up_cell n3 HGI.out
              go_wp2_with fail
              refine (HPT.out _ _ (HG1.out.trans (HG3.out.trans HGI.out))).mono ?_
              rintro e w4 ⟨V4, rfl, hg4, hpts4⟩
              obtain ⟨A8, c8, rfl, hc8, -⟩ := id hpts4
              have HP4 := Lib.hid hpts4
              have hg34 := HGI.out.trans hg4
              replace n0 := up_cell n0 hg34
              replace n1 := up_cell n1 hg34
              replace hy3 := up_cell hy3 hg34
              have HG4 := Lib.hid (HG3.out.trans hg34)
              clear n3 m3 hg4 hpts4 hg34 hlti hki HALI HGI
              rw [List.length_map] at *
              go_wp2
              go_loopw [94] (fun i wr => ∃ k : Nat, i = .int .i64 k ∧ k ≤ (kw ns (kR ns j)).ord.length ∧ ((kw ns (kR ns j)).ord.take k).all (geS ns j) = true ∧ Grow w4 wr) (fun i _ => (kw ns (kR ns j)).ord.length - (intOf i).toNat)
              case atStart => exact ⟨0, rfl, Nat.zero_le _, rfl, Grow.refl _⟩
              case round =>
                obtain ⟨k2, rfl, hki, hali, hgi⟩ := hrel
                have HALI := Lib.hid hali; have HGI := Lib.hid hgi
                clear hali hgi
                by_cases hlti : k2 < (kw ns (kR ns j)).ord.length
                case pos =>
                  obtain ⟨t, ht⟩ : ∃ t, (kw ns (kR ns j)).ord[k2]? = some t := ⟨(kw ns (kR ns j)).ord[k2], by simp [hlti]⟩
                  have HTI := Lib.hid ht
                  obtain ⟨htl, x, hx⟩ := SUB.out.R t (List.mem_of_getElem? ht)
                  obtain ⟨bv, ov, hbv, ub, hub, hfub⟩ := pts_at HP4.out ht
                  subst hbv
                  obtain ⟨A5, c5, rfl, hc5, hA5⟩ := hfub
                  rw [htl] at hub hc5
                  obtain ⟨b5, o5, rfl, hx5⟩ := FC_at hA5 hx
                  have e5 := up_cell hx5 HGI.out
                  have e6 := up_cell hub HGI.out
                  have m0 := up_cell n0 HGI.out
                  have m1 := up_cell n1 HGI.out
                  have my := up_cell hy3 HGI.out
                  have HCM : Hid (geS ns j t = geF x y) := by show _ = _; unfold geS; rw [HPM.out, getD_of hx, HY.out]
                  have HC5 := Lib.hid hc5
                  clear hub hx5 hA5 ht hx htl n0 n1 hy3 hc5
                  cases hcmp : geF x y with
                  | true =>
                    have HALL : Hid (((kw ns (kR ns j)).ord.take (k2 + 1)).all (geS ns j) = true) := by show _ = _; rw [all_take_succ _ _ _ _ HTI.out, HALI.out, HCM.out, hcmp]; rfl
                    unfold geF at hcmp
                    go_wp2
                    go_quiet (fail)
                    go_wp2
                    go_roundw
                    case rel => exact ⟨k2 + 1, by go_num, by omega, HALL.out, HGI.out.drewN _⟩
                    case measure => simp [intOf]; omega
                  | false =>
                    have HFA : Hid (isKB ns root d = false) := isK_bad HOK.out H1.out HJM.out (by rw [(all_false_of _ _ k2 t HTI.out (by rw [HCM.out, hcmp]) : ((kw ns (kR ns j)).ord).all (geS ns j) = false)]; simp)
                    unfold geF at hcmp
                    go_wp2
                    go_quiet (fail)
                    go_wp2
                    go_ret
                    exact ⟨by rw [HFA.out]; rfl, (HG1.out.trans HG4.out).trans (HGI.out.drewN _)⟩
                case neg =>
                  have HDR : Hid (((kw ns (kR ns j)).ord).all (geS ns j) = true) := by have := HALI.out; rwa [List.take_of_length_le (by omega)] at this
                  go_wp2
                  go_roundw
                  case rel => exact ⟨k + 1, by go_num, by have := HLTK.out; omega, by rw [all_take_succ _ _ _ _ HJ.out, HAL.out]; unfold sidesB; rw [HDL.out, HDR.out]; rfl, HG4.out.trans HGI.out⟩
                  case measure => have := HLTK.out; simp [intOf]; omega
end Go.Proofs.Ytcpdhkbmfgphpaa
