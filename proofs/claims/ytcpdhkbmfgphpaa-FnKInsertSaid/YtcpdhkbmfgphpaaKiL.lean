import Derived.Test.YtcpdhkbmfgphpaaKiK
import Derived.Test.YtcpdhkbmfgphpaaKdI
namespace Go.Proofs.Ytcpdhkbmfgphpaa
open Go.ChangeShapes Go.WideShapes Go.ChangeAt Go.RowKit Go.GrowR
set_option linter.unusedVariables false
set_option linter.unusedSimpArgs false

theorem rd_snoc {us : List Value} {xs : List (List Nat)} {w : World} {u0 : Value} {x0 : List Nat} (hl : us.length = xs.length) (h : ∀ (i : Nat) (u : Value) (x : List Nat), us[i]? = some u → xs[i]? = some x → FSl u x w) (h0 : FSl u0 x0 w) : ∀ (i : Nat) (u : Value) (x : List Nat), (us ++ [u0])[i]? = some u → (xs ++ [x0])[i]? = some x → FSl u x w := fun i u x h1 h2 => by
  rcases Nat.lt_or_ge i us.length with hi | hi
  · rw [List.getElem?_append_left hi] at h1
    rw [List.getElem?_append_left (by omega)] at h2
    exact h i u x h1 h2
  · rw [List.getElem?_append_right hi, List.getElem?_singleton] at h1
    rw [List.getElem?_append_right (by omega), List.getElem?_singleton] at h2
    split at h1
    · cases h1
      split at h2
      · cases h2; exact h0
      · cases h2
    · cases h1
structure WI (pts LA LB : List (List Nat)) (w : World) (k : Nat) (f : Bool) (xs : List (List Nat)) (us : List Value) (V : Value) (wr : World) : Prop where
  own : VOwn 23 w.heap.size V us wr
  len : us.length = xs.length
  rd : ∀ (i : Nat) (u : Value) (x : List Nat), us[i]? = some u → xs[i]? = some x → FSl u x w
  g : Grow w wr
  st : (f = false ∧ k = xs.length ∧ ∃ C, LA = xs ++ C) ∨ (f = true ∧ k = xs.length + 1 ∧ LA.length ≤ xs.length ∧ ∃ C, LA ++ LB = xs ++ C)
def WoQ (L : List (List Nat)) (w : World) (e : Ending) (w' : World) : Prop := ∃ V, e = .returned (.tuple #[V, .bool true]) ∧ Grow w w' ∧ FSSl V L w'
set_option maxRecDepth 100000 in
set_option maxHeartbeats 8000000 in
theorem without_calls (v u : Value) (p : List Nat) (LA LB : List (List Nat)) (d : Nat) (w : World) (hv : FSSl v (LA ++ p :: LB) w) (hu : FSl u p w) (hp : Num p d (iv p)) (hps : ∀ q ∈ LA, Num q d (iv q)) (hne : ∀ q ∈ LA, ∃ k, k < d ∧ iv p k ≠ iv q k) (h6 : d ≤ 6) (hl : (LA ++ p :: LB).length ≤ 1000000) :
    Calls Try.prog 19 #[v, u] w (WoQ (LA ++ LB) w) := by
  obtain ⟨i0, hi, hz0, hz1, hz2⟩ := info_parts infoFs
  have HI := Lib.hid hi; have HZ0 := Lib.hid hz0; have HZ1 := Lib.hid hz1; have HZ2 := Lib.hid hz2
  obtain ⟨pts, hpts⟩ : ∃ pts, pts = LA ++ p :: LB := ⟨_, rfl⟩
  rw [← hpts] at hv hl
  have hpl : pts.length = LA.length + 1 + LB.length := by rw [hpts]; simp; omega
  have HPLN := Lib.hid hpl
  have HPTS := Lib.hid hpts; have HU := Lib.hid hu; have HP := Lib.hid hp; have HPS := Lib.hid hps; have HNE := Lib.hid hne
  obtain ⟨A, c, rfl, hc, hA⟩ := hv
  have HA := Lib.hid hA
  obtain ⟨Au, cu, rfl, -, -⟩ := hu
  clear hi hz0 hz1 hz2 hpts hp hps hne hA hpl
  go_enter Try.func19, Try.ntmps19
  go_wp2
  go_loopw [4, 5, 10] (fun o f i wr => ∃ k fb xs us V, i = .int .i64 (k : Nat) ∧ f = .bool fb ∧ o = V ∧ k ≤ pts.length ∧ WI pts LA LB w k fb xs us V wr) (fun _ _ i _ => pts.length - (intOf i).toNat)
  case atStart => exact ⟨0, false, [], [], _, rfl, rfl, rfl, Nat.zero_le _, ⟨VOwn.nil, rfl, fun i u x h => by simp at h, Grow.refl _, .inl ⟨rfl, rfl, LA, rfl⟩⟩⟩
  case round =>
    obtain ⟨k, fb, xs, us, V, rfl, rfl, rfl, hk, hwi⟩ := hrel
    have HWI := Lib.hid hwi
    have hown := hwi.own
    obtain ⟨AV, nV, cV, rfl⟩ := hown.isSl
    by_cases hlt : k < pts.length
    case neg =>
      have e : k = pts.length := by omega
      have hpl := HPLN.out
      rcases hwi.st with ⟨-, h2, C, h3⟩ | ⟨h1, h2, h3, C, h4⟩
      · exfalso
        have := congrArg List.length h3
        simp at this; omega
      subst h1
      have HE : Hid (xs = LA ++ LB) := by
        have := congrArg List.length h4
        simp at this
        have : C = [] := List.length_eq_zero_iff.1 (by omega)
        subst this
        show xs = LA ++ LB
        simpa using h4.symm
      clear hwi hown h2 h3 h4 hpl
      go_wp2
      go_ret2
      refine ⟨_, rfl, HWI.out.g, ?_⟩
      rw [← HE.out]
      exact fssl_of HWI.out.own.sl HWI.out.len fun i u x h1 h2 => FSl.up _ _ (HWI.out.rd i u x h1 h2) HWI.out.g
    case pos =>
      obtain ⟨q, hq⟩ : ∃ q, pts[k]? = some q := ⟨pts[k], by simp [hlt]⟩
      have HQ := Lib.hid hq
      rcases HA.out with h0 | ⟨b, o, rfl, hcell⟩
      · exfalso; subst h0; simp at hlt
      obtain ⟨z, hz, hzz⟩ := hcell k q hq
      have HZZ := Lib.hid hzz
      have hz' := up_cell hz hwi.g
      obtain ⟨Aq, cq, rfl, -, -⟩ := hzz
      have hus : us.length ≤ k := by
        have := hwi.len
        rcases hwi.st with ⟨-, h2, -⟩ | ⟨-, h2, -⟩ <;> omega
      rcases hwi.st with ⟨rfl, h2, C, h3⟩ | ⟨rfl, h2, h3, C, h4⟩
      · cases C with
        | nil =>
          have hqp : q = p := by
            rw [HPTS.out, h3, h2, List.append_nil, List.getElem?_append_right (Nat.le_refl _), Nat.sub_self] at hq
            simpa using hq.symm
          subst hqp
          have HSP := Lib.hid (fun w' (hg : Grow w w') => samePoint_calls _ _ q q d (iv q) (iv q) w' (FSl.up _ _ HU.out hg) (FSl.up _ _ HZZ.out hg) HP.out HP.out h6)
          rw [eqN_true (fun _ _ => rfl)] at HSP
          have HST : Hid (LA.length ≤ xs.length ∧ ∃ C, LA ++ LB = xs ++ C) := ⟨by rw [h3]; simp, LB, by rw [h3]; simp⟩
          have HK2 := Lib.hid h2
          clear hwi hown hq hz hcell h3 h2
          go_wp2_with fail
          refine (HSP.out _ HWI.out.g).mono ?_
          rintro e w5 ⟨rfl, hg5⟩
          have HG5 := Lib.hid hg5
          clear hg5
          go_wp2
          go_roundw
          case rel => exact ⟨k + 1, true, xs, us, _, by go_num, rfl, rfl, by omega, ⟨VOwn.up _ _ HWI.out.own HG5.out, HWI.out.len, HWI.out.rd, HWI.out.g.trans HG5.out, .inr ⟨rfl, by have := HK2.out; omega, HST.out.1, HST.out.2⟩⟩⟩
          case measure => simp [intOf]; omega
        | cons c0 C =>
          have hqp : q = c0 := by
            rw [HPTS.out, h3, h2, List.append_assoc, List.getElem?_append_right (Nat.le_refl _), Nat.sub_self] at hq
            simpa using hq.symm
          subst hqp
          have hqm : q ∈ LA := by rw [h3]; simp
          have HSP := Lib.hid (fun w' (hg : Grow w w') => samePoint_calls _ _ p q d (iv p) (iv q) w' (FSl.up _ _ HU.out hg) (FSl.up _ _ HZZ.out hg) HP.out (HPS.out q hqm) h6)
          rw [show eqN (iv p) (iv q) d = false by obtain ⟨m, h1, h2⟩ := HNE.out q hqm; exact eqN_false h1 h2] at HSP
          have HST : Hid (∃ C', LA = (xs ++ [q]) ++ C') := ⟨C, by rw [h3]; simp⟩
          have HK2 := Lib.hid h2
          clear hwi hown hq hz hcell h3 hqm h2
          go_wp2_with fail
          refine (HSP.out _ HWI.out.g).mono ?_
          rintro e w5 ⟨rfl, hg5⟩
          have HG5 := Lib.hid hg5
          clear hg5
          have HGX := Lib.hid (HWI.out.g.trans HG5.out)
          have hsz := HGX.out.size
          have hcl := HWI.out.len
          go_wp2_with (at_builtin; refine wpList_append_vsl rfl _ _ 29 rfl w.heap.size 23 i0 (.slice none 0 0) 24 undFs HI.out HZ0.out HZ1.out HZ2.out rfl rfl (VOwn.up _ _ (VOwn.up _ _ HWI.out.own HG5.out) ((Grow.refl w5).alloc _)) rfl (VSl.one (u := .slice Aq q.length cq) (by go_simp)) (by intro x hx; simp at hx; subst hx; rfl) (by simp [maxLen] at *; omega) (by simp at *; omega) (by simp; omega) ?_; intro V' w6 hown6 hgrow6 hwh6; have H5 := Lib.hid hown6; have HGR6 := Lib.hid hgrow6; clear hown6 hgrow6 hwh6)
          go_roundw
          case rel => exact ⟨k + 1, false, xs ++ [q], us ++ [.slice Aq q.length cq], V', by go_num, rfl, rfl, by omega, ⟨H5.out, by simp [HWI.out.len], rd_snoc HWI.out.len HWI.out.rd HZZ.out, Below.grown (HGX.out.trans ((Grow.refl _).alloc _)) HGR6.out (by simp at *; omega) (fun g hg => HWI.out.own.lt g hg), .inl ⟨rfl, by have := HK2.out; simp; omega, HST.out⟩⟩⟩
          case measure => simp [intOf]; omega
      · cases C with
        | nil =>
          exfalso
          have hpl := HPLN.out
          have := congrArg List.length h4
          simp at this; omega
        | cons c0 C =>
          have hqp : q = c0 := by
            have e1 : (LA ++ LB)[xs.length]? = some c0 := by rw [h4, List.getElem?_append_right (Nat.le_refl _), Nat.sub_self]; rfl
            rw [List.getElem?_append_right h3] at e1
            rw [HPTS.out, h2, List.getElem?_append_right (by omega), show xs.length + 1 - LA.length = (xs.length - LA.length) + 1 by omega, List.getElem?_cons_succ, e1] at hq
            simpa using hq.symm
          subst hqp
          have HST : Hid (∃ C', LA ++ LB = (xs ++ [q]) ++ C') := ⟨C, by rw [h4]; simp⟩
          have HK2 := Lib.hid h2
          have HK3 := Lib.hid h3
          clear hwi hown hq hz hcell h4 h2 h3
          have HGX := Lib.hid HWI.out.g
          have hsz := HGX.out.size
          have hcl := HWI.out.len
          go_wp2_with (at_builtin; refine wpList_append_vsl rfl _ _ 29 rfl w.heap.size 23 i0 (.slice none 0 0) 24 undFs HI.out HZ0.out HZ1.out HZ2.out rfl rfl (VOwn.up _ _ HWI.out.own ((Grow.refl wr).alloc _)) rfl (VSl.one (u := .slice Aq q.length cq) (by go_simp)) (by intro x hx; simp at hx; subst hx; rfl) (by simp [maxLen] at *; omega) (by simp at *; omega) (by simp; omega) ?_; intro V' w6 hown6 hgrow6 hwh6; have H5 := Lib.hid hown6; have HGR6 := Lib.hid hgrow6; clear hown6 hgrow6 hwh6)
          go_roundw
          case rel => exact ⟨k + 1, true, xs ++ [q], us ++ [.slice Aq q.length cq], V', by go_num, rfl, rfl, by omega, ⟨H5.out, by simp [HWI.out.len], rd_snoc HWI.out.len HWI.out.rd HZZ.out, Below.grown (HGX.out.trans ((Grow.refl _).alloc _)) HGR6.out (by simp at *; omega) (fun g hg => HWI.out.own.lt g hg), .inr ⟨rfl, by have := HK2.out; simp; omega, by have := HK3.out; simp; omega, HST.out⟩⟩⟩
          case measure => simp [intOf]; omega
end Go.Proofs.Ytcpdhkbmfgphpaa
