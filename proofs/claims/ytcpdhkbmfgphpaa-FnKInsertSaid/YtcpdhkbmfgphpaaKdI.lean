import Derived.Test.YtcpdhkbmfgphpaaKdH
import Derived.Test.YtcpdhkbmfgphpaaKtQ
namespace Go.Proofs.Ytcpdhkbmfgphpaa
open Go.ChangeShapes Go.WideShapes Go.ChangeAt Go.RowKit Go.GrowR
set_option linter.unusedVariables false
set_option linter.unusedSimpArgs false

theorem undFs : Try.prog.underlying 29 = some (.slice 23) := by kernel_rfl
theorem infoFs : (Try.prog.info? 23).map (fun i => (i.zero, i.size, i.bytes)) = some (some (.slice none 0 0), 1, 24) := by kernel_rfl
theorem fssl_of {v : Value} {us : List Value} {xss : List (List Nat)} {w : World} (hv : VSl v us w) (hl : us.length = xss.length) (h : ∀ (i : Nat) (u : Value) (xs : List Nat), us[i]? = some u → xss[i]? = some xs → FSl u xs w) : FSSl v xss w :=
  FSSl.e ⟨us, hv, hl, h⟩
def PtsQ (ns : List KN) (root : Int) (w : World) (e : Ending) (w' : World) : Prop := ∃ V, e = .returned V ∧ Grow w w' ∧ FSSl V ((kw ns root).ord.map (kP ns)) w'
theorem int_at {e : TypeId} {B : Nat} {A : Option Addr} {n c : Nat} {l : List Nat} {w : World} (h : VSl (.slice A n c) (l.map natv) w) {k : Nat} {i : Nat} (hi : l[k]? = some i) : n = l.length ∧ n ≤ c ∧ ∃ b o, A = some ⟨b, o, none⟩ ∧ w.cell? ⟨b, o + k, none⟩ = some (.int .i64 i) := by
  obtain ⟨A', c', he, hc, h⟩ := h
  simp only [Value.slice.injEq, List.length_map] at he
  obtain ⟨rfl, rfl, rfl⟩ := he
  refine ⟨rfl, by simpa using hc, ?_⟩
  rcases h with h | ⟨b, o, rfl, h⟩
  · have := congrArg List.length h; simp at this
    have hk := (List.getElem?_eq_some_iff.1 hi).1
    rw [this] at hk; simp at hk
  · exact ⟨b, o, rfl, h k _ (by rw [List.getElem?_map, hi]; rfl)⟩
set_option maxRecDepth 100000 in
set_option maxHeartbeats 4000000 in
theorem kpoints_calls (v : Value) (ns : List KN) (root : Int) (w : World) (hv : KSl v ns w) (hn : ns.length ≤ 2147483647) :
    Calls Try.prog 12 #[v, .int .i64 root] w (PtsQ ns root w) := by
  have HV := Lib.hid hv
  have HK := Lib.hid (kwalk_calls v ns root w hv hn)
  obtain ⟨i0, hi, hz0, hz1, hz2⟩ := info_parts infoFs
  have HI := Lib.hid hi; have HZ0 := Lib.hid hz0; have HZ1 := Lib.hid hz1; have HZ2 := Lib.hid hz2
  have HLT := Lib.hid (Kt.walk0_lt (n := ns.length) (L := kL ns) (R := kR ns) root)
  have hlen : (kw ns root).ord.length ≤ 2147483647 := Nat.le_trans (Kt.walk0_len root) hn
  obtain ⟨A, c, rfl, -, -⟩ := hv
  clear hi hz0 hz1 hz2
  go_enter Try.func12, Try.ntmps12
  go_wp2_with fail
  refine HK.out.mono ?_
  rintro e w1 ⟨V1, V2, rfl, hg, h1, h2⟩
  obtain ⟨A1, n1, c1, rfl⟩ := h1.isSl
  have HG := Lib.hid hg; have H1 := Lib.hid h1.sl
  have hn1 : n1 = (kw ns root).ord.length := by
    obtain ⟨A', c', he, -, -⟩ := h1.sl
    simp at he; exact he.2.1
  subst hn1
  clear hg h1 h2
  go_wp2
  go_loopw [5, 20] (fun o i wr => ∃ us V, i = .int .i64 (us.length : Nat) ∧ o = V ∧ us.length ≤ (kw ns root).ord.length ∧ VOwn 23 w1.heap.size V us wr ∧ (∀ (i : Nat) (u : Value) (j : Nat), us[i]? = some u → (kw ns root).ord[i]? = some j → FSl u (kP ns j) w) ∧ Grow w1 wr) (fun _ i _ => (kw ns root).ord.length - (intOf i).toNat)
  case atStart => exact ⟨[], _, rfl, rfl, Nat.zero_le _, VOwn.nil, fun i u j h => by simp at h, Grow.refl _⟩
  case round =>
    obtain ⟨us, V, rfl, rfl, hk, hown, hall, hgr⟩ := hrel
    have HO := Lib.hid hown; have HA := Lib.hid hall; have HGR := Lib.hid hgr
    clear hall hgr
    by_cases hlt : us.length < (kw ns root).ord.length
    · obtain ⟨j, hj⟩ : ∃ j, (kw ns root).ord[us.length]? = some j := ⟨(kw ns root).ord[us.length], by simp [hlt]⟩
      have hjn : j < ns.length := HLT.out j (List.mem_of_getElem? hj)
      obtain ⟨-, hc1, b1, o1, rfl, hcell⟩ := int_at (e := 3) (B := 0) H1.out hj
      have e1 := up_cell hcell HGR.out
      obtain ⟨b, o, c', p, mn, mx, he, hc, ⟨q0, -, -, -, -, -⟩, hp, -, -⟩ := HV.out.at (kn_at hjn)
      simp only [Value.slice.injEq] at he
      obtain ⟨rfl, -, rfl⟩ := he
      have e2 := up_cell q0 (HG.out.trans HGR.out)
      have hp' : FSl p (kP ns j) w := hp
      clear hp
      have HP := Lib.hid hp'
      obtain ⟨A2, c2, rfl, -, -⟩ := hp'
      obtain ⟨AV, nV, cV, rfl⟩ := hown.isSl
      have HJ := Lib.hid hj
      have hj1 : (j : Int) < (ns.length : Int) := by omega
      have hj0 : (0 : Int) ≤ (j : Int) := by omega
      clear hown hcell q0 hj
      go_wp2_with (at_builtin; refine wpList_append_vsl rfl _ _ 29 rfl w1.heap.size 23 i0 (.slice none 0 0) 24 undFs HI.out HZ0.out HZ1.out HZ2.out rfl rfl (VOwn.up _ _ HO.out ((Grow.refl wr).alloc _)) rfl (VSl.one (u := .slice A2 (kP ns j).length c2) (by go_simp)) (by intro x hx; simp at hx; subst hx; rfl) (by simp [maxLen] at *; omega) (by simp at *; omega) (by have := HGR.out.size; simp; omega) ?_; intro V' w5 hown5 hgrow5 hwh5; have H5 := Lib.hid hown5; have HGR5 := Lib.hid hgrow5; clear hown5 hgrow5 hwh5)
      go_roundw
      case rel =>
        refine ⟨us ++ [.slice A2 (kP ns j).length c2], V', by first | go_num | (simp <;> omega), rfl, by simp only [List.length_append, List.length_singleton] <;> omega, H5.out, fun i u j' h1 h2 => ?_, Below.grown (HGR.out.trans ((Grow.refl _).alloc _)) HGR5.out (by have := HGR.out.size; simp at *; omega) (fun g hg => HO.out.lt g hg)⟩
        rw [List.getElem?_append] at h1
        split at h1
        · exact HA.out i u j' h1 h2
        · rw [List.getElem?_singleton] at h1
          split at h1
          · cases h1
            have : i = us.length := by omega
            subst this
            rw [HJ.out] at h2; cases h2
            exact HP.out
          · cases h1
      case measure => simp [intOf]; omega
    · have e : us.length = (kw ns root).ord.length := by omega
      have HE := Lib.hid e
      clear e
      go_wp2
      go_ret
      refine ⟨_, rfl, HG.out.trans HGR.out, fssl_of HO.out.sl (by rw [HE.out]; simp) fun i u xs h1 h2 => ?_⟩
      rw [List.getElem?_map] at h2
      cases h3 : (kw ns root).ord[i]? with
      | none => rw [h3] at h2; cases h2
      | some j => rw [h3] at h2; cases h2; exact FSl.up _ _ (HA.out i u j h1 h3) (HG.out.trans HGR.out)
end Go.Proofs.Ytcpdhkbmfgphpaa
