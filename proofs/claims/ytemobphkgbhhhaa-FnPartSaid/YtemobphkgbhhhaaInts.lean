import Derived.Test.YtemobphkgbhhhaaGoodT
import Derived.Test.YtemobphkgbhhhaaFloats
namespace Go.Proofs.Ytemobphkgbhhhaa
open Go.ChangeShapes Go.WideShapes Go.ChangeAt Go.RowKit Go.GrowR
set_option linter.unusedVariables false
set_option linter.unusedSimpArgs false

theorem infoI : (Try.prog.info? 3).map (fun i => (i.zero, i.size, i.bytes)) = some (some (.int .i64 0), 1, 8) := by kernel_rfl
theorem undI : Try.prog.underlying 25 = some (.slice 3) := by kernel_rfl
abbrev iVs (ns : List Int) : List Value := ns.map (.int .i64)
theorem ISl.v {v : Value} {ns : List Int} {w : World} (h : ISl v ns w) : VSl v (iVs ns) w := by
  obtain ⟨us, hv, hl, hx⟩ := h
  have : us = iVs ns := by
    refine List.ext_getElem? fun i => ?_
    rw [List.getElem?_map]
    cases hu : us[i]? with
    | none =>
      have := List.getElem?_eq_none_iff.1 hu
      rw [List.getElem?_eq_none (by omega)]; rfl
    | some u =>
      have hi := (List.getElem?_eq_some_iff.1 hu).1
      have hn : ns[i]? = some (ns[i]'(by omega)) := by simp
      have := hx i u _ hu hn
      rw [hn]
      exact congrArg some this
  rw [← this]; exact hv
theorem ISl.of {v : Value} {ns : List Int} {w : World} (h : VSl v (iVs ns) w) : ISl v ns w :=
  ⟨iVs ns, h, by simp, fun i u x hu hx => by rw [List.getElem?_map, hx] at hu; cases hu; rfl⟩
theorem i_one (ns : List Int) : ∀ x ∈ iVs ns, x.oneCell' = true := by
  intro x hx
  obtain ⟨n, -, rfl⟩ := List.mem_map.1 hx
  rfl
def IOwn (B : Nat) (V : Value) (ns : List Int) (w : World) : Prop := VOwn 3 B V (iVs ns) w
theorem IOwn.up {B : Nat} {V : Value} {ns : List Int} : Up (IOwn B V ns) := VOwn.up
theorem IOwn.is {B : Nat} {V : Value} {ns : List Int} {w : World} (h : IOwn B V ns w) : ISl V ns w := ISl.of (VOwn.sl h)
set_option maxHeartbeats 1000000 in
/-- a copy of a slice of whole numbers -/
theorem ints_calls (u : Value) (ns : List Int) (w : World) (hu : ISl u ns w) (hl : ns.length ≤ 17592186044416) :
    Calls Try.prog 67 #[u] w fun e w' => ∃ v, e = .returned v ∧ Grow w w' ∧ IOwn w.heap.size v ns w' := by
  obtain ⟨i0, hi, hz0, hz1, hz2⟩ := info_parts infoI
  have HU := Lib.hid hu; clear hu
  go_enter Try.func67, Try.ntmps67
  go_wp2_with (at_builtin; refine wpList_append_vsl rfl _ _ 25 rfl w.heap.size 3 i0 (.int .i64 0) 8 undI hi hz0 hz1 hz2 rfl rfl VOwn.nil rfl HU.out.v (i_one _) (by simp [maxLen]; omega) (by simp; omega) (Nat.le_refl _) ?_; intro v' w' hown hgrow hwhere)
  go_ret
  exact ⟨_, rfl, grow_of_grown hgrow, by show VOwn 3 _ _ (iVs ns) _; rwa [List.nil_append] at hown⟩
theorem infoIs : (Try.prog.info? 25).map (fun i => (i.zero, i.size, i.bytes)) = some (some (.slice none 0 0), 1, 24) := by kernel_rfl
theorem undIs : Try.prog.underlying 23 = some (.slice 25) := by kernel_rfl
/-- lists of ends, all of the call's own -/
def IIOwn (B : Nat) (V : Value) (nss : List (List Int)) (w : World) : Prop := OwnE 25 B (fun ns u w => IOwn B u ns w) V nss w
theorem IIOwn.up {B : Nat} {V : Value} {nss : List (List Int)} : Up (IIOwn B V nss) := OwnE.up fun _ _ => IOwn.up
theorem IIOwn.is {B : Nat} {V : Value} {nss : List (List Int)} {w : World} (h : IIOwn B V nss w) : ISSl V nss w := by
  obtain ⟨us, h1, h2⟩ := h
  exact ⟨us, h1.sl, h2.imp fun _ _ h => h.is⟩
set_option maxRecDepth 100000 in
set_option maxHeartbeats 2000000 in
theorem intss_calls (v : Value) (xss : List (List Int)) (w : World) (hv : ISSl v xss w) (hm : xss.length ≤ 5864062014805) (hm2 : ∀ (i : Nat) (xs : List Int), xss[i]? = some xs → xs.length ≤ 17592186044416) :
    Calls Try.prog 75 #[v] w fun e w' => ∃ O, e = .returned O ∧ Grow w w' ∧ IIOwn w.heap.size O xss w' := by
  obtain ⟨i0, hi, hz0, hz1, hz2⟩ := info_parts infoIs
  have HI := Lib.hid hi; have HZ0 := Lib.hid hz0; have HZ1 := Lib.hid hz1; have HZ2 := Lib.hid hz2; clear hi hz0 hz1 hz2
  obtain ⟨A, c, rfl, -, hA⟩ := SlE.form hv
  have HA := Lib.hid hA; clear hA hv
  have HM2 := Lib.hid hm2; clear hm2
  go_enter Try.func75, Try.ntmps75
  go_wp2
  go_loopw [3, 8] (fun O i wr => ∃ (k : Nat) (us : List Value), i = .int .i64 k ∧ k ≤ xss.length ∧ Grow w wr ∧ VOwn 25 w.heap.size O us wr ∧ All2 (fun ns u w' => IOwn w.heap.size u ns w') us (xss.take k) wr) (fun _ i _ => xss.length - (intOf i).toNat)
  case atStart => exact ⟨0, [], rfl, Nat.zero_le _, Grow.refl w, VOwn.nil, All2.nil⟩
  case round =>
    obtain ⟨k, us, rfl, hk, hg, hown, hrows⟩ := hrel
    have HG := Lib.hid hg; have HO := Lib.hid hown; have HR := Lib.hid hrows; clear hg hown hrows
    by_cases hlt : k < xss.length
    case neg =>
      go_wp2
      go_ret
      refine ⟨_, rfl, HG.out, us, HO.out, ?_⟩
      have := HR.out
      rwa [List.take_of_length_le (by omega)] at this
    case pos =>
      obtain ⟨p, hp⟩ : ∃ p, xss[k]? = some p := ⟨xss[k], by simp [hlt]⟩
      rcases HA.out with h0 | ⟨b, o, rfl, hcell⟩
      · exfalso; subst h0; simp at hlt
      obtain ⟨u, hu, hf⟩ := hcell k p hp
      have hu1 := up_cell hu HG.out
      have HF := Lib.hid (ISl.up _ _ hf HG.out)
      have hpl := HM2.out k p hp
      have HP := Lib.hid hp
      clear hcell hp hu hf
      go_wp2_with (first
        | (go_at_call 67; refine (ints_calls _ p _ HF.out (by omega)).mono ?_; rintro e w1 ⟨V, rfl, hg1, hown1⟩; obtain ⟨A1, n1, c1, rfl⟩ := VOwn.isSl hown1; have HG1 := Lib.hid hg1; have HV := Lib.hid (VOwn.mono hown1 HG.out.size); clear hg1 hown1)
        | (at_builtin; refine wpList_append_vsl rfl _ _ 23 rfl w.heap.size 25 i0 (.slice none 0 0) 24 undIs HI.out HZ0.out HZ1.out HZ2.out rfl rfl (VOwn.up _ _ (VOwn.up _ _ HO.out HG1.out) ((Grow.refl w1).alloc _)) rfl (VSl.one (u := .slice A1 n1 c1) (by go_simp)) (by intro x hx; simp at hx; subst hx; exact HV.out.one) (by have := HR.out.1; simp [maxLen] at *; omega) (by have := HR.out.1; simp at *; omega) (by have := HG.out.size; have := HG1.out.size; simp; omega) ?_; intro O5 w5 hown5 hgrow5 hwh5; have H5 := Lib.hid hown5; have HGR := Lib.hid hgrow5; clear hown5 hgrow5 hwh5))
      have HOw := Lib.hid (VOwn.up _ _ HO.out HG1.out)
      have HG5 := Lib.hid (Below.grown ((HG.out.trans HG1.out).alloc _) HGR.out (by have := HG.out.size; have := HG1.out.size; simp; omega) HO.out.lt)
      go_roundw
      case rel =>
        refine ⟨k + 1, us ++ [.slice A1 n1 c1], by go_num, by omega, HG5.out, H5.out, ?_⟩
        rw [List.take_add_one, HP.out]
        refine All2.snoc (HR.out.imp fun x u hx => ?_) ?_
        · have h1 := VOwn.up _ _ (VOwn.up _ _ hx HG1.out) ((Grow.refl w1).alloc (Obj.cells #[.slice A1 n1 c1] 25))
          exact VOwn.grown h1 HGR.out (VOwn.ne h1 (VOwn.up _ _ HOw.out ((Grow.refl w1).alloc _)) (by decide))
        · have h1 := VOwn.up _ _ HV.out ((Grow.refl w1).alloc (Obj.cells #[.slice A1 n1 c1] 25))
          exact VOwn.grown h1 HGR.out (VOwn.ne h1 (VOwn.up _ _ HOw.out ((Grow.refl w1).alloc _)) (by decide))
      case measure => simp [intOf]; omega
end Go.Proofs.Ytemobphkgbhhhaa
