import Derived.Test.YtemobphkgbhhhaaPrtE
import Derived.Test.YtemobphkgbhhhaaSameT
import Derived.Test.YtemobphkgbhhhaaPlHol
namespace Go.Proofs.Ytemobphkgbhhhaa
open Go.ChangeShapes Go.WideShapes Go.ChangeAt Go.RowKit Go.GrowR
set_option linter.unusedVariables false
set_option linter.unusedSimpArgs false

def SpQ (g : GT) (w : World) (e : Ending) (w' : World) : Prop := ∃ v, e = .returned v ∧ Grow w w' ∧ GV g v w'
theorem geomIn (b j : Nat) (V : Value) (us : List Value) (t : TypeId) (p : Value) (w : World) (hc : w.cell? ⟨b, 1, none⟩ = some V) (hv : VSl V us w) (hj : us[j]? = some (.iface t p)) (hl : us.length ≤ 17592186044416) : Calls Try.prog 42 #[.pointer (some ⟨b, 0, none⟩), .int .i64 (j : Int)] w fun e w' => e = .returned (.iface t p) ∧ w' = w := by
  obtain ⟨A, c, rfl, hcc, hx⟩ := hv
  have hjl : j < us.length := (List.getElem?_eq_some_iff.1 hj).1
  rcases hx with h0 | ⟨bV, oV, rfl, hcell⟩
  · rw [h0] at hjl; simp at hjl
  have hcj := hcell j _ hj
  have hin : (j : Int) < (us.length : Int) := by omega
  clear hcell hj
  generalize us.length = n at *
  go_enter Try.func42, Try.ntmps42
  go_wp2
  go_ret
  exact ⟨rfl, rfl⟩
theorem geomOut (b : Nat) (i : Int) (V : Value) (us : List Value) (w : World) (hc : w.cell? ⟨b, 1, none⟩ = some V) (hv : VSl V us w) (hi : i < 0 ∨ (us.length : Int) ≤ i) (hl : us.length ≤ 17592186044416) : Calls Try.prog 42 #[.pointer (some ⟨b, 0, none⟩), .int .i64 i] w (Fell w) := by
  obtain ⟨A, c, rfl, hcc, hx⟩ := hv
  have hnil : A = none → us.length = 0 := by
    rintro rfl
    rcases hx with h0 | ⟨bV, oV, h0, -⟩
    · rw [h0]; rfl
    · cases h0
  obtain ⟨V1, W1, hg1, hv1, hr1⟩ := indexAt_outs (P := Try.prog) 112 A us.length c i (by kernel_rfl) hnil hi
  clear hx hnil hi
  generalize us.length = n at *
  go_enter Try.func42, Try.ntmps42
  go_wp2
  exact ⟨rfl, fell_mk (hv1 _) ((Grow.refl w).trans (hg1 _))⟩
theorem tv_iface : ∀ {g : GT} {v : Value} {w : World}, TV g v w → ∃ t p, v = .iface t p
  | .mk k l r fl en ens kids, v, w, h => by
    unfold TV at h
    rcases h with ⟨-, b, u, rfl, -⟩ | ⟨-, b, V, us, rfl, -⟩
    · exact ⟨_, _, rfl⟩
    · exact ⟨_, _, rfl⟩
theorem part7_in {l r : Int} {kids : List GT} {kid : GT} (hgood : ∀ g ∈ kids, GoodF g) (hreach : ∀ g ∈ kids, Reach44 g) (hkl : kids.length ≤ 1172812402961) (A1 : Option Addr) (n1 c1 : Nat) (A2 : Option Addr) (n2 c2 : Nat) (A3 : Option Addr) (n3 c3 : Nat) (A4 : Option Addr) (n4 c4 : Nat) (j : Nat) (w : World) (hj : kids[j]? = some kid)
    (hge : ∀ w', Grow w w' → Calls Try.prog 35 #[Geo7 7 l r A1 n1 c1 A2 n2 c2 A3 n3 c3 A4 n4 c4] w' (GQ (.mk 7 l r [] [] [] kids) w')) : Calls Try.prog 18 #[Geo7 7 l r A1 n1 c1 A2 n2 c2 A3 n3 c3 A4 n4 c4, .int .i64 (j : Int)] w (PrQ kid w) := by
  refine partIn7 kid l r j [] [] [] kids A1 n1 c1 A2 n2 c2 A3 n3 c3 A4 n4 c4 w hge fun b w1 htv => ?_
  unfold TV at htv
  rcases htv with ⟨h, -⟩ | ⟨-, b', V, us, he, hc, hown, hus⟩
  · exact absurd rfl h
  have hbb := iface_ptr he
  subst hbb
  obtain ⟨u, hu, htvk⟩ := TVs_at hus hj
  obtain ⟨t, p, rfl⟩ := tv_iface htvk
  have hm := List.mem_of_getElem? hj
  refine (geomIn b j V us t p w1 hc.2.1 (VOwn.sl hown) hu (by rw [TVs_len hus]; omega)).mono ?_
  rintro e w2 ⟨rfl, rfl⟩
  exact ⟨_, rfl, Grow.refl _, fun w3 hg3 => implPlain kid _ w3 (hgood kid hm) (hreach kid hm) (TV.up _ _ _ _ htvk hg3)⟩
theorem part7_out {l r i : Int} {kids : List GT} (hkl : kids.length ≤ 1172812402961) (A1 : Option Addr) (n1 c1 : Nat) (A2 : Option Addr) (n2 c2 : Nat) (A3 : Option Addr) (n3 c3 : Nat) (A4 : Option Addr) (n4 c4 : Nat) (w : World) (hi : i < 0 ∨ (kids.length : Int) ≤ i)
    (hge : ∀ w', Grow w w' → Calls Try.prog 35 #[Geo7 7 l r A1 n1 c1 A2 n2 c2 A3 n3 c3 A4 n4 c4] w' (GQ (.mk 7 l r [] [] [] kids) w')) : Calls Try.prog 18 #[Geo7 7 l r A1 n1 c1 A2 n2 c2 A3 n3 c3 A4 n4 c4, .int .i64 i] w (PrN w) := by
  refine partOut7 l r i [] [] [] kids A1 n1 c1 A2 n2 c2 A3 n3 c3 A4 n4 c4 w hge fun b w1 htv => ?_
  unfold TV at htv
  rcases htv with ⟨h, -⟩ | ⟨-, b', V, us, he, hc, hown, hus⟩
  · exact absurd rfl h
  have hbb := iface_ptr he
  subst hbb
  exact geomOut b i V us w1 hc.2.1 (VOwn.sl hown) (by rw [TVs_len hus]; exact hi) (by rw [TVs_len hus]; omega)
theorem numParts7 (l r : Int) (A1 A2 A3 A4 : Option Addr) (n1 c1 n2 c2 n3 c3 n4 c4 : Nat) (w : World) : Calls Try.prog 19 #[Geo7 7 l r A1 n1 c1 A2 n2 c2 A3 n3 c3 A4 n4 c4] w fun e w' => e = .returned (.int .i64 n4) ∧ Grow w w' := by
  go_enter Try.func19, Try.ntmps19
  go_wp2
  go_ret
  exact ⟨rfl, (Grow.refl w).alloc _⟩
set_option maxRecDepth 100000 in
set_option maxHeartbeats 4000000 in
theorem specPart7 {l r : Int} {fl : List Nat} {en : List Int} {ens : List (List Int)} {kids : List GT} {kid : GT} {j : Nat} (hj : kids[j]? = some kid) (hkl : kids.length ≤ 1172812402961) {v : Value} {w : World} (hgv : GV (.mk 7 l r fl en ens kids) v w) : Calls Try.prog 21 #[v, .int .i64 (j : Int)] w (SpQ kid w) := by
  have hjl : j < kids.length := (List.getElem?_eq_some_iff.1 hj).1
  unfold GV at hgv
  obtain ⟨u, e1, e2, A4, c4, rfl, -, hf, he1, he2, hk⟩ := hgv
  obtain ⟨A2, c2, rfl, -, -⟩ := SlE.form he1
  obtain ⟨A3, c3, rfl, -, -⟩ := SlE.form he2
  obtain ⟨A1, c1, rfl, -, -⟩ := hf
  obtain ⟨b, o, rfl, hgk⟩ := gk_some hk hjl
  obtain ⟨k', l', r', B1, m1, d1, B2, m2, d2, B3, m3, d3, B4, m4, d4, ⟨k0, k1, k2, k3, k4, k5, k6⟩, hkv⟩ := kid_at hgk hj
  have HKV := Lib.hid hkv
  have hb := cell_ltH k0
  have hin : (j : Int) < (kids.length : Int) := by omega
  clear hk hgk hkv hj he1 he2
  generalize kids.length = n at *
  generalize fl.length = f1 at *
  generalize en.length = f2 at *
  generalize ens.length = f3 at *
  go_enter Try.func21, Try.ntmps21
  go_wp2
  refine bodyPost_ret (v := Geo7 k' l' r' B1 m1 d1 B2 m2 d2 B3 m3 d3 B4 m4 d4) (by simp [results, Try.results21, go_sem]) rfl ⟨_, rfl, ?_, ?_⟩
  · exact ((Grow.refl w).alloc _).alloc _
  · exact GV.up _ _ _ _ HKV.out (((Grow.refl w).alloc _).alloc _)
/-- what gHasParts tells *)-/
def HpQ (g : GT) (k : Int) (w : World) (e : Ending) (w' : World) : Prop := ∃ r : Bool, e = .returned (.bool r) ∧ Grow w w' ∧ (r = true → GGood g ∧ 3 ≤ k ∧ k ≤ 7)
theorem HpQ.no {g : GT} {k : Int} {w w' : World} (h : Grow w w') : HpQ g k w (.returned (.bool false)) w' := ⟨false, rfl, h, fun h => by cases h⟩
set_option maxRecDepth 100000 in
set_option maxHeartbeats 4000000 in
theorem gHasParts_calls (k l r : Int) (fl : List Nat) (en : List Int) (ens : List (List Int)) (kids : List GT) (gv : Value) (w : World) (hr : Reach44 (.mk k l r fl en ens kids)) (hv : GV (.mk k l r fl en ens kids) gv w) : Calls Try.prog 17 #[gv] w (HpQ (.mk k l r fl en ens kids) k w) := by
  obtain ⟨k0, l0, r0, fl0, en0, ens0, kids0, A1, c1, A2, c2, A3, c3, A4, c4, he, rfl, -, -, -⟩ := hv.seven
  cases he
  have HGG := Lib.hid (fun b c0 w' (hw : Grow w w') h7 => gGoodT _ b c0 _ _ _ _ _ _ _ _ _ _ _ _ _ _ _ w' hr h7 (GV.up _ _ _ _ hv hw))
  clear hv hr
  go_enter Try.func17, Try.ntmps17
  go_wp2_with fail
  have HA := Lib.hid ((((Grow.refl w).alloc (Obj.cells #[.int .i64 k, .int .i64 l, .int .i64 r, .slice A1 fl.length c1, .slice A2 en.length c2, .slice A3 ens.length c3, .slice A4 kids.length c4] 28)).alloc (Obj.cells #[.int .i64 k, .int .i64 l, .int .i64 r, .slice A1 fl.length c1, .slice A2 en.length c2, .slice A3 ens.length c3, .slice A4 kids.length c4] 28)))
  refine (HGG.out (w.heap.size + 1) _ _ HA.out ⟨by go_simp, by go_simp, by go_simp, by go_simp, by go_simp, by go_simp, by go_simp⟩).mono ?_
  rintro e w1 ⟨r1, rfl, hg1, hr1⟩
  have q0 := up_cell (a := ⟨w.heap.size, 0, none⟩) (v := .int .i64 k) (by go_simp) hg1
  have HG1 := Lib.hid (HA.out.trans hg1)
  have HR1 := Lib.hid hr1
  clear hg1 hr1
  cases r1 with
  | false =>
    clear q0
    go_wp2
    go_ret
    exact HpQ.no HG1.out
  | true =>
    have H1 := Lib.hid (HR1.out (by first | rfl | trivial))
    by_cases h3 : 3 ≤ k
    · by_cases h7 : k ≤ 7
      · have H37 := Lib.hid (And.intro h3 h7)
        go_wp2
        go_ret
        exact ⟨_, rfl, HG1.out, fun _ => ⟨H1.out, H37.out⟩⟩
      · have h7' : decide (k ≤ 7) = false := by simp; omega
        clear h7
        go_wp2
        go_ret
        exact HpQ.no HG1.out
    · have h3' : decide (3 ≤ k) = false := by simp; omega
      clear h3
      go_wp2
      go_ret
      exact HpQ.no HG1.out
end Go.Proofs.Ytemobphkgbhhhaa
