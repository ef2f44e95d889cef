import Derived.Test.YtemobphkgbhhhaaGeo
import Derived.Test.YtemobphkgbhhhaaStrideN
namespace Go.Proofs.Ytemobphkgbhhhaa
open Go.ChangeShapes Go.WideShapes Go.ChangeAt Go.RowKit Go.GrowR
set_option linter.unusedVariables false
set_option linter.unusedSimpArgs false

def AnyInt (w : World) (e : Ending) (w' : World) : Prop := ∃ n : Int, e = .returned (.int .i64 n) ∧ Grow w w'
theorem gk_some {kids : List GT} {A : Option Addr} {w : World} (h : kids = [] ∨ ∃ b o, A = some ⟨b, o, none⟩ ∧ GK kids b o w) {j : Nat} (hj : j < kids.length) : ∃ b o, A = some ⟨b, o, none⟩ ∧ GK kids b o w := by
  rcases h with rfl | h
  · simp at hj
  · exact h
/-- the seven cells of a geometry in a row -/
def Seven (b o : Nat) (k l r : Int) (A1 : Option Addr) (n1 c1 : Nat) (A2 : Option Addr) (n2 c2 : Nat) (A3 : Option Addr) (n3 c3 : Nat) (A4 : Option Addr) (n4 c4 : Nat) (w : World) : Prop :=
  w.cell? ⟨b, o, none⟩ = some (.int .i64 k) ∧ w.cell? ⟨b, o + 1, none⟩ = some (.int .i64 l) ∧ w.cell? ⟨b, o + 2, none⟩ = some (.int .i64 r) ∧ w.cell? ⟨b, o + 3, none⟩ = some (.slice A1 n1 c1) ∧ w.cell? ⟨b, o + 4, none⟩ = some (.slice A2 n2 c2) ∧ w.cell? ⟨b, o + 5, none⟩ = some (.slice A3 n3 c3) ∧ w.cell? ⟨b, o + 6, none⟩ = some (.slice A4 n4 c4)
abbrev Geo7 (k l r : Int) (A1 : Option Addr) (n1 c1 : Nat) (A2 : Option Addr) (n2 c2 : Nat) (A3 : Option Addr) (n3 c3 : Nat) (A4 : Option Addr) (n4 c4 : Nat) : Value := GeoF k l r (.slice A1 n1 c1) (.slice A2 n2 c2) (.slice A3 n3 c3) (.slice A4 n4 c4)
theorem Seven.up {b o : Nat} {k l r : Int} {A1 A2 A3 A4 : Option Addr} {n1 c1 n2 c2 n3 c3 n4 c4 : Nat} : Up (Seven b o k l r A1 n1 c1 A2 n2 c2 A3 n3 c3 A4 n4 c4) := fun _ _ ⟨h0, h1, h2, h3, h4, h5, h6⟩ hg => ⟨up_cell h0 hg, up_cell h1 hg, up_cell h2 hg, up_cell h3 hg, up_cell h4 hg, up_cell h5 hg, up_cell h6 hg⟩
theorem GV.form : ∀ {g : GT} {v : Value} {w : World}, GV g v w → ∃ k l r A1 n1 c1 A2 n2 c2 A3 n3 c3 A4 n4 c4, v = Geo7 k l r A1 n1 c1 A2 n2 c2 A3 n3 c3 A4 n4 c4
  | .mk k l r fl en ens kids, v, w, h => by
    unfold GV at h
    obtain ⟨u, e1, e2, A, c, rfl, -, hfl, hen, hens, -⟩ := h
    obtain ⟨Af, cf, rfl, -, -⟩ := hfl
    obtain ⟨Ae, ce, rfl, -, -⟩ := SlE.form hen
    obtain ⟨Ee, cee, rfl, -, -⟩ := SlE.form hens
    exact ⟨_, _, _, _, _, _, _, _, _, _, _, _, _, _, _, rfl⟩
theorem kid_at {kids : List GT} {b o q : Nat} {g : GT} {w : World} (h : GK kids b o w) (hq : kids[q]? = some g) : ∃ k l r A1 n1 c1 A2 n2 c2 A3 n3 c3 A4 n4 c4, Seven b (o + q * 7) k l r A1 n1 c1 A2 n2 c2 A3 n3 c3 A4 n4 c4 w ∧ GV g (Geo7 k l r A1 n1 c1 A2 n2 c2 A3 n3 c3 A4 n4 c4) w := by
  obtain ⟨v, ⟨v0, v1, v2, v3, v4, v5, v6, rfl, c0, c1, c2, c3, c4, c5, c6⟩, hv⟩ := GK_at h hq
  obtain ⟨k, l, r, A1, n1, c1', A2, n2, c2', A3, n3, c3', A4, n4, c4', he⟩ := hv.form
  simp only [Value.agg.injEq, Array.mk.injEq, List.cons.injEq] at he
  obtain ⟨rfl, rfl, rfl, rfl, rfl, rfl, rfl, -⟩ := he
  exact ⟨k, l, r, A1, n1, c1', A2, n2, c2', A3, n3, c3', A4, n4, c4', ⟨c0, c1, c2, c3, c4, c5, c6⟩, hv⟩
theorem iss_at {e : Value} {nss : List (List Int)} {w : World} (h : ISSl e nss w) {j : Nat} {p : List Int} (hp : nss[j]? = some p) : ∃ b o A c n, e = .slice (some ⟨b, o, none⟩) nss.length n ∧ w.cell? ⟨b, o + j, none⟩ = some (.slice A p.length c) ∧ ISl (.slice A p.length c) p w := by
  obtain ⟨A, c, rfl, -, h'⟩ := SlE.form h
  rcases h' with rfl | ⟨b, o, rfl, h'⟩
  · simp at hp
  · obtain ⟨u, h1, h2⟩ := h' j p hp
    obtain ⟨A', c', rfl, -, -⟩ := SlE.form h2
    exact ⟨b, o, A', c', c, rfl, h1, h2⟩
set_option maxRecDepth 100000 in
set_option maxHeartbeats 4000000 in
theorem weightT : ∀ (g : GT) (v : Value) (most : Int) (w : World), Reach44 g → GV g v w → Calls Try.prog 88 #[v, .int .i64 most] w (AnyInt w) := by
  refine GT.ind fun k l r fl en ens kids ih v most w hr hv => ?_
  obtain ⟨r0, r1, r2, r3, -, -, -, -, -, r8⟩ := hr
  unfold GV at hv
  obtain ⟨u, e1, e2, A, c, rfl, -, hfl, hen, hens, hk⟩ := hv
  obtain ⟨Af, cf, rfl, -, -⟩ := hfl
  obtain ⟨Ae, ce, rfl, -, -⟩ := SlE.form hen
  have HENS := Lib.hid hens
  obtain ⟨Ee, cee, rfl, -, -⟩ := SlE.form hens
  have HK := Lib.hid hk; have IH := Lib.hid ih; have R8 := Lib.hid r8
  clear hen hens hk ih r8
  obtain ⟨W, hW⟩ : ∃ W, W = w.alloc (Obj.cells #[.int .i64 k, .int .i64 l, .int .i64 r, .slice Af fl.length cf, .slice Ae en.length ce, .slice Ee ens.length cee, .slice A kids.length c] 28) := ⟨_, rfl⟩
  have HGW : Hid (Grow w W) := by rw [hW]; exact (Grow.refl w).alloc _
  have D6 := Lib.hid (show W.cell? ⟨w.heap.size, 6, none⟩ = some (.slice A kids.length c) by rw [hW]; go_simp)
  have HWE := Lib.hid hW; clear hW
  go_enter Try.func88, Try.ntmps88
  go_wp2
  rw [← HWE.out]
  clear HWE
  go_loop [5, 7, 21] (fun s x i => ∃ (j : Nat) (m : Int), j ≤ ens.length ∧ i = .int .i64 j ∧ s = .int .i64 m) (fun _ _ i => ens.length - (intOf i).toNat)
  case atStart => exact ⟨0, _, Nat.zero_le _, rfl, rfl⟩
  case round =>
    obtain ⟨j, m, hj, rfl, rfl⟩ := hrel
    by_cases hlt : j < ens.length
    · obtain ⟨p, hp⟩ : ∃ p, ens[j]? = some p := ⟨ens[j], by simp [hlt]⟩
      obtain ⟨b, o, A1, c1, n1, he, hc, -⟩ := iss_at HENS.out hp
      simp only [Value.slice.injEq] at he
      obtain ⟨rfl, -, -⟩ := he
      have hc' := up_cell hc HGW.out
      clear hc hp
      go_wp2
      go_round
      case rel => exact ⟨j + 1, _, by omega, by go_num, rfl⟩
      case measure => simp [intOf]; omega
    · have d6 := D6.out
      go_wp2
      go_loopw [5, 9, 34] (fun s x i wr => ∃ (j : Nat) (m : Int), j ≤ kids.length ∧ i = .int .i64 j ∧ s = .int .i64 m ∧ Grow W wr) (fun _ _ i _ => kids.length - (intOf i).toNat)
      case atStart => exact ⟨0, _, Nat.zero_le _, rfl, rfl, Grow.refl _⟩
      case round =>
        obtain ⟨q, m2, hq, rfl, rfl, hg⟩ := hrel
        have HG := Lib.hid hg
        by_cases hlt2 : q < kids.length
        · obtain ⟨kid, hkid⟩ : ∃ p, kids[q]? = some p := ⟨kids[q], by simp [hlt2]⟩
          obtain ⟨b, o, rfl, hgk⟩ := gk_some HK.out hlt2
          have gw := HGW.out.trans hg
          obtain ⟨k', l', r', A1', n1', c1', A2', n2', c2', A3', n3', c3', A4', n4', c4', h7, hv⟩ := kid_at hgk hkid
          obtain ⟨k0, k1, k2, k3, k4, k5, k6⟩ := Seven.up _ _ h7 gw
          have HKID := Lib.hid (fun most w' (hw : Grow wr w') => IH.out kid (List.mem_of_getElem? hkid) _ most w' (R8.out kid (List.mem_of_getElem? hkid)) (GV.up _ _ _ _ hv (gw.trans hw)))
          clear hv hgk hkid gw hg d6 h7
          have hq1 : IntKind.i64.wrap ((q : Int) + 1) = (q : Int) + 1 := IntWalk.i64_in _ (by omega)
          by_cases hm : most < m2
          · go_wp2
            go_ret
            exact ⟨_, rfl, (HGW.out.trans HG.out).alloc _⟩
          · go_wp2_with (go_at_call 88; refine (HKID.out _ _ ((Grow.refl _).alloc _)).mono ?_; rintro e w5 ⟨n5, rfl, hg5⟩; have HG5 := Lib.hid (HG.out.trans (((Grow.refl _).alloc _).trans hg5)); clear hg5)
            go_roundw
            case rel => exact ⟨q + 1, _, by omega, by go_num, rfl, HG5.out⟩
            case measure => simp [intOf]; omega
        · clear hg d6
          go_wp2
          go_ret
          exact ⟨_, rfl, HGW.out.trans HG.out⟩

def coverI (a b : Int) : Int := if (a = 2 ∧ b = 3) ∨ (a = 3 ∧ b = 2) then 4 else max a b
theorem run_maxI {P : Program} (a b : Int) (ts : Array TypeId) (t : TypeId) (w : World) : (Builtin.max_ ts t #[.int .i64 a, .int .i64 b]).run P w = .ok (.int .i64 (max a b)) w := by
  simp only [Builtin.max_, List.foldlM_cons, List.foldlM_nil, bind_pure]
  have h : (if b > a then b else a) = max a b := by rw [Int.max_def]; split <;> split <;> omega
  show (pure (Value.int .i64 (if b > a then b else a)) : Sem Value).run P w = _
  rw [h]; rfl
set_option maxHeartbeats 2000000 in
theorem cover_calls (a b : Int) (w : World) : Calls Try.prog 101 #[.int .i64 a, .int .i64 b] w fun e w' => e = .returned (.int .i64 (coverI a b)) ∧ w' = w := by
  have hm := run_maxI (P := Try.prog) a b
  by_cases h1 : a = 2
  · subst h1
    by_cases h2 : b = 3
    · subst h2
      clear hm
      go_enter Try.func101, Try.ntmps101
      go_wp2
      go_ret
      exact ⟨by simp [coverI], rfl⟩
    · have R : Hid (coverI 2 b = max 2 b) := by show _ = _; simp [coverI, h2]
      have e3 : (b == 3) = false := by rw [beq_eq_false_iff_ne]; exact h2
      clear h2
      go_enter Try.func101, Try.ntmps101
      go_wp2
      go_ret
      exact ⟨by rw [R.out]; rfl, rfl⟩
  by_cases h3 : a = 3
  · subst h3
    by_cases h2 : b = 2
    · subst h2
      clear hm
      go_enter Try.func101, Try.ntmps101
      go_wp2
      go_ret
      exact ⟨by simp [coverI], rfl⟩
    · have R : Hid (coverI 3 b = max 3 b) := by show _ = _; simp [coverI, h2]
      have e3 : (b == 2) = false := by rw [beq_eq_false_iff_ne]; exact h2
      clear h2
      go_enter Try.func101, Try.ntmps101
      go_wp2
      go_ret
      exact ⟨by rw [R.out]; rfl, rfl⟩
  have R : Hid (coverI a b = max a b) := by show _ = _; simp [coverI, h1, h3]
  have e2 : (a == 2) = false := by rw [beq_eq_false_iff_ne]; exact h1
  have e3 : (a == 3) = false := by rw [beq_eq_false_iff_ne]; exact h3
  clear h1 h3
  go_enter Try.func101, Try.ntmps101
  go_wp2
  go_ret
  exact ⟨by rw [R.out]; rfl, rfl⟩
mutual
def layO : GT → Int
  | .mk k l r fl en ens kids => if k ≠ 7 ∨ l ≠ 0 then l else layOs kids 0
def layOs : List GT → Int → Int
  | [], a => a
  | g :: gs, a => layOs gs (coverI a (layO g))
end
theorem layOs_snoc : ∀ (gs : List GT) (g : GT) (a : Int), layOs (gs ++ [g]) a = coverI (layOs gs a) (layO g)
  | [], g, a => by simp [layOs]
  | g' :: gs, g, a => by simp only [List.cons_append, layOs]; exact layOs_snoc gs g _
set_option maxRecDepth 100000 in
set_option maxHeartbeats 4000000 in
theorem layoutOf_calls : ∀ (g : GT) (v : Value) (w : World), Reach44 g → GV g v w → Calls Try.prog 92 #[v] w fun e w' => e = .returned (.int .i64 (layO g)) ∧ Grow w w' := by
  refine GT.ind fun k l r fl en ens kids ih v w hr hv => ?_
  obtain ⟨r0, r1, r2, r3, -, -, -, -, -, r8⟩ := hr
  have hvf := hv
  obtain ⟨k', l', r', A1, n1, c1, A2, n2, c2, A3, n3, c3, A4, n4, c4, rfl⟩ := hvf.form
  unfold GV at hv
  obtain ⟨u, e1, e2, A, c, he, -, -, -, -, hk⟩ := hv
  simp only [Value.agg.injEq, Array.mk.injEq, List.cons.injEq, Value.int.injEq, Value.slice.injEq, true_and, and_true] at he
  obtain ⟨rfl, rfl, rfl, -, -, -, rfl, rfl, rfl⟩ := he
  have HK := Lib.hid hk; have IH := Lib.hid ih; have R8 := Lib.hid r8
  clear hk ih r8 hvf r0 r1 r2
  by_cases h7 : k' = 7
  case neg =>
    have R : Hid (layO (.mk k' l' r' fl en ens kids) = l') := by show _ = _; simp [layO, h7]
    have e7 : (k' != 7) = true := by simpa using h7
    clear h7
    go_enter Try.func92, Try.ntmps92
    go_wp2
    go_ret
    exact ⟨by rw [R.out]; rfl, (Grow.refl w).alloc _⟩
  subst h7
  by_cases h0 : l' = 0
  case neg =>
    have R : Hid (layO (.mk 7 l' r' fl en ens kids) = l') := by show _ = _; simp [layO, h0]
    have e7 : (l' != 0) = true := by simpa using h0
    clear h0
    go_enter Try.func92, Try.ntmps92
    go_wp2
    go_ret
    exact ⟨by rw [R.out]; rfl, (Grow.refl w).alloc _⟩
  subst h0
  obtain ⟨W, hW⟩ : ∃ W, W = w.alloc (Obj.cells #[.int .i64 7, .int .i64 0, .int .i64 r', .slice A1 n1 c1, .slice A2 n2 c2, .slice A3 n3 c3, .slice A4 kids.length c4] 28) := ⟨_, rfl⟩
  have HGW : Hid (Grow w W) := by rw [hW]; exact (Grow.refl w).alloc _
  have HWE := Lib.hid hW; clear hW
  go_enter Try.func92, Try.ntmps92
  go_wp2
  rw [← HWE.out]
  clear HWE
  go_loopw [3, 5, 19] (fun s x i wr => ∃ (j : Nat), j ≤ kids.length ∧ i = .int .i64 j ∧ s = .int .i64 (layOs (kids.take j) 0) ∧ Grow W wr) (fun _ _ i _ => kids.length - (intOf i).toNat)
  case atStart => exact ⟨0, Nat.zero_le _, rfl, by simp [layOs], Grow.refl _⟩
  case round =>
    obtain ⟨q, hq, rfl, rfl, hg⟩ := hrel
    have HG := Lib.hid hg
    by_cases hlt2 : q < kids.length
    · obtain ⟨kid, hkid⟩ : ∃ p, kids[q]? = some p := ⟨kids[q], by simp [hlt2]⟩
      obtain ⟨b, o, rfl, hgk⟩ := gk_some HK.out hlt2
      have gw := HGW.out.trans hg
      obtain ⟨k', l', r', A1', n1', c1', A2', n2', c2', A3', n3', c3', A4', n4', c4', h7, hv⟩ := kid_at hgk hkid
      obtain ⟨k0, k1, k2, k3, k4, k5, k6⟩ := Seven.up _ _ h7 gw
      have HKID := Lib.hid (fun w' (hw : Grow wr w') => IH.out kid (List.mem_of_getElem? hkid) _ w' (R8.out kid (List.mem_of_getElem? hkid)) (GV.up _ _ _ _ hv (gw.trans hw)))
      have HS : Hid (layOs (kids.take (q + 1)) 0 = coverI (layOs (kids.take q) 0) (layO kid)) := by show _ = _; rw [List.take_add_one, hkid]; exact layOs_snoc _ _ _
      generalize layOs (kids.take q) 0 = cur at *
      generalize layO kid = lk at *
      clear hv hgk hkid gw hg h7
      have hq1 : IntKind.i64.wrap ((q : Int) + 1) = (q : Int) + 1 := IntWalk.i64_in _ (by omega)
      go_wp2_with (first
        | (go_at_call 92; refine (HKID.out _ ((Grow.refl _).alloc _)).mono ?_; rintro e w5 ⟨rfl, hg5⟩; have HG5 := Lib.hid (HG.out.trans (((Grow.refl _).alloc _).trans hg5)); clear hg5)
        | (go_at_call 101; refine (cover_calls _ _ _).mono ?_; rintro e w6 ⟨rfl, rfl⟩))
      go_roundw
      case rel => exact ⟨q + 1, by omega, by go_num, by rw [HS.out], HG5.out⟩
      case measure => simp [intOf]; omega
    · have hqe : q = kids.length := by omega
      have HQ := Lib.hid hqe
      clear hqe hg
      go_wp2
      go_ret
      refine ⟨?_, HGW.out.trans HG.out⟩
      rw [List.take_of_length_le (by have := HQ.out; omega)]
      simp [layO]
end Go.Proofs.Ytemobphkgbhhhaa
