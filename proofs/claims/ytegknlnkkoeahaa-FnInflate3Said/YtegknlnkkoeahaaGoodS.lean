import Derived.Test.YtegknlnkkoeahaaGoodC
namespace Go.Proofs.Ytegknlnkkoeahaa
open Go.ChangeShapes Go.WideShapes Go.ChangeAt Go.RowKit Go.GrowR
set_option linter.unusedVariables false
set_option linter.unusedSimpArgs false
set_option maxHeartbeats 2000000 in
theorem weight0 (k l r most : Int) (A B A4 : Option Addr) (n c m d c4 : Nat) (e2 : Value) (nss : List (List Int)) (w : World) (he2 : ISSl e2 nss w) (hn : n ≤ 2147483647) (hm : m ≤ 2147483647) (hl : nss.length ≤ 2147483647)
    (hl2 : ∀ (i : Nat) (xs : List Int), nss[i]? = some xs → xs.length ≤ 2147483647) :
    Calls Try.prog 81 #[GeoF k l r (.slice A n c) (.slice B m d) e2 (.slice A4 0 c4), .int .i64 most] w (Told' (.int .i64 (weightD n m nss : Nat)) w) := by
  obtain ⟨E, c2, rfl, -, hE⟩ := SlE.form he2
  have HE := Lib.hid hE; clear hE he2
  have hb : ∀ k, lens (nss.take k) ≤ k * 2147483648 := fun k => lens_le (M := 2147483647) hl2 k
  have HB := Lib.hid hb; clear hb
  have HL2 := Lib.hid hl2; clear hl2
  go_enter Try.func81, Try.ntmps81
  go_wp2
  go_loop [5, 21] (fun s i => ∃ k : Nat, k ≤ nss.length ∧ i = .int .i64 k ∧ s = .int .i64 ((1 + n + m + lens (nss.take k) : Nat) : Int)) (fun _ i => nss.length - (intOf i).toNat)
  case atStart => exact ⟨0, Nat.zero_le _, rfl, by simp [lens]⟩
  case round =>
    obtain ⟨j, hj, rfl, rfl⟩ := hrel
    by_cases hlt : j < nss.length
    · obtain ⟨p, hp⟩ : ∃ p, nss[j]? = some p := ⟨nss[j], by simp [hlt]⟩
      rcases HE.out with h0 | ⟨b, o, rfl, hcell⟩
      · exfalso; subst h0; simp at hlt
      obtain ⟨z, hz, hzz⟩ := hcell j p hp
      obtain ⟨A1, c1, rfl, -, -⟩ := SlE.form hzz
      have hz' := up_cell hz ((Grow.refl w).alloc (Obj.cells #[.int .i64 k, .int .i64 l, .int .i64 r, .slice A n c, .slice B m d, .slice (some ⟨b, o, none⟩) nss.length c2, .slice A4 0 c4] 28))
      have hpl := HL2.out j p hp
      have hbj := HB.out j
      have HS := Lib.hid (lens_succ hp)
      clear hcell hp hzz hz
      go_wp2
      go_round
      case rel => exact ⟨j + 1, by omega, by go_num, by rw [HS.out]; go_num⟩
      case measure => simp [intOf]; omega
    · have hje : j = nss.length := by omega
      have HJ := Lib.hid hje; clear hje
      have hbj := HB.out j
      go_wp2
      go_loop [5, 34] (fun s i => i = .int .i64 0 ∧ s = .int .i64 ((1 + n + m + lens (nss.take j) : Nat) : Int)) (fun _ _ => 0)
      case atStart => exact ⟨rfl, rfl⟩
      case round =>
        obtain ⟨rfl, rfl⟩ := hrel
        go_wp2
        go_ret
        refine Told'.mk ?_ ((Grow.refl w).alloc _)
        have ht : nss.take j = nss := List.take_of_length_le (by have := HJ.out; omega)
        unfold weightD
        rw [ht]; rfl

inductive LayF (most : Int) : GT → Prop
  | mk {k l r : Int} {fl : List Nat} {en : List Int} {ens : List (List Int)} {kids : List GT} (h0 : l ≤ most) (h1 : 1 ≤ l ∨ (k = 7 ∧ 0 ≤ l)) (h2 : ∀ g ∈ kids, LayF most g) : LayF most (.mk k l r fl en ens kids)
def LayQ (most : Int) (g : GT) (w : World) (e : Ending) (w' : World) : Prop := ∃ r : Bool, e = .returned (.bool r) ∧ Grow w w' ∧ (r = true → LayF most g)
theorem LayQ.no {most : Int} {g : GT} {w w' : World} (h : Grow w w') : LayQ most g w (.returned (.bool false)) w' := ⟨false, rfl, h, fun h => by cases h⟩
def KidsLay (most : Int) (kids : List GT) (q : Nat) : Prop := ∀ (j : Nat) (g : GT), j < q → kids[j]? = some g → LayF most g
theorem KidsLay.snoc {most : Int} {kids : List GT} {q : Nat} {kid : GT} (h : KidsLay most kids q) (hq : kids[q]? = some kid) (h1 : LayF most kid) : KidsLay most kids (q + 1) := fun j g hj hg => by
  rcases Nat.lt_or_ge j q with hlt | hge
  · exact h j g hlt hg
  · obtain rfl : j = q := by omega
    rw [hq] at hg; cases hg; exact h1
set_option maxRecDepth 100000 in
set_option maxHeartbeats 8000000 in
theorem layoutsT (most : Int) : ∀ (g : GT) (v : Value) (w : World), Reach44 g → GV g v w → Calls Try.prog 82 #[v, .int .i64 most] w (LayQ most g w) := by
  refine GT.ind fun k l r fl en ens kids ih v w hr hv => ?_
  obtain ⟨-, -, -, r3, -, -, -, -, -, r8⟩ := hr
  have hvf := hv
  obtain ⟨k', l', r', A1, n1, c1, A2, n2, c2, A3, n3, c3, A4, n4, c4, rfl⟩ := hvf.form
  unfold GV at hv
  obtain ⟨u, e1, e2, A, c, he, -, -, -, -, hk⟩ := hv
  simp only [Value.agg.injEq, Array.mk.injEq, List.cons.injEq, Value.int.injEq, Value.slice.injEq, true_and, and_true] at he
  obtain ⟨rfl, rfl, rfl, -, -, -, rfl, rfl, rfl⟩ := he
  have HK := Lib.hid hk; have IH := Lib.hid ih; have R8 := Lib.hid r8
  clear hk ih r8 hvf
  obtain ⟨W, hW⟩ : ∃ W, W = w.alloc (Obj.cells #[.int .i64 k', .int .i64 l', .int .i64 r', .slice A1 n1 c1, .slice A2 n2 c2, .slice A3 n3 c3, .slice A4 kids.length c4] 28) := ⟨_, rfl⟩
  have HGW : Hid (Grow w W) := by rw [hW]; exact (Grow.refl w).alloc _
  have D0 := Lib.hid (show W.cell? ⟨w.heap.size, 0, none⟩ = some (.int .i64 k') by rw [hW]; go_simp)
  have D1 := Lib.hid (show W.cell? ⟨w.heap.size, 1, none⟩ = some (.int .i64 l') by rw [hW]; go_simp)
  have HWE := Lib.hid hW; clear hW
  go_enter Try.func82, Try.ntmps82
  go_wp2
  rw [← HWE.out]
  clear HWE
  go_loopw [10] (fun i wr => ∃ (j : Nat), j ≤ kids.length ∧ i = .int .i64 j ∧ KidsLay most kids j ∧ Grow W wr) (fun i _ => kids.length - (intOf i).toNat)
  case atStart => exact ⟨0, Nat.zero_le _, rfl, fun j g hj => by omega, Grow.refl _⟩
  case round =>
    obtain ⟨q, hq, rfl, hall, hg⟩ := hrel
    have HG := Lib.hid hg; have HALL := Lib.hid hall
    clear hall
    by_cases hlt2 : q < kids.length
    · obtain ⟨kid, hkid⟩ : ∃ p, kids[q]? = some p := ⟨kids[q], by simp [hlt2]⟩
      obtain ⟨b, o, rfl, hgk⟩ := gk_some HK.out hlt2
      have gw := HGW.out.trans hg
      obtain ⟨k2', l2', r2', A1', n1', c1', A2', n2', c2', A3', n3', c3', A4', n4', c4', h7, hv⟩ := kid_at hgk hkid
      obtain ⟨k0, k1, k2, k3, k4, k5, k6⟩ := Seven.up _ _ h7 gw
      have HKID := Lib.hid (fun w' (hw : Grow wr w') => IH.out kid (List.mem_of_getElem? hkid) _ w' (R8.out kid (List.mem_of_getElem? hkid)) (GV.up _ _ _ _ hv (gw.trans hw)))
      have HQ := Lib.hid hkid
      clear hv hgk hkid gw hg h7
      have hq1 : IntKind.i64.wrap ((q : Int) + 1) = (q : Int) + 1 := IntWalk.i64_in _ (by omega)
      go_wp2_with (go_at_call 82; refine (HKID.out _ ((Grow.refl _).alloc _)).mono ?_; rintro e w5 ⟨r5, rfl, hg5, hr5⟩; have HG5 := Lib.hid (HG.out.trans (((Grow.refl _).alloc _).trans hg5)); have HR5 := Lib.hid hr5; clear hg5 hr5; cases r5)
      · go_ret
        exact LayQ.no (HGW.out.trans HG5.out)
      · go_roundw
        case rel => exact ⟨q + 1, by omega, by go_num, HALL.out.snoc HQ.out (HR5.out (by first | rfl | trivial)), HG5.out⟩
        case measure => simp [intOf]; omega
    · have hqe : q = kids.length := by omega
      have HQ := Lib.hid hqe
      have d0 := up_cell D0.out hg; have d1 := up_cell D1.out hg
      clear hqe hg
      have HF : Hid (∀ (h0 : l' ≤ most) (h1 : 1 ≤ l' ∨ (k' = 7 ∧ 0 ≤ l')), LayF most (.mk k' l' r' fl en ens kids)) := fun h0 h1 => .mk h0 h1 (fun g hg => by
        obtain ⟨i, hi⟩ := List.mem_iff_getElem?.1 hg
        exact HALL.out i g (by have := (List.getElem?_eq_some_iff.1 hi).1; have := HQ.out; omega) hi)
      by_cases h0 : l' ≤ most
      · by_cases h1 : 1 ≤ l'
        · go_wp2
          go_ret
          exact ⟨_, rfl, HGW.out.trans HG.out, fun _ => HF.out h0 (.inl h1)⟩
        · by_cases h7 : k' = 7
          · subst h7
            by_cases h2 : 0 ≤ l'
            · go_wp2
              go_ret
              exact ⟨_, rfl, HGW.out.trans HG.out, fun _ => HF.out h0 (.inr ⟨by first | rfl | trivial, h2⟩)⟩
            · go_wp2
              go_ret
              exact LayQ.no (HGW.out.trans HG.out)
          · have e7 : (k' == 7) = false := by rw [beq_eq_false_iff_ne]; exact h7
            go_wp2
            go_ret
            exact LayQ.no (HGW.out.trans HG.out)
      · go_wp2
        go_ret
        exact LayQ.no (HGW.out.trans HG.out)
/-- the own lists of a geometry are short -/
def Small31 : GT → Prop
  | .mk k l r fl en ens kids => fl.length ≤ 2147483647 ∧ en.length ≤ 2147483647 ∧ ens.length ≤ 2147483647 ∧ (∀ x ∈ ens, x.length ≤ 2147483647) ∧ kids.length ≤ 2147483647
/-- small, as far as it has no parts -/
def Weight0 : GT → Prop
  | .mk k l r fl en ens kids => kids = [] → weightD fl.length en.length ens ≤ 2000
def SmallQ (g : GT) (w : World) (e : Ending) (w' : World) : Prop := ∃ r : Bool, e = .returned (.bool r) ∧ Grow w w' ∧ (r = true → LayF 9 g ∧ (Small31 g → Weight0 g))
theorem SmallQ.no {g : GT} {w w' : World} (h : Grow w w') : SmallQ g w (.returned (.bool false)) w' := ⟨false, rfl, h, fun h => by cases h⟩
/-- Weight's number, where it is known -/
def WgQ (g : GT) (w : World) (e : Ending) (w' : World) : Prop := ∃ n : Int, e = .returned (.int .i64 n) ∧ Grow w w' ∧ (Small31 g → Weight0 g ∨ (2000 < n ∧ n ≤ 9223372036854775807))
theorem weightQ (g : GT) (v : Value) (w : World) (hr : Reach44 g) (hv : GV g v w) : Calls Try.prog 81 #[v, .int .i64 2000] w (WgQ g w) := by
  by_cases hs : Small31 g
  case neg => exact (weightT g v 2000 w hr hv).mono fun e w' ⟨n, h1, h2⟩ => ⟨n, h1, h2, fun h => absurd h hs⟩
  obtain ⟨k, l, r, fl, en, ens, kids⟩ := g
  cases kids with
  | cons g0 gs => exact (weightT _ v 2000 w hr hv).mono fun e w' ⟨n, h1, h2⟩ => ⟨n, h1, h2, fun _ => .inl (fun h => by cases h)⟩
  | nil =>
    obtain ⟨s1, s2, s3, s4, -⟩ := hs
    unfold GV at hv
    obtain ⟨u, e1, e2, A, c, rfl, -, hfl, hen, hens, -⟩ := hv
    obtain ⟨Af, cf, rfl, -, -⟩ := hfl
    obtain ⟨Ae, ce, rfl, -, -⟩ := SlE.form hen
    exact (weight0 k l r 2000 Af Ae A fl.length cf en.length ce c _ ens w hens s1 s2 s3 (fun i xs hi => s4 xs (List.mem_of_getElem? hi))).mono fun e w' ⟨h1, h2⟩ => ⟨_, h1, h2, fun _ => by
      have hb := lens_le (M := 2147483647) (nss := ens) (fun i xs hi => s4 xs (List.mem_of_getElem? hi)) ens.length
      rw [List.take_length] at hb
      have hb2 : ens.length * (1 + 2147483647) ≤ 2147483647 * (1 + 2147483647) := Nat.mul_le_mul_right _ s3
      by_cases hn : weightD fl.length en.length ens ≤ 2000
      · exact .inl (fun _ => hn)
      · right; unfold weightD at hn ⊢; omega⟩

set_option maxRecDepth 100000 in
set_option maxHeartbeats 8000000 in
theorem gSmallT (g : GT) (b c0 : Nat) (k l r : Int) (A1 : Option Addr) (n1 c1 : Nat) (A2 : Option Addr) (n2 c2 : Nat) (A3 : Option Addr) (n3 c3 : Nat) (A4 : Option Addr) (n4 c4 : Nat) (w : World) (hr : Reach44 g) (h7 : Seven b 0 k l r A1 n1 c1 A2 n2 c2 A3 n3 c3 A4 n4 c4 w) (hv : GV g (Geo7 k l r A1 n1 c1 A2 n2 c2 A3 n3 c3 A4 n4 c4) w) :
    Calls Try.prog 61 #[.slice (some ⟨b, 0, none⟩) 1 c0] w (SmallQ g w) := by
  have HW := Lib.hid (fun w' (hw : Grow w w') => weightQ g _ w' hr (GV.up _ _ _ _ hv hw))
  have HL := Lib.hid (fun w' (hw : Grow w w') => layoutsT 9 g _ w' hr (GV.up _ _ _ _ hv hw))
  have H7 := Lib.hid h7
  clear h7 hv
  go_enter Try.func61, Try.ntmps61
  go_wp2
  go_loopw [3, 8] (fun s i wr => (i = .int .i64 0 ∧ s = .int .i64 2000 ∧ wr = w) ∨ (i = .int .i64 1 ∧ Grow w wr ∧ LayF 9 g ∧ (Small31 g → Weight0 g))) (fun _ i _ => 1 - (intOf i).toNat)
  case atStart => exact .inl ⟨rfl, rfl, rfl⟩
  case round =>
    rcases hrel with ⟨rfl, rfl, rfl⟩ | ⟨rfl, hg, h1, h2⟩
    · obtain ⟨k0, k1, k2, k3, k4, k5, k6⟩ := H7.out
      simp only [Nat.zero_add] at k1 k2 k3 k4 k5 k6
      go_wp2_with fail
      refine (HW.out _ ((Grow.refl _).alloc _)).mono ?_
      rintro e w1 ⟨n, rfl, hg1, hn⟩
      have HN := Lib.hid hn
      obtain ⟨q0, q1, q2, q3, q4, q5, q6⟩ : Seven wr.heap.size 0 k l r A1 n1 c1 A2 n2 c2 A3 n3 c3 A4 n4 c4 w1 := ⟨up_cell (by go_simp) hg1, up_cell (by go_simp) hg1, up_cell (by go_simp) hg1, up_cell (by go_simp) hg1, up_cell (by go_simp) hg1, up_cell (by go_simp) hg1, up_cell (by go_simp) hg1⟩
      simp only [Nat.zero_add] at q1 q2 q3 q4 q5 q6
      have HG1 := Lib.hid (((Grow.refl wr).alloc _).trans hg1)
      clear hn hg1 k0 k1 k2 k3 k4 k5 k6
      obtain ⟨m, hm⟩ : ∃ m, IntKind.i64.wrap (2000 - n) = m := ⟨_, rfl⟩
      have HM := Lib.hid hm
      by_cases hneg : m < 0
      · go_wp2
        go_ret
        exact SmallQ.no HG1.out
      · have HW0 : Hid (Small31 g → Weight0 g) := fun hs => by
          rcases HN.out hs with h | ⟨h1, h2⟩
          · exact h
          · exfalso
            have := HM.out
            rw [IntWalk.i64_in (2000 - n) (by omega)] at this
            omega
        go_wp2_with (go_at_call 82; refine (HL.out _ HG1.out).mono ?_; rintro e w5 ⟨r5, rfl, hg5, hr5⟩; have HG5 := Lib.hid (HG1.out.trans hg5); have HR5 := Lib.hid hr5; clear hg5 hr5; cases r5)
        · go_ret
          exact SmallQ.no HG5.out
        · go_roundw
          case rel => exact .inr ⟨by first | rfl | go_num, HG5.out, HR5.out (by first | rfl | trivial), HW0.out⟩
          case measure => simp [intOf]
    · go_wp2
      go_ret
      exact ⟨true, rfl, hg, fun _ => ⟨h1, h2⟩⟩
end Go.Proofs.Ytegknlnkkoeahaa
