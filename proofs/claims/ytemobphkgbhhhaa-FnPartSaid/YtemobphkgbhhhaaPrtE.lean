import Derived.Test.YtemobphkgbhhhaaPrtD
import Derived.Test.YtemobphkgbhhhaaPlainF
import Derived.Test.YtemobphkgbhhhaaR3M
namespace Go.Proofs.Ytemobphkgbhhhaa
open Go.ChangeShapes Go.WideShapes Go.ChangeAt Go.RowKit Go.GrowR
set_option linter.unusedVariables false
set_option linter.unusedSimpArgs false

/-- what the i-th part of data is; n: how many there are *)-/
inductive PSh (s : Nat) (l : Int) : Int → List Nat → List Int → List (List Int) → List GT → Nat → (Nat → Option GT) → Prop
  | two {k kk : Int} {segs : List (List (List Nat))} (hk : k = 3 ∧ kk = 8 ∨ k = 4 ∧ kk = 1 ∨ k = 5 ∧ kk = 2) (hr : ∀ rows ∈ segs, ∀ r ∈ rows, r.length = s) : PSh s l k (fwd segs) ((cum s 0 segs).map Int.ofNat) [] [] segs.length (fun i => segs[i]?.map fun rows => GT.mk kk l 0 rows.flatten [] [] [])
  | three {segss : List (List (List (List Nat)))} (hr : ∀ segs ∈ segss, ∀ rows ∈ segs, ∀ r ∈ rows, r.length = s) : PSh s l 6 (fwd segss.flatten) [] ((cums s 0 segss).map (·.map Int.ofNat)) [] segss.length (fun i => segss[i]?.map fun segs => GT.mk 3 l 0 (fwd segs) ((cum s 0 segs).map Int.ofNat) [] [])
theorem PSh.ex {s : Nat} {k l : Int} {fl : List Nat} {en : List Int} {ens : List (List Int)} (hs : 0 < s) (h : KindOk k s fl.length en ens) (hk : 3 ≤ k ∧ k ≤ 6) : ∃ n f, PSh s l k fl en ens [] n f := by
  rcases h with ⟨rfl, -⟩ | ⟨h, -⟩ | ⟨h, rfl, h3, h4⟩ | ⟨rfl, rfl, h3, h4⟩
  · omega
  · omega
  · obtain ⟨segs, g1, rfl, rfl⟩ := segs_ex hs en 0 fl h3 (by simpa using h4)
    rcases h with rfl | rfl | rfl
    · exact ⟨_, _, .two (.inl ⟨rfl, rfl⟩) g1⟩
    · exact ⟨_, _, .two (.inr (.inl ⟨rfl, rfl⟩)) g1⟩
    · exact ⟨_, _, .two (.inr (.inr ⟨rfl, rfl⟩)) g1⟩
  · obtain ⟨segss, g1, rfl, rfl⟩ := segss_ex hs ens 0 fl h3 (by simpa using h4)
    exact ⟨_, _, .three g1⟩
theorem iface_ptr {t u : TypeId} {b b' : Nat} (h : Value.iface t (.pointer (some ⟨b, 0, none⟩)) = Value.iface u (.pointer (some ⟨b', 0, none⟩))) : b = b' := by cases h; rfl
theorem obE_of {k l r : Int} {s : Nat} {segs : List (List (List Nat))} {b : Nat} {w : World} (hk : k = 3 ∨ k = 4 ∨ k = 5) (hr : ∀ rows ∈ segs, ∀ r ∈ rows, r.length = s) (hp : PlainG k l (fwd segs) ((cum s 0 segs).map Int.ofNat) [] [] s) (h : TV (.mk k l r (fwd segs) ((cum s 0 segs).map Int.ofNat) [] []) (.iface (tyK k) (.pointer (some ⟨b, 0, none⟩))) w) : ∃ A n c E ce, ObE b l s r A n c E ce segs w := by
  have hwt := hp.wt
  unfold weightD at hwt
  rw [List.length_map, cum_len] at hwt
  unfold TV at h
  rcases h with ⟨-, b', u, he, ho, hown, hev⟩ | ⟨h7, -⟩
  rotate_left
  · exfalso; omega
  have hbb := iface_ptr he
  subst hbb
  rw [hp.st] at ho
  obtain ⟨A, n, c, rfl⟩ := VOwn.isSl hown
  rcases hev with h1 | ⟨-, ev, hc, hw⟩ | ⟨h1, -⟩
  · omega
  · obtain ⟨E, ne, ce, rfl⟩ := VOwn.isSl hw
    obtain ⟨h2, h3⟩ := EndR.of (IOwn.is hw)
    rw [cum_len] at h2
    subst h2
    exact ⟨A, n, c, E, ce, ho, (VOwn.sl hown).f, hc, h3, hr, hp.st, hp.l1, hp.l9, by omega, by omega⟩
  · omega
theorem obA_of {l r : Int} {s : Nat} {segss : List (List (List (List Nat)))} {b : Nat} {w : World} (hr : ∀ segs ∈ segss, ∀ rows ∈ segs, ∀ r ∈ rows, r.length = s) (hp : PlainG 6 l (fwd segss.flatten) [] ((cums s 0 segss).map (·.map Int.ofNat)) [] s) (h : TV (.mk 6 l r (fwd segss.flatten) [] ((cums s 0 segss).map (·.map Int.ofNat)) []) (.iface (tyK 6) (.pointer (some ⟨b, 0, none⟩))) w) : ∃ A n c E ce, ObA b l s r A n c E ce segss w := by
  have hwt := hp.wt
  unfold weightD at hwt
  have hl1 := lens_len ((cums s 0 segss).map (·.map Int.ofNat))
  rw [List.length_map, cums_len] at hl1
  unfold TV at h
  rcases h with ⟨-, b', u, he, ho, hown, hev⟩ | ⟨h7, -⟩
  rotate_left
  · exfalso; omega
  have hbb := iface_ptr he
  subst hbb
  rw [hp.st] at ho
  obtain ⟨A, n, c, rfl⟩ := VOwn.isSl hown
  rcases hev with h1 | ⟨h1, -⟩ | ⟨-, ev, hc, hw⟩
  · omega
  · omega
  · obtain ⟨E, ne, ce, rfl⟩ := IIOwn.isSl hw
    obtain ⟨h2, h3⟩ := EndRR.of (IIOwn.is hw)
    rw [cums_len] at h2
    subst h2
    refine ⟨A, n, c, E, ce, ho, (VOwn.sl hown).f, hc, h3, hr, hp.st, hp.l1, hp.l9, by omega, by omega, fun segs hs => ?_⟩
    obtain ⟨i, hi⟩ := List.mem_iff_getElem?.1 hs
    have h4 := lens_mem (nss := (cums s 0 segss).map (·.map Int.ofNat)) (l := (cum s (0 + (fwd (segss.take i).flatten).length) segs).map Int.ofNat) (List.mem_map.2 ⟨_, List.mem_of_getElem? (cums_at hi), rfl⟩)
    rw [List.length_map, cum_len] at h4
    omega
theorem PSh.part {s : Nat} {k l r : Int} {fl : List Nat} {en : List Int} {ens : List (List Int)} {n : Nat} {f : Nat → Option GT} (h : PSh s l k fl en ens [] n f) (hp : PlainG k l fl en ens [] s) (A1 : Option Addr) (n1 c1 : Nat) (A2 : Option Addr) (n2 c2 : Nat) (A3 : Option Addr) (n3 c3 : Nat) (A4 : Option Addr) (n4 c4 : Nat) (i : Int) (w : World) (hwi : -9223372036854775808 ≤ i ∧ i ≤ 9223372036854775807)
    (hge : ∀ w', Grow w w' → Calls Try.prog 35 #[Geo7 k l r A1 n1 c1 A2 n2 c2 A3 n3 c3 A4 n4 c4] w' (GQ (.mk k l r fl en ens []) w')) :
    ((i < 0 ∨ (n : Int) ≤ i) → Calls Try.prog 18 #[Geo7 k l r A1 n1 c1 A2 n2 c2 A3 n3 c3 A4 n4 c4, .int .i64 i] w (PrN w)) ∧
    (∀ (j : Nat) (kid : GT), i = j → f j = some kid → Calls Try.prog 18 #[Geo7 k l r A1 n1 c1 A2 n2 c2 A3 n3 c3 A4 n4 c4, .int .i64 i] w (PrQ kid w)) := by
  have hfl := hp.flat
  cases h with
  | @two _ kk segs hk hr =>
    have hob := fun b w (h : TV (.mk k l r (fwd segs) ((cum s 0 segs).map Int.ofNat) [] []) (.iface (tyK k) (.pointer (some ⟨b, 0, none⟩))) w) => obE_of (by omega) hr hp h
    have hrl : ∀ (j : Nat) rows, segs[j]? = some rows → rows.flatten.length ≤ 17592186044416 := fun j rows hj => by have := seg_len_le (List.mem_of_getElem? hj); omega
    rcases hk with ⟨rfl, rfl⟩ | ⟨rfl, rfl⟩ | ⟨rfl, rfl⟩
    · refine ⟨fun ho => partOut3 l r i _ _ _ _ A1 n1 c1 A2 n2 c2 A3 n3 c3 A4 n4 c4 w hge fun b w1 htv => ?_, fun j kid hij hk => partIn3 kid l r i _ _ _ _ A1 n1 c1 A2 n2 c2 A3 n3 c3 A4 n4 c4 w hge fun b w1 htv => ?_⟩
      · obtain ⟨A, n, c, E, ce, hO⟩ := hob b w1 htv
        exact ringOut b l s r A n c E ce i segs w1 hO ho hwi
      · obtain ⟨A, n, c, E, ce, hO⟩ := hob b w1 htv
        obtain ⟨rows, hrows, rfl⟩ := Option.map_eq_some_iff.1 hk
        subst hij
        refine (ringIn b l s r A n c E ce j segs rows w1 hO hrows).mono ?_
        rintro e w2 ⟨b2, A', m', c', rfl, ho2, hf2, hg2⟩
        exact ⟨b2, rfl, hg2, fun w3 hg3 => plain8 b2 l 0 s A' m' c' rows.flatten w3 (Obj4.up _ _ ho2 hg3) (FSl.up _ _ hf2 hg3) (hrl j rows hrows)⟩
    · refine ⟨fun ho => partOut4 l r i _ _ _ _ A1 n1 c1 A2 n2 c2 A3 n3 c3 A4 n4 c4 w hge fun b w1 htv => ?_, fun j kid hij hk => partIn4 kid l r i _ _ _ _ A1 n1 c1 A2 n2 c2 A3 n3 c3 A4 n4 c4 w hge fun b w1 htv => ?_⟩
      · obtain ⟨A, n, c, E, ce, hO⟩ := hob b w1 htv
        exact pointOut b l s r A n c E ce i segs w1 hO ho hwi
      · obtain ⟨A, n, c, E, ce, hO⟩ := hob b w1 htv
        obtain ⟨rows, hrows, rfl⟩ := Option.map_eq_some_iff.1 hk
        subst hij
        refine (pointIn b l s r A n c E ce j segs rows w1 hO hrows).mono ?_
        rintro e w2 ⟨b2, A', m', c', rfl, ho2, hf2, hg2⟩
        exact ⟨b2, rfl, hg2, fun w3 hg3 => plain1 b2 l 0 s A' m' c' rows.flatten w3 (Obj4.up _ _ ho2 hg3) (FSl.up _ _ hf2 hg3) (hrl j rows hrows)⟩
    · refine ⟨fun ho => partOut5 l r i _ _ _ _ A1 n1 c1 A2 n2 c2 A3 n3 c3 A4 n4 c4 w hge fun b w1 htv => ?_, fun j kid hij hk => partIn5 kid l r i _ _ _ _ A1 n1 c1 A2 n2 c2 A3 n3 c3 A4 n4 c4 w hge fun b w1 htv => ?_⟩
      · obtain ⟨A, n, c, E, ce, hO⟩ := hob b w1 htv
        exact lineOut b l s r A n c E ce i segs w1 hO ho hwi
      · obtain ⟨A, n, c, E, ce, hO⟩ := hob b w1 htv
        obtain ⟨rows, hrows, rfl⟩ := Option.map_eq_some_iff.1 hk
        subst hij
        refine (lineIn b l s r A n c E ce j segs rows w1 hO hrows).mono ?_
        rintro e w2 ⟨b2, A', m', c', rfl, ho2, hf2, hg2⟩
        exact ⟨b2, rfl, hg2, fun w3 hg3 => plain2 b2 l 0 s A' m' c' rows.flatten w3 (Obj4.up _ _ ho2 hg3) (FSl.up _ _ hf2 hg3) (hrl j rows hrows)⟩
  | @three segss hr =>
    have hob := fun b w (h : TV (.mk 6 l r (fwd segss.flatten) [] ((cums s 0 segss).map (·.map Int.ofNat)) []) (.iface (tyK 6) (.pointer (some ⟨b, 0, none⟩))) w) => obA_of hr hp h
    refine ⟨fun ho => partOut6 l r i _ _ _ _ A1 n1 c1 A2 n2 c2 A3 n3 c3 A4 n4 c4 w hge fun b w1 htv => ?_, fun j kid hij hk => partIn6 kid l r i _ _ _ _ A1 n1 c1 A2 n2 c2 A3 n3 c3 A4 n4 c4 w hge fun b w1 htv => ?_⟩
    · obtain ⟨A, n, c, E, ce, hO⟩ := hob b w1 htv
      exact polyOut b l s r A n c E ce i segss w1 hO ho
    · obtain ⟨A, n, c, E, ce, hO⟩ := hob b w1 htv
      obtain ⟨segs, hsegs, rfl⟩ := Option.map_eq_some_iff.1 hk
      subst hij
      have hm := List.mem_of_getElem? hsegs
      have hfs : (fwd segs).length ≤ 17592186044416 := by have := segs_len_le hm; omega
      have hsl := hO.n3 segs hm
      have fin : ∀ (e : Ending) (w2 : World), PolyObj l s segs w1 e w2 → ∃ b2, e = .returned (.pointer (some ⟨b2, 0, none⟩)) ∧ Grow w1 w2 ∧ ∀ w3, Grow w2 w3 → Calls Try.prog 37 #[.iface 66 (.pointer (some ⟨b2, 0, none⟩))] w3 (PQ (.mk 3 l 0 (fwd segs) ((cum s 0 segs).map Int.ofNat) [] []) w3) := by
        rintro e w2 ⟨b2, A', m', c', E', ce', rfl, ho2, hf2, he2, hi2, hg2⟩
        exact ⟨b2, rfl, hg2, fun w3 hg3 => plain3 b2 l 0 s A' m' c' (fwd segs) E' segs.length ce' _ w3 (Obj4.up _ _ ho2 hg3) (FSl.up _ _ hf2 hg3) hfs (up_cell he2 hg3) (ISl.up _ _ hi2 hg3) (by rw [List.length_map, cum_len]; omega)⟩
      by_cases hne : segs = []
      · subst hne
        exact (polyNone b l s r A n c E ce j segss w1 hO hsegs).mono fin
      · exact (polyIn b l s r A n c E ce j segss segs w1 hO hsegs hne).mono fin
theorem PSh.num {s : Nat} {k l r : Int} {fl : List Nat} {en : List Int} {ens : List (List Int)} {n : Nat} {f : Nat → Option GT} (h : PSh s l k fl en ens [] n f) {v : Value} {w : World} (hgv : GV (.mk k l r fl en ens []) v w) : Calls Try.prog 19 #[v] w fun e w' => e = .returned (.int .i64 n) ∧ Grow w w' := by
  obtain ⟨k0, l0, r0, fl0, en0, ens0, kids0, A1, c1, A2, c2, A3, c3, A4, c4, he, rfl, -, -, -⟩ := hgv.seven
  cases he
  cases h with
  | @two _ kk segs hk hr =>
    have hl : ((cum s 0 segs).map Int.ofNat).length = segs.length := by rw [List.length_map, cum_len]
    rcases hk with ⟨rfl, rfl⟩ | ⟨rfl, rfl⟩ | ⟨rfl, rfl⟩
    · have := numParts3 l r A1 A2 A3 A4 (fwd segs).length c1 ((cum s 0 segs).map Int.ofNat).length c2 0 c3 0 c4 w
      rw [hl] at this ⊢; exact this
    · have := numParts4 l r A1 A2 A3 A4 (fwd segs).length c1 ((cum s 0 segs).map Int.ofNat).length c2 0 c3 0 c4 w
      rw [hl] at this ⊢; exact this
    · have := numParts5 l r A1 A2 A3 A4 (fwd segs).length c1 ((cum s 0 segs).map Int.ofNat).length c2 0 c3 0 c4 w
      rw [hl] at this ⊢; exact this
  | @three segss hr =>
    have hl : ((cums s 0 segss).map (·.map Int.ofNat)).length = segss.length := by rw [List.length_map, cums_len]
    have := numParts6 l r A1 A2 A3 A4 (fwd segss.flatten).length c1 0 c2 ((cums s 0 segss).map (·.map Int.ofNat)).length c3 0 c4 w
    rw [hl] at this ⊢; exact this
theorem PSh.spec {s : Nat} {k l r : Int} {fl : List Nat} {en : List Int} {ens : List (List Int)} {n : Nat} {f : Nat → Option GT} (h : PSh s l k fl en ens [] n f) (hp : PlainG k l fl en ens [] s) {j : Nat} {kid : GT} (hj : f j = some kid) {v : Value} {w : World} (hgv : GV (.mk k l r fl en ens []) v w) : Calls Try.prog 21 #[v, .int .i64 (j : Int)] w (PartQ kid w) := by
  have hfl := hp.flat
  have hwt := hp.wt
  unfold weightD at hwt
  cases h with
  | @two _ kk segs hk hr =>
    obtain ⟨rows, hrows, rfl⟩ := Option.map_eq_some_iff.1 hj
    rw [List.length_map, cum_len] at hwt
    unfold GV at hgv
    obtain ⟨u, e1, e2, A4, c4, rfl, -, hf, he1, he2, -⟩ := hgv
    have hen := he1
    obtain ⟨A2, c2, rfl, -, -⟩ := SlE.form he1
    obtain ⟨A3, c3, rfl, -, -⟩ := SlE.form he2
    obtain ⟨hn2, hE⟩ := EndR.of hen
    have hf2 := hf
    obtain ⟨A1, c1, rfl, -, -⟩ := hf2
    rw [cum_len] at hn2
    exact part2_calls k l r kk A1 A2 A3 A4 _ c1 _ c2 _ c3 _ c4 s j j rfl segs rows w (by omega) (by rcases hk with ⟨rfl, rfl⟩ | ⟨rfl, rfl⟩ | ⟨rfl, rfl⟩ <;> decide) hf hE hn2 hr hrows (by omega) (by omega)
  | @three segss hr =>
    obtain ⟨segs, hsegs, rfl⟩ := Option.map_eq_some_iff.1 hj
    have hl1 := lens_len ((cums s 0 segss).map (·.map Int.ofNat))
    rw [List.length_map, cums_len] at hl1
    unfold GV at hgv
    obtain ⟨u, e1, e2, A4, c4, rfl, -, hf, he1, he2, -⟩ := hgv
    have hens := he2
    obtain ⟨A2, c2, rfl, -, -⟩ := SlE.form he1
    obtain ⟨A3, c3, rfl, hc3, -⟩ := SlE.form he2
    obtain ⟨hn3, hE⟩ := EndRR.of hens
    have hf2 := hf
    obtain ⟨A1, c1, rfl, -, -⟩ := hf2
    rw [cums_len] at hn3
    refine part3_calls l r A1 A2 A3 A4 _ c1 _ c2 _ c3 _ c4 s j j rfl segss segs w hf hE hn3 hc3 hr hsegs (by omega) (by omega) (fun q hq => ?_)
    obtain ⟨i, hi⟩ := List.mem_iff_getElem?.1 hq
    have h4 := lens_mem (nss := (cums s 0 segss).map (·.map Int.ofNat)) (l := (cum s (0 + (fwd (segss.take i).flatten).length) q).map Int.ofNat) (List.mem_map.2 ⟨_, List.mem_of_getElem? (cums_at hi), rfl⟩)
    rw [List.length_map, cum_len] at h4
    omega
end Go.Proofs.Ytemobphkgbhhhaa
