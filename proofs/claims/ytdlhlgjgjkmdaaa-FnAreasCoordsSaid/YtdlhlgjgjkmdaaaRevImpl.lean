import Derived.Test.YtdlhlgjgjkmdaaaRevM
import Derived.Test.YtdlhlgjgjkmdaaaNewI
namespace Go.Proofs.Ytdlhlgjgjkmdaaa
open Go.ChangeShapes Go.WideShapes Go.ChangeAt Go.RowKit Go.GrowR
set_option linter.unusedVariables false
set_option linter.unusedSimpArgs false
theorem idleRev (p0 p1 : Addr) (w : World) :
    CallsD Try.prog 62 #[.pointer (some p0), .pointer (some p1)] .returning w fun e u' w' => e = .returned (.tuple #[]) ∧ u' = .returning ∧ w' = w := by
  refine callsD_of_wpS Try.func62 rfl fun c₀ cs hu => ?_
  apply wpS_seq
  apply wpS_region
  simp [wpOpsS, go_sem, recoverD, hu, Try.ntmps62, Exit.thenS]
  refine wpS_cond (t := false) (by simp [Act.eval, Array.replicate]) ?_
  simp only [Bool.false_eq_true, if_false]
  refine wpS_of_wp ?_
  go_wp2
  cases c₀
  simp_all [bodyPostS, results, Try.results62, Exit.thenS]

/-- the object of a geometry that is no collection, with where it lies *)-/
def GP (k l r : Int) (fl : List Nat) (en : List Int) (ens : List (List Int)) (w : World) (e : Ending) (w' : World) : Prop := ∃ b u, e = .returned (.iface (tyK k) (.pointer (some ⟨b, 0, none⟩))) ∧ w.heap.size ≤ b ∧ Obj4 b l (strideN l) r u w' ∧ FOwn 35 w.heap.size u fl w' ∧ EvK w.heap.size k en ens b w' ∧ Grow w w'
theorem geoPlainB {k l r : Int} {fl : List Nat} {en : List Int} {ens : List (List Int)} {A1 : Option Addr} {c1 : Nat} {A2 : Option Addr} {c2 : Nat} {A3 : Option Addr} {c3 : Nat} {A4 : Option Addr} {c4 : Nat} {w : World} (hu : FSl (.slice A1 fl.length c1) fl w) (he : ISl (.slice A2 en.length c2) en w) (he2 : ISSl (.slice A3 ens.length c3) ens w)
    (hr : Reach44 (.mk k l r fl en ens [])) (h1 : 1 ≤ l) (h9 : l ≤ 9) (hd : KindOk k (strideN l) fl.length en ens) :
    Calls Try.prog 45 #[Geo7 k l r A1 fl.length c1 A2 en.length c2 A3 ens.length c3 A4 0 c4] w (GP k l r fl en ens w) := by
  obtain ⟨s, hs, s2, s9⟩ := stride_nat l h1 h9
  cases hr with
  | mk r0 r1 r2 r3 r4 r5 r6 r7 rk r8 =>
  have q4 : ∀ {k : Int} {e : Ending} {w' : World}, (k = 1 ∨ k = 2 ∨ k = 8) → GObj w.heap.size l r s (tyK k) fl w e w' → GP k l r fl en ens w e w' := fun hk h => by
    obtain ⟨b, u, rfl, hb, ho, hown, hg⟩ := h
    exact ⟨b, u, rfl, hb, by rw [hs]; exact ho, hown, .inl hk, hg⟩
  have q5 : ∀ {k : Int} {e : Ending} {w' : World}, (k = 3 ∨ k = 4 ∨ k = 5) → GObj5 w.heap.size l r s (tyK k) fl (fun ev w' => IOwn w.heap.size ev en w') w e w' → GP k l r fl en ens w e w' := fun hk h => by
    obtain ⟨b, u, ev, rfl, hb, ho, hown, hev, hg⟩ := h
    exact ⟨b, u, rfl, hb, by rw [hs]; exact ho.1, hown, .inr (.inl ⟨hk, ev, ho.2, hev⟩), hg⟩
  have q6 : ∀ {e : Ending} {w' : World}, GObj5 w.heap.size l r s (tyK 6) fl (fun ev w' => IIOwn w.heap.size ev ens w') w e w' → GP 6 l r fl en ens w e w' := fun h => by
    obtain ⟨b, u, ev, rfl, hb, ho, hown, hev, hg⟩ := h
    exact ⟨b, u, rfl, hb, by rw [hs]; exact ho.1, hown, .inr (.inr ⟨rfl, ev, ho.2, hev⟩), hg⟩
  rcases hd with ⟨rfl, h2, h3, h4⟩ | ⟨rfl | rfl, h2, h3⟩ | ⟨rfl | rfl | rfl, h2, h3, h4⟩ | ⟨rfl, h2, h3, h4⟩
  · exact (geometry1 l r s fl A1 c1 A2 _ c2 A3 _ c3 A4 _ c4 w hu r0 h1 h9 hs).mono fun e w' h => q4 (.inl rfl) h
  · exact (geometry2 l r s fl A1 c1 A2 _ c2 A3 _ c3 A4 _ c4 w hu r0 h1 h9 hs).mono fun e w' h => q4 (.inr (.inl rfl)) h
  · exact (geometry8 l r s fl A1 c1 A2 _ c2 A3 _ c3 A4 _ c4 w hu r0 h1 h9 hs).mono fun e w' h => q4 (.inr (.inr rfl)) h
  · exact (geometry3 l r s fl en A1 c1 A2 c2 A3 _ c3 A4 _ c4 w hu he r0 r1 h1 h9 hs).mono fun e w' h => q5 (.inl rfl) h
  · refine (geometry4 l r s fl en A1 c1 A2 c2 A3 _ c3 A4 _ c4 w hu he r0 r1 h1 h9 hs fun h0 => ?_).mono fun e w' h => q5 (.inr (.inl rfl)) h
    subst h0
    simp [lastE] at h4
    exact List.eq_nil_of_length_eq_zero (by omega)
  · exact (geometry5 l r s fl en A1 c1 A2 c2 A3 _ c3 A4 _ c4 w hu he r0 r1 h1 h9 hs).mono fun e w' h => q5 (.inr (.inr rfl)) h
  · exact (geometry6 l r s fl ens A1 c1 A2 _ c2 A3 c3 A4 _ c4 w hu he2 r0 r2 (fun i xs hx => r5 xs (List.mem_of_getElem? hx)) h1 h9 hs).mono fun e w' h => q6 h
theorem own_g {B b : Nat} {l : Int} {A : Option Addr} {n c : Nat} {fl : List Nat} {w : World} (hown : FOwn 35 B (.slice A n c) fl w) (hB : B ≤ w.heap.size) (hc : w.cell? ⟨b, 0, none⟩ = some (.int .i64 l)) : fl.length = n ∧ n ≤ c ∧ ∃ g, B ≤ g ∧ FLg A g fl w ∧ b ≠ g ∧ ∀ (e : TypeId) (B' : Nat) (V : Value) (xs : List Value), e ≠ 35 → VOwn e B' V xs w → ∀ g', V.ownBlock = some g' → g' ≠ g := by
  obtain ⟨A', c', he, hcc, -⟩ := (VOwn.sl hown).f
  simp only [Value.slice.injEq] at he
  obtain ⟨rfl, rfl, rfl⟩ := he
  refine ⟨rfl, hcc, ?_⟩
  by_cases h0 : fl = []
  · exact ⟨w.heap.size, hB, .inl h0, Nat.ne_of_lt (cell_ltH hc), fun e B' V xs _ h g' hg' => by have := own_ltH h g' hg'; omega⟩
  · obtain ⟨g, c2, h1, h2, h3, h4⟩ := VOwn.fb hown (List.length_pos_iff.2 h0)
    simp only [Value.slice.injEq] at h1
    obtain ⟨rfl, -, -⟩ := h1
    refine ⟨g, h3, .inr ⟨rfl, h4⟩, fun e => ?_, fun e B' V xs hne h g' hg' e' => ?_⟩
    · subst e
      obtain ⟨x0, hx0⟩ : ∃ x, fl[0]? = some x := by cases hfl : fl with | nil => exact absurd hfl h0 | cons x t => exact ⟨x, rfl⟩
      have h5 := (h4.2 0 x0 hx0).1
      rw [hc] at h5
      cases h5
    · subst e'
      exact VOwn.ne h hown hne g' hg' rfl
theorem VOwn.g1 {e : TypeId} {B g : Nat} {v : Value} {xs : List Value} {w w' : World} (h : VOwn e B v xs w) (hg : G1 g w w') (hne : ∀ g', v.ownBlock = some g' → g' ≠ g) : VOwn e B v xs w' := by
  refine ⟨h.1, ?_⟩
  rcases h.2 with h | ⟨g', cap, cur, rfl, hb, hh, hr⟩
  · exact .inl h
  · refine .inr ⟨g', cap, cur, rfl, hb, ?_, hr⟩
    rw [hg.block g' ?_ (hne g' rfl)]; exact hh
    rcases Nat.lt_or_ge g' w.heap.size with hlt | hge
    · exact hlt
    · rw [Array.getElem?_eq_none hge] at hh; cases hh
theorem Obj4.g1 {b g : Nat} {l s r : Int} {u : Value} {w w' : World} (h : Obj4 b l s r u w) (hg : G1 g w w') (hne : b ≠ g) : Obj4 b l s r u w' := by
  obtain ⟨c0, c1, c2, c3, c4⟩ := h
  have hb := cell_ltH c0
  exact ⟨(hg.cell b 0 hb hne).trans c0, (hg.cell b 1 hb hne).trans c1, (hg.cell b 2 hb hne).trans c2, (hg.cell b 3 hb hne).trans c3, fun o => (hg.froz b o hb).trans (c4 o)⟩
theorem endC_of {B g : Nat} {A : Option Addr} {n c : Nat} {ns : List Nat} {w : World} (h : IOwn B (.slice A n c) (ns.map Int.ofNat) w) (hne : ∀ g', (Value.slice A n c).ownBlock = some g' → g' ≠ g) : n = ns.length ∧ EndC A g ns w := by
  obtain ⟨A', c', he, hc, hx⟩ := VOwn.sl h
  simp only [Value.slice.injEq, List.length_map] at he
  obtain ⟨rfl, rfl, rfl⟩ := he
  refine ⟨rfl, ?_⟩
  rcases hx with h0 | ⟨b, o, rfl, hx⟩
  · exact .inl (by simpa using h0)
  · exact .inr ⟨b, o, rfl, hne b rfl, fun i x hi => hx i _ (by rw [List.getElem?_map, List.getElem?_map, hi]; rfl)⟩
theorem endCC_of {B g : Nat} {A : Option Addr} {n c : Nat} {nss : List (List Nat)} {w : World} (h : IIOwn B (.slice A n c) (nss.map (·.map Int.ofNat)) w) (hne : ∀ g', (Value.slice A n c).ownBlock = some g' → g' ≠ g) (hni : ∀ (V : Value) (xs : List Value), VOwn 3 B V xs w → ∀ g', V.ownBlock = some g' → g' ≠ g) : n = nss.length ∧ EndCC A g nss w := by
  obtain ⟨us, h1, h2, h3⟩ := h
  simp only [List.length_map] at h2
  obtain ⟨A', c', he, hc, hx⟩ := VOwn.sl h1
  simp only [Value.slice.injEq] at he
  obtain ⟨rfl, rfl, rfl⟩ := he
  refine ⟨h2, ?_⟩
  rcases hx with h0 | ⟨b, o, rfl, hx⟩
  · exact .inl (List.eq_nil_of_length_eq_zero (by rw [← h2, h0]; rfl))
  · refine .inr ⟨b, o, rfl, hne b rfl, fun i l hi => ?_⟩
    have hil : i < us.length := by rw [h2]; exact (List.getElem?_eq_some_iff.1 hi).1
    have hu : us[i]? = some us[i] := by simp [hil]
    have h4 := h3 i us[i] (l.map Int.ofNat) hu (by rw [List.getElem?_map, hi]; rfl)
    have h5 := hx i _ hu
    obtain ⟨A2, n2, c2, h6⟩ := VOwn.isSl h4
    rw [h6] at h4 h5
    obtain ⟨rfl, h7⟩ := endC_of h4 (hni _ _ h4)
    exact ⟨A2, c2, h5, h7⟩
theorem IIOwn.g1 {B g : Nat} {V : Value} {nss : List (List Int)} {w w' : World} (h : IIOwn B V nss w) (hg : G1 g w w') (hne : ∀ g', V.ownBlock = some g' → g' ≠ g) (hni : ∀ (V : Value) (xs : List Value), VOwn 3 B V xs w → ∀ g', V.ownBlock = some g' → g' ≠ g) : IIOwn B V nss w' := by
  obtain ⟨us, h1, h2⟩ := h
  exact ⟨us, VOwn.g1 h1 hg hne, h2.1, fun i u x hu hx => VOwn.g1 (h2.2 i u x hu hx) hg (hni _ _ (h2.2 i u x hu hx))⟩

@[go_sem] theorem taR2 (b : Nat) (w : World) : (Instr.typeAssert (.iface 78 (.pointer (some ⟨b, 0, none⟩))) 70 91 true).run Try.prog w = .ok (.tuple #[.iface 78 (.pointer (some ⟨b, 0, none⟩)), .bool true]) w := by kernel_rfl
theorem mRev2 (b : Nat) (w : World) : (method 328 78 (.pointer (some ⟨b, 0, none⟩)) "Reverse").run Try.prog w = .ok (175, .pointer (some ⟨b, 0, none⟩)) w := by kernel_rfl
set_option maxRecDepth 100000 in
set_option maxHeartbeats 8000000 in
theorem reverse2 (l r : Int) (s : Nat) (fl fl' : List Nat) (en : List Int) (ens : List (List Int)) (A1 : Option Addr) (n1 c1 : Nat) (A2 : Option Addr) (n2 c2 : Nat) (A3 : Option Addr) (n3 c3 : Nat) (A4 : Option Addr) (n4 c4 : Nat) (w : World) (hs0 : 0 < s) (hs9 : s ≤ 9) (hls : strideN l = s) (hrv : Rv s 2 fl fl' en ens) (h44 : Reach44 (.mk 2 l r fl en ens [])) (hge : ∀ w', Grow w w' → Calls Try.prog 45 #[Geo7 2 l r A1 n1 c1 A2 n2 c2 A3 n3 c3 A4 n4 c4] w' (GP 2 l r fl en ens w')) :
    Calls Try.prog 29 #[Geo7 2 l r A1 n1 c1 A2 n2 c2 A3 n3 c3 A4 n4 c4] w (NewR (.mk 2 l r fl' en ens []) w) := by
  have hmf : ∀ (fn : Fn) (first cap : Array Value) (w : World), (Instr.makeFunc fn first cap).run Try.prog w = .ok (.func fn first cap) w := fun _ _ _ _ => rfl
  obtain ⟨q0, q1, q2, q5⟩ : fl.length ≤ 17592186044416 ∧ en.length ≤ 17592186044416 ∧ ens.length ≤ 5864062014805 ∧ ∀ x ∈ ens, x.length ≤ 17592186044416 := by cases h44 with | mk a0 a1 a2 a3 a4 a5 => exact ⟨a0, a1, a2, a5⟩
  have HGE := Lib.hid hge; have HRV := Lib.hid hrv; have HLS := Lib.hid hls; have Q5 := Lib.hid q5
  clear hge hrv hls h44 q5
  go_enter_defers Try.func29, Try.ntmps29
  go_wp2_with fail
  refine (HGE.out _ ((((Grow.refl w).alloc _).alloc _).alloc _)).mono ?_
  rintro e w1 ⟨b, u, rfl, hb, ho, hown, hev, hg1⟩
  obtain ⟨A, n, c, rfl⟩ := VOwn.isSl hown
  obtain ⟨hn, hc, g, hgB, hfl, hbg, hng⟩ := own_g hown hg1.size ho.1
  rw [HLS.out] at ho
  have hm := mRev2 b
  have HG1 := Lib.hid hg1; have HO := Lib.hid ho; have HNG := Lib.hid hng; have HBG := Lib.hid hbg; have HGB := Lib.hid hgB
  have HCC : Hid (Calls Try.prog 175 #[.pointer (some ⟨b, 0, none⟩)] w1 (RevQ A g fl' w1) ∧ en = [] ∧ ens = []) := by
    cases HRV.out with
    | @line _ rows hk hr => exact ⟨gRev1 b l r A g n c s rows w1 HO.out hs0 hs9 (by omega) hc hr hn hfl, rfl, rfl⟩
    | lines hk hr => omega
  have HC : Hid (Calls Try.prog 175 #[.pointer (some ⟨b, 0, none⟩)] w1 (RevQ A g fl' w1)) := HCC.out.1
  have HE1 := Lib.hid HCC.out.2.1; have HE2 := Lib.hid HCC.out.2.2
  have HPL : Hid (∀ w2, G1 g w1 w2 → FLg A g fl' w2 → Calls Try.prog 54 #[.iface 78 (.pointer (some ⟨b, 0, none⟩))] w2 (PQ (.mk 2 l r fl' en ens []) w2)) := fun w2 hg2 hf2 => by
    rw [HE1.out, HE2.out]
    have hl := HRV.out.len
    exact plain2 b l r s A n c fl' w2 (HO.out.g1 hg2 HBG.out) (hf2.fsl (by omega) hc) (by omega)
  clear hg1 ho hng hbg hgB hown hev hfl hn hc HCC
  have htk : tyK 2 = 78 := rfl
  rw [htk]
  clear htk
  go_wp2_with fail
  refine (HC.out).mono ?_
  rintro e w2 ⟨rfl, hf2, hg2⟩
  have HF2 := Lib.hid hf2; have HG2 := Lib.hid hg2
  clear hf2 hg2
  go_wp2_with fail
  refine (HPL.out _ HG2.out HF2.out).mono ?_
  rintro e w3 ⟨v2, rfl, hg3, hst2⟩
  obtain ⟨k', l', r', A1', n1', c1', A2', n2', c2', A3', n3', c3', A4', n4', c4', rfl⟩ := hst2.now.form
  have HST := Lib.hid hst2
  have hg12 := HG2.out.grow HG1.out (fun k hk => by rw [hk]; exact HGB.out)
  have hg := hg12.trans hg3
  have hsz := hg12.size
  simp at hsz
  have y0 := up_cell (a := ⟨w.heap.size + 1, 0, none⟩) (v := .int .i64 0) (by go_simp) hg
  have y1 := up_cell (a := ⟨w.heap.size + 1, 1, none⟩) (v := .int .i64 0) (by go_simp) hg
  have y2 := up_cell (a := ⟨w.heap.size + 1, 2, none⟩) (v := .int .i64 0) (by go_simp) hg
  have y3 := up_cell (a := ⟨w.heap.size + 1, 3, none⟩) (v := .slice none 0 0) (by go_simp) hg
  have y4 := up_cell (a := ⟨w.heap.size + 1, 4, none⟩) (v := .slice none 0 0) (by go_simp) hg
  have y5 := up_cell (a := ⟨w.heap.size + 1, 5, none⟩) (v := .slice none 0 0) (by go_simp) hg
  have y6 := up_cell (a := ⟨w.heap.size + 1, 6, none⟩) (v := .slice none 0 0) (by go_simp) hg
  have y7 := up_cell (a := ⟨w.heap.size + 1 + 1, 0, none⟩) (v := .bool false) (by go_simp) hg
  have f1 : ∀ o, w3.frozen? ⟨w.heap.size + 1, o, none⟩ = false := fun o => (grow_frozen hg _ _ (by simp <;> omega)).trans (by go_simp)
  have f2 : w3.frozen? ⟨w.heap.size + 1 + 1, 0, none⟩ = false := (grow_frozen hg _ _ (by simp <;> omega)).trans (by go_simp)
  have HG := Lib.hid ((((((Grow.refl w).alloc _).alloc _).alloc _)).trans hg)
  have HSZ := Lib.hid hsz
  clear hg hg3 hst2 hsz hg12
  go_wp2
  refine leaves_cons (f := 62) (args := #[.pointer (some ⟨w.heap.size + 1, 0, none⟩), .pointer (some ⟨w.heap.size + 1 + 1, 0, none⟩)]) (by simp) (by simp [go_sem]) ?_
  refine (idleRev ⟨w.heap.size + 1, 0, none⟩ ⟨w.heap.size + 1 + 1, 0, none⟩ _).mono ?_
  rintro e u' w'' ⟨rfl, rfl, rfl⟩
  have hB := HSZ.out
  refine ⟨.tuple #[Geo7 k' l' r' A1' n1' c1' A2' n2' c2' A3' n3' c3' A4' n4' c4', .bool true], by simp [results, Try.results29, go_sem, y0, y1, y2, y3, y4, y5, y6, y7], _, rfl, ((((((((HG.out).setCell (by simp <;> omega) _).setCell (by simp <;> omega) _).setCell (by simp <;> omega) _).setCell (by simp <;> omega) _).setCell (by simp <;> omega) _).setCell (by simp <;> omega) _).setCell (by simp <;> omega) _).setCell (by simp <;> omega) _, (HST.out.move fun k k1 k2 => ?_).now⟩
  have hne : w.heap.size + 1 ≠ k := by omega
  have hne' : k ≠ w.heap.size + 1 := by omega
  have hne2 : w.heap.size + 1 + 1 ≠ k := by omega
  have hne2' : k ≠ w.heap.size + 1 + 1 := by omega
  iterate 8 rw [Below.heap_setCell _ _ _ _ (by first | exact hne | exact hne' | exact hne2 | exact hne2')]

@[go_sem] theorem taR8 (b : Nat) (w : World) : (Instr.typeAssert (.iface 94 (.pointer (some ⟨b, 0, none⟩))) 70 91 true).run Try.prog w = .ok (.tuple #[.iface 94 (.pointer (some ⟨b, 0, none⟩)), .bool true]) w := by kernel_rfl
theorem mRev8 (b : Nat) (w : World) : (method 328 94 (.pointer (some ⟨b, 0, none⟩)) "Reverse").run Try.prog w = .ok (175, .pointer (some ⟨b, 0, none⟩)) w := by kernel_rfl
set_option maxRecDepth 100000 in
set_option maxHeartbeats 8000000 in
theorem reverse8 (l r : Int) (s : Nat) (fl fl' : List Nat) (en : List Int) (ens : List (List Int)) (A1 : Option Addr) (n1 c1 : Nat) (A2 : Option Addr) (n2 c2 : Nat) (A3 : Option Addr) (n3 c3 : Nat) (A4 : Option Addr) (n4 c4 : Nat) (w : World) (hs0 : 0 < s) (hs9 : s ≤ 9) (hls : strideN l = s) (hrv : Rv s 8 fl fl' en ens) (h44 : Reach44 (.mk 8 l r fl en ens [])) (hge : ∀ w', Grow w w' → Calls Try.prog 45 #[Geo7 8 l r A1 n1 c1 A2 n2 c2 A3 n3 c3 A4 n4 c4] w' (GP 8 l r fl en ens w')) :
    Calls Try.prog 29 #[Geo7 8 l r A1 n1 c1 A2 n2 c2 A3 n3 c3 A4 n4 c4] w (NewR (.mk 8 l r fl' en ens []) w) := by
  have hmf : ∀ (fn : Fn) (first cap : Array Value) (w : World), (Instr.makeFunc fn first cap).run Try.prog w = .ok (.func fn first cap) w := fun _ _ _ _ => rfl
  obtain ⟨q0, q1, q2, q5⟩ : fl.length ≤ 17592186044416 ∧ en.length ≤ 17592186044416 ∧ ens.length ≤ 5864062014805 ∧ ∀ x ∈ ens, x.length ≤ 17592186044416 := by cases h44 with | mk a0 a1 a2 a3 a4 a5 => exact ⟨a0, a1, a2, a5⟩
  have HGE := Lib.hid hge; have HRV := Lib.hid hrv; have HLS := Lib.hid hls; have Q5 := Lib.hid q5
  clear hge hrv hls h44 q5
  go_enter_defers Try.func29, Try.ntmps29
  go_wp2_with fail
  refine (HGE.out _ ((((Grow.refl w).alloc _).alloc _).alloc _)).mono ?_
  rintro e w1 ⟨b, u, rfl, hb, ho, hown, hev, hg1⟩
  obtain ⟨A, n, c, rfl⟩ := VOwn.isSl hown
  obtain ⟨hn, hc, g, hgB, hfl, hbg, hng⟩ := own_g hown hg1.size ho.1
  rw [HLS.out] at ho
  have hm := mRev8 b
  have HG1 := Lib.hid hg1; have HO := Lib.hid ho; have HNG := Lib.hid hng; have HBG := Lib.hid hbg; have HGB := Lib.hid hgB
  have HCC : Hid (Calls Try.prog 175 #[.pointer (some ⟨b, 0, none⟩)] w1 (RevQ A g fl' w1) ∧ en = [] ∧ ens = []) := by
    cases HRV.out with
    | @line _ rows hk hr => exact ⟨gRev1 b l r A g n c s rows w1 HO.out hs0 hs9 (by omega) hc hr hn hfl, rfl, rfl⟩
    | lines hk hr => omega
  have HC : Hid (Calls Try.prog 175 #[.pointer (some ⟨b, 0, none⟩)] w1 (RevQ A g fl' w1)) := HCC.out.1
  have HE1 := Lib.hid HCC.out.2.1; have HE2 := Lib.hid HCC.out.2.2
  have HPL : Hid (∀ w2, G1 g w1 w2 → FLg A g fl' w2 → Calls Try.prog 54 #[.iface 94 (.pointer (some ⟨b, 0, none⟩))] w2 (PQ (.mk 8 l r fl' en ens []) w2)) := fun w2 hg2 hf2 => by
    rw [HE1.out, HE2.out]
    have hl := HRV.out.len
    exact plain8 b l r s A n c fl' w2 (HO.out.g1 hg2 HBG.out) (hf2.fsl (by omega) hc) (by omega)
  clear hg1 ho hng hbg hgB hown hev hfl hn hc HCC
  have htk : tyK 8 = 94 := rfl
  rw [htk]
  clear htk
  go_wp2_with fail
  refine (HC.out).mono ?_
  rintro e w2 ⟨rfl, hf2, hg2⟩
  have HF2 := Lib.hid hf2; have HG2 := Lib.hid hg2
  clear hf2 hg2
  go_wp2_with fail
  refine (HPL.out _ HG2.out HF2.out).mono ?_
  rintro e w3 ⟨v2, rfl, hg3, hst2⟩
  obtain ⟨k', l', r', A1', n1', c1', A2', n2', c2', A3', n3', c3', A4', n4', c4', rfl⟩ := hst2.now.form
  have HST := Lib.hid hst2
  have hg12 := HG2.out.grow HG1.out (fun k hk => by rw [hk]; exact HGB.out)
  have hg := hg12.trans hg3
  have hsz := hg12.size
  simp at hsz
  have y0 := up_cell (a := ⟨w.heap.size + 1, 0, none⟩) (v := .int .i64 0) (by go_simp) hg
  have y1 := up_cell (a := ⟨w.heap.size + 1, 1, none⟩) (v := .int .i64 0) (by go_simp) hg
  have y2 := up_cell (a := ⟨w.heap.size + 1, 2, none⟩) (v := .int .i64 0) (by go_simp) hg
  have y3 := up_cell (a := ⟨w.heap.size + 1, 3, none⟩) (v := .slice none 0 0) (by go_simp) hg
  have y4 := up_cell (a := ⟨w.heap.size + 1, 4, none⟩) (v := .slice none 0 0) (by go_simp) hg
  have y5 := up_cell (a := ⟨w.heap.size + 1, 5, none⟩) (v := .slice none 0 0) (by go_simp) hg
  have y6 := up_cell (a := ⟨w.heap.size + 1, 6, none⟩) (v := .slice none 0 0) (by go_simp) hg
  have y7 := up_cell (a := ⟨w.heap.size + 1 + 1, 0, none⟩) (v := .bool false) (by go_simp) hg
  have f1 : ∀ o, w3.frozen? ⟨w.heap.size + 1, o, none⟩ = false := fun o => (grow_frozen hg _ _ (by simp <;> omega)).trans (by go_simp)
  have f2 : w3.frozen? ⟨w.heap.size + 1 + 1, 0, none⟩ = false := (grow_frozen hg _ _ (by simp <;> omega)).trans (by go_simp)
  have HG := Lib.hid ((((((Grow.refl w).alloc _).alloc _).alloc _)).trans hg)
  have HSZ := Lib.hid hsz
  clear hg hg3 hst2 hsz hg12
  go_wp2
  refine leaves_cons (f := 62) (args := #[.pointer (some ⟨w.heap.size + 1, 0, none⟩), .pointer (some ⟨w.heap.size + 1 + 1, 0, none⟩)]) (by simp) (by simp [go_sem]) ?_
  refine (idleRev ⟨w.heap.size + 1, 0, none⟩ ⟨w.heap.size + 1 + 1, 0, none⟩ _).mono ?_
  rintro e u' w'' ⟨rfl, rfl, rfl⟩
  have hB := HSZ.out
  refine ⟨.tuple #[Geo7 k' l' r' A1' n1' c1' A2' n2' c2' A3' n3' c3' A4' n4' c4', .bool true], by simp [results, Try.results29, go_sem, y0, y1, y2, y3, y4, y5, y6, y7], _, rfl, ((((((((HG.out).setCell (by simp <;> omega) _).setCell (by simp <;> omega) _).setCell (by simp <;> omega) _).setCell (by simp <;> omega) _).setCell (by simp <;> omega) _).setCell (by simp <;> omega) _).setCell (by simp <;> omega) _).setCell (by simp <;> omega) _, (HST.out.move fun k k1 k2 => ?_).now⟩
  have hne : w.heap.size + 1 ≠ k := by omega
  have hne' : k ≠ w.heap.size + 1 := by omega
  have hne2 : w.heap.size + 1 + 1 ≠ k := by omega
  have hne2' : k ≠ w.heap.size + 1 + 1 := by omega
  iterate 8 rw [Below.heap_setCell _ _ _ _ (by first | exact hne | exact hne' | exact hne2 | exact hne2')]

@[go_sem] theorem taR3 (b : Nat) (w : World) : (Instr.typeAssert (.iface 93 (.pointer (some ⟨b, 0, none⟩))) 70 91 true).run Try.prog w = .ok (.tuple #[.iface 93 (.pointer (some ⟨b, 0, none⟩)), .bool true]) w := by kernel_rfl
theorem mRev3 (b : Nat) (w : World) : (method 328 93 (.pointer (some ⟨b, 0, none⟩)) "Reverse").run Try.prog w = .ok (187, .pointer (some ⟨b, 0, none⟩)) w := by kernel_rfl
set_option maxRecDepth 100000 in
set_option maxHeartbeats 8000000 in
theorem reverse3 (l r : Int) (s : Nat) (fl fl' : List Nat) (en : List Int) (ens : List (List Int)) (A1 : Option Addr) (n1 c1 : Nat) (A2 : Option Addr) (n2 c2 : Nat) (A3 : Option Addr) (n3 c3 : Nat) (A4 : Option Addr) (n4 c4 : Nat) (w : World) (hs0 : 0 < s) (hs9 : s ≤ 9) (hls : strideN l = s) (hrv : Rv s 3 fl fl' en ens) (h44 : Reach44 (.mk 3 l r fl en ens [])) (hge : ∀ w', Grow w w' → Calls Try.prog 45 #[Geo7 3 l r A1 n1 c1 A2 n2 c2 A3 n3 c3 A4 n4 c4] w' (GP 3 l r fl en ens w')) :
    Calls Try.prog 29 #[Geo7 3 l r A1 n1 c1 A2 n2 c2 A3 n3 c3 A4 n4 c4] w (NewR (.mk 3 l r fl' en ens []) w) := by
  have hmf : ∀ (fn : Fn) (first cap : Array Value) (w : World), (Instr.makeFunc fn first cap).run Try.prog w = .ok (.func fn first cap) w := fun _ _ _ _ => rfl
  obtain ⟨q0, q1, q2, q5⟩ : fl.length ≤ 17592186044416 ∧ en.length ≤ 17592186044416 ∧ ens.length ≤ 5864062014805 ∧ ∀ x ∈ ens, x.length ≤ 17592186044416 := by cases h44 with | mk a0 a1 a2 a3 a4 a5 => exact ⟨a0, a1, a2, a5⟩
  have HGE := Lib.hid hge; have HRV := Lib.hid hrv; have HLS := Lib.hid hls; have Q5 := Lib.hid q5
  clear hge hrv hls h44 q5
  go_enter_defers Try.func29, Try.ntmps29
  go_wp2_with fail
  refine (HGE.out _ ((((Grow.refl w).alloc _).alloc _).alloc _)).mono ?_
  rintro e w1 ⟨b, u, rfl, hb, ho, hown, hev, hg1⟩
  obtain ⟨A, n, c, rfl⟩ := VOwn.isSl hown
  obtain ⟨hn, hc, g, hgB, hfl, hbg, hng⟩ := own_g hown hg1.size ho.1
  rw [HLS.out] at ho
  have hm := mRev3 b
  have HG1 := Lib.hid hg1; have HO := Lib.hid ho; have HNG := Lib.hid hng; have HBG := Lib.hid hbg; have HGB := Lib.hid hgB
  obtain ⟨ev, hec, hie⟩ : ∃ ev, w1.cell? ⟨b, 4, none⟩ = some ev ∧ IOwn _ ev en w1 := by
    rcases hev with h | ⟨-, ev, h1, h2⟩ | ⟨h, -⟩
    · omega
    · exact ⟨ev, h1, h2⟩
    · omega
  obtain ⟨AE, nE, cE, rfl⟩ := VOwn.isSl hie
  have hnE := hng _ _ _ _ (by decide) hie
  have HCC : Hid (Calls Try.prog 187 #[.pointer (some ⟨b, 0, none⟩)] w1 (RevQ A g fl' w1) ∧ ens = []) := by
    cases HRV.out with
    | line hk hr => omega
    | @lines _ segs hk hr =>
      obtain ⟨h1, h2⟩ := endC_of hie hnE
      rw [cum_len] at h1
      subst h1
      exact ⟨gRev2 b l r A g n c s AE cE segs w1 HO.out hs0 hs9 (by omega) hc hr hn (by simpa [cum_len] using q1) hfl hec h2, rfl⟩
  have HC : Hid (Calls Try.prog 187 #[.pointer (some ⟨b, 0, none⟩)] w1 (RevQ A g fl' w1)) := HCC.out.1
  have HE2 := Lib.hid HCC.out.2
  have HIE := Lib.hid hie; have HNE := Lib.hid hnE; have HEC := Lib.hid hec
  have HPL : Hid (∀ w2, G1 g w1 w2 → FLg A g fl' w2 → Calls Try.prog 54 #[.iface 93 (.pointer (some ⟨b, 0, none⟩))] w2 (PQ (.mk 3 l r fl' en ens []) w2)) := fun w2 hg2 hf2 => by
    rw [HE2.out]
    have hl := HRV.out.len
    exact plain3 b l r s A n c fl' AE nE cE en w2 (HO.out.g1 hg2 HBG.out) (hf2.fsl (by omega) hc) (by omega) ((hg2.cell b 4 (cell_ltH HO.out.1) HBG.out).trans HEC.out) (IOwn.is (VOwn.g1 HIE.out hg2 HNE.out)) q1
  clear hie hnE hec
  clear hg1 ho hng hbg hgB hown hev hfl hn hc HCC
  have htk : tyK 3 = 93 := rfl
  rw [htk]
  clear htk
  go_wp2_with fail
  refine (HC.out).mono ?_
  rintro e w2 ⟨rfl, hf2, hg2⟩
  have HF2 := Lib.hid hf2; have HG2 := Lib.hid hg2
  clear hf2 hg2
  go_wp2_with fail
  refine (HPL.out _ HG2.out HF2.out).mono ?_
  rintro e w3 ⟨v2, rfl, hg3, hst2⟩
  obtain ⟨k', l', r', A1', n1', c1', A2', n2', c2', A3', n3', c3', A4', n4', c4', rfl⟩ := hst2.now.form
  have HST := Lib.hid hst2
  have hg12 := HG2.out.grow HG1.out (fun k hk => by rw [hk]; exact HGB.out)
  have hg := hg12.trans hg3
  have hsz := hg12.size
  simp at hsz
  have y0 := up_cell (a := ⟨w.heap.size + 1, 0, none⟩) (v := .int .i64 0) (by go_simp) hg
  have y1 := up_cell (a := ⟨w.heap.size + 1, 1, none⟩) (v := .int .i64 0) (by go_simp) hg
  have y2 := up_cell (a := ⟨w.heap.size + 1, 2, none⟩) (v := .int .i64 0) (by go_simp) hg
  have y3 := up_cell (a := ⟨w.heap.size + 1, 3, none⟩) (v := .slice none 0 0) (by go_simp) hg
  have y4 := up_cell (a := ⟨w.heap.size + 1, 4, none⟩) (v := .slice none 0 0) (by go_simp) hg
  have y5 := up_cell (a := ⟨w.heap.size + 1, 5, none⟩) (v := .slice none 0 0) (by go_simp) hg
  have y6 := up_cell (a := ⟨w.heap.size + 1, 6, none⟩) (v := .slice none 0 0) (by go_simp) hg
  have y7 := up_cell (a := ⟨w.heap.size + 1 + 1, 0, none⟩) (v := .bool false) (by go_simp) hg
  have f1 : ∀ o, w3.frozen? ⟨w.heap.size + 1, o, none⟩ = false := fun o => (grow_frozen hg _ _ (by simp <;> omega)).trans (by go_simp)
  have f2 : w3.frozen? ⟨w.heap.size + 1 + 1, 0, none⟩ = false := (grow_frozen hg _ _ (by simp <;> omega)).trans (by go_simp)
  have HG := Lib.hid ((((((Grow.refl w).alloc _).alloc _).alloc _)).trans hg)
  have HSZ := Lib.hid hsz
  clear hg hg3 hst2 hsz hg12
  go_wp2
  refine leaves_cons (f := 62) (args := #[.pointer (some ⟨w.heap.size + 1, 0, none⟩), .pointer (some ⟨w.heap.size + 1 + 1, 0, none⟩)]) (by simp) (by simp [go_sem]) ?_
  refine (idleRev ⟨w.heap.size + 1, 0, none⟩ ⟨w.heap.size + 1 + 1, 0, none⟩ _).mono ?_
  rintro e u' w'' ⟨rfl, rfl, rfl⟩
  have hB := HSZ.out
  refine ⟨.tuple #[Geo7 k' l' r' A1' n1' c1' A2' n2' c2' A3' n3' c3' A4' n4' c4', .bool true], by simp [results, Try.results29, go_sem, y0, y1, y2, y3, y4, y5, y6, y7], _, rfl, ((((((((HG.out).setCell (by simp <;> omega) _).setCell (by simp <;> omega) _).setCell (by simp <;> omega) _).setCell (by simp <;> omega) _).setCell (by simp <;> omega) _).setCell (by simp <;> omega) _).setCell (by simp <;> omega) _).setCell (by simp <;> omega) _, (HST.out.move fun k k1 k2 => ?_).now⟩
  have hne : w.heap.size + 1 ≠ k := by omega
  have hne' : k ≠ w.heap.size + 1 := by omega
  have hne2 : w.heap.size + 1 + 1 ≠ k := by omega
  have hne2' : k ≠ w.heap.size + 1 + 1 := by omega
  iterate 8 rw [Below.heap_setCell _ _ _ _ (by first | exact hne | exact hne' | exact hne2 | exact hne2')]

@[go_sem] theorem taR4 (b : Nat) (w : World) : (Instr.typeAssert (.iface 96 (.pointer (some ⟨b, 0, none⟩))) 70 91 true).run Try.prog w = .ok (.tuple #[.iface 96 (.pointer (some ⟨b, 0, none⟩)), .bool true]) w := by kernel_rfl
theorem mRev4 (b : Nat) (w : World) : (method 328 96 (.pointer (some ⟨b, 0, none⟩)) "Reverse").run Try.prog w = .ok (187, .pointer (some ⟨b, 0, none⟩)) w := by kernel_rfl
set_option maxRecDepth 100000 in
set_option maxHeartbeats 8000000 in
theorem reverse4 (l r : Int) (s : Nat) (fl fl' : List Nat) (en : List Int) (ens : List (List Int)) (A1 : Option Addr) (n1 c1 : Nat) (A2 : Option Addr) (n2 c2 : Nat) (A3 : Option Addr) (n3 c3 : Nat) (A4 : Option Addr) (n4 c4 : Nat) (w : World) (hs0 : 0 < s) (hs9 : s ≤ 9) (hls : strideN l = s) (hrv : Rv s 4 fl fl' en ens) (h44 : Reach44 (.mk 4 l r fl en ens [])) (hge : ∀ w', Grow w w' → Calls Try.prog 45 #[Geo7 4 l r A1 n1 c1 A2 n2 c2 A3 n3 c3 A4 n4 c4] w' (GP 4 l r fl en ens w')) :
    Calls Try.prog 29 #[Geo7 4 l r A1 n1 c1 A2 n2 c2 A3 n3 c3 A4 n4 c4] w (NewR (.mk 4 l r fl' en ens []) w) := by
  have hmf : ∀ (fn : Fn) (first cap : Array Value) (w : World), (Instr.makeFunc fn first cap).run Try.prog w = .ok (.func fn first cap) w := fun _ _ _ _ => rfl
  obtain ⟨q0, q1, q2, q5⟩ : fl.length ≤ 17592186044416 ∧ en.length ≤ 17592186044416 ∧ ens.length ≤ 5864062014805 ∧ ∀ x ∈ ens, x.length ≤ 17592186044416 := by cases h44 with | mk a0 a1 a2 a3 a4 a5 => exact ⟨a0, a1, a2, a5⟩
  have HGE := Lib.hid hge; have HRV := Lib.hid hrv; have HLS := Lib.hid hls; have Q5 := Lib.hid q5
  clear hge hrv hls h44 q5
  go_enter_defers Try.func29, Try.ntmps29
  go_wp2_with fail
  refine (HGE.out _ ((((Grow.refl w).alloc _).alloc _).alloc _)).mono ?_
  rintro e w1 ⟨b, u, rfl, hb, ho, hown, hev, hg1⟩
  obtain ⟨A, n, c, rfl⟩ := VOwn.isSl hown
  obtain ⟨hn, hc, g, hgB, hfl, hbg, hng⟩ := own_g hown hg1.size ho.1
  rw [HLS.out] at ho
  have hm := mRev4 b
  have HG1 := Lib.hid hg1; have HO := Lib.hid ho; have HNG := Lib.hid hng; have HBG := Lib.hid hbg; have HGB := Lib.hid hgB
  obtain ⟨ev, hec, hie⟩ : ∃ ev, w1.cell? ⟨b, 4, none⟩ = some ev ∧ IOwn _ ev en w1 := by
    rcases hev with h | ⟨-, ev, h1, h2⟩ | ⟨h, -⟩
    · omega
    · exact ⟨ev, h1, h2⟩
    · omega
  obtain ⟨AE, nE, cE, rfl⟩ := VOwn.isSl hie
  have hnE := hng _ _ _ _ (by decide) hie
  have HCC : Hid (Calls Try.prog 187 #[.pointer (some ⟨b, 0, none⟩)] w1 (RevQ A g fl' w1) ∧ ens = []) := by
    cases HRV.out with
    | line hk hr => omega
    | @lines _ segs hk hr =>
      obtain ⟨h1, h2⟩ := endC_of hie hnE
      rw [cum_len] at h1
      subst h1
      exact ⟨gRev2 b l r A g n c s AE cE segs w1 HO.out hs0 hs9 (by omega) hc hr hn (by simpa [cum_len] using q1) hfl hec h2, rfl⟩
  have HC : Hid (Calls Try.prog 187 #[.pointer (some ⟨b, 0, none⟩)] w1 (RevQ A g fl' w1)) := HCC.out.1
  have HE2 := Lib.hid HCC.out.2
  have HIE := Lib.hid hie; have HNE := Lib.hid hnE; have HEC := Lib.hid hec
  have HPL : Hid (∀ w2, G1 g w1 w2 → FLg A g fl' w2 → Calls Try.prog 54 #[.iface 96 (.pointer (some ⟨b, 0, none⟩))] w2 (PQ (.mk 4 l r fl' en ens []) w2)) := fun w2 hg2 hf2 => by
    rw [HE2.out]
    have hl := HRV.out.len
    exact plain4 b l r s A n c fl' AE nE cE en w2 (HO.out.g1 hg2 HBG.out) (hf2.fsl (by omega) hc) (by omega) ((hg2.cell b 4 (cell_ltH HO.out.1) HBG.out).trans HEC.out) (IOwn.is (VOwn.g1 HIE.out hg2 HNE.out)) q1
  clear hie hnE hec
  clear hg1 ho hng hbg hgB hown hev hfl hn hc HCC
  have htk : tyK 4 = 96 := rfl
  rw [htk]
  clear htk
  go_wp2_with fail
  refine (HC.out).mono ?_
  rintro e w2 ⟨rfl, hf2, hg2⟩
  have HF2 := Lib.hid hf2; have HG2 := Lib.hid hg2
  clear hf2 hg2
  go_wp2_with fail
  refine (HPL.out _ HG2.out HF2.out).mono ?_
  rintro e w3 ⟨v2, rfl, hg3, hst2⟩
  obtain ⟨k', l', r', A1', n1', c1', A2', n2', c2', A3', n3', c3', A4', n4', c4', rfl⟩ := hst2.now.form
  have HST := Lib.hid hst2
  have hg12 := HG2.out.grow HG1.out (fun k hk => by rw [hk]; exact HGB.out)
  have hg := hg12.trans hg3
  have hsz := hg12.size
  simp at hsz
  have y0 := up_cell (a := ⟨w.heap.size + 1, 0, none⟩) (v := .int .i64 0) (by go_simp) hg
  have y1 := up_cell (a := ⟨w.heap.size + 1, 1, none⟩) (v := .int .i64 0) (by go_simp) hg
  have y2 := up_cell (a := ⟨w.heap.size + 1, 2, none⟩) (v := .int .i64 0) (by go_simp) hg
  have y3 := up_cell (a := ⟨w.heap.size + 1, 3, none⟩) (v := .slice none 0 0) (by go_simp) hg
  have y4 := up_cell (a := ⟨w.heap.size + 1, 4, none⟩) (v := .slice none 0 0) (by go_simp) hg
  have y5 := up_cell (a := ⟨w.heap.size + 1, 5, none⟩) (v := .slice none 0 0) (by go_simp) hg
  have y6 := up_cell (a := ⟨w.heap.size + 1, 6, none⟩) (v := .slice none 0 0) (by go_simp) hg
  have y7 := up_cell (a := ⟨w.heap.size + 1 + 1, 0, none⟩) (v := .bool false) (by go_simp) hg
  have f1 : ∀ o, w3.frozen? ⟨w.heap.size + 1, o, none⟩ = false := fun o => (grow_frozen hg _ _ (by simp <;> omega)).trans (by go_simp)
  have f2 : w3.frozen? ⟨w.heap.size + 1 + 1, 0, none⟩ = false := (grow_frozen hg _ _ (by simp <;> omega)).trans (by go_simp)
  have HG := Lib.hid ((((((Grow.refl w).alloc _).alloc _).alloc _)).trans hg)
  have HSZ := Lib.hid hsz
  clear hg hg3 hst2 hsz hg12
  go_wp2
  refine leaves_cons (f := 62) (args := #[.pointer (some ⟨w.heap.size + 1, 0, none⟩), .pointer (some ⟨w.heap.size + 1 + 1, 0, none⟩)]) (by simp) (by simp [go_sem]) ?_
  refine (idleRev ⟨w.heap.size + 1, 0, none⟩ ⟨w.heap.size + 1 + 1, 0, none⟩ _).mono ?_
  rintro e u' w'' ⟨rfl, rfl, rfl⟩
  have hB := HSZ.out
  refine ⟨.tuple #[Geo7 k' l' r' A1' n1' c1' A2' n2' c2' A3' n3' c3' A4' n4' c4', .bool true], by simp [results, Try.results29, go_sem, y0, y1, y2, y3, y4, y5, y6, y7], _, rfl, ((((((((HG.out).setCell (by simp <;> omega) _).setCell (by simp <;> omega) _).setCell (by simp <;> omega) _).setCell (by simp <;> omega) _).setCell (by simp <;> omega) _).setCell (by simp <;> omega) _).setCell (by simp <;> omega) _).setCell (by simp <;> omega) _, (HST.out.move fun k k1 k2 => ?_).now⟩
  have hne : w.heap.size + 1 ≠ k := by omega
  have hne' : k ≠ w.heap.size + 1 := by omega
  have hne2 : w.heap.size + 1 + 1 ≠ k := by omega
  have hne2' : k ≠ w.heap.size + 1 + 1 := by omega
  iterate 8 rw [Below.heap_setCell _ _ _ _ (by first | exact hne | exact hne' | exact hne2 | exact hne2')]

@[go_sem] theorem taR5 (b : Nat) (w : World) : (Instr.typeAssert (.iface 99 (.pointer (some ⟨b, 0, none⟩))) 70 91 true).run Try.prog w = .ok (.tuple #[.iface 99 (.pointer (some ⟨b, 0, none⟩)), .bool true]) w := by kernel_rfl
theorem mRev5 (b : Nat) (w : World) : (method 328 99 (.pointer (some ⟨b, 0, none⟩)) "Reverse").run Try.prog w = .ok (187, .pointer (some ⟨b, 0, none⟩)) w := by kernel_rfl
set_option maxRecDepth 100000 in
set_option maxHeartbeats 8000000 in
theorem reverse5 (l r : Int) (s : Nat) (fl fl' : List Nat) (en : List Int) (ens : List (List Int)) (A1 : Option Addr) (n1 c1 : Nat) (A2 : Option Addr) (n2 c2 : Nat) (A3 : Option Addr) (n3 c3 : Nat) (A4 : Option Addr) (n4 c4 : Nat) (w : World) (hs0 : 0 < s) (hs9 : s ≤ 9) (hls : strideN l = s) (hrv : Rv s 5 fl fl' en ens) (h44 : Reach44 (.mk 5 l r fl en ens [])) (hge : ∀ w', Grow w w' → Calls Try.prog 45 #[Geo7 5 l r A1 n1 c1 A2 n2 c2 A3 n3 c3 A4 n4 c4] w' (GP 5 l r fl en ens w')) :
    Calls Try.prog 29 #[Geo7 5 l r A1 n1 c1 A2 n2 c2 A3 n3 c3 A4 n4 c4] w (NewR (.mk 5 l r fl' en ens []) w) := by
  have hmf : ∀ (fn : Fn) (first cap : Array Value) (w : World), (Instr.makeFunc fn first cap).run Try.prog w = .ok (.func fn first cap) w := fun _ _ _ _ => rfl
  obtain ⟨q0, q1, q2, q5⟩ : fl.length ≤ 17592186044416 ∧ en.length ≤ 17592186044416 ∧ ens.length ≤ 5864062014805 ∧ ∀ x ∈ ens, x.length ≤ 17592186044416 := by cases h44 with | mk a0 a1 a2 a3 a4 a5 => exact ⟨a0, a1, a2, a5⟩
  have HGE := Lib.hid hge; have HRV := Lib.hid hrv; have HLS := Lib.hid hls; have Q5 := Lib.hid q5
  clear hge hrv hls h44 q5
  go_enter_defers Try.func29, Try.ntmps29
  go_wp2_with fail
  refine (HGE.out _ ((((Grow.refl w).alloc _).alloc _).alloc _)).mono ?_
  rintro e w1 ⟨b, u, rfl, hb, ho, hown, hev, hg1⟩
  obtain ⟨A, n, c, rfl⟩ := VOwn.isSl hown
  obtain ⟨hn, hc, g, hgB, hfl, hbg, hng⟩ := own_g hown hg1.size ho.1
  rw [HLS.out] at ho
  have hm := mRev5 b
  have HG1 := Lib.hid hg1; have HO := Lib.hid ho; have HNG := Lib.hid hng; have HBG := Lib.hid hbg; have HGB := Lib.hid hgB
  obtain ⟨ev, hec, hie⟩ : ∃ ev, w1.cell? ⟨b, 4, none⟩ = some ev ∧ IOwn _ ev en w1 := by
    rcases hev with h | ⟨-, ev, h1, h2⟩ | ⟨h, -⟩
    · omega
    · exact ⟨ev, h1, h2⟩
    · omega
  obtain ⟨AE, nE, cE, rfl⟩ := VOwn.isSl hie
  have hnE := hng _ _ _ _ (by decide) hie
  have HCC : Hid (Calls Try.prog 187 #[.pointer (some ⟨b, 0, none⟩)] w1 (RevQ A g fl' w1) ∧ ens = []) := by
    cases HRV.out with
    | line hk hr => omega
    | @lines _ segs hk hr =>
      obtain ⟨h1, h2⟩ := endC_of hie hnE
      rw [cum_len] at h1
      subst h1
      exact ⟨gRev2 b l r A g n c s AE cE segs w1 HO.out hs0 hs9 (by omega) hc hr hn (by simpa [cum_len] using q1) hfl hec h2, rfl⟩
  have HC : Hid (Calls Try.prog 187 #[.pointer (some ⟨b, 0, none⟩)] w1 (RevQ A g fl' w1)) := HCC.out.1
  have HE2 := Lib.hid HCC.out.2
  have HIE := Lib.hid hie; have HNE := Lib.hid hnE; have HEC := Lib.hid hec
  have HPL : Hid (∀ w2, G1 g w1 w2 → FLg A g fl' w2 → Calls Try.prog 54 #[.iface 99 (.pointer (some ⟨b, 0, none⟩))] w2 (PQ (.mk 5 l r fl' en ens []) w2)) := fun w2 hg2 hf2 => by
    rw [HE2.out]
    have hl := HRV.out.len
    exact plain5 b l r s A n c fl' AE nE cE en w2 (HO.out.g1 hg2 HBG.out) (hf2.fsl (by omega) hc) (by omega) ((hg2.cell b 4 (cell_ltH HO.out.1) HBG.out).trans HEC.out) (IOwn.is (VOwn.g1 HIE.out hg2 HNE.out)) q1
  clear hie hnE hec
  clear hg1 ho hng hbg hgB hown hev hfl hn hc HCC
  have htk : tyK 5 = 99 := rfl
  rw [htk]
  clear htk
  go_wp2_with fail
  refine (HC.out).mono ?_
  rintro e w2 ⟨rfl, hf2, hg2⟩
  have HF2 := Lib.hid hf2; have HG2 := Lib.hid hg2
  clear hf2 hg2
  go_wp2_with fail
  refine (HPL.out _ HG2.out HF2.out).mono ?_
  rintro e w3 ⟨v2, rfl, hg3, hst2⟩
  obtain ⟨k', l', r', A1', n1', c1', A2', n2', c2', A3', n3', c3', A4', n4', c4', rfl⟩ := hst2.now.form
  have HST := Lib.hid hst2
  have hg12 := HG2.out.grow HG1.out (fun k hk => by rw [hk]; exact HGB.out)
  have hg := hg12.trans hg3
  have hsz := hg12.size
  simp at hsz
  have y0 := up_cell (a := ⟨w.heap.size + 1, 0, none⟩) (v := .int .i64 0) (by go_simp) hg
  have y1 := up_cell (a := ⟨w.heap.size + 1, 1, none⟩) (v := .int .i64 0) (by go_simp) hg
  have y2 := up_cell (a := ⟨w.heap.size + 1, 2, none⟩) (v := .int .i64 0) (by go_simp) hg
  have y3 := up_cell (a := ⟨w.heap.size + 1, 3, none⟩) (v := .slice none 0 0) (by go_simp) hg
  have y4 := up_cell (a := ⟨w.heap.size + 1, 4, none⟩) (v := .slice none 0 0) (by go_simp) hg
  have y5 := up_cell (a := ⟨w.heap.size + 1, 5, none⟩) (v := .slice none 0 0) (by go_simp) hg
  have y6 := up_cell (a := ⟨w.heap.size + 1, 6, none⟩) (v := .slice none 0 0) (by go_simp) hg
  have y7 := up_cell (a := ⟨w.heap.size + 1 + 1, 0, none⟩) (v := .bool false) (by go_simp) hg
  have f1 : ∀ o, w3.frozen? ⟨w.heap.size + 1, o, none⟩ = false := fun o => (grow_frozen hg _ _ (by simp <;> omega)).trans (by go_simp)
  have f2 : w3.frozen? ⟨w.heap.size + 1 + 1, 0, none⟩ = false := (grow_frozen hg _ _ (by simp <;> omega)).trans (by go_simp)
  have HG := Lib.hid ((((((Grow.refl w).alloc _).alloc _).alloc _)).trans hg)
  have HSZ := Lib.hid hsz
  clear hg hg3 hst2 hsz hg12
  go_wp2
  refine leaves_cons (f := 62) (args := #[.pointer (some ⟨w.heap.size + 1, 0, none⟩), .pointer (some ⟨w.heap.size + 1 + 1, 0, none⟩)]) (by simp) (by simp [go_sem]) ?_
  refine (idleRev ⟨w.heap.size + 1, 0, none⟩ ⟨w.heap.size + 1 + 1, 0, none⟩ _).mono ?_
  rintro e u' w'' ⟨rfl, rfl, rfl⟩
  have hB := HSZ.out
  refine ⟨.tuple #[Geo7 k' l' r' A1' n1' c1' A2' n2' c2' A3' n3' c3' A4' n4' c4', .bool true], by simp [results, Try.results29, go_sem, y0, y1, y2, y3, y4, y5, y6, y7], _, rfl, ((((((((HG.out).setCell (by simp <;> omega) _).setCell (by simp <;> omega) _).setCell (by simp <;> omega) _).setCell (by simp <;> omega) _).setCell (by simp <;> omega) _).setCell (by simp <;> omega) _).setCell (by simp <;> omega) _).setCell (by simp <;> omega) _, (HST.out.move fun k k1 k2 => ?_).now⟩
  have hne : w.heap.size + 1 ≠ k := by omega
  have hne' : k ≠ w.heap.size + 1 := by omega
  have hne2 : w.heap.size + 1 + 1 ≠ k := by omega
  have hne2' : k ≠ w.heap.size + 1 + 1 := by omega
  iterate 8 rw [Below.heap_setCell _ _ _ _ (by first | exact hne | exact hne' | exact hne2 | exact hne2')]

@[go_sem] theorem taR6 (b : Nat) (w : World) : (Instr.typeAssert (.iface 101 (.pointer (some ⟨b, 0, none⟩))) 70 91 true).run Try.prog w = .ok (.tuple #[.iface 101 (.pointer (some ⟨b, 0, none⟩)), .bool true]) w := by kernel_rfl
theorem mRev6 (b : Nat) (w : World) : (method 328 101 (.pointer (some ⟨b, 0, none⟩)) "Reverse").run Try.prog w = .ok (201, .pointer (some ⟨b, 0, none⟩)) w := by kernel_rfl
set_option maxRecDepth 100000 in
set_option maxHeartbeats 8000000 in
theorem reverse6 (l r : Int) (s : Nat) (fl fl' : List Nat) (en : List Int) (ens : List (List Int)) (A1 : Option Addr) (n1 c1 : Nat) (A2 : Option Addr) (n2 c2 : Nat) (A3 : Option Addr) (n3 c3 : Nat) (A4 : Option Addr) (n4 c4 : Nat) (w : World) (hs0 : 0 < s) (hs9 : s ≤ 9) (hls : strideN l = s) (hrv : Rv s 6 fl fl' en ens) (h44 : Reach44 (.mk 6 l r fl en ens [])) (hge : ∀ w', Grow w w' → Calls Try.prog 45 #[Geo7 6 l r A1 n1 c1 A2 n2 c2 A3 n3 c3 A4 n4 c4] w' (GP 6 l r fl en ens w')) :
    Calls Try.prog 29 #[Geo7 6 l r A1 n1 c1 A2 n2 c2 A3 n3 c3 A4 n4 c4] w (NewR (.mk 6 l r fl' en ens []) w) := by
  have hmf : ∀ (fn : Fn) (first cap : Array Value) (w : World), (Instr.makeFunc fn first cap).run Try.prog w = .ok (.func fn first cap) w := fun _ _ _ _ => rfl
  obtain ⟨q0, q1, q2, q5⟩ : fl.length ≤ 17592186044416 ∧ en.length ≤ 17592186044416 ∧ ens.length ≤ 5864062014805 ∧ ∀ x ∈ ens, x.length ≤ 17592186044416 := by cases h44 with | mk a0 a1 a2 a3 a4 a5 => exact ⟨a0, a1, a2, a5⟩
  have HGE := Lib.hid hge; have HRV := Lib.hid hrv; have HLS := Lib.hid hls; have Q5 := Lib.hid q5
  clear hge hrv hls h44 q5
  go_enter_defers Try.func29, Try.ntmps29
  go_wp2_with fail
  refine (HGE.out _ ((((Grow.refl w).alloc _).alloc _).alloc _)).mono ?_
  rintro e w1 ⟨b, u, rfl, hb, ho, hown, hev, hg1⟩
  obtain ⟨A, n, c, rfl⟩ := VOwn.isSl hown
  obtain ⟨hn, hc, g, hgB, hfl, hbg, hng⟩ := own_g hown hg1.size ho.1
  rw [HLS.out] at ho
  have hm := mRev6 b
  have HG1 := Lib.hid hg1; have HO := Lib.hid ho; have HNG := Lib.hid hng; have HBG := Lib.hid hbg; have HGB := Lib.hid hgB
  obtain ⟨ev, hec, hie⟩ : ∃ ev, w1.cell? ⟨b, 4, none⟩ = some ev ∧ IIOwn _ ev ens w1 := by
    rcases hev with h | ⟨h, -⟩ | ⟨-, ev, h1, h2⟩
    · omega
    · omega
    · exact ⟨ev, h1, h2⟩
  obtain ⟨AE, nE, cE, rfl⟩ : ∃ A n c, ev = .slice A n c := by obtain ⟨us, h1, -⟩ := hie; exact VOwn.isSl h1
  have hnE : ∀ g', (Value.slice AE nE cE).ownBlock = some g' → g' ≠ g := by obtain ⟨us, h1, -⟩ := hie; exact hng _ _ _ _ (by decide) h1
  have hnI : ∀ (B' : Nat) (V : Value) (xs : List Value), VOwn 3 B' V xs w1 → ∀ g', V.ownBlock = some g' → g' ≠ g := fun B' V xs h => hng _ _ _ _ (by decide) h
  have HCC : Hid (Calls Try.prog 201 #[.pointer (some ⟨b, 0, none⟩)] w1 (RevQ A g fl' w1) ∧ en = []) := by
    cases HRV.out with
    | line hk hr => omega
    | lines hk hr => omega
    | @areas segss hr =>
      obtain ⟨h1, h2⟩ := endCC_of hie hnE (hnI _)
      rw [cums_len] at h1
      subst h1
      exact ⟨gRev3 b l r A g n c s AE cE segss w1 HO.out hs0 hs9 (by omega) hc hr hn (by simp [cums_len] at q2; omega) (fun segs h => by
        obtain ⟨i, hi⟩ := List.mem_iff_getElem?.1 h
        have h3 := Q5.out ((cum s (0 + (fwd (segss.take i).flatten).length) segs).map Int.ofNat) (List.mem_map.2 ⟨_, List.mem_of_getElem? (cums_at hi), rfl⟩)
        simpa [cum_len] using h3) hfl hec h2, rfl⟩
  have HC : Hid (Calls Try.prog 201 #[.pointer (some ⟨b, 0, none⟩)] w1 (RevQ A g fl' w1)) := HCC.out.1
  have HE2 := Lib.hid HCC.out.2
  have HIE := Lib.hid hie; have HNE := Lib.hid hnE; have HEC := Lib.hid hec; have HNI := Lib.hid hnI
  have HPL : Hid (∀ w2, G1 g w1 w2 → FLg A g fl' w2 → Calls Try.prog 54 #[.iface 101 (.pointer (some ⟨b, 0, none⟩))] w2 (PQ (.mk 6 l r fl' en ens []) w2)) := fun w2 hg2 hf2 => by
    rw [HE2.out]
    have hl := HRV.out.len
    exact plain6 b l r s A n c fl' AE nE cE ens w2 (HO.out.g1 hg2 HBG.out) (hf2.fsl (by omega) hc) (by omega) ((hg2.cell b 4 (cell_ltH HO.out.1) HBG.out).trans HEC.out) (IIOwn.is (IIOwn.g1 HIE.out hg2 HNE.out (HNI.out _))) q2 Q5.out
  clear hie hnE hec hnI
  clear hg1 ho hng hbg hgB hown hev hfl hn hc HCC
  have htk : tyK 6 = 101 := rfl
  rw [htk]
  clear htk
  go_wp2_with fail
  refine (HC.out).mono ?_
  rintro e w2 ⟨rfl, hf2, hg2⟩
  have HF2 := Lib.hid hf2; have HG2 := Lib.hid hg2
  clear hf2 hg2
  go_wp2_with fail
  refine (HPL.out _ HG2.out HF2.out).mono ?_
  rintro e w3 ⟨v2, rfl, hg3, hst2⟩
  obtain ⟨k', l', r', A1', n1', c1', A2', n2', c2', A3', n3', c3', A4', n4', c4', rfl⟩ := hst2.now.form
  have HST := Lib.hid hst2
  have hg12 := HG2.out.grow HG1.out (fun k hk => by rw [hk]; exact HGB.out)
  have hg := hg12.trans hg3
  have hsz := hg12.size
  simp at hsz
  have y0 := up_cell (a := ⟨w.heap.size + 1, 0, none⟩) (v := .int .i64 0) (by go_simp) hg
  have y1 := up_cell (a := ⟨w.heap.size + 1, 1, none⟩) (v := .int .i64 0) (by go_simp) hg
  have y2 := up_cell (a := ⟨w.heap.size + 1, 2, none⟩) (v := .int .i64 0) (by go_simp) hg
  have y3 := up_cell (a := ⟨w.heap.size + 1, 3, none⟩) (v := .slice none 0 0) (by go_simp) hg
  have y4 := up_cell (a := ⟨w.heap.size + 1, 4, none⟩) (v := .slice none 0 0) (by go_simp) hg
  have y5 := up_cell (a := ⟨w.heap.size + 1, 5, none⟩) (v := .slice none 0 0) (by go_simp) hg
  have y6 := up_cell (a := ⟨w.heap.size + 1, 6, none⟩) (v := .slice none 0 0) (by go_simp) hg
  have y7 := up_cell (a := ⟨w.heap.size + 1 + 1, 0, none⟩) (v := .bool false) (by go_simp) hg
  have f1 : ∀ o, w3.frozen? ⟨w.heap.size + 1, o, none⟩ = false := fun o => (grow_frozen hg _ _ (by simp <;> omega)).trans (by go_simp)
  have f2 : w3.frozen? ⟨w.heap.size + 1 + 1, 0, none⟩ = false := (grow_frozen hg _ _ (by simp <;> omega)).trans (by go_simp)
  have HG := Lib.hid ((((((Grow.refl w).alloc _).alloc _).alloc _)).trans hg)
  have HSZ := Lib.hid hsz
  clear hg hg3 hst2 hsz hg12
  go_wp2
  refine leaves_cons (f := 62) (args := #[.pointer (some ⟨w.heap.size + 1, 0, none⟩), .pointer (some ⟨w.heap.size + 1 + 1, 0, none⟩)]) (by simp) (by simp [go_sem]) ?_
  refine (idleRev ⟨w.heap.size + 1, 0, none⟩ ⟨w.heap.size + 1 + 1, 0, none⟩ _).mono ?_
  rintro e u' w'' ⟨rfl, rfl, rfl⟩
  have hB := HSZ.out
  refine ⟨.tuple #[Geo7 k' l' r' A1' n1' c1' A2' n2' c2' A3' n3' c3' A4' n4' c4', .bool true], by simp [results, Try.results29, go_sem, y0, y1, y2, y3, y4, y5, y6, y7], _, rfl, ((((((((HG.out).setCell (by simp <;> omega) _).setCell (by simp <;> omega) _).setCell (by simp <;> omega) _).setCell (by simp <;> omega) _).setCell (by simp <;> omega) _).setCell (by simp <;> omega) _).setCell (by simp <;> omega) _).setCell (by simp <;> omega) _, (HST.out.move fun k k1 k2 => ?_).now⟩
  have hne : w.heap.size + 1 ≠ k := by omega
  have hne' : k ≠ w.heap.size + 1 := by omega
  have hne2 : w.heap.size + 1 + 1 ≠ k := by omega
  have hne2' : k ≠ w.heap.size + 1 + 1 := by omega
  iterate 8 rw [Below.heap_setCell _ _ _ _ (by first | exact hne | exact hne' | exact hne2 | exact hne2')]
end Go.Proofs.Ytdlhlgjgjkmdaaa
