import Derived.Test.YtemobphkgbhhhaaPartAll
import Derived.Test.YtemobphkgbhhhaaOwnK
namespace Go.Proofs.Ytemobphkgbhhhaa
open Go.ChangeShapes Go.WideShapes Go.ChangeAt Go.RowKit Go.GrowR
set_option linter.unusedVariables false
set_option linter.unusedSimpArgs false

theorem infoGp : (Try.prog.info? 28).map (fun i => (i.zero, i.size, i.bytes)) = some (some (.agg #[.int .i64 0, .int .i64 0, .int .i64 0, .slice none 0 0, .slice none 0 0, .slice none 0 0, .slice none 0 0]), 7, 120) := by kernel_rfl
theorem undGp : Try.prog.underlying 26 = some (.slice 28) := by kernel_rfl
/-- a slice that reads as geometries *)-/
def PartsV (gs : List GT) (V : Value) (w : World) : Prop := ∃ A c, V = .slice A gs.length c ∧ gs.length ≤ c ∧ (gs = [] ∨ ∃ b o, A = some ⟨b, o, none⟩ ∧ GK gs b o w)
theorem kown_stab {e : TypeId} {q B n lo hi : Nat} {v : Value} {xs : List Value} {w : World} (h : KOwn e q B v n xs w) (h1 : lo ≤ B) (h2 : w.heap.size ≤ hi) : Stab lo hi (KOwn e q B v n xs) w := fun w2 h3 => by
  refine ⟨h.1, ?_⟩
  rcases h.2 with h | ⟨g, cap, cur, rfl, hb, hh, hr⟩
  · exact .inl h
  · refine .inr ⟨g, cap, cur, rfl, hb, ?_, hr⟩
    rw [h3 g (by omega) ?_]; exact hh
    have : g < w.heap.size := by
      rcases Nat.lt_or_ge g w.heap.size with hlt | hge
      · exact hlt
      · rw [Array.getElem?_eq_none hge] at hh; cases hh
    omega
/-- geometries' cells under way in a row *)-/
structure KI (W : World) (V : Value) (cs : List Value) (n : Nat) (gs : List GT) (wr : World) : Prop where
  o : KOwn 28 7 W.heap.size V n cs wr
  g : Grow W wr
  s : ∀ (i : Nat) (kid : GT), i < n → gs[i]? = some kid → ∃ v0 v1 v2 v3 v4 v5 v6 lo hi, (∀ j, j < 7 → cs[i * 7 + j]? = [v0, v1, v2, v3, v4, v5, v6][j]?) ∧ W.heap.size ≤ lo ∧ hi ≤ wr.heap.size ∧ (∀ g, V.ownBlock = some g → ¬ (lo ≤ g ∧ g < hi)) ∧ Stab lo hi (GV kid (.agg #[v0, v1, v2, v3, v4, v5, v6])) wr
theorem KI.start (W : World) (gs : List GT) : KI W (.slice none 0 0) [] 0 gs W := ⟨KOwn.nil, Grow.refl W, fun i kid h => by omega⟩
theorem KI.step {W : World} {V V' : Value} {cs : List Value} {n : Nat} {gs : List GT} {wr w2 w4 w5 : World} {kid : GT} {v0 v1 v2 v3 v4 v5 v6 : Value} (h : KI W V cs n gs wr) (hk : gs[n]? = some kid) (h2 : Grow wr w2) (hs : Stab wr.heap.size w2.heap.size (GV kid (.agg #[v0, v1, v2, v3, v4, v5, v6])) w2) (h4 : Grow w2 w4)
    (ho : KOwn 28 7 W.heap.size V' (n + 1) (cs ++ [v0, v1, v2, v3, v4, v5, v6]) w5) (hg : w4.grownBy w5 V.ownBlock) (hv : V'.ownBlock = V.ownBlock ∨ V'.ownBlock = some w4.heap.size) : KI W V' (cs ++ [v0, v1, v2, v3, v4, v5, v6]) (n + 1) gs w5 := by
  have s2 := h2.size; have s4 := h4.size; have s5 := hg.size; have sw := h.g.size
  have hVo : ∀ g, V.ownBlock = some g → W.heap.size ≤ g := h.o.lt
  have hVh : ∀ g, V.ownBlock = some g → g < wr.heap.size := fun g hg => (World.ownsRow.lt h.o g hg).2
  have h24 := h2.trans h4
  have kept : ∀ k, k < wr.heap.size → (∀ g, V.ownBlock = some g → k ≠ g) → w5.heap[k]? = wr.heap[k]? := fun k h1 h3' => by
    rw [hg.block k (by omega) (fun e => h3' k e.symm rfl), h24.block k h1]
  have hlen := h.o.len
  refine ⟨ho, Below.grown (h.g.trans h24) hg (by omega) hVo, fun i kid' hi h5 => ?_⟩
  by_cases hin : i < n
  · obtain ⟨u0, u1, u2, u3, u4, u5, u6, lo', hi', a0, a2, a3, a4, a5⟩ := h.s i kid' hin h5
    refine ⟨u0, u1, u2, u3, u4, u5, u6, lo', hi', fun j hj => ?_, a2, by omega, fun g hg' => ?_, a5.move fun k k1 k2 => kept k (by omega) (fun g e1 e2 => a4 g e1 ⟨by omega, by omega⟩)⟩
    · rw [List.getElem?_append_left (by rw [hlen]; omega)]; exact a0 j hj
    rcases hv with e | e
    · exact a4 g (e ▸ hg')
    · rw [e] at hg'; cases hg'; omega
  · obtain rfl : i = n := by omega
    rw [hk] at h5; cases h5
    refine ⟨v0, v1, v2, v3, v4, v5, v6, wr.heap.size, w2.heap.size, fun j hj => ?_, by omega, by omega, fun g hg' => ?_, hs.move fun k k4 k5 => by rw [hg.block k (by omega) (fun e => by have := hVh k e.symm; omega), h4.block k k5]⟩
    · rw [List.getElem?_append_right (by rw [hlen]; omega), hlen, show i * 7 + j - i * 7 = j by omega]
    rcases hv with e | e
    · have := hVh g (e ▸ hg'); omega
    · rw [e] at hg'; cases hg'; omega
theorem KI.fin {W : World} {V : Value} {cs : List Value} {gs : List GT} {wr : World} (h : KI W V cs gs.length gs wr) : Stab W.heap.size wr.heap.size (PartsV gs V) wr := fun w2 hw => by
  have ho := kown_stab h.o (Nat.le_refl _) (Nat.le_refl _) w2 hw
  obtain ⟨A, c, rfl, hc, hA⟩ := ho.cells
  refine ⟨A, c, rfl, hc, ?_⟩
  rcases hA with h0 | ⟨bV, rfl, hcell⟩
  · exact .inl (List.eq_nil_of_length_eq_zero h0)
  · refine .inr ⟨bV, 0, rfl, GK_mk fun i kid hi => ?_⟩
    have hlt := (List.getElem?_eq_some_iff.1 hi).1
    obtain ⟨u0, u1, u2, u3, u4, u5, u6, lo', hi', a0, a2, a3, a4, a5⟩ := h.s i kid hlt hi
    refine ⟨_, ⟨u0, u1, u2, u3, u4, u5, u6, rfl, ?_⟩, a5 w2 fun k k1 k2 => hw k (by omega) (by omega)⟩
    have g : ∀ j x, j < 7 → [u0, u1, u2, u3, u4, u5, u6][j]? = some x → w2.cell? ⟨bV, 0 + i * 7 + j, none⟩ = some x := fun j x hj hx => by
      have := hcell (i * 7 + j) x (by rw [a0 j hj]; exact hx)
      rwa [Nat.zero_add]
    exact ⟨g 0 _ (by omega) rfl, g 1 _ (by omega) rfl, g 2 _ (by omega) rfl, g 3 _ (by omega) rfl, g 4 _ (by omega) rfl, g 5 _ (by omega) rfl, g 6 _ (by omega) rfl⟩
theorem part_stab {gs : List GT} {a b0 b o c : Nat} {w : World} (h : Stab a b0 (PartsV gs (.slice (some ⟨b, o, none⟩) gs.length c)) w) (hb : a ≤ b) (hb0 : b < b0) {i : Nat} {g : GT} (hi : gs[i]? = some g) : ∃ k l r A1 n1 c1 A2 n2 c2 A3 n3 c3 A4 n4 c4, Seven b (o + i * 7) k l r A1 n1 c1 A2 n2 c2 A3 n3 c3 A4 n4 c4 w ∧ Stab a b0 (GV g (Geo7 k l r A1 n1 c1 A2 n2 c2 A3 n3 c3 A4 n4 c4)) w := by
  have rd : ∀ w2, PartsV gs (.slice (some ⟨b, o, none⟩) gs.length c) w2 → ∃ v, GCell b (o + i * 7) v w2 ∧ GV g v w2 := fun w2 h2 => by
    obtain ⟨A, c', he, -, h3⟩ := h2
    simp only [Value.slice.injEq] at he
    obtain ⟨rfl, -, rfl⟩ := he
    rcases h3 with h3 | ⟨b', o', h4, h5⟩
    · rw [h3] at hi; simp at hi
    · cases h4; exact GK_at h5 hi
  obtain ⟨v, ⟨v0, v1, v2, v3, v4, v5, v6, rfl, d0, d1, d2, d3, d4, d5, d6⟩, hv⟩ := rd w h.now
  obtain ⟨k, l, r, A1, n1, c1, A2, n2, c2, A3, n3, c3, A4, n4, c4, he⟩ := hv.form
  simp only [Value.agg.injEq, Array.mk.injEq, List.cons.injEq] at he
  obtain ⟨rfl, rfl, rfl, rfl, rfl, rfl, rfl, -⟩ := he
  refine ⟨k, l, r, A1, n1, c1, A2, n2, c2, A3, n3, c3, A4, n4, c4, ⟨d0, d1, d2, d3, d4, d5, d6⟩, fun w2 hw => ?_⟩
  obtain ⟨v', ⟨u0, u1, u2, u3, u4, u5, u6, rfl, e0, e1, e2, e3, e4, e5, e6⟩, hv'⟩ := rd w2 (h w2 hw)
  have hblk := hw b hb hb0
  have cc : ∀ o', w2.cell? ⟨b, o', none⟩ = w.cell? ⟨b, o', none⟩ := fun o' => World.cell?_of_block (w := w) hblk
  rw [cc] at e0 e1 e2 e3 e4 e5 e6
  rw [d0] at e0; rw [d1] at e1; rw [d2] at e2; rw [d3] at e3; rw [d4] at e4; rw [d5] at e5; rw [d6] at e6
  cases e0; cases e1; cases e2; cases e3; cases e4; cases e5; cases e6
  exact hv'
theorem news7p {b : Nat} {v0 v1 v2 v3 v4 v5 v6 : Value} {w : World} (h0 : w.cell? ⟨b, 0, none⟩ = some v0) (h1 : w.cell? ⟨b, 1, none⟩ = some v1) (h2 : w.cell? ⟨b, 2, none⟩ = some v2) (h3 : w.cell? ⟨b, 3, none⟩ = some v3) (h4 : w.cell? ⟨b, 4, none⟩ = some v4) (h5 : w.cell? ⟨b, 5, none⟩ = some v5) (h6 : w.cell? ⟨b, 6, none⟩ = some v6) : ∀ j u, [v0, v1, v2, v3, v4, v5, v6][j]? = some u → w.cell? ((⟨b, 0, none⟩ : Addr).add j) = some u := fun j u hu => by
  rw [addr_add, Nat.zero_add]
  match j, hu with
  | 0, hu => cases hu; exact h0
  | 1, hu => cases hu; exact h1
  | 2, hu => cases hu; exact h2
  | 3, hu => cases hu; exact h3
  | 4, hu => cases hu; exact h4
  | 5, hu => cases hu; exact h5
  | 6, hu => cases hu; exact h6
  | n + 7, hu => simp at hu
theorem numParts3 (l r : Int) (A1 A2 A3 A4 : Option Addr) (n1 c1 n2 c2 n3 c3 n4 c4 : Nat) (w : World) : Calls Try.prog 19 #[Geo7 3 l r A1 n1 c1 A2 n2 c2 A3 n3 c3 A4 n4 c4] w fun e w' => e = .returned (.int .i64 n2) ∧ Grow w w' := by
  go_enter Try.func19, Try.ntmps19
  go_wp2
  go_ret
  exact ⟨rfl, (Grow.refl w).alloc _⟩
theorem numParts4 (l r : Int) (A1 A2 A3 A4 : Option Addr) (n1 c1 n2 c2 n3 c3 n4 c4 : Nat) (w : World) : Calls Try.prog 19 #[Geo7 4 l r A1 n1 c1 A2 n2 c2 A3 n3 c3 A4 n4 c4] w fun e w' => e = .returned (.int .i64 n2) ∧ Grow w w' := by
  go_enter Try.func19, Try.ntmps19
  go_wp2
  go_ret
  exact ⟨rfl, (Grow.refl w).alloc _⟩
theorem numParts5 (l r : Int) (A1 A2 A3 A4 : Option Addr) (n1 c1 n2 c2 n3 c3 n4 c4 : Nat) (w : World) : Calls Try.prog 19 #[Geo7 5 l r A1 n1 c1 A2 n2 c2 A3 n3 c3 A4 n4 c4] w fun e w' => e = .returned (.int .i64 n2) ∧ Grow w w' := by
  go_enter Try.func19, Try.ntmps19
  go_wp2
  go_ret
  exact ⟨rfl, (Grow.refl w).alloc _⟩
theorem numParts6 (l r : Int) (A1 A2 A3 A4 : Option Addr) (n1 c1 n2 c2 n3 c3 n4 c4 : Nat) (w : World) : Calls Try.prog 19 #[Geo7 6 l r A1 n1 c1 A2 n2 c2 A3 n3 c3 A4 n4 c4] w fun e w' => e = .returned (.int .i64 n3) ∧ Grow w w' := by
  go_enter Try.func19, Try.ntmps19
  go_wp2
  go_ret
  exact ⟨rfl, (Grow.refl w).alloc _⟩

/-- .. with where the row lies *)-/
def MQB (E : Value → World → Prop) (w : World) (e : Ending) (w' : World) : Prop := ∃ v, e = .returned v ∧ Grow w w' ∧ Stab w.heap.size w'.heap.size (E v) w' ∧ ∀ b, v.ownBlock = some b → w.heap.size ≤ b ∧ b < w'.heap.size
set_option maxRecDepth 100000 in
set_option maxHeartbeats 8000000 in
theorem parts_calls (k l r : Int) (A1 A2 A3 A4 : Option Addr) (n1 c1 n2 c2 n3 c3 n4 c4 : Nat) (gs : List GT) (w : World) (hgs : gs.length ≤ 1000000000)
    (hnum : ∀ w', Grow w w' → Calls Try.prog 19 #[Geo7 k l r A1 n1 c1 A2 n2 c2 A3 n3 c3 A4 n4 c4] w' fun e w2 => e = .returned (.int .i64 gs.length) ∧ Grow w' w2)
    (hpart : ∀ (i : Nat) (g : GT) w', gs[i]? = some g → Grow w w' → Calls Try.prog 21 #[Geo7 k l r A1 n1 c1 A2 n2 c2 A3 n3 c3 A4 n4 c4, .int .i64 i] w' (PartQ g w')) :
    Calls Try.prog 57 #[Geo7 k l r A1 n1 c1 A2 n2 c2 A3 n3 c3 A4 n4 c4] w (MQB (PartsV gs) w) := by
  obtain ⟨i0, hi, hz0, hz1, hz2⟩ := info_parts infoGp
  have HI := Lib.hid hi; have HZ0 := Lib.hid hz0; have HZ1 := Lib.hid hz1; have HZ2 := Lib.hid hz2; clear hi hz0 hz1 hz2
  have HNUM := Lib.hid hnum; have HPART := Lib.hid hpart
  clear hnum hpart
  go_enter Try.func57, Try.ntmps57
  go_wp2_with fail
  refine (HNUM.out _ ((Grow.refl w).alloc _)).mono ?_
  rintro e W ⟨rfl, hgW⟩
  have c0 := up_cell (a := ⟨w.heap.size, 0, none⟩) (v := .int .i64 k) (by go_simp) hgW
  have c1' := up_cell (a := ⟨w.heap.size, 1, none⟩) (v := .int .i64 l) (by go_simp) hgW
  have c2' := up_cell (a := ⟨w.heap.size, 2, none⟩) (v := .int .i64 r) (by go_simp) hgW
  have c3' := up_cell (a := ⟨w.heap.size, 3, none⟩) (v := .slice A1 n1 c1) (by go_simp) hgW
  have c4' := up_cell (a := ⟨w.heap.size, 4, none⟩) (v := .slice A2 n2 c2) (by go_simp) hgW
  have c5 := up_cell (a := ⟨w.heap.size, 5, none⟩) (v := .slice A3 n3 c3) (by go_simp) hgW
  have c6 := up_cell (a := ⟨w.heap.size, 6, none⟩) (v := .slice A4 n4 c4) (by go_simp) hgW
  have hC : Hid (Seven w.heap.size 0 k l r A1 n1 c1 A2 n2 c2 A3 n3 c3 A4 n4 c4 W) := ⟨c0, c1', c2', c3', c4', c5, c6⟩
  have HGW := Lib.hid (((Grow.refl w).alloc _).trans hgW)
  clear c0 c1' c2' c3' c4' c5 c6 hgW
  go_wp2
  go_loopw [3, 4, 7] (fun O _ vi wr => ∃ (q : Nat) (cs : List Value), q ≤ gs.length ∧ vi = .int .i64 q ∧ KI W O cs q gs wr) (fun _ _ vi _ => (gs.length - intOf vi).toNat)
  case atStart => exact ⟨0, [], Nat.zero_le _, rfl, KI.start W gs⟩
  case round =>
    obtain ⟨q, cs, hq, rfl, hki⟩ := hrel
    have HKI := Lib.hid hki; have HG := Lib.hid hki.g
    obtain ⟨AV, cV, rfl, -⟩ := hki.o.isSl
    clear hki
    by_cases hlt : q < gs.length
    · obtain ⟨kid, hkid⟩ : ∃ p, gs[q]? = some p := ⟨gs[q], by simp [hlt]⟩
      obtain ⟨q0, q1, q2, q3, q4, q5, q6⟩ := Seven.up _ _ hC.out HG.out
      simp only [Nat.zero_add] at q1 q2 q3 q4 q5 q6
      have HC := Lib.hid (HPART.out q kid wr hkid (HGW.out.trans HG.out))
      have HKK := Lib.hid hkid
      have hq1 : IntKind.i64.wrap ((q : Int) + 1) = (q : Int) + 1 := IntWalk.i64_in _ (by omega)
      have hsw := HG.out.size
      clear hkid
      go_wp2_with (first
        | (go_at_call 21; refine (HC.out).mono ?_; rintro e w2 ⟨v2, rfl, hg2, hst2⟩; obtain ⟨k2, l2, r2, B1, m1, d1, B2, m2, d2, B3, m3, d3, B4, m4, d4, rfl⟩ := hst2.now.form; have HG2 := Lib.hid hg2; have HS2 := Lib.hid hst2; have HNEW : Hid (∀ j u, [Value.int .i64 k2, .int .i64 l2, .int .i64 r2, .slice B1 m1 d1, .slice B2 m2 d2, .slice B3 m3 d3, .slice B4 m4 d4][j]? = some u → (w2.alloc (Obj.cells #[.int .i64 k2, .int .i64 l2, .int .i64 r2, .slice B1 m1 d1, .slice B2 m2 d2, .slice B3 m3 d3, .slice B4 m4 d4] 28)).cell? ((⟨w2.heap.size, 0, none⟩ : Addr).add j) = some u) := news7p (by go_simp) (by go_simp) (by go_simp) (by go_simp) (by go_simp) (by go_simp) (by go_simp); clear hg2 hst2)
        | (at_builtin; go_loud (refine wpList_append_k rfl _ _ 26 rfl W.heap.size 7 28 i0 (.agg #[.int .i64 0, .int .i64 0, .int .i64 0, .slice none 0 0, .slice none 0 0, .slice none 0 0, .slice none 0 0]) 120 undGp HI.out HZ0.out HZ1.out HZ2.out rfl (by decide) rfl (KOwn.up _ _ (KOwn.up _ _ HKI.out.o HG2.out) ((Grow.refl _).alloc _)) rfl rfl HNEW.out (by intro x hx; simp at hx; rcases hx with rfl | rfl | rfl | rfl | rfl | rfl | rfl <;> rfl) (by simp [maxLen]; omega) (by omega) (by have := HG2.out.size; simp; omega) ?_; intro V' w5 hown5 hgrow5 hwh5; have H5 := Lib.hid (HKI.out.step HKK.out HG2.out HS2.out ((Grow.refl _).alloc _) hown5 hgrow5 hwh5); obtain ⟨A5, c5, rfl, -⟩ := hown5.isSl; clear hown5 hgrow5 hwh5)))
      go_roundw
      case rel => exact ⟨q + 1, _, by omega, by go_num, H5.out⟩
      case measure => simp [intOf]; omega
    · have hqe : q = gs.length := by omega
      have HQ := Lib.hid hqe
      clear hqe
      go_wp2
      go_ret
      have h1 := HKI.out
      rw [HQ.out] at h1
      exact ⟨_, rfl, HGW.out.trans HG.out, by rw [HQ.out]; exact h1.fin.wide HGW.out.size (Nat.le_refl _), fun b hb => by have h2 := World.ownsRow.lt HKI.out.o b hb; have := HGW.out.size; exact ⟨by omega, h2.2⟩⟩
end Go.Proofs.Ytemobphkgbhhhaa
