import Derived.Test.YtemobphkgbhhhaaPlParts
import Derived.Laws.AppendOwnNone
namespace Go.Proofs.Ytemobphkgbhhhaa
open Go.ChangeShapes Go.WideShapes Go.ChangeAt Go.RowKit Go.GrowR
set_option linter.unusedVariables false
set_option linter.unusedSimpArgs false
/-- geometries that a call hands over as a row of cells; each hangs on the blocks below B and those of the call *)-/
def GLQ (a B : Nat) (gs : List GT) (w : World) (e : Ending) (w' : World) : Prop := ∃ (A : Option Addr) (c : Nat) (ys : List Value), e = .returned (.slice A gs.length c) ∧ gs.length ≤ c ∧ ys.length = gs.length * 7 ∧ (∀ x ∈ ys, x.oneCell' = true) ∧ (gs = [] → A = none ∧ c = 0) ∧ (gs = [] ∨ ∃ b o, A = some ⟨b, o, none⟩ ∧ ∀ (j : Nat) (u : Value), ys[j]? = some u → w'.cell? ⟨b, o + j, none⟩ = some u) ∧ Grow w w' ∧
  ∀ (i : Nat) (g : GT), gs[i]? = some g → ∃ v0 v1 v2 v3 v4 v5 v6, (∀ j, j < 7 → ys[i * 7 + j]? = [v0, v1, v2, v3, v4, v5, v6][j]?) ∧ Stab2 a B w.heap.size w'.heap.size (GV g (.agg #[v0, v1, v2, v3, v4, v5, v6])) w'
/-- such a row under way *)-/
structure KJ (a : Nat) (W : World) (V : Value) (cs : List Value) (gs : List GT) (wr : World) : Prop where
  o : KOwn 28 7 W.heap.size V gs.length cs wr
  g : Grow W wr
  u : ∀ x ∈ cs, x.oneCell' = true
  n : gs = [] → V = .slice none 0 0
  s : ∀ (i : Nat) (kid : GT), gs[i]? = some kid → ∃ v0 v1 v2 v3 v4 v5 v6 lo hi, (∀ j, j < 7 → cs[i * 7 + j]? = [v0, v1, v2, v3, v4, v5, v6][j]?) ∧ W.heap.size ≤ lo ∧ hi ≤ wr.heap.size ∧ (∀ g, V.ownBlock = some g → ¬ (lo ≤ g ∧ g < hi)) ∧ Stab2 a W.heap.size lo hi (GV kid (.agg #[v0, v1, v2, v3, v4, v5, v6])) wr
theorem KJ.start (a : Nat) (W : World) : KJ a W (.slice none 0 0) [] [] W := ⟨KOwn.nil, Grow.refl W, by simp, fun _ => rfl, fun i kid h => by simp at h⟩
theorem KJ.up {a : Nat} {W : World} {V : Value} {cs : List Value} {gs : List GT} {wr w3 : World} (h : KJ a W V cs gs wr) (hg : Grow wr w3) : KJ a W V cs gs w3 :=
  ⟨KOwn.up _ _ h.o hg, h.g.trans hg, h.u, h.n, fun i kid hi => let ⟨u0, u1, u2, u3, u4, u5, u6, lo, hi', a0, a1, a2, a3, a4⟩ := h.s i kid hi; ⟨u0, u1, u2, u3, u4, u5, u6, lo, hi', a0, a1, Nat.le_trans a2 hg.size, a3, a4.move fun k hk => hg.block k (by have := h.g.size; omega)⟩⟩
theorem KJ.step {a : Nat} {W : World} {V V' : Value} {cs ys : List Value} {gs gs2 : List GT} {wr w2 w3 w4 w5 : World} (h : KJ a W V cs gs wr) (hne : gs2 ≠ []) (h2 : Grow wr w2) (h3 : Grow w2 w3) (hu : ∀ x ∈ ys, x.oneCell' = true) (hyl : ys.length = gs2.length * 7)
    (hs : ∀ (i : Nat) (g : GT), gs2[i]? = some g → ∃ v0 v1 v2 v3 v4 v5 v6, (∀ j, j < 7 → ys[i * 7 + j]? = [v0, v1, v2, v3, v4, v5, v6][j]?) ∧ Stab2 a W.heap.size w2.heap.size w3.heap.size (GV g (.agg #[v0, v1, v2, v3, v4, v5, v6])) w3) (h4 : Grow w3 w4)
    (ho : KOwn 28 7 W.heap.size V' (gs.length + gs2.length) (cs ++ ys) w5) (hg : w4.grownBy w5 V.ownBlock) (hv : V'.ownBlock = V.ownBlock ∨ V'.ownBlock = some w4.heap.size) : KJ a W V' (cs ++ ys) (gs ++ gs2) w5 := by
  have s2 := h2.size; have s3 := h3.size; have s4 := h4.size; have s5 := hg.size; have sw := h.g.size
  have hVo : ∀ g, V.ownBlock = some g → W.heap.size ≤ g := h.o.lt
  have hVh : ∀ g, V.ownBlock = some g → g < wr.heap.size := fun g hg => (World.ownsRow.lt h.o g hg).2
  have h24 := (h2.trans h3).trans h4
  have hlen := h.o.len
  refine ⟨by rw [List.length_append]; exact ho, Below.grown (h.g.trans h24) hg (by omega) hVo, fun x hx => ?_, fun h0 => absurd (List.append_eq_nil_iff.1 h0).2 hne, fun i kid hi => ?_⟩
  · rcases List.mem_append.1 hx with hx | hx
    · exact h.u x hx
    · exact hu x hx
  rw [List.getElem?_append] at hi
  split at hi
  · next hlt =>
    obtain ⟨u0, u1, u2, u3, u4, u5, u6, lo, hi', a0, a1, a2, a3, a4⟩ := h.s i kid hi
    refine ⟨u0, u1, u2, u3, u4, u5, u6, lo, hi', fun j hj => ?_, a1, by omega, fun g hg' => ?_, a4.move fun k hk => by rw [hg.block k (by omega) (fun e => by have := hVo k e.symm; rcases hk with hk | hk; omega; exact a3 k e.symm hk), h24.block k (by omega)]⟩
    · rw [List.getElem?_append_left (by rw [hlen]; omega)]; exact a0 j hj
    rcases hv with e | e
    · exact a3 g (e ▸ hg')
    · rw [e] at hg'; cases hg'; omega
  · next hge =>
    obtain ⟨u0, u1, u2, u3, u4, u5, u6, a0, a4⟩ := hs _ kid hi
    refine ⟨u0, u1, u2, u3, u4, u5, u6, w2.heap.size, w3.heap.size, fun j hj => ?_, by omega, by omega, fun g hg' => ?_, a4.move fun k hk => by rw [hg.block k (by omega) (fun e => by have := hVh k e.symm; have := hVo k e.symm; omega), h4.block k (by omega)]⟩
    · rw [List.getElem?_append_right (by rw [hlen]; omega), hlen, show i * 7 + j - gs.length * 7 = (i - gs.length) * 7 + j by omega]; exact a0 j hj
    rcases hv with e | e
    · have := hVh g (e ▸ hg'); omega
    · rw [e] at hg'; cases hg'; omega
theorem KJ.fin {a a' B' : Nat} {w W : World} {V : Value} {cs : List Value} {gs : List GT} {wr : World} (h : KJ a W V cs gs wr) (hw : Grow w W) (hB : a = w.heap.size) : GLQ a' B' gs w (.returned V) wr := by
  obtain ⟨A, c, rfl, hc, hA⟩ := h.o.cells
  have s1 := hw.size
  refine ⟨A, c, cs, rfl, hc, h.o.len, h.u, fun h0 => by have := h.n h0; simp only [Value.slice.injEq] at this; exact ⟨this.1, this.2.2⟩, ?_, hw.trans h.g, fun i g hi => ?_⟩
  · rcases hA with h0 | ⟨bV, rfl, hcell⟩
    · exact .inl (List.eq_nil_of_length_eq_zero h0)
    · exact .inr ⟨_, 0, rfl, fun j u hj => by have := hcell j u hj; simpa using this⟩
  · obtain ⟨u0, u1, u2, u3, u4, u5, u6, lo, hi', a0, a1, a2, a3, a4⟩ := h.s i g hi
    refine ⟨u0, u1, u2, u3, u4, u5, u6, a0, fun w2 hw2 => a4 w2 fun k hk => hw2 k ?_⟩
    have := h.g.size
    rcases hk with hk | hk
    · exact .inr ⟨by omega, by omega⟩
    · exact .inr ⟨by omega, by omega⟩
end Go.Proofs.Ytemobphkgbhhhaa
namespace Go.Proofs.Ytemobphkgbhhhaa
open Go.ChangeShapes Go.WideShapes Go.ChangeAt Go.RowKit Go.GrowR
set_option linter.unusedVariables false
set_option linter.unusedSimpArgs false
set_option maxRecDepth 100000 in
set_option maxHeartbeats 4000000 in
theorem gLines_line (k l r : Int) (A1 A2 A3 A4 : Option Addr) (n1 c1 n2 c2 n3 c3 n4 c4 : Nat) (g : GT) (a B : Nat) (w : World) (hk : k = 2 ∨ k = 8) (hB : B ≤ w.heap.size) (hst : Stab a B (GV g (Geo7 k l r A1 n1 c1 A2 n2 c2 A3 n3 c3 A4 n4 c4)) w) :
    Calls Try.prog 30 #[Geo7 k l r A1 n1 c1 A2 n2 c2 A3 n3 c3 A4 n4 c4] w (GLQ a B [g] w) := by
  have HST := Lib.hid hst
  clear hst
  have fin : ∀ w', Grow w w' → (∀ (j : Nat) (u : Value), [Value.int .i64 k, .int .i64 l, .int .i64 r, .slice A1 n1 c1, .slice A2 n2 c2, .slice A3 n3 c3, .slice A4 n4 c4][j]? = some u → w'.cell? ((⟨w.heap.size + 1, 0, none⟩ : Addr).add j) = some u) → GLQ a B [g] w (.returned (.slice (some ⟨w.heap.size + 1, 0, none⟩) 1 1)) w' := fun w' hg hc =>
    ⟨_, 1, [Value.int .i64 k, .int .i64 l, .int .i64 r, .slice A1 n1 c1, .slice A2 n2 c2, .slice A3 n3 c3, .slice A4 n4 c4], rfl, Nat.le_refl _, rfl, by intro x hx; simp at hx; rcases hx with rfl | rfl | rfl | rfl | rfl | rfl | rfl <;> rfl, fun h => (by simp at h), .inr ⟨_, _, rfl, fun j u h => by have := hc j u h; rwa [addr_add] at this⟩, hg, fun i q hi => by
      cases i with
      | succ i => simp at hi
      | zero =>
        simp at hi; subst hi
        refine ⟨_, _, _, _, _, _, _, fun j hj => by simp, fun w2 hw => HST.out w2 fun k k1 k2 => ?_⟩
        rw [hw k (.inl ⟨k1, k2⟩)]; exact hg.block k (by omega)⟩
  have HF := Lib.hid fin
  clear fin
  rcases hk with rfl | rfl
  · go_enter Try.func30, Try.ntmps30
    go_wp2
    go_ret
    refine HF.out _ ?_ ?_
    · exact ((Grow.refl w).alloc _).alloc _
    · exact news7p (by go_simp) (by go_simp) (by go_simp) (by go_simp) (by go_simp) (by go_simp) (by go_simp)
  · go_enter Try.func30, Try.ntmps30
    go_wp2
    go_ret
    refine HF.out _ ?_ ?_
    · exact ((Grow.refl w).alloc _).alloc _
    · exact news7p (by go_simp) (by go_simp) (by go_simp) (by go_simp) (by go_simp) (by go_simp) (by go_simp)
theorem gLines_none (k l r : Int) (A1 A2 A3 A4 : Option Addr) (n1 c1 n2 c2 n3 c3 n4 c4 : Nat) (a B : Nat) (w : World) (hk : k = 1 ∨ k = 4) :
    Calls Try.prog 30 #[Geo7 k l r A1 n1 c1 A2 n2 c2 A3 n3 c3 A4 n4 c4] w (GLQ a B [] w) := by
  have fin : ∀ w', Grow w w' → GLQ a B [] w (.returned (.slice none 0 0)) w' := fun w' hg => ⟨none, 0, [], rfl, Nat.le_refl _, rfl, by simp, fun _ => ⟨rfl, rfl⟩, .inl rfl, hg, fun i g hi => by simp at hi⟩
  have HF := Lib.hid fin
  clear fin
  rcases hk with rfl | rfl
  · go_enter Try.func30, Try.ntmps30
    go_wp2
    go_ret
    exact HF.out _ ((Grow.refl w).alloc _)
  · go_enter Try.func30, Try.ntmps30
    go_wp2
    go_ret
    exact HF.out _ ((Grow.refl w).alloc _)
end Go.Proofs.Ytemobphkgbhhhaa
namespace Go.Proofs.Ytemobphkgbhhhaa
open Go.ChangeShapes Go.WideShapes Go.ChangeAt Go.RowKit Go.GrowR
set_option linter.unusedVariables false
set_option linter.unusedSimpArgs false
set_option maxRecDepth 100000 in
set_option maxHeartbeats 8000000 in
theorem gLines_parts (k l r : Int) (A1 A2 A3 A4 : Option Addr) (n1 c1 n2 c2 n3 c3 n4 c4 : Nat) (kids : List GT) (lss : List (List GT)) (a' B' : Nat) (w : World) (hk : k = 3 ∨ k = 5 ∨ k = 6 ∨ k = 7) (hgl : kids.length = lss.length) (hsl : lss.length ≤ 1000000000) (hfl : lss.flatten.length ≤ 1000000000)
    (hparts : ∀ w', Grow w w' → Calls Try.prog 57 #[Geo7 k l r A1 n1 c1 A2 n2 c2 A3 n3 c3 A4 n4 c4] w' (MQB (PartsV kids) w'))
    (hkid : ∀ (i : Nat) (g : GT) (ls : List GT) (v : Value) (a B : Nat) w', kids[i]? = some g → lss[i]? = some ls → B ≤ w'.heap.size → Stab a B (GV g v) w' → Calls Try.prog 30 #[v] w' (GLQ a B ls w')) :
    Calls Try.prog 30 #[Geo7 k l r A1 n1 c1 A2 n2 c2 A3 n3 c3 A4 n4 c4] w (GLQ a' B' lss.flatten w) := by
  obtain ⟨i0, hi, hz0, hz1, hz2⟩ := info_parts infoGp
  have HI := Lib.hid hi; have HZ0 := Lib.hid hz0; have HZ1 := Lib.hid hz1; have HZ2 := Lib.hid hz2; clear hi hz0 hz1 hz2
  have HP := Lib.hid hparts; have HK := Lib.hid hkid; have HGL := Lib.hid hgl; have HFL := Lib.hid hfl
  have e2 : (k == 2) = false := by rcases hk with rfl | rfl | rfl | rfl <;> rfl
  have e8 : (k == 8) = false := by rcases hk with rfl | rfl | rfl | rfl <;> rfl
  have e1 : (k == 1) = false := by rcases hk with rfl | rfl | rfl | rfl <;> rfl
  have e4 : (k == 4) = false := by rcases hk with rfl | rfl | rfl | rfl <;> rfl
  clear hparts hkid hgl hfl hk
  go_enter Try.func30, Try.ntmps30
  go_wp2_with fail
  refine (HP.out _ ((Grow.refl w).alloc _)).mono ?_
  rintro e W ⟨V, rfl, hgW, hstW, hbW⟩
  have hpv := hstW.now
  obtain ⟨AV, cV, rfl, hcV, hAV⟩ := hpv
  have HGW := Lib.hid hgW; have HST := Lib.hid hstW; have HBW := Lib.hid hbW; have HAV := Lib.hid hAV
  have hwsz : w.heap.size ≤ W.heap.size := by have := hgW.size; simp at this; omega
  rw [HGL.out] at hcV ⊢
  have HW0 := Lib.hid (((Grow.refl w).alloc _).trans hgW)
  clear hgW hstW hbW hAV e1 e2 e4 e8
  go_wp2
  go_loopw [3, 5, 19] (fun O _ vi wr => ∃ (q : Nat) (pre : List GT) (cs : List Value), q ≤ lss.length ∧ vi = .int .i64 q ∧ Hid (pre = (lss.take q).flatten) ∧ KJ w.heap.size W O cs pre wr) (fun _ _ vi _ => (lss.length - intOf vi).toNat)
  case atStart => exact ⟨0, [], [], Nat.zero_le _, rfl, Lib.hid (by simp), KJ.start _ W⟩
  case round =>
    obtain ⟨q, pre, cs, hq, rfl, HPRE, hkj⟩ := hrel
    have HKJ := Lib.hid hkj; have HG := Lib.hid hkj.g
    obtain ⟨AO, cO, rfl, -⟩ := hkj.o.isSl
    clear hkj
    by_cases hlt : q < lss.length
    · obtain ⟨ls, hls⟩ : ∃ p, lss[q]? = some p := ⟨lss[q], by simp [hlt]⟩
      obtain ⟨g, hg0⟩ : ∃ p, kids[q]? = some p := ⟨kids[q]'(by have := HGL.out; omega), by have := HGL.out; simp [show q < kids.length by omega]⟩
      rcases HAV.out with h0 | ⟨b, o, rfl, -⟩
      · exfalso; have := HGL.out; rw [h0] at this; simp at this; omega
      obtain ⟨hb1, hb2⟩ := HBW.out b rfl
      obtain ⟨k', l', r', B1, m1, d1, B2, m2, d2, B3, m3, d3, B4, m4, d4, h7, hgv⟩ := part_stab HST.out hb1 hb2 hg0
      obtain ⟨k0, k1, k2, k3, k4, k5, k6⟩ := Seven.up _ _ h7 HG.out
      have HC := Lib.hid (fun w' (hw : Grow wr w') => HK.out q g ls _ w.heap.size W.heap.size w' hg0 hls (by have := HG.out.size; have := hw.size; omega) (((hgv.wide (by simp) (Nat.le_refl _)).grow HG.out (Nat.le_refl _)).grow hw HG.out.size))
      have htk : (lss.take (q + 1)).flatten = (lss.take q).flatten ++ ls := by rw [List.take_add_one, hls]; simp
      have hcnt : pre.length + ls.length ≤ 1000000000 := by
        rw [HPRE.out]
        have h1 : lss = lss.take (q + 1) ++ lss.drop (q + 1) := (List.take_append_drop _ _).symm
        have h2 := HFL.out
        rw [h1, List.flatten_append, htk] at h2
        simp only [List.length_append] at h2; omega
      have HTK := Lib.hid htk
      have hsw := HG.out.size
      have hq1 : IntKind.i64.wrap ((q : Int) + 1) = (q : Int) + 1 := IntWalk.i64_in _ (by omega)
      have HKO := Lib.hid HKJ.out.o
      clear hls hg0 h7 hgv htk
      by_cases hne0 : ls = []
      · subst hne0
        go_wp2_with (first
          | (go_at_call 30; refine (HC.out _ ((Grow.refl wr).alloc _)).mono ?_; rintro e w2 ⟨A9, c9, ys, rfl, hc9, hyl, hyu, hA0, hA9, hg2, hs2⟩; obtain ⟨rfl, rfl⟩ := hA0 rfl; have HG2 := Lib.hid hg2; clear hg2 hs2 hA9 hA0 hyl hyu)
          | (at_builtin; refine wpList_append_own_none rfl _ _ 26 rfl W.heap.size 28 i0 7 undGp HI.out _ _ _ rfl (KOwn.up _ _ HKO.out (((Grow.refl wr).alloc _).trans HG2.out)) rfl ?_))
        go_roundw
        case rel => exact ⟨q + 1, pre, _, by omega, by go_num, Lib.hid (by rw [HTK.out, HPRE.out, List.append_nil]), HKJ.out.up (((Grow.refl wr).alloc _).trans HG2.out)⟩
        case measure => simp [intOf]; omega
      have HNE0 := Lib.hid hne0
      have hn0 := List.length_pos_iff.2 hne0
      clear hne0
      go_wp2_with (first
        | (go_at_call 30; refine (HC.out _ ((Grow.refl wr).alloc _)).mono ?_; rintro e w2 ⟨A9, c9, ys, rfl, hc9, hyl, hyu, -, hA9, hg2, hs2⟩; obtain ⟨b9, o9, rfl, hy9'⟩ := hA9.resolve_left HNE0.out; have hy9 : ∀ (j : Nat) (u : Value), ys[j]? = some u → w2.cell? ((⟨b9, o9, none⟩ : Addr).add j) = some u := fun j u h => (by rw [addr_add]; exact hy9' j u h); have HG2 := Lib.hid hg2; have HS2 := Lib.hid hs2; have HY := Lib.hid hy9; have HYL := Lib.hid hyl; have HYU := Lib.hid hyu; clear hg2 hs2 hy9 hy9' hA9 hyl hyu)
        | (at_builtin; go_loud (refine wpList_append_k rfl _ _ 26 rfl W.heap.size 7 28 i0 (.agg #[.int .i64 0, .int .i64 0, .int .i64 0, .slice none 0 0, .slice none 0 0, .slice none 0 0, .slice none 0 0]) 120 undGp HI.out HZ0.out HZ1.out HZ2.out rfl (by decide) rfl (KOwn.up _ _ HKO.out (((Grow.refl wr).alloc _).trans HG2.out)) rfl HYL.out HY.out HYU.out (by simp [maxLen]; omega) (by omega) (by have := HG2.out.size; simp at *; omega) ?_; intro V' w5 hown5 hgrow5 hwh5; have H5 := Lib.hid (HKJ.out.step HNE0.out ((Grow.refl _).alloc _) HG2.out HYU.out HYL.out HS2.out (Grow.refl _) hown5 hgrow5 hwh5); obtain ⟨A5, c5, rfl, -⟩ := hown5.isSl; clear hown5 hgrow5 hwh5)))
      go_roundw
      case rel => exact ⟨q + 1, pre ++ ls, _, by omega, by go_num, Lib.hid (by rw [HTK.out, HPRE.out]), H5.out⟩
      case measure => simp [intOf]; omega
    · have hqe : q = lss.length := by omega
      have HQ := Lib.hid hqe
      clear hqe
      go_wp2
      go_ret
      have h1 := HKJ.out
      have hp : pre = lss.flatten := by rw [HPRE.out, HQ.out, List.take_length]
      have h2 := h1.fin (a' := a') (B' := B') HW0.out rfl
      rw [hp] at h2
      rw [hp]
      exact h2
end Go.Proofs.Ytemobphkgbhhhaa
namespace Go.Proofs.Ytemobphkgbhhhaa
open Go.ChangeShapes Go.WideShapes Go.ChangeAt Go.RowKit Go.GrowR
set_option linter.unusedVariables false
set_option linter.unusedSimpArgs false
/-- a line of a kind -/
def lineG (kk l r : Int) (rows : List (List Nat)) : GT := GT.mk kk l r rows.flatten [] [] []
abbrev ring (l : Int) (rows : List (List Nat)) : GT := lineG 8 l 0 rows
theorem ringLine {kk l r : Int} {rows : List (List Nat)} {v : Value} {a B : Nat} {w : World} (hk : kk = 2 ∨ kk = 8) (hB : B ≤ w.heap.size) (hst : Stab a B (GV (lineG kk l r rows) v) w) : Calls Try.prog 30 #[v] w (GLQ a B [lineG kk l r rows] w) := by
  have hgv := hst.now
  unfold lineG GV at hgv
  obtain ⟨u, e1, e2, A4, c4, rfl, -, hf, he1, he2, -⟩ := hgv
  obtain ⟨A2, c2, rfl, -, -⟩ := SlE.form he1
  obtain ⟨A3, c3, rfl, -, -⟩ := SlE.form he2
  obtain ⟨A1, c1, rfl, hc1, hA⟩ := hf
  exact gLines_line kk l r A1 A2 A3 A4 _ c1 _ c2 _ c3 _ c4 _ a B w hk hB hst
theorem flat_single {α β : Type} (f : α → β) : ∀ (xs : List α), (xs.map fun x => [f x]).flatten = xs.map f
  | [] => rfl
  | x :: t => by have := flat_single f t; simpa using this
theorem polyLines {l r : Int} {s : Nat} {segs : List (List (List Nat))} {v : Value} {w : World} (a' B' : Nat) (hgv : GV (.mk 3 l r (fwd segs) ((cum s 0 segs).map Int.ofNat) [] []) v w) (hr : ∀ rows ∈ segs, ∀ r ∈ rows, r.length = s) (hf : (fwd segs).length ≤ 2147483647) (hsl : segs.length ≤ 1000000000) :
    Calls Try.prog 30 #[v] w (GLQ a' B' (segs.map (ring l)) w) := by
  obtain ⟨A1, n1, c1, A2, n2, c2, A3, n3, c3, A4, n4, c4, rfl, hp⟩ := polyParts hgv hr hf hsl
  have := gLines_parts 3 l r A1 A2 A3 A4 n1 c1 n2 c2 n3 c3 n4 c4 _ (segs.map fun rows => [ring l rows]) a' B' w (.inl rfl) (by simp) (by simpa using hsl) (by rw [flat_single]; simpa using hsl) hp (fun i g ls v a B w' hg hl hB hst => by
    rw [List.getElem?_map] at hg hl
    obtain ⟨rows, hrows, rfl⟩ := Option.map_eq_some_iff.1 hg
    rw [hrows] at hl; cases hl
    exact ringLine (.inr rfl) hB hst)
  rwa [flat_single] at this
theorem multiLines {l r : Int} {s : Nat} {segs : List (List (List Nat))} {v : Value} {w : World} (a' B' : Nat) (hgv : GV (.mk 5 l r (fwd segs) ((cum s 0 segs).map Int.ofNat) [] []) v w) (hr : ∀ rows ∈ segs, ∀ r ∈ rows, r.length = s) (hf : (fwd segs).length ≤ 2147483647) (hsl : segs.length ≤ 1000000000) :
    Calls Try.prog 30 #[v] w (GLQ a' B' (segs.map (lineG 2 l 0)) w) := by
  obtain ⟨A1, n1, c1, A2, n2, c2, A3, n3, c3, A4, n4, c4, rfl, hp⟩ := multiParts hgv hr hf hsl
  have := gLines_parts 5 l r A1 A2 A3 A4 n1 c1 n2 c2 n3 c3 n4 c4 _ (segs.map fun rows => [lineG 2 l 0 rows]) a' B' w (.inr (.inl rfl)) (by simp) (by simpa using hsl) (by rw [flat_single]; simpa using hsl) hp (fun i g ls v a B w' hg hl hB hst => by
    rw [List.getElem?_map] at hg hl
    obtain ⟨rows, hrows, rfl⟩ := Option.map_eq_some_iff.1 hg
    rw [hrows] at hl; cases hl
    exact ringLine (.inl rfl) hB hst)
  rwa [flat_single] at this
theorem areaLines {l r : Int} {s : Nat} {segss : List (List (List (List Nat)))} {v : Value} {w : World} (a' B' : Nat) (hgv : GV (.mk 6 l r (fwd segss.flatten) [] ((cums s 0 segss).map (·.map Int.ofNat)) []) v w) (hr : ∀ segs ∈ segss, ∀ rows ∈ segs, ∀ r ∈ rows, r.length = s) (hf : (fwd segss.flatten).length ≤ 2147483647) (hsl : segss.length ≤ 1000000000) (hsl2 : segss.flatten.length ≤ 1000000000) :
    Calls Try.prog 30 #[v] w (GLQ a' B' (segss.flatten.map (ring l)) w) := by
  have hs2 : ∀ segs ∈ segss, segs.length ≤ 1000000000 := fun segs h => by
    obtain ⟨x, y, rfl⟩ := List.append_of_mem h
    simp only [List.flatten_append, List.flatten_cons, List.length_append] at hsl2; omega
  have hff : (segss.map fun segs => segs.map (ring l)).flatten = segss.flatten.map (ring l) := by rw [List.map_flatten]
  obtain ⟨A1, n1, c1, A2, n2, c2, A3, n3, c3, A4, n4, c4, rfl, hp⟩ := areaParts hgv hr hf hsl hs2
  have := gLines_parts 6 l r A1 A2 A3 A4 n1 c1 n2 c2 n3 c3 n4 c4 _ (segss.map fun segs => segs.map (ring l)) a' B' w (.inr (.inr (.inl rfl))) (by simp) (by simpa using hsl) (by rw [hff, List.length_map]; exact hsl2) hp (fun i g ls v a B w' hg hl hB hst => by
    rw [List.getElem?_map] at hg hl
    obtain ⟨segs, hsegs, rfl⟩ := Option.map_eq_some_iff.1 hg
    rw [hsegs] at hl; cases hl
    have hm := List.mem_of_getElem? hsegs
    exact polyLines a B hst.now (hr segs hm) (Nat.le_trans (segs_len_le hm) hf) (hs2 segs hm))
  rwa [hff] at this
end Go.Proofs.Ytemobphkgbhhhaa
