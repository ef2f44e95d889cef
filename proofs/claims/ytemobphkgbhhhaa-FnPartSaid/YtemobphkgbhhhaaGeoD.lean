import Derived.Test.YtemobphkgbhhhaaGeoC
import Derived.Test.YtemobphkgbhhhaaPlainF
namespace Go.Proofs.Ytemobphkgbhhhaa
open Go.ChangeShapes Go.WideShapes Go.ChangeAt Go.RowKit Go.GrowR
set_option linter.unusedVariables false
set_option linter.unusedSimpArgs false

def NewColP (B : Nat) (V : Value) (w : World) : Prop := ∃ b, V = .pointer (some ⟨b, 0, none⟩) ∧ B ≤ b ∧ ColC b 0 0 (.slice none 0 0) w
theorem NewColP.up {B : Nat} {V : Value} : Up (NewColP B V) := fun _ _ ⟨b, h1, h2, h3⟩ hg => ⟨b, h1, h2, ColC.up _ _ h3 hg⟩
theorem TV.iface : ∀ {g : GT} {v : Value} {w : World}, TV g v w → ∃ t p, v = .iface t p
  | .mk k l r fl en ens kids, v, w, h => by
    unfold TV at h
    rcases h with ⟨-, b, u, rfl, -⟩ | ⟨-, b, V, us, rfl, -⟩
    · exact ⟨_, _, rfl⟩
    · exact ⟨_, _, rfl⟩
/-- a collection under way -/
structure ColI (w : World) (b : Nat) (r : Int) (V : Value) (us : List Value) (kids : List GT) (wr : World) : Prop where
  c : ColC b 0 r V wr
  o : VOwn 63 (b + 1) V us wr
  wb : w.heap.size ≤ b
  g : Grow w wr
  s : ∀ (i : Nat) (kid : GT) (u : Value), kids[i]? = some kid → us[i]? = some u → ∃ lo hi, w.heap.size ≤ lo ∧ hi ≤ wr.heap.size ∧ ¬ (lo ≤ b ∧ b < hi) ∧ (∀ g, V.ownBlock = some g → ¬ (lo ≤ g ∧ g < hi)) ∧ Stab lo hi (TV kid u) wr
theorem ColI.step {w : World} {b : Nat} {r : Int} {V V' : Value} {us : List Value} {kids : List GT} {wr w2 w3 w4 w5 : World} {kid : GT} {u : Value} (h : ColI w b r V us kids wr) (hk : kids[us.length]? = some kid) (h2 : Grow wr w2) (h3 : Grow w2 w3) (hs : Stab w2.heap.size w3.heap.size (TV kid u) w3) (h4 : Grow w3 w4)
    (ho : VOwn 63 (b + 1) V' (us ++ [u]) w5) (hg : w4.grownBy w5 V.ownBlock) (hv : V'.ownBlock = V.ownBlock ∨ V'.ownBlock = some w4.heap.size) : ColI w b r V' (us ++ [u]) kids (w5.setCell ⟨b, 1, none⟩ V') := by
  have hbl : b < wr.heap.size := cell_ltH h.c.1
  have s2 := h2.size; have s3 := h3.size; have s4 := h4.size; have s5 := hg.size
  have hVo : ∀ g, V.ownBlock = some g → b + 1 ≤ g := h.o.lt
  have hVh : ∀ g, V.ownBlock = some g → g < wr.heap.size := own_ltH h.o
  have hne : some b ≠ V.ownBlock := fun e => by have := hVo b e.symm; omega
  have hsz : (w5.setCell ⟨b, 1, none⟩ V').heap.size = w5.heap.size := by simp [World.setCell]
  have hg24 := (h2.trans h3).trans h4
  have kept : ∀ k, k < wr.heap.size → k ≠ b → (∀ g, V.ownBlock = some g → k ≠ g) → (w5.setCell ⟨b, 1, none⟩ V').heap[k]? = wr.heap[k]? := fun k h1 h2' h3' => by
    rw [Below.heap_setCell _ _ _ _ (fun e => h2' (by first | exact e | exact e.symm)), hg.block k (by omega) (fun e => h3' k e.symm rfl), hg24.block k h1]
  have kept3 : ∀ k, w2.heap.size ≤ k → k < w3.heap.size → (w5.setCell ⟨b, 1, none⟩ V').heap[k]? = w3.heap[k]? := fun k h1 h2' => by
    rw [Below.heap_setCell _ _ _ _ (fun e => by simp only at e; omega), hg.block k (by omega) (fun e => by have := hVh k e.symm; omega), h4.block k h2']
  refine ⟨((ColC.up _ _ h.c hg24).by hg hne).set1 V', ho.setCell (by simp) _, h.wb, ?_, fun i kid' u' h5 h6 => ?_⟩
  · exact Grow.setCell (Below.grown (h.g.trans hg24) hg (by have := h.g.size; omega) (fun g hg' => by have := hVo g hg'; have := h.wb; omega)) h.wb _
  rw [List.getElem?_append] at h6
  split at h6
  · obtain ⟨lo, hi, a1, a2, a3, a4, a5⟩ := h.s i kid' u' h5 h6
    refine ⟨lo, hi, a1, by omega, a3, fun g hg' => ?_, a5.move fun k k1 k2 => kept k (by omega) (fun e => a3 ⟨by omega, by omega⟩) (fun g e1 e2 => a4 g e1 ⟨by omega, by omega⟩)⟩
    rcases hv with e | e
    · exact a4 g (e ▸ hg')
    · rw [e] at hg'; cases hg'; omega
  · next hlt =>
    rw [List.getElem?_singleton] at h6
    split at h6
    · next h0 =>
      cases h6
      obtain rfl : i = us.length := by omega
      rw [h5] at hk; cases hk
      refine ⟨w2.heap.size, w3.heap.size, by have := h.g.size; omega, by omega, by omega, fun g hg' => ?_, hs.move kept3⟩
      rcases hv with e | e
      · have := hVh g (e ▸ hg'); omega
      · rw [e] at hg'; cases hg'; omega
    · cases h6
theorem ColI.tvs {w : World} {b : Nat} {r : Int} {V : Value} {us : List Value} {kids : List GT} {wr : World} (h : ColI w b r V us kids wr) (hl : us.length = kids.length) : TVs kids us wr :=
  TVs_mk hl fun i g u h1 h2 => let ⟨_, _, _, _, _, _, h3⟩ := h.s i g u h1 h2; h3.now
theorem ColI.fin {w : World} {b : Nat} {r : Int} {V : Value} {us : List Value} {kids : List GT} {wr : World} (h : ColI w b r V us kids wr) (hl : us.length = kids.length) (l : Int) : Stab w.heap.size (wr.setCell ⟨b, 0, none⟩ (.int .i64 l)).heap.size (TV (.mk 7 l r [] [] [] kids) (.iface 78 (.pointer (some ⟨b, 0, none⟩)))) (wr.setCell ⟨b, 0, none⟩ (.int .i64 l)) := fun w2 hw => by
  have hbl : b < wr.heap.size := cell_ltH h.c.1
  have hsz : (wr.setCell ⟨b, 0, none⟩ (.int .i64 l)).heap.size = wr.heap.size := by simp [World.setCell]
  have hwb := h.wb
  rw [hsz] at hw
  have kept : ∀ k, w.heap.size ≤ k → k < wr.heap.size → k ≠ b → w2.heap[k]? = wr.heap[k]? := fun k h1 h2 h3 => by
    rw [hw k h1 h2, Below.heap_setCell _ _ _ _ (by first | exact h3 | exact fun e => h3 e.symm)]
  unfold TV
  refine .inr ⟨rfl, b, V, us, rfl, ?_, ?_, TVs_mk hl fun i g u h1 h2 => ?_⟩
  · obtain ⟨c0, c1, c2, c3⟩ := h.c.set0 l
    have hb := hw b hwb hbl
    exact ⟨(World.cell?_of_block hb).trans c0, (World.cell?_of_block hb).trans c1, (World.cell?_of_block hb).trans c2, fun o => (World.frozen?_of_block hb).trans (c3 o)⟩
  · have h1 := h.o.setCell (p := ⟨b, 0, none⟩) (by simp) (.int .i64 l)
    exact VOwn.mono (Stab.own h1 (by omega) (by rw [hsz]; exact Nat.le_refl _) w2 (fun k k1 k2 => hw k k1 k2)) (Nat.zero_le _)
  · obtain ⟨lo, hi, a1, a2, a3, a4, a5⟩ := h.s i g u h1 h2
    exact a5 w2 fun k k1 k2 => kept k (by omega) (by omega) (fun e => a3 ⟨by omega, by omega⟩)
set_option maxRecDepth 100000 in
set_option maxHeartbeats 8000000 in
theorem geoT7 (l r : Int) (kids : List GT) (ih : ∀ g ∈ kids, ∀ (v : Value) (w : World), Reach44 g → GV g v w → Calls Try.prog 35 #[v] w (GQ g w)) (A1 : Option Addr) (n1 c1 : Nat) (A2 : Option Addr) (n2 c2 : Nat) (A3 : Option Addr) (n3 c3 : Nat) (A4 : Option Addr) (c4 : Nat) (w : World) (hu : FSl (.slice A1 n1 c1) [] w)
    (hk : kids = [] ∨ ∃ b o, A4 = some ⟨b, o, none⟩ ∧ GK kids b o w) (hr : ∀ g ∈ kids, Reach44 g) (hl : kids.length ≤ 1172812402961) (hlay : l ≠ 0 → ∀ g ∈ kids, layO g = l) :
    Calls Try.prog 35 #[Geo7 7 l r A1 n1 c1 A2 n2 c2 A3 n3 c3 A4 kids.length c4] w (GQ (.mk 7 l r [] [] [] kids) w) := by
  have HK := Lib.hid hk; have IH := Lib.hid ih; have R8 := Lib.hid hr; have HLAY := Lib.hid hlay
  have HU := Lib.hid hu
  clear hk ih hr hlay hu
  go_enter Try.func35, Try.ntmps35
  go_wp2
  refine wp_region_grow (fun i => if i = 4 then some (fun _ _ V ww => FOwn 36 w.heap.size V [] ww) else none) (by kernel_rfl) (by kernel_rfl) ?_ ?_
  · intro i Φ h lo hi v
    (repeat' split at h) <;> cases h
    · exact FOwn.up
  repeat (first
    | (refine wpGrow_skip (by rfl) ?_; simp only [Act.put, List.setIfInBounds_toArray, List.set_cons_zero, List.set_cons_succ, Nat.reduceAdd])
    | (refine wpGrow_det' (by rfl) (by rfl) ?_; apply Exists.intro; refine ⟨fun w' hc hh => ?_, ?_⟩; (have hcell := grow_cell hc; clear hc hh; go_simp; rfl); simp only [Act.put, List.setIfInBounds_toArray, List.set_cons_zero, List.set_cons_succ, Nat.reduceAdd]))
  refine wpGrow_eff' (by rfl) (by rfl) (fun w' hc hh => ?_) (fun v lo hi w' hap hc hh hv => ?_)
  · have HX := Lib.hid (FSl.up _ _ HU.out (((Grow.refl w).alloc _).trans hc))
    have HGC := Lib.hid (((Grow.refl w).alloc _).trans hc)
    clear hc hh
    go_simp
    go_at_call 59
    refine (floats_calls _ [] _ HX.out (by simp)).mono ?_
    rintro e w2 ⟨V, rfl, hg, hown⟩
    exact EffPost.mk hg (hown.mono HGC.out.size)
  obtain ⟨A5, n5, c5, rfl⟩ := VOwn.isSl hv
  clear hv
  clear hc hh hap w'
  simp only [Act.put, List.setIfInBounds_toArray, List.set_cons_zero, List.set_cons_succ, Nat.reduceAdd]
  repeat (first
    | (refine wpGrow_skip (by rfl) ?_; simp only [Act.put, List.setIfInBounds_toArray, List.set_cons_zero, List.set_cons_succ, Nat.reduceAdd])
    | (refine wpGrow_det' (by rfl) (by rfl) ?_; apply Exists.intro; refine ⟨fun w' hc hh => ?_, ?_⟩; (have hcell := grow_cell hc; clear hc hh; go_simp; rfl); simp only [Act.put, List.setIfInBounds_toArray, List.set_cons_zero, List.set_cons_succ, Nat.reduceAdd]))
  refine wpGrow_nil ?_
  intro w1 hg hh
  have HG1 := Lib.hid (((Grow.refl w).alloc _).trans hg)
  have d0 := up_cell (a := ⟨w.heap.size, 0, none⟩) (v := .int .i64 7) (by go_simp) hg
  have d2 := up_cell (a := ⟨w.heap.size, 2, none⟩) (v := .int .i64 r) (by go_simp) hg
  have d6 := up_cell (a := ⟨w.heap.size, 6, none⟩) (v := .slice A4 kids.length c4) (by go_simp) hg
  have lW : w.heap.size < w1.heap.size := cell_ltH d0
  clear hh hg
  go_wp2
  refine wp_region_grow_tail 3 (fun i => if i = 0 then some (fun _ _ V ww => NewColP w1.heap.size V ww) else none) (by kernel_rfl) (by kernel_rfl) ?_ ?_
  · intro i Φ h lo hi v
    (repeat' split at h) <;> cases h
    · exact NewColP.up
  simp only [List.take_succ_cons, List.take_zero, List.drop_succ_cons, List.drop_zero]
  repeat (first
    | (refine wpGrow_skip (by rfl) ?_; simp only [Act.put, List.setIfInBounds_toArray, List.set_cons_zero, List.set_cons_succ, Nat.reduceAdd])
    | (refine wpGrow_det' (by rfl) (by rfl) ?_; apply Exists.intro; refine ⟨fun w' hc hh => ?_, ?_⟩; (have hcell := grow_cell hc; clear hc hh; go_simp; rfl); simp only [Act.put, List.setIfInBounds_toArray, List.set_cons_zero, List.set_cons_succ, Nat.reduceAdd]))
  refine wpGrow_eff' (by rfl) (by rfl) (fun w' hc hh => ?_) (fun v lo hi w' hap hc hh hv => ?_)
  · have HGC := Lib.hid hc
    clear hc hh
    go_simp
    go_at_call 77
    refine (newCol _).mono ?_
    rintro e w2 ⟨rfl, hg, hcc, -⟩
    exact EffPost.mk hg ⟨_, rfl, HGC.out.size, hcc⟩
  obtain ⟨b5, rfl, hb5, -⟩ := hv
  clear hc hh hap w'
  simp only [Act.put, List.setIfInBounds_toArray, List.set_cons_zero, List.set_cons_succ, Nat.reduceAdd]
  repeat (first
    | (refine wpGrow_skip (by rfl) ?_; simp only [Act.put, List.setIfInBounds_toArray, List.set_cons_zero, List.set_cons_succ, Nat.reduceAdd])
    | (refine wpGrow_det' (by rfl) (by rfl) ?_; apply Exists.intro; refine ⟨fun w' hc hh => ?_, ?_⟩; (have hcell := grow_cell hc; clear hc hh; go_simp; rfl); simp only [Act.put, List.setIfInBounds_toArray, List.set_cons_zero, List.set_cons_succ, Nat.reduceAdd]))
  refine wpGrow_nil ?_
  intro w3 hg hh
  obtain ⟨b6, hb6, -, hcc⟩ := (hh 0).1
  cases hb6
  have HC := Lib.hid hcc
  have d2' := up_cell d2 hg
  have d6' := up_cell d6 hg
  have HG3 := Lib.hid (HG1.out.trans hg)
  have lB : w.heap.size + 1 ≤ b5 := by have := hb5; omega
  clear hh hg hcc d0 d2 d6
  go_wp2_with (go_at_call 78; refine (sridCol _ _ _ _ _ _ HC.out).mono ?_; rintro e w4 ⟨rfl, rfl⟩)
  have HI0 : Hid (ColI w b5 r (.slice none 0 0) [] kids (w3.setCell ⟨b5, 2, none⟩ (.int .i64 r))) := ⟨HC.out.set2 r, VOwn.nil, by omega, HG3.out.setCell (by simp; omega) _, fun i kid u h1 h2 => by simp at h2⟩
  clear d2' HC
  go_loopw [7, 101] (fun _ i wr => ∃ V us, us.length ≤ kids.length ∧ i = .int .i64 us.length ∧ ColI w b5 r V us kids wr) (fun _ i _ => kids.length - (intOf i).toNat)
  case atStart => exact ⟨_, [], Nat.zero_le _, rfl, HI0.out⟩
  case round =>
    obtain ⟨V, us, hlu, rfl, hci⟩ := hrel
    have HCI := Lib.hid hci
    have HG := Lib.hid hci.g
    obtain ⟨AV, nV, cV, rfl⟩ := hci.o.isSl
    clear hci
    by_cases hlt : us.length < kids.length
    · obtain ⟨kid, hkid⟩ : ∃ p, kids[us.length]? = some p := ⟨kids[us.length], by simp [hlt]⟩
      obtain ⟨b, o, rfl, hgk⟩ := gk_some HK.out hlt
      obtain ⟨k', l', r', A1', n1', c1', A2', n2', c2', A3', n3', c3', A4', n4', c4', h7, hv⟩ := kid_at hgk hkid
      obtain ⟨k0, k1, k2, k3, k4, k5, k6⟩ := Seven.up _ _ h7 HG.out
      have HKID := Lib.hid (fun w' (hw : Grow wr w') => IH.out kid (List.mem_of_getElem? hkid) _ w' (R8.out kid (List.mem_of_getElem? hkid)) (GV.up _ _ _ _ hv (HG.out.trans hw)))
      have HKK := Lib.hid hkid
      have hq1 : IntKind.i64.wrap ((us.length : Int) + 1) = (us.length : Int) + 1 := IntWalk.i64_in _ (by omega)
      have hus : us.length ≤ 1172812402961 := by omega
      have lbw : b5 + 1 ≤ wr.heap.size := cell_ltH HCI.out.c.1
      clear hv hgk hkid h7 d6'
      go_wp2_with (first
        | (go_at_call 35; refine (HKID.out _ ((Grow.refl _).alloc _)).mono ?_; rintro e w5 ⟨v5, rfl, hg5, hst5⟩; obtain ⟨t5, p5, rfl⟩ := hst5.now.iface; have HG5 := Lib.hid hg5; have HST := Lib.hid hst5; have HSZ := Lib.hid hg5.size; clear hg5 hst5)
        | (go_at_call 79; refine (mustPush_calls (b5 + 1) b5 r _ us t5 p5 w5.heap.size _ (ColC.up _ _ HCI.out.c ((((Grow.refl wr).alloc _).trans HG5.out).alloc _)) (VOwn.up _ _ HCI.out.o ((((Grow.refl wr).alloc _).trans HG5.out).alloc _)) (by omega) (by have := HSZ.out; simp at *; omega) (by go_simp) hus).mono ?_; rintro e w6 ⟨rfl, V', w7, hown7, hg7, hv7, rfl⟩; have HSTEP := Lib.hid (ColI.step HCI.out HKK.out ((Grow.refl _).alloc _) HG5.out HST.out ((Grow.refl _).alloc _) hown7 hg7 hv7); clear hown7 hg7 hv7))
      go_roundw
      case rel => exact ⟨V', us ++ [.iface t5 p5], by simp only [List.length_append, List.length_singleton] <;> omega, by first | go_num | (simp <;> omega), HSTEP.out⟩
      case measure => simp [intOf]; omega
    · have hqe : us.length = kids.length := by omega
      have HQ := Lib.hid hqe
      clear hqe
      go_wp2_with (go_at_call 80; refine (mustLay b5 l r _ us kids _ HCI.out.c (VOwn.mono HCI.out.o (Nat.zero_le _)) (HCI.out.tvs HQ.out) HLAY.out).mono ?_; rintro e w4 ⟨rfl, rfl⟩)
      go_ret
      exact ⟨_, rfl, Grow.setCell HG.out HCI.out.wb _, HCI.out.fin HQ.out l⟩
/-- the object of any good data -/
theorem geoG : ∀ (g : GT) (v : Value) (w : World), GoodF g → LayF 9 g → Reach44 g → GV g v w → Calls Try.prog 35 #[v] w (GQ g w) := by
  refine GT.ind fun k l r fl en ens kids ih v w hgood hlay hr hv => ?_
  have hr0 := hr
  obtain ⟨k', l', r', fl', en', ens', kids', A1, c1, A2, c2, A3, c3, A4, c4, he, rfl, hfl, hen, hens⟩ := hv.seven
  cases he
  cases hlay with
  | mk h0 h1 h2 =>
  cases hr with
  | mk r0 r1 r2 r3 r4 r5 r6 r7 rk r8 =>
  cases hgood with
  | plain hk hl1 hm hd => exact geoPlain hfl hen hens hr0 hl1 h0 hd
  | coll g0 g1 g2 =>
    refine geoT7 l r kids (fun g hg v w hr hv => ih g hg v w (g1 g hg) (h2 g hg) hr hv) A1 _ c1 A2 _ c2 A3 _ c3 A4 c4 w hfl ?_ r8 r3 (fun h g hg => g2 g hg h)
    unfold GV at hv
    obtain ⟨u, e1, e2, A, c, he, -, -, -, -, hk⟩ := hv
    simp only [Value.agg.injEq, Array.mk.injEq, List.cons.injEq, Value.int.injEq, Value.slice.injEq, true_and, and_true] at he
    obtain ⟨-, -, -, rfl, rfl⟩ := he
    exact hk
end Go.Proofs.Ytemobphkgbhhhaa
