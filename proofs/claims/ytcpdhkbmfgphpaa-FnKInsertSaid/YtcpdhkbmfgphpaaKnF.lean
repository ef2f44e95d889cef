import Derived.Test.YtcpdhkbmfgphpaaKnE
namespace Go.Proofs.Ytcpdhkbmfgphpaa
open Go.ChangeShapes Go.WideShapes Go.ChangeAt Go.RowKit Go.GrowR
set_option linter.unusedVariables false
set_option linter.unusedSimpArgs false

variable {G : List Nat}
/-- a nearest node with its square -/
def SV (G : List Nat) (d : Nat) (Q : Nat → Int) (t : PT) (V : Value) (w : World) : Prop := ∃ v z p, V = .tuple #[v, .float .f64 z] ∧ p ∈ t.pts ∧ PtrTo G v p w ∧ Fl.IsI z (sqN Q (iv p) d) ∧ ∀ q ∈ t.pts, sqN Q (iv p) d ≤ sqN Q (iv q) d
theorem SV.up {d : Nat} {Q : Nat → Int} {t : PT} {V : Value} : Up (SV G d Q t V) := fun _ _ ⟨v, z, p, h1, h2, h3, h4⟩ hg => ⟨v, z, p, h1, h2, PtrTo.up _ _ h3 hg, h4⟩
theorem SRes.sv {d : Nat} {Q : Nat → Int} {t : PT} {w w' : World} {e : Ending} (h : SRes G d Q t none w e w') (ht : ∃ q, q ∈ t.pts) : ∃ V, e = .returned V ∧ Grow w w' ∧ SV G d Q t V w' := by
  obtain ⟨v, z, o', rfl, hg, hz, -, hc⟩ := h
  rcases hc with ⟨p, h1, h2, rfl, -, h5⟩ | ⟨h1, -⟩
  · exact ⟨_, rfl, hg, v, z, p, rfl, h1, h2, hz, h5⟩
  · obtain ⟨q, hq⟩ := ht
    have := h1 q hq
    simp [Fl.ltO] at this
def NearQ (G : List Nat) (d : Nat) (Q : Nat → Int) (t : PT) (w : World) (e : Ending) (w' : World) : Prop := ∃ P z p, e = .returned (.tuple #[ptV P, .float .f64 z]) ∧ Grow w w' ∧ p ∈ t.pts ∧ FOwn 34 0 P p w' ∧ (∀ k ∈ blk P, k ∈ G) ∧ Fl.IsI z (sqN Q (iv p) d) ∧ ∀ q ∈ t.pts, sqN Q (iv p) d ≤ sqN Q (iv q) d
set_option maxRecDepth 100000 in
set_option maxHeartbeats 4000000 in
theorem nearest_calls (b : Nat) (rv u : Value) (m : Nat) (p : List Nat) (pl : Int) (bx : Option (List Nat × List Nat)) (l r : PT) (F : List Nat) (xs : List Nat) (d : Nat) (Q : Nat → Int) (w : World) (hu : FSl u xs w) (ht : TreeC b rv m w) (hn : NP (.node p pl bx l r) rv F w) (hk : PT.KD d (.node p pl bx l r)) (hQ : Num xs d Q) (h6 : d ≤ 6) :
    Calls Try.prog 32 #[.pointer (some ⟨b, 0, none⟩), .iface 61 u] w (NearQ F d Q (.node p pl bx l r) w) := by
  have HS := Lib.hid (fun w' (hg : Grow w w') => (search_calls xs d Q u hQ h6 (.node p pl bx l r) rv F Fl.INF none w' hk (NP.up _ _ hn hg) (fun k hk => hk) (FSl.up _ _ hu hg) rfl).mono fun e w2 h => h.sv ⟨p, by simp [PT.pts]⟩)
  obtain ⟨t0, -, -⟩ := ht
  have lb := cell_lt' t0
  obtain ⟨bn, P, lv, rv', bv, Fb, Fll, Frr, rfl, -⟩ := hn
  obtain ⟨Au, cu, rfl, -, -⟩ := hu
  clear hk hQ
  generalize PT.node p pl bx l r = t at *
  go_enter Try.func32, Try.ntmps32
  go_wp2
  refine wp_region_grow (fun i => if i = 5 then some (fun _ _ => (fun V _ => V = .float .f64 Fl.INF)) else if i = 6 then some (fun _ _ V ww => SV F d Q t V ww) else none) (by kernel_rfl) (by kernel_rfl) ?_ ?_
  · intro i Φ h lo hi v
    (repeat' split at h) <;> cases h
    · exact fun _ _ h _ => h
    · exact SV.up
  repeat (first
    | (refine wpGrow_skip (by rfl) ?_; simp only [Act.put, List.setIfInBounds_toArray, List.set_cons_zero, List.set_cons_succ, Nat.reduceAdd])
    | (refine wpGrow_det' (by rfl) (by rfl) ?_; apply Exists.intro; refine ⟨fun w' hc hh => ?_, ?_⟩; (have hcell := grow_cell hc; clear hc hh; go_simp; rfl); simp only [Act.put, List.setIfInBounds_toArray, List.set_cons_zero, List.set_cons_succ, Nat.reduceAdd]))
  refine wpGrow_eff' (by rfl) (by rfl) (fun w' hc hh => ?_) (fun v lo hi w' hap hc hh hv => ?_)
  · clear hc hh
    go_simp
    go_at_call 50
    refine (inf_calls _).mono ?_
    rintro e w2 ⟨rfl, rfl⟩
    exact EffPost.mk (Grow.refl _) rfl
  obtain rfl := hv
  clear hc hh hap w'
  simp only [Act.put, List.setIfInBounds_toArray, List.set_cons_zero, List.set_cons_succ, Nat.reduceAdd]
  repeat (first
    | (refine wpGrow_skip (by rfl) ?_; simp only [Act.put, List.setIfInBounds_toArray, List.set_cons_zero, List.set_cons_succ, Nat.reduceAdd])
    | (refine wpGrow_det' (by rfl) (by rfl) ?_; apply Exists.intro; refine ⟨fun w' hc hh => ?_, ?_⟩; (have hcell := grow_cell hc; clear hc hh; go_simp; rfl); simp only [Act.put, List.setIfInBounds_toArray, List.set_cons_zero, List.set_cons_succ, Nat.reduceAdd]))
  refine wpGrow_eff' (by rfl) (by rfl) (fun w' hc hh => ?_) (fun v lo hi w' hap hc hh hv => ?_)
  · have HGC := Lib.hid hc
    clear hc hh
    go_simp
    go_at_call 51
    refine (HS.out _ HGC.out).mono ?_
    rintro e w2 ⟨V, rfl, hg, hsv⟩
    exact EffPost.mk hg hsv
  obtain ⟨v6, z6, p6, rfl, -, ⟨b6, P6, rfl, -, -, -⟩, -, -⟩ := hv
  clear hc hh hap w'
  simp only [Act.put, List.setIfInBounds_toArray, List.set_cons_zero, List.set_cons_succ, Nat.reduceAdd]
  repeat (first
    | (refine wpGrow_skip (by rfl) ?_; simp only [Act.put, List.setIfInBounds_toArray, List.set_cons_zero, List.set_cons_succ, Nat.reduceAdd])
    | (refine wpGrow_det' (by rfl) (by rfl) ?_; apply Exists.intro; refine ⟨fun w' hc hh => ?_, ?_⟩; (have hcell := grow_cell hc; clear hc hh; go_simp; rfl); simp only [Act.put, List.setIfInBounds_toArray, List.set_cons_zero, List.set_cons_succ, Nat.reduceAdd]))
  refine wpGrow_nil ?_
  intro w1 hg hh
  obtain ⟨v7, z7, p7, he, hp7, ⟨b7, P7, hv7, hc7, ho7, hb7⟩, hz7, hm7⟩ := (hh 6).1
  subst hv7
  cases he
  have HG := Lib.hid hg; have HO := Lib.hid ho7; have HB7 := Lib.hid hb7; have HP := Lib.hid hp7; have HM := Lib.hid hm7; have HZ := Lib.hid hz7
  clear hh hg hb7 ho7 hp7 hm7 hz7
  go_wp2
  go_ret2
  exact ⟨_, _, p7, rfl, HG.out, HP.out, HO.out, HB7.out, HZ.out, HM.out⟩
theorem idleKN (p0 p1 p2 : Addr) (w : World) :
    CallsD Try.prog 31 #[.pointer (some p0), .pointer (some p1), .pointer (some p2)] .returning w fun e u' w' => e = .returned (.tuple #[]) ∧ u' = .returning ∧ w' = w := by
  refine callsD_of_wpS Try.func31 rfl fun c₀ cs hu => ?_
  apply wpS_seq
  apply wpS_region
  simp [wpOpsS, go_sem, recoverD, hu, Try.ntmps31, Exit.thenS]
  refine wpS_cond (t := false) (by simp [Act.eval, Array.replicate]) ?_
  simp only [Bool.false_eq_true, if_false]
  refine wpS_of_wp ?_
  go_wp2
  cases c₀
  simp_all [bodyPostS, results, Try.results31, Exit.thenS]

def KNQ (d : Nat) (Q : Nat → Int) (t : PT) (w : World) (e : Ending) (w' : World) : Prop := ∃ V z p, e = .returned (.tuple #[V, .float .f64 z, .bool true]) ∧ Grow w w' ∧ p ∈ t.pts ∧ FSl V p w' ∧ Fl.IsI z (sqN Q (iv p) d) ∧ ∀ q ∈ t.pts, sqN Q (iv p) d ≤ sqN Q (iv q) d
set_option maxRecDepth 100000 in
set_option maxHeartbeats 8000000 in
theorem knearest_calls (v u : Value) (ns : List KN) (i : Int) (j : Nat) (l r : Kt.KT) (xs : List Nat) (d : Nat) (Q : Nat → Int) (w : World) (hv : KSl v ns w) (hu : FSl u xs w) (hf : fitsB ns = true) (ht : Kt.Tr ns.length (kL ns) (kR ns) (-1) i (.node j l r)) (hk : (toPT ns (.node j l r)).KD d) (hQ : Num xs d Q) (h6 : d ≤ 6) :
    Calls Try.prog 13 #[v, .int .i64 i, u] w (KNQ d Q (toPT ns (.node j l r)) w) := by
  have hmf : ∀ (fn : Fn) (first cap : Array Value) (w : World), (Instr.makeFunc fn first cap).run Try.prog w = .ok (.func fn first cap) w := fun _ _ _ _ => rfl
  have HT := Lib.hid (fun w' (hg : Grow w w') => ktree_calls v ns i _ w' (KSl.up _ _ hv hg) hf ht)
  have HN := Lib.hid (fun b rv F m w' (hg : Grow w w') (h1 : TreeC b rv m w') (h2 : NP (toPT ns (.node j l r)) rv F w') => nearest_calls b rv u m _ _ _ _ _ F xs d Q w' (FSl.up _ _ hu hg) h1 h2 hk hQ h6)
  have HNUM := Lib.hid hk.num
  obtain ⟨P, c, rfl, -, -⟩ := hu
  obtain ⟨P', c', rfl, -, -⟩ := hv
  clear hQ hk ht
  have HN' : Hid (∀ b rv F m w', Grow w w' → TreeC b rv m w' → NP (toPT ns (.node j l r)) rv F w' → Calls Try.prog 32 #[.pointer (some ⟨b, 0, none⟩), .iface 61 (.slice P xs.length c)] w' (NearQ F d Q (toPT ns (.node j l r)) w')) := HN.out
  clear HN
  generalize toPT ns (.node j l r) = t at *
  go_enter_defers Try.func13, Try.ntmps13
  go_wp2_with fail
  refine (HT.out _ ((((Grow.refl w).alloc _).alloc _).alloc _)).mono ?_
  rintro e w1 ⟨b, rv, F, rfl, hg, htc, hnp, hFw, -⟩
  have HFW : Hid (∀ k ∈ F, w.heap.size + 3 ≤ k) := fun k hk => by have := (hFw k hk).1; simpa using this
  clear hFw
  have HTC := Lib.hid htc; have HNP := Lib.hid hnp
  have c0 := up_cell (a := ⟨w.heap.size, 0, none⟩) (v := .slice none 0 0) (by go_simp) hg
  have c1 := up_cell (a := ⟨w.heap.size + 1, 0, none⟩) (v := .float .f64 0) (by go_simp) hg
  have c2 := up_cell (a := ⟨w.heap.size + 2, 0, none⟩) (v := .bool false) (by go_simp) hg
  have f0 : w1.frozen? ⟨w.heap.size, 0, none⟩ = false := by rw [grow_frozen hg _ _ (by simp <;> omega)]; go_simp
  have f1 : w1.frozen? ⟨w.heap.size + 1, 0, none⟩ = false := by rw [grow_frozen hg _ _ (by simp <;> omega)]; go_simp
  have f2 : w1.frozen? ⟨w.heap.size + 2, 0, none⟩ = false := by rw [grow_frozen hg _ _ (by simp <;> omega)]; go_simp
  have HG1 := Lib.hid (((((Grow.refl w).alloc _).alloc _).alloc _).trans hg)
  clear hg htc hnp
  go_wp2_with fail
  refine (HN'.out _ _ _ _ _ HG1.out HTC.out HNP.out).mono ?_
  rintro e w2 ⟨P2, z2, p2, rfl, hg2, hp2, ho2, hb2, hz2, hm2⟩
  have e0 := up_cell c0 hg2; have e1 := up_cell c1 hg2; have e2 := up_cell c2 hg2
  have k0 : w2.frozen? ⟨w.heap.size, 0, none⟩ = false := by rw [grow_frozen hg2 _ _ (cell_lt' c0)]; exact f0
  have k1 : w2.frozen? ⟨w.heap.size + 1, 0, none⟩ = false := by rw [grow_frozen hg2 _ _ (cell_lt' c1)]; exact f1
  have k2 : w2.frozen? ⟨w.heap.size + 2, 0, none⟩ = false := by rw [grow_frozen hg2 _ _ (cell_lt' c2)]; exact f2
  have ho3 : FOwn 34 0 P2 p2 (w2.setCell ⟨w.heap.size + 1, 0, none⟩ (.float .f64 z2)) := VOwn.moveB ho2 fun k hk => NB.set_far (fun e => by have := HFW.out k (hb2 k hk); have : k = w.heap.size + 1 := e; omega)
  have d0 : (w2.setCell ⟨w.heap.size + 1, 0, none⟩ (.float .f64 z2)).cell? ⟨w.heap.size, 0, none⟩ = some (.slice none 0 0) := WS.far e0 (by simp)
  have d1 : (w2.setCell ⟨w.heap.size + 1, 0, none⟩ (.float .f64 z2)).cell? ⟨w.heap.size + 1, 0, none⟩ = some (.float .f64 z2) := World.cell?_setCell_same _ _ _ e1
  have d2 : (w2.setCell ⟨w.heap.size + 1, 0, none⟩ (.float .f64 z2)).cell? ⟨w.heap.size + 2, 0, none⟩ = some (.bool false) := WS.far e2 (by simp)
  have g0 : (w2.setCell ⟨w.heap.size + 1, 0, none⟩ (.float .f64 z2)).frozen? ⟨w.heap.size, 0, none⟩ = false := by rw [World.frozen?_setCell]; exact k0
  have g1 : (w2.setCell ⟨w.heap.size + 1, 0, none⟩ (.float .f64 z2)).frozen? ⟨w.heap.size + 1, 0, none⟩ = false := by rw [World.frozen?_setCell]; exact k1
  have g2 : (w2.setCell ⟨w.heap.size + 1, 0, none⟩ (.float .f64 z2)).frozen? ⟨w.heap.size + 2, 0, none⟩ = false := by rw [World.frozen?_setCell]; exact k2
  have HG2 : Hid (Grow w (w2.setCell ⟨w.heap.size + 1, 0, none⟩ (.float .f64 z2))) := (HG1.out.trans hg2).setCell (by simp) _
  have HP2 := Lib.hid hp2; have HZ2 := Lib.hid hz2; have HM2 := Lib.hid hm2
  obtain ⟨A2, n2, m2, rfl⟩ := VOwn.isSl (B := 0) ho2
  clear hg2 c0 c1 c2 f0 f1 f2 hp2 ho2 hz2 hm2 hb2
  go_wp2_with fail
  clear e0 e1 e2 k0 k1 k2
  generalize w2.setCell ⟨w.heap.size + 1, 0, none⟩ (.float .f64 z2) = W3 at *
  have HFL := Lib.hid (fun w' (hg : Grow W3 w') => floats_calls44 (.slice A2 n2 m2) p2 w' (FSl.up _ _ ho3.sl.f hg) (by have := (HNUM.out p2 HP2.out).1; omega))
  have lW := cell_lt' d2
  clear ho3
  go_region_held3 (fun w' => w'.cell? ⟨w.heap.size + 1, 0, none⟩ = some (.float .f64 z2)) (first | go_keep | exact u1 | exact WS.far u1 (by simp) | exact World.cell?_setCell_same _ _ _ (WS.far u1 (by simp)) | exact WS.far (World.cell?_setCell_same _ _ _ (WS.far u1 (by simp))) (by simp)) ((go_at_call 33; refine (HFL.out _ (Grow.refl W3).drew).mono ?_; rintro e w3 ⟨V3, rfl, hg3, ho3⟩; have hg3' := (Grow.refl W3).drew.trans hg3; have HG3 := Lib.hid (HG2.out.trans hg3'); have HO3 := Lib.hid ho3; obtain ⟨A4, n4, m4, rfl⟩ := ho3.isSl; have u0 := up_cell d0 hg3'; have u1 := up_cell d1 hg3'; have u2 := up_cell d2 hg3'; have l0 := (grow_frozen hg3' _ 0 (cell_lt' d0)).trans g0; have l1 := (grow_frozen hg3' _ 0 (cell_lt' d1)).trans g1; have l2 := (grow_frozen hg3' _ 0 (cell_lt' d2)).trans g2; clear hg3 hg3' ho3))
  go_wp2
  refine leaves_cons (f := 31) (args := #[.pointer (some ⟨w.heap.size, 0, none⟩), .pointer (some ⟨w.heap.size + 1, 0, none⟩), .pointer (some ⟨w.heap.size + 2, 0, none⟩)]) (by simp) (by simp [go_sem]) ?_
  refine (idleKN ⟨w.heap.size, 0, none⟩ ⟨w.heap.size + 1, 0, none⟩ ⟨w.heap.size + 2, 0, none⟩ _).mono ?_
  rintro e u' w'' ⟨rfl, rfl, rfl⟩
  refine ⟨.tuple #[.slice A4 n4 m4, .float .f64 z2, .bool true], by simp [results, Try.results13, go_sem, u0, u1, u2], _, _, p2, rfl, ((HG3.out.setCell (by simp) _).setCell (by simp <;> omega) _).setCell (by simp <;> omega) _, HP2.out, ?_, HZ2.out, HM2.out⟩
  exact (VOwn.sl (((HO3.out.setCell (by simp <;> omega) _).setCell (by simp <;> omega) _).setCell (by simp <;> omega) _)).f
end Go.Proofs.Ytcpdhkbmfgphpaa
