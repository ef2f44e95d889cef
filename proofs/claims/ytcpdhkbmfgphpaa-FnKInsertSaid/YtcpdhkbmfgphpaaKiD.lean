import Derived.Test.YtcpdhkbmfgphpaaKiC
namespace Go.Proofs.Ytcpdhkbmfgphpaa
open Go.ChangeShapes Go.WideShapes Go.ChangeAt Go.RowKit Go.GrowR
set_option linter.unusedVariables false
set_option linter.unusedSimpArgs false

theorem rem_next {m d k : Nat} (hm : m < d) (h : ((m : Int) + 1) % d = (k : Int)) : Int.tmod ((m : Int) + 1) (d : Int) = (k : Int) := by
  rw [Int.tmod_eq_emod_of_nonneg (by omega)]; exact h

set_option maxRecDepth 100000 in
set_option maxHeartbeats 8000000 in
theorem insert_node (d k' : Nat) (P0 : Value) (p q : List Nat) (m : Nat) (bx : Option (List Nat × List Nat)) (l r : PT) (v : Value) (F : List Nat) (pl : Int) (w : World) (hn : NP (.node q (m : Int) bx l r) v F w) (h0 : FOwn 34 0 P0 p w) (hp : Num p d (iv p)) (hq : Num q d (iv q)) (hm : m < d) (h6 : d ≤ 6) (hk : ((m : Int) + 1) % d = (k' : Int))
    (hd0 : ∀ k ∈ blk P0, k ∉ F) (hwb : BxLen d bx) (hwl : l.WB d) (hwr : r.WB d)
    (ihl : ∀ v F w', NP l v F w' → FOwn 34 0 P0 p w' → (∀ k ∈ blk P0, k ∉ F) → Calls Try.prog 53 #[v, .iface 61 P0, .int .i64 k'] w' (InsQ d p l k' P0 F w'))
    (ihr : ∀ v F w', NP r v F w' → FOwn 34 0 P0 p w' → (∀ k ∈ blk P0, k ∉ F) → Calls Try.prog 53 #[v, .iface 61 P0, .int .i64 k'] w' (InsQ d p r k' P0 F w')) :
    Calls Try.prog 53 #[v, .iface 61 P0, .int .i64 pl] w (InsQ d p (.node q (m : Int) bx l r) pl P0 F w) := by
  obtain ⟨b, P, lv, rv, bv, Fb, Fl, Fr, rfl, rfl, hnd, hnode, hown, hbx, hnl, hnr⟩ := hn
  have HND : Hid (ND b P m lv rv bv q bx Fb l r Fl Fr w) := ⟨hnode, hown, hbx, hnl, hnr, hnd⟩
  obtain ⟨n0, n1, n2, n3, n4, nf⟩ := hnode
  obtain ⟨al, rfl⟩ := hnl.isP
  obtain ⟨ar, rfl⟩ := hnr.isP
  have f2 := nf 2; have f3 := nf 3; have f4 := nf 4
  have H0 := Lib.hid h0; have HIL := Lib.hid ihl; have HIR := Lib.hid ihr
  have HD0 := Lib.hid hd0
  have HPL := Lib.hid hp.1
  have HCMP := Lib.hid (fun w' (h1 : FSl P0 p w') (h2 : FSl P q w') => compare_calls P0 P p q d m (iv p) (iv q) w' h1 h2 hp hq hm)
  have HDIM := Lib.hid (fun w' (h1 : FSl P0 p w') => dims_n hp.1 h1)
  have hci := (sub_num hp hq hm).2
  have tc := leB hci zero_I
  obtain ⟨A0, n00, c0, rfl⟩ := VOwn.isSl (B := 0) h0
  obtain ⟨AP, nP, cP, rfl⟩ := VOwn.isSl (B := 0) hown
  have hw1 : IntKind.i64.wrap ((m : Int) + 1) = (m : Int) + 1 := IntWalk.i64_in _ (by omega)
  have hrem := rem_next hm hk
  have hd1 : (d : Int) ≠ 0 := by omega
  have hdd : (1 : Int) ≤ (d : Int) := by omega
  have hmm : (m : Int) < 6 := by omega
  have HINS : Hid (PT.ins d p (.node q (m : Int) bx l r) pl = if iv p m ≤ iv q m then .node q (m : Int) bx (l.ins d p (k' : Int)) r else .node q (m : Int) bx l (r.ins d p (k' : Int))) := by
    show _ = _
    rw [PT.ins, hk]; simp
  clear nf hnd hown hbx hnl hnr h0 ihl ihr hd0 hp hq hk hci
  generalize fb .sub (p.getD m 0) (q.getD m 0) = cb at *
  go_enter Try.func53, Try.ntmps53
  go_wp2
  go_quiet ((go_at_call 89; exact Calls.quiet_of_same (HDIM.out _ (VOwn.sl (VOwn.up _ _ H0.out ((Grow.refl w).drewN _))).f)))
  have HG1 := Lib.hid ((Grow.refl w).drewN nq)
  have HF1 : Hid (FrF ([] : List Nat) w (w.drewN nq)) := FrF.of_grow HG1.out
  replace HND := Lib.hid (HND.out.up HG1.out)
  replace H0 : Hid (FOwn 34 0 (.slice A0 n00 c0) p (w.drewN nq)) := VOwn.up _ _ H0.out HG1.out
  replace n0 := up_cell n0 HG1.out
  replace n1 := up_cell n1 HG1.out
  replace n2 := up_cell n2 HG1.out
  replace n3 := up_cell n3 HG1.out
  have g2 : (w.drewN nq).frozen? ⟨b, 2, none⟩ = false := f2
  have g3 : (w.drewN nq).frozen? ⟨b, 3, none⟩ = false := f3
  clear f2 f3 f4 n4
  generalize w.drewN nq = W1 at *
  go_wp2
  go_quiet ((go_at_call 88; exact Calls.quiet_of (HCMP.out _ (VOwn.sl (VOwn.up _ _ H0.out ((Grow.refl W1).drewN _))).f (VOwn.sl (VOwn.up _ _ HND.out.o ((Grow.refl W1).drewN _))).f)))
  have HG2 := Lib.hid ((Grow.refl W1).drewN nq)
  have HF2 : Hid (FrF ([] : List Nat) w (W1.drewN nq)) := HF1.out.then_grow HG2.out
  replace HND := Lib.hid (HND.out.up HG2.out)
  replace H0 : Hid (FOwn 34 0 (.slice A0 n00 c0) p (W1.drewN nq)) := VOwn.up _ _ H0.out HG2.out
  replace n2 := up_cell n2 HG2.out
  replace n3 := up_cell n3 HG2.out
  replace g2 : (W1.drewN nq).frozen? ⟨b, 2, none⟩ = false := g2
  replace g3 : (W1.drewN nq).frozen? ⟨b, 3, none⟩ = false := g3
  clear n0 n1 HF1 HG1
  generalize W1.drewN nq = W2 at *
  by_cases hc : iv p m ≤ iv q m
  · rw [decide_eq_true (by omega)] at tc
    go_wp2_with fail
    refine (HIL.out _ _ _ HND.out.L H0.out (fun k hk hm => HD0.out k hk (by simp [hm]))).mono ?_
    rintro e W3 ⟨v3, F3, t3, rfl, hf3, hn3, hlk3, hwb3, hF3⟩
    obtain ⟨a3, rfl⟩ := hn3.isP
    have HX := Lib.hid (HND.out.left hf3 hn3 (fun k hk => (hF3 k hk).imp id fun h hm => by
      rcases h with h | h
      · exact HD0.out k h hm
      · have := HND.out.fin.lt k hm; omega))
    have d3 : W3.cell? ⟨b, 2, none⟩ = some (.pointer al) := (World.cell?_of_block (hf3.block b HND.out.n.lt (nodup_in HND.out.nd).1.2.2.1)).trans n2
    have e3 : W3.frozen? ⟨b, 2, none⟩ = false := (World.frozen?_of_block (hf3.block b HND.out.n.lt (nodup_in HND.out.nd).1.2.2.1)).trans g2
    have HLK := Lib.hid hlk3; have HWB := Lib.hid hwb3; have HF3 := Lib.hid hF3
    have HSZ2 := Lib.hid HF2.out.size
    clear hf3 hn3 hlk3 hwb3 hF3 n2 n3 g2 g3
    go_wp2
    go_ret
    refine ⟨_, _, .node q (m : Int) bx t3 r, rfl, FrF.trans (HF2.out.mono (fun x hx => by cases hx)) HX.out.2 (fun x hx => .inl hx), HX.out.1.fin, ?_, ⟨hwb, HWB.out, hwr⟩, fun k hk => ?_⟩
    · rw [HINS.out, if_pos hc]
      exact ⟨rfl, rfl, HLK.out, Like.refl r⟩
    · simp only [List.mem_cons, List.mem_append] at hk ⊢
      have h3 := HF3.out k
      have s2 := HSZ2.out
      grind
  · rw [decide_eq_false (by omega)] at tc
    go_wp2_with fail
    refine (HIR.out _ _ _ HND.out.R H0.out (fun k hk hm => HD0.out k hk (by simp [hm]))).mono ?_
    rintro e W3 ⟨v3, F3, t3, rfl, hf3, hn3, hlk3, hwb3, hF3⟩
    obtain ⟨a3, rfl⟩ := hn3.isP
    have HX := Lib.hid (HND.out.right hf3 hn3 (fun k hk => (hF3 k hk).imp id fun h hm => by
      rcases h with h | h
      · exact HD0.out k h hm
      · have := HND.out.fin.lt k hm; omega))
    have d3 : W3.cell? ⟨b, 3, none⟩ = some (.pointer ar) := (World.cell?_of_block (hf3.block b HND.out.n.lt (nodup_in HND.out.nd).1.2.2.2)).trans n3
    have e3 : W3.frozen? ⟨b, 3, none⟩ = false := (World.frozen?_of_block (hf3.block b HND.out.n.lt (nodup_in HND.out.nd).1.2.2.2)).trans g3
    have HLK := Lib.hid hlk3; have HWB := Lib.hid hwb3; have HF3 := Lib.hid hF3
    have HSZ2 := Lib.hid HF2.out.size
    clear hf3 hn3 hlk3 hwb3 hF3 n2 n3 g2 g3
    go_wp2
    go_ret
    refine ⟨_, _, .node q (m : Int) bx l t3, rfl, FrF.trans (HF2.out.mono (fun x hx => by cases hx)) HX.out.2 (fun x hx => .inl hx), HX.out.1.fin, ?_, ⟨hwb, hwl, HWB.out⟩, fun k hk => ?_⟩
    · rw [HINS.out, if_neg (by omega)]
      exact ⟨rfl, rfl, Like.refl l, HLK.out⟩
    · simp only [List.mem_cons, List.mem_append] at hk ⊢
      have h3 := HF3.out k
      have s2 := HSZ2.out
      grind

theorem insert_calls (d : Nat) (P0 : Value) (p : List Nat) (hp : Num p d (iv p)) (h6 : d ≤ 6) : ∀ (t : PT) (v : Value) (F : List Nat) (k : Nat) (w : World), k < d → t.KD d → t.WB d → NP t v F w → FOwn 34 0 P0 p w → (∀ k ∈ blk P0, k ∉ F) →
    Calls Try.prog 53 #[v, .iface 61 P0, .int .i64 (k : Nat)] w (InsQ d p t (k : Int) P0 F w)
  | .nil, v, F, k, w, _, _, _, hn, h0, _ => by rw [hn.1, hn.2]; exact insertNil d P0 p k w h0
  | .node q pl0 bx l r, v, F, k, w, hk, hkd, hwb, hn, h0, hd0 => by
    obtain ⟨⟨g1, m, e0, g3, g4, g5⟩, gl, gr⟩ := hkd
    subst e0
    obtain ⟨b1, b2, b3⟩ := hwb
    obtain ⟨k', e, hk'⟩ := plane_next g3
    exact insert_node d k' P0 p q m bx l r v F k w hn h0 hp g1 g3 h6 e hd0 b1 b2 b3 (fun v F w' a c f => insert_calls d P0 p hp h6 l v F k' w' hk' gl b2 a c f) (fun v F w' a c f => insert_calls d P0 p hp h6 r v F k' w' hk' gr b3 a c f)
end Go.Proofs.Ytcpdhkbmfgphpaa
