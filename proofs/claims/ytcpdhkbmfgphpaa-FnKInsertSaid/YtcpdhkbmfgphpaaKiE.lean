import Derived.Test.YtcpdhkbmfgphpaaKiD
import Derived.Test.YtcpdhkbmfgphpaaHeadH
namespace Go.Proofs.Ytcpdhkbmfgphpaa
open Go.ChangeShapes Go.WideShapes Go.ChangeAt Go.RowKit Go.GrowR
set_option linter.unusedVariables false
set_option linter.unusedSimpArgs false

@[go_sem] theorem mExt (v : Value) (w : World) : (method 247 61 v "Extend").run Try.prog w = .ok (91, v) w := by kernel_rfl
@[go_sem] theorem nilExt (A : Option Addr) (n c : Nat) (w : World) : (nilAhead 247 61 (.slice A n c) "Extend").run Try.prog w = .ok (some false) w := by kernel_rfl
theorem extend_any (d : Nat) (bx : Option (List Nat × List Nat)) (P0 v : Value) (p : List Nat) (Fb : List Nat) (w : World) (h0 : FOwn 34 0 P0 p w) (hb : BoxF bx v Fb w) (hp : p.length = d) (hl : BxLen d bx) (hn : 1 ≤ d) (h6 : d ≤ 6) (hd : Fb.Nodup) (hd0 : ∀ k ∈ blk P0, k ∉ Fb) :
    Calls Try.prog 91 #[P0, v] w (ExQ d Fb w) := by
  cases bx with
  | none => rw [hb.1, hb.2]; exact extend_nil d P0 p w h0 hp hn h6
  | some x => obtain ⟨mn, mx⟩ := x; exact extend_some d 0 P0 v p mn mx Fb w h0 hb hp hl.1 hl.2 hn h6 hd hd0
theorem insertBNil (d : Nat) (P0 : Value) (p : List Nat) (pl : Int) (w : World) (h0 : FOwn 34 0 P0 p w) (hp : p.length = d) (hn : 1 ≤ d) (h6 : d ≤ 6) : Calls Try.prog 52 #[.pointer none, .iface 61 P0, .int .i64 pl, .bool true] w (InsQ d p .nil pl P0 [] w) := by
  have H0 := Lib.hid h0
  have HBK : Hid (∀ k ∈ blk P0, k < w.heap.size) := fun k hk => (own_ltH' h0 k (by simpa [blk] using hk)).2
  have HEX := Lib.hid (extend_nil d P0 p w h0 hp hn h6)
  obtain ⟨A0, n00, c0, rfl⟩ := VOwn.isSl (B := 0) h0
  clear h0
  go_enter Try.func52, Try.ntmps52
  go_wp2_with fail
  refine HEX.out.mono ?_
  rintro e w1 ⟨v1, F1, mn, mx, rfl, hf1, hbx, hl1, hl2, hnd1, hF1⟩
  obtain ⟨a1, rfl⟩ := hbx.isP
  have HF := Lib.hid hf1; have HBX := Lib.hid hbx; have HND := Lib.hid hnd1; have HFF := Lib.hid hF1
  have HL := Lib.hid (show BxLen d (some (mn, mx)) from ⟨hl1, hl2⟩)
  have HS := Lib.hid hf1.size
  clear hf1 hbx hnd1 hF1 hl1 hl2
  go_wp2
  go_ret
  refine ⟨_, _, .node p pl (some (mn, mx)) .nil .nil, rfl, HF.out.then_grow ((Grow.refl _).alloc _), ⟨w1.heap.size, _, _, _, _, F1, [], [], rfl, rfl, ?_, ⟨by go_simp, by go_simp, by go_simp, by go_simp, by go_simp, fun o => by go_simp⟩, VOwn.up _ _ (own_fr H0.out HF.out (fun k _ h => by cases h)) ((Grow.refl _).alloc _), BoxF.up _ _ HBX.out ((Grow.refl _).alloc _), ⟨rfl, rfl⟩, ⟨rfl, rfl⟩⟩, ⟨rfl, rfl, trivial, trivial⟩, ⟨HL.out, trivial, trivial⟩, fun k hk => ?_⟩
  · simp only [List.append_nil]
    have hs := HS.out
    refine List.nodup_cons.2 ⟨fun h => ?_, List.nodup_append.2 ⟨blk_nodup _, HND.out, fun x hx y hy e => ?_⟩⟩
    · rcases List.mem_append.1 h with h | h
      · have := HBK.out _ h; omega
      · have := HBX.out.lt _ h; omega
    · subst e
      have := HBK.out _ hx
      rcases HFF.out _ hy with h | h
      · cases h
      · omega
  · simp only [List.append_nil, List.mem_cons, List.mem_append] at hk
    have hs := HS.out
    rcases hk with rfl | hk | hk
    · exact .inr (.inr hs)
    · exact .inr (.inl hk)
    · rcases HFF.out _ hk with h | h
      · cases h
      · exact .inr (.inr h)
set_option maxRecDepth 100000 in
set_option maxHeartbeats 16000000 in
theorem insertB_node (d k' : Nat) (P0 : Value) (p q : List Nat) (m : Nat) (bx : Option (List Nat × List Nat)) (l r : PT) (v : Value) (F : List Nat) (pl : Int) (w : World) (hn : NP (.node q (m : Int) bx l r) v F w) (h0 : FOwn 34 0 P0 p w) (hp : Num p d (iv p)) (hq : Num q d (iv q)) (hm : m < d) (h6 : d ≤ 6) (hk : ((m : Int) + 1) % d = (k' : Int))
    (hd0 : ∀ k ∈ blk P0, k ∉ F) (hwb : BxLen d bx) (hwl : l.WB d) (hwr : r.WB d)
    (ihl : ∀ v F w', NP l v F w' → FOwn 34 0 P0 p w' → (∀ k ∈ blk P0, k ∉ F) → Calls Try.prog 52 #[v, .iface 61 P0, .int .i64 k', .bool true] w' (InsQ d p l k' P0 F w'))
    (ihr : ∀ v F w', NP r v F w' → FOwn 34 0 P0 p w' → (∀ k ∈ blk P0, k ∉ F) → Calls Try.prog 52 #[v, .iface 61 P0, .int .i64 k', .bool true] w' (InsQ d p r k' P0 F w')) :
    Calls Try.prog 52 #[v, .iface 61 P0, .int .i64 pl, .bool true] w (InsQ d p (.node q (m : Int) bx l r) pl P0 F w) := by
  obtain ⟨b, P, lv, rv, bv, Fb, Fl, Fr, rfl, rfl, hnd, hnode, hown, hbx, hnl, hnr⟩ := hn
  have HND : Hid (ND b P m lv rv bv q bx Fb l r Fl Fr w) := ⟨hnode, hown, hbx, hnl, hnr, hnd⟩
  obtain ⟨n0, n1, n2, n3, n4, nf⟩ := hnode
  obtain ⟨al, rfl⟩ := hnl.isP
  obtain ⟨ar, rfl⟩ := hnr.isP
  have f2 := nf 2; have f3 := nf 3; have f4 := nf 4
  have H0 := Lib.hid h0; have HIL := Lib.hid ihl; have HIR := Lib.hid ihr
  have HD0 := Lib.hid hd0
  have HPL := Lib.hid hp.1
  have HCMP := Lib.hid (fun w' (h1 : FSl P0 p w') (h2 : FSl P q w') => compare_calls P0 P p q d m (iv p) (iv q) w' h1 h2 hp hq hm)
  have HDIM := Lib.hid (fun w' (h1 : FSl P0 p w') => dims_n hp.1 h1)
  have hci := (sub_num hp hq hm).2
  have tc := leB hci zero_I
  obtain ⟨A0, n00, c0, rfl⟩ := VOwn.isSl (B := 0) h0
  obtain ⟨AP, nP, cP, rfl⟩ := VOwn.isSl (B := 0) hown
  have hw1 : IntKind.i64.wrap ((m : Int) + 1) = (m : Int) + 1 := IntWalk.i64_in _ (by omega)
  have hrem := rem_next hm hk
  have hd1 : (d : Int) ≠ 0 := by omega
  have hdd : (1 : Int) ≤ (d : Int) := by omega
  have hmm : (m : Int) < 6 := by omega
  have HINS : Hid (PT.ins d p (.node q (m : Int) bx l r) pl = if iv p m ≤ iv q m then .node q (m : Int) bx (l.ins d p (k' : Int)) r else .node q (m : Int) bx l (r.ins d p (k' : Int))) := by
    show _ = _
    rw [PT.ins, hk]; simp
  clear nf hnd hown hbx hnl hnr h0 ihl ihr hd0 hp hq hk hci
  generalize fb .sub (p.getD m 0) (q.getD m 0) = cb at *
  obtain ⟨av, rfl⟩ := HND.out.x.isP
  have HEX := Lib.hid (fun W (hx : ND b (.slice AP nP cP) m (.pointer al) (.pointer ar) (.pointer av) q bx Fb l r Fl Fr W) (h : FOwn 34 0 (.slice A0 n00 c0) p W) => extend_any d bx (.slice A0 n00 c0) (.pointer av) p Fb W h hx.x HPL.out hwb (by omega) h6 (by
    have := hx.nd
    simp only [List.nodup_cons, List.nodup_append] at this
    exact this.2.2.1.1) (fun k hk hm => HD0.out k hk (by simp [hm])))
  go_enter Try.func52, Try.ntmps52
  go_wp2_with fail
  refine wp_region_G (fun w' => w'.cell? ⟨b, 4, none⟩ = some (.pointer av)) 12 (by kernel_rfl) ?_
  refine wpAnyG_take (i := 0) (v := ?_) rfl (by kernel_rfl) (fun _ _ _ h => h) (by rfl) (fun ws hS => ?_) (n4) ?_
  rotate_left
  · (skip; (go_simp <;> rfl))
  simp only [Act.put, List.setIfInBounds_toArray, List.set_cons_zero, List.set_cons_succ, Nat.reduceAdd]
  refine wpAnyG_take (i := 1) (v := ?_) rfl (by kernel_rfl) (fun _ _ _ h => h) (by rfl) (fun ws hS => ?_) (n4) ?_
  rotate_left
  · (skip; (go_simp <;> rfl))
  simp only [Act.put, List.setIfInBounds_toArray, List.set_cons_zero, List.set_cons_succ, Nat.reduceAdd]
  refine wpAnyG_take (i := 2) (v := ?_) rfl (by kernel_rfl) (fun _ _ _ h => h) (by rfl) (fun ws hS => ?_) (n4) ?_
  rotate_left
  · (skip; (go_simp <;> rfl))
  simp only [Act.put, List.setIfInBounds_toArray, List.set_cons_zero, List.set_cons_succ, Nat.reduceAdd]
  refine wpAnyG_take (i := 3) (v := ?_) rfl (by kernel_rfl) (fun _ _ _ h => h) (by rfl) (fun ws hS => ?_) (n4) ?_
  rotate_left
  · (skip; (go_simp <;> rfl))
  simp only [Act.put, List.setIfInBounds_toArray, List.set_cons_zero, List.set_cons_succ, Nat.reduceAdd]
  refine wpAnyG_take (i := 4) (v := ?_) rfl (by kernel_rfl) (fun _ _ _ h => h) (by rfl) (fun ws hS => ?_) (n4) ?_
  rotate_left
  · (skip; (go_simp <;> rfl))
  simp only [Act.put, List.setIfInBounds_toArray, List.set_cons_zero, List.set_cons_succ, Nat.reduceAdd]
  refine wpAnyG_take (i := 5) (v := ?_) rfl (by kernel_rfl) (fun _ _ _ h => h) (by rfl) (fun ws hS => ?_) (n4) ?_
  rotate_left
  · (skip; (go_simp <;> rfl))
  simp only [Act.put, List.setIfInBounds_toArray, List.set_cons_zero, List.set_cons_succ, Nat.reduceAdd]
  refine wpAnyG_take (i := 6) (v := ?_) rfl (by kernel_rfl) (fun _ _ _ h => h) (by rfl) (fun ws hS => ?_) (n4) ?_
  rotate_left
  · (skip; (go_simp <;> rfl))
  simp only [Act.put, List.setIfInBounds_toArray, List.set_cons_zero, List.set_cons_succ, Nat.reduceAdd]
  refine wpAnyG_take (i := 7) (v := ?_) rfl (by kernel_rfl) (fun _ _ _ h => h) (by rfl) (fun ws hS => ?_) (n4) ?_
  rotate_left
  · (skip; (go_simp <;> rfl))
  simp only [Act.put, List.setIfInBounds_toArray, List.set_cons_zero, List.set_cons_succ, Nat.reduceAdd]
  refine wpAnyG_take (i := 8) (v := ?_) rfl (by kernel_rfl) (fun _ _ _ h => h) (by rfl) (fun ws hS => ?_) (n4) ?_
  rotate_left
  · (skip; (go_simp <;> rfl))
  simp only [Act.put, List.setIfInBounds_toArray, List.set_cons_zero, List.set_cons_succ, Nat.reduceAdd]
  refine wpAnyG_ready (rs := [9]) (by kernel_rfl) (by rfl) ?_
  refine AllReadyG.cons rfl (fun K hK => ?_) ?_
  · go_simp
    go_at_call 91
    have HG0 := Lib.hid (Grow.refl w).drew
    refine (HEX.out _ (HND.out.up HG0.out) (VOwn.up _ _ H0.out HG0.out)).mono ?_
    rintro e w1 ⟨v1, F1, mn, mx, rfl, hf1, hbx, hl1, hl2, hnd1, hF1⟩
    obtain ⟨a1, rfl⟩ := hbx.isP
    have hfw := FrF.trans (F := Fb) (FrF.of_grow HG0.out) hf1 (fun x hx => .inl hx)
    have e4 := (World.cell?_of_block (hfw.block b HND.out.n.lt (nodup_in HND.out.nd).1.2.1)).trans n4
    have e4f := (World.frozen?_of_block (a := ⟨b, 4, none⟩) (hfw.block b HND.out.n.lt (nodup_in HND.out.nd).1.2.1)).trans f4
    refine hK.out _ _ (fun _ => e4) ?_
    clear hK K
    try simp only [Act.put, List.setIfInBounds_toArray, List.set_cons_zero, List.set_cons_succ, Nat.reduceAdd]
    refine wpAnyG_ready (rs := [10]) (by kernel_rfl) (by rfl) ?_
    refine AllReadyG.cons rfl (fun K hK => ?_) ?_
    · go_simp
      refine hK.out _ _ (fun _ => e4) ?_
      clear hK K
      try simp only [Act.put, List.setIfInBounds_toArray, List.set_cons_zero, List.set_cons_succ, Nat.reduceAdd]
      refine wpAnyG_ready (rs := [11]) (by kernel_rfl) (by rfl) ?_
      refine AllReadyG.cons rfl (fun K hK => ?_) ?_
      · go_simp
        refine hK.out _ _ (fun _ => e4) ?_
        clear hK K
        try simp only [Act.put, List.setIfInBounds_toArray, List.set_cons_zero, List.set_cons_succ, Nat.reduceAdd]
        refine wpAnyG_ready (rs := [12]) (by kernel_rfl) (by rfl) ?_
        refine AllReadyG.cons rfl (fun K hK => ?_) ?_
        · go_simp
          refine hK.out _ _ (fun h => absurd h (by decide)) ?_
          clear hK K
          try simp only [Act.put, List.setIfInBounds_toArray, List.set_cons_zero, List.set_cons_succ, Nat.reduceAdd]
          refine wpAnyG_done (by kernel_rfl) ?_ _
          obtain ⟨hN, hFr⟩ := HND.out.boxed hfw hbx hnd1 (fun k hk => (hF1 k hk).imp id fun h hm => by have := HND.out.fin.lt k hm; simp at h; omega)
          have HFX : Hid (∀ k ∈ F1, k ∈ Fb ∨ w.heap.size ≤ k) := fun k hk => by simpa using hF1 k hk
          have HBL : Hid (BxLen d (some (mn, mx))) := ⟨hl1, hl2⟩
          have H04 : Hid (FOwn 34 0 (.slice A0 n00 c0) p (w1.setCell ⟨b, 4, none⟩ (.pointer a1))) := VOwn.moveB (own_fr H0.out hfw fun k hk hm => HD0.out k hk (by simp [hm])) fun k hk => NB.set_far fun e => HD0.out k hk (by rw [show k = b from e]; simp)
          have HB0 : Hid (∀ k ∈ blk (.slice A0 n00 c0), k < w.heap.size) := fun k hk => (own_ltH' H0.out k (by simpa [blk] using hk)).2
          have HD4 : Hid (∀ k ∈ blk (.slice A0 n00 c0), k ∉ (b :: (blk (.slice AP nP cP) ++ (F1 ++ (Fl ++ Fr))))) := fun k hk hm => by
            have h1 := HD0.out k hk
            have h2 := HB0.out k hk
            simp only [List.mem_cons, List.mem_append, not_or] at h1 hm
            have h3 := HFX.out k
            rcases hm with hm | hm | hm | hm | hm
            · exact h1.1 hm
            · exact h1.2.1 hm
            · rcases h3 hm with h | h
              · exact h1.2.2.1 h
              · omega
            · exact h1.2.2.2.1 hm
            · exact h1.2.2.2.2 hm
          have HFM : Hid (∀ x ∈ (b :: (blk (.slice AP nP cP) ++ (F1 ++ (Fl ++ Fr)))), x ∈ (b :: (blk (.slice AP nP cP) ++ (Fb ++ (Fl ++ Fr)))) ∨ w.heap.size ≤ x) := fun x hx => by
            have h3 := HFX.out x
            simp only [List.mem_cons, List.mem_append] at hx ⊢
            rcases hx with hx | hx | hx | hx | hx
            · exact .inl (.inl hx)
            · exact .inl (.inr (.inl hx))
            · rcases h3 hx with h | h
              · exact .inl (.inr (.inr (.inl h)))
              · exact .inr h
            · exact .inl (.inr (.inr (.inr (.inl hx))))
            · exact .inl (.inr (.inr (.inr (.inr hx))))
          have HN4 := Lib.hid hN
          have HF4 := Lib.hid hFr
          have g2 := hN.n.fz 2
          have g3 := hN.n.fz 3
          replace n0 := hN.n.c0
          replace n1 := hN.n.c1
          replace n2 := hN.n.c2
          replace n3 := hN.n.c3
          clear HND H0 HD0 n4 f2 f3 f4 hfw hbx hnd1 hF1 hl1 hl2 hN hFr e4 e4f HG0 hf1 HB0 HEX
          generalize w1.setCell ⟨b, 4, none⟩ (.pointer a1) = W4 at *
          go_wp2
          go_quiet ((go_at_call 89; exact Calls.quiet_of_same (HDIM.out _ (VOwn.sl (VOwn.up _ _ H04.out ((Grow.refl W4).drewN _))).f)))
          have HG5 := Lib.hid ((Grow.refl W4).drewN nq)
          have HN5 := Lib.hid (HN4.out.up HG5.out)
          have HF5 := Lib.hid (HF4.out.then_grow HG5.out)
          have H05 : Hid (FOwn 34 0 (.slice A0 n00 c0) p (W4.drewN nq)) := VOwn.up _ _ H04.out HG5.out
          replace n0 := up_cell n0 HG5.out
          replace n1 := up_cell n1 HG5.out
          replace n2 := up_cell n2 HG5.out
          replace n3 := up_cell n3 HG5.out
          replace g2 : (W4.drewN nq).frozen? ⟨b, 2, none⟩ = false := g2
          replace g3 : (W4.drewN nq).frozen? ⟨b, 3, none⟩ = false := g3
          clear HN4 HF4 H04 HG5
          generalize W4.drewN nq = W5 at *
          go_wp2
          go_quiet ((go_at_call 88; exact Calls.quiet_of (HCMP.out _ (VOwn.sl (VOwn.up _ _ H05.out ((Grow.refl W5).drewN _))).f (VOwn.sl (VOwn.up _ _ HN5.out.o ((Grow.refl W5).drewN _))).f)))
          have HG6 := Lib.hid ((Grow.refl W5).drewN nq)
          have HND := Lib.hid (HN5.out.up HG6.out)
          have HF2 := Lib.hid (HF5.out.then_grow HG6.out)
          have H0 : Hid (FOwn 34 0 (.slice A0 n00 c0) p (W5.drewN nq)) := VOwn.up _ _ H05.out HG6.out
          have HD0 := Lib.hid HD4.out
          replace n2 := up_cell n2 HG6.out
          replace n3 := up_cell n3 HG6.out
          replace g2 : (W5.drewN nq).frozen? ⟨b, 2, none⟩ = false := g2
          replace g3 : (W5.drewN nq).frozen? ⟨b, 3, none⟩ = false := g3
          clear HN5 HF5 H05 n0 n1 HG6 HD4
          generalize W5.drewN nq = W2 at *
          by_cases hc : iv p m ≤ iv q m
          · rw [decide_eq_true (by omega)] at tc
            go_wp2_with fail
            refine (HIL.out _ _ _ HND.out.L H0.out (fun k hk hm => HD0.out k hk (by simp [hm]))).mono ?_
            rintro e W3 ⟨v3, F3, t3, rfl, hf3, hn3, hlk3, hwb3, hF3⟩
            obtain ⟨a3, rfl⟩ := hn3.isP
            have HX := Lib.hid (HND.out.left hf3 hn3 (fun k hk => (hF3 k hk).imp id fun h hm => by
              rcases h with h | h
              · exact HD0.out k h hm
              · have := HND.out.fin.lt k hm; omega))
            have d3 : W3.cell? ⟨b, 2, none⟩ = some (.pointer al) := (World.cell?_of_block (hf3.block b HND.out.n.lt (nodup_in HND.out.nd).1.2.2.1)).trans n2
            have e3 : W3.frozen? ⟨b, 2, none⟩ = false := (World.frozen?_of_block (hf3.block b HND.out.n.lt (nodup_in HND.out.nd).1.2.2.1)).trans g2
            have HLK := Lib.hid hlk3; have HWB := Lib.hid hwb3; have HF3 := Lib.hid hF3
            have HSZ2 := Lib.hid HF2.out.size
            clear hf3 hn3 hlk3 hwb3 hF3 n2 n3 g2 g3
            go_wp2
            go_ret
            refine ⟨_, _, .node q (m : Int) (some (mn, mx)) t3 r, rfl, FrF.trans HF2.out HX.out.2 HFM.out, HX.out.1.fin, ?_, ⟨HBL.out, HWB.out, hwr⟩, fun k hk => ?_⟩
            · rw [HINS.out, if_pos hc]
              exact ⟨rfl, rfl, HLK.out, Like.refl r⟩
            · simp only [List.mem_cons, List.mem_append] at hk ⊢
              have h3 := HF3.out k; have h4 := HFX.out k
              have s2 := HSZ2.out
              grind
          · rw [decide_eq_false (by omega)] at tc
            go_wp2_with fail
            refine (HIR.out _ _ _ HND.out.R H0.out (fun k hk hm => HD0.out k hk (by simp [hm]))).mono ?_
            rintro e W3 ⟨v3, F3, t3, rfl, hf3, hn3, hlk3, hwb3, hF3⟩
            obtain ⟨a3, rfl⟩ := hn3.isP
            have HX := Lib.hid (HND.out.right hf3 hn3 (fun k hk => (hF3 k hk).imp id fun h hm => by
              rcases h with h | h
              · exact HD0.out k h hm
              · have := HND.out.fin.lt k hm; omega))
            have d3 : W3.cell? ⟨b, 3, none⟩ = some (.pointer ar) := (World.cell?_of_block (hf3.block b HND.out.n.lt (nodup_in HND.out.nd).1.2.2.2)).trans n3
            have e3 : W3.frozen? ⟨b, 3, none⟩ = false := (World.frozen?_of_block (hf3.block b HND.out.n.lt (nodup_in HND.out.nd).1.2.2.2)).trans g3
            have HLK := Lib.hid hlk3; have HWB := Lib.hid hwb3; have HF3 := Lib.hid hF3
            have HSZ2 := Lib.hid HF2.out.size
            clear hf3 hn3 hlk3 hwb3 hF3 n2 n3 g2 g3
            go_wp2
            go_ret
            refine ⟨_, _, .node q (m : Int) (some (mn, mx)) l t3, rfl, FrF.trans HF2.out HX.out.2 HFM.out, HX.out.1.fin, ?_, ⟨HBL.out, hwl, HWB.out⟩, fun k hk => ?_⟩
            · rw [HINS.out, if_neg (by omega)]
              exact ⟨rfl, rfl, Like.refl l, HLK.out⟩
            · simp only [List.mem_cons, List.mem_append] at hk ⊢
              have h3 := HF3.out k; have h4 := HFX.out k
              have s2 := HSZ2.out
              grind
        exact AllReadyG.nil
      exact AllReadyG.nil
    exact AllReadyG.nil
  exact AllReadyG.nil

theorem insertB_calls (d : Nat) (P0 : Value) (p : List Nat) (hp : Num p d (iv p)) (h1 : 1 ≤ d) (h6 : d ≤ 6) : ∀ (t : PT) (v : Value) (F : List Nat) (k : Nat) (w : World), k < d → t.KD d → t.WB d → NP t v F w → FOwn 34 0 P0 p w → (∀ k ∈ blk P0, k ∉ F) →
    Calls Try.prog 52 #[v, .iface 61 P0, .int .i64 (k : Nat), .bool true] w (InsQ d p t (k : Int) P0 F w)
  | .nil, v, F, k, w, _, _, _, hn, h0, _ => by rw [hn.1, hn.2]; exact insertBNil d P0 p k w h0 hp.1 h1 h6
  | .node q pl0 bx l r, v, F, k, w, hk, hkd, hwb, hn, h0, hd0 => by
    obtain ⟨⟨g1, m, e0, g3, g4, g5⟩, gl, gr⟩ := hkd
    subst e0
    obtain ⟨b1, b2, b3⟩ := hwb
    obtain ⟨k', e, hk'⟩ := plane_next g3
    exact insertB_node d k' P0 p q m bx l r v F k w hn h0 hp g1 g3 h6 e hd0 b1 b2 b3 (fun v F w' a c f => insertB_calls d P0 p hp h1 h6 l v F k' w' hk' gl b2 a c f) (fun v F w' a c f => insertB_calls d P0 p hp h1 h6 r v F k' w' hk' gr b3 a c f)
end Go.Proofs.Ytcpdhkbmfgphpaa
