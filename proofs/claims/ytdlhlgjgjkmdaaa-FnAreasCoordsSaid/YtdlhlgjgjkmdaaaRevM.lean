import Derived.Test.YtdlhlgjgjkmdaaaRevX
import Derived.Test.YtdlhlgjgjkmdaaaPlainC
import Derived.Test.YtdlhlgjgjkmdaaaSegB
namespace Go.Proofs.Ytdlhlgjgjkmdaaa
open Go.ChangeShapes Go.WideShapes Go.ChangeAt Go.RowKit Go.GrowR
set_option linter.unusedVariables false
set_option linter.unusedSimpArgs false

theorem FLg.up {A : Option Addr} {g : Nat} {xs : List Nat} : Up (FLg A g xs) := fun _ _ h hg => h.imp id fun ⟨h1, h2⟩ => ⟨h1, FB.up _ _ h2 hg⟩
theorem EndC.up {E : Option Addr} {g : Nat} {en : List Nat} : Up (EndC E g en) := fun _ _ h hg => h.imp id fun ⟨b, o, h1, h2, h3⟩ => ⟨b, o, h1, h2, fun i x hi => up_cell (h3 i x hi) hg⟩
theorem EndCC.up {E : Option Addr} {g : Nat} {ens : List (List Nat)} : Up (EndCC E g ens) := fun _ _ h hg => h.imp id fun ⟨b, o, h1, h2, h3⟩ => ⟨b, o, h1, h2, fun i l hi => let ⟨A, c, h4, h5⟩ := h3 i l hi; ⟨A, c, up_cell h4 hg, EndC.up _ _ h5 hg⟩⟩
def RevQ (A : Option Addr) (g : Nat) (xs : List Nat) (w : World) (e : Ending) (w' : World) : Prop := e = .returned (.tuple #[]) ∧ FLg A g xs w' ∧ G1 g w w'

set_option maxRecDepth 100000 in
set_option maxHeartbeats 4000000 in
theorem gRev1 (b : Nat) (l r : Int) (A : Option Addr) (g n c s : Nat) (rows : List (List Nat)) (w : World) (ho : Obj4 b l s r (.slice A n c) w) (hs : 0 < s) (hs9 : s ≤ 9) (hnl : n ≤ 17592186044416) (hc : n ≤ c) (hr : ∀ r ∈ rows, r.length = s) (hn : rows.flatten.length = n) (hfb : FLg A g rows.flatten w) :
    Calls Try.prog 175 #[.pointer (some ⟨b, 0, none⟩)] w (RevQ A g rows.reverse.flatten w) := by
  have HC : Hid (∀ w', Grow w w' → Calls Try.prog 180 #[.slice A n c, .int .i64 0, .int .i64 n, .int .i64 s] w' fun e w2 => e = .returned (.tuple #[]) ∧ FLg A g rows.reverse.flatten w2 ∧ G1 g w' w2) := fun w' hw => by
    have := rev1F A g n c s n [] rows [] w' hs hs9 hr (by simpa using hn) hnl hc (by rw [← hn, flat_len hr]; simp) (by simpa using FLg.up _ _ hfb hw)
    simpa using this
  obtain ⟨-, x1, x2, -, -⟩ := ho
  have hb := cell_ltH x1
  clear hr hn hfb
  go_enter Try.func175, Try.ntmps175
  go_wp2
  refine wp_region_grow_tail 16 (fun i => none) (by kernel_rfl) (by kernel_rfl) ?_ ?_
  · intro i Φ h lo hi v
    cases h
  simp only [List.take_succ_cons, List.take_zero, List.drop_succ_cons, List.drop_zero]
  repeat (first
    | (refine wpGrow_skip (by rfl) ?_; simp only [Act.put, List.setIfInBounds_toArray, List.set_cons_zero, List.set_cons_succ, Nat.reduceAdd])
    | (refine wpGrow_det' (by rfl) (by rfl) ?_; apply Exists.intro; refine ⟨fun w' hc hh => ?_, ?_⟩; (have hcell := grow_cell hc; clear hc hh; go_simp; rfl); simp only [Act.put, List.setIfInBounds_toArray, List.set_cons_zero, List.set_cons_succ, Nat.reduceAdd]))
  refine wpGrow_nil ?_
  intro w1 hg hh
  have HG := Lib.hid hg
  clear hh hg
  go_wp2_with (go_at_call 180; refine (HC.out _ HG.out).mono ?_; rintro e w' ⟨rfl, hf1, hg1⟩; have HF1 := Lib.hid hf1; have HGG := Lib.hid ((GX.of_grow (fun _ hX => hX.elim) HG.out : G1 g w _).trans hg1); clear hf1 hg1)
  exact bodyPost_end (results_none rfl _ _ _) rfl ⟨rfl, HF1.out, HGG.out⟩

set_option maxRecDepth 100000 in
set_option maxHeartbeats 4000000 in
theorem gRev2 (b : Nat) (l r : Int) (A : Option Addr) (g n c s : Nat) (E : Option Addr) (ce : Nat) (segs : List (List (List Nat))) (w : World) (ho : Obj4 b l s r (.slice A n c) w) (hs : 0 < s) (hs9 : s ≤ 9) (hnl : n ≤ 17592186044416) (hc : n ≤ c) (hr : ∀ rows ∈ segs, ∀ r ∈ rows, r.length = s) (hn : (fwd segs).length = n) (hsl : segs.length ≤ 17592186044416) (hfb : FLg A g (fwd segs) w) (hec : w.cell? ⟨b, 4, none⟩ = some (.slice E segs.length ce)) (hE : EndC E g (cum s 0 segs) w) :
    Calls Try.prog 187 #[.pointer (some ⟨b, 0, none⟩)] w (RevQ A g (bwd segs) w) := by
  have HC : Hid (∀ w', Grow w w' → Calls Try.prog 190 #[.slice A n c, .int .i64 0, .slice E segs.length ce, .int .i64 s] w' fun e w2 => e = .returned (.tuple #[]) ∧ FLg A g (bwd segs) w2 ∧ G1 g w' w2) := fun w' hw => by
    have := rev2F A E g n c s ce [] segs [] w' hs hs9 hr (by simpa using hn) hnl hc hsl (by simpa using FLg.up _ _ hfb hw) (by simpa using EndC.up _ _ hE hw)
    simpa using this
  obtain ⟨-, x1, x2, -, -⟩ := ho
  have hb := cell_ltH x1
  have x4 := hec
  clear hr hn hfb hec hE
  go_enter Try.func187, Try.ntmps187
  go_wp2
  refine wp_region_grow_tail 16 (fun i => none) (by kernel_rfl) (by kernel_rfl) ?_ ?_
  · intro i Φ h lo hi v
    cases h
  simp only [List.take_succ_cons, List.take_zero, List.drop_succ_cons, List.drop_zero]
  repeat (first
    | (refine wpGrow_skip (by rfl) ?_; simp only [Act.put, List.setIfInBounds_toArray, List.set_cons_zero, List.set_cons_succ, Nat.reduceAdd])
    | (refine wpGrow_det' (by rfl) (by rfl) ?_; apply Exists.intro; refine ⟨fun w' hc hh => ?_, ?_⟩; (have hcell := grow_cell hc; clear hc hh; go_simp; rfl); simp only [Act.put, List.setIfInBounds_toArray, List.set_cons_zero, List.set_cons_succ, Nat.reduceAdd]))
  refine wpGrow_nil ?_
  intro w1 hg hh
  have HG := Lib.hid hg
  clear hh hg
  go_wp2_with (go_at_call 190; refine (HC.out _ HG.out).mono ?_; rintro e w' ⟨rfl, hf1, hg1⟩; have HF1 := Lib.hid hf1; have HGG := Lib.hid ((GX.of_grow (fun _ hX => hX.elim) HG.out : G1 g w _).trans hg1); clear hf1 hg1)
  exact bodyPost_end (results_none rfl _ _ _) rfl ⟨rfl, HF1.out, HGG.out⟩

set_option maxRecDepth 100000 in
set_option maxHeartbeats 4000000 in
theorem gRev3 (b : Nat) (l r : Int) (A : Option Addr) (g n c s : Nat) (E : Option Addr) (ce : Nat) (segss : List (List (List (List Nat)))) (w : World) (ho : Obj4 b l s r (.slice A n c) w) (hs : 0 < s) (hs9 : s ≤ 9) (hnl : n ≤ 17592186044416) (hc : n ≤ c) (hr : ∀ segs ∈ segss, ∀ rows ∈ segs, ∀ r ∈ rows, r.length = s) (hn : (fwd segss.flatten).length = n) (hsl : segss.length ≤ 17592186044416) (hsl2 : ∀ segs ∈ segss, segs.length ≤ 17592186044416) (hfb : FLg A g (fwd segss.flatten) w) (hec : w.cell? ⟨b, 4, none⟩ = some (.slice E segss.length ce)) (hE : EndCC E g (cums s 0 segss) w) :
    Calls Try.prog 201 #[.pointer (some ⟨b, 0, none⟩)] w (RevQ A g (bwd segss.flatten) w) := by
  have HC : Hid (∀ w', Grow w w' → Calls Try.prog 204 #[.slice A n c, .int .i64 0, .slice E segss.length ce, .int .i64 s] w' fun e w2 => e = .returned (.tuple #[]) ∧ FLg A g (bwd segss.flatten) w2 ∧ G1 g w' w2) := fun w' hw => by
    have := rev3F A E g n c s ce [] segss [] w' hs hs9 hr (by simpa using hn) hnl hc hsl hsl2 (by simpa using FLg.up _ _ hfb hw) (by simpa using EndCC.up _ _ hE hw)
    simpa using this
  obtain ⟨-, x1, x2, -, -⟩ := ho
  have hb := cell_ltH x1
  have x4 := hec
  clear hr hn hfb hec hE hsl2
  go_enter Try.func201, Try.ntmps201
  go_wp2
  refine wp_region_grow_tail 16 (fun i => none) (by kernel_rfl) (by kernel_rfl) ?_ ?_
  · intro i Φ h lo hi v
    cases h
  simp only [List.take_succ_cons, List.take_zero, List.drop_succ_cons, List.drop_zero]
  repeat (first
    | (refine wpGrow_skip (by rfl) ?_; simp only [Act.put, List.setIfInBounds_toArray, List.set_cons_zero, List.set_cons_succ, Nat.reduceAdd])
    | (refine wpGrow_det' (by rfl) (by rfl) ?_; apply Exists.intro; refine ⟨fun w' hc hh => ?_, ?_⟩; (have hcell := grow_cell hc; clear hc hh; go_simp; rfl); simp only [Act.put, List.setIfInBounds_toArray, List.set_cons_zero, List.set_cons_succ, Nat.reduceAdd]))
  refine wpGrow_nil ?_
  intro w1 hg hh
  have HG := Lib.hid hg
  clear hh hg
  go_wp2_with (go_at_call 204; refine (HC.out _ HG.out).mono ?_; rintro e w' ⟨rfl, hf1, hg1⟩; have HF1 := Lib.hid hf1; have HGG := Lib.hid ((GX.of_grow (fun _ hX => hX.elim) HG.out : G1 g w _).trans hg1); clear hf1 hg1)
  exact bodyPost_end (results_none rfl _ _ _) rfl ⟨rfl, HF1.out, HGG.out⟩

/-- numbers of a geometry, as they are and turned about -/
inductive Rv (s : Nat) : Int → List Nat → List Nat → List Int → List (List Int) → Prop
  | line {k : Int} {rows : List (List Nat)} (hk : k = 2 ∨ k = 8) (hr : ∀ r ∈ rows, r.length = s) : Rv s k rows.flatten rows.reverse.flatten [] []
  | lines {k : Int} {segs : List (List (List Nat))} (hk : k = 3 ∨ k = 4 ∨ k = 5) (hr : ∀ rows ∈ segs, ∀ r ∈ rows, r.length = s) : Rv s k (fwd segs) (bwd segs) ((cum s 0 segs).map Int.ofNat) []
  | areas {segss : List (List (List (List Nat)))} (hr : ∀ segs ∈ segss, ∀ rows ∈ segs, ∀ r ∈ rows, r.length = s) : Rv s 6 (fwd segss.flatten) (bwd segss.flatten) [] ((cums s 0 segss).map (·.map Int.ofNat))
theorem fwd_rev (segs : List (List (List Nat))) : fwd (segs.map List.reverse) = bwd segs := by simp [fwd, bwd, List.map_map, Function.comp_def]
theorem bwd_rev (segs : List (List (List Nat))) : bwd (segs.map List.reverse) = fwd segs := by simp [fwd, bwd, List.map_map, Function.comp_def]
theorem cum_rev (s : Nat) : ∀ (segs : List (List (List Nat))) (o : Nat), cum s o (segs.map List.reverse) = cum s o segs
  | [], _ => rfl
  | rows :: t, o => by simp [cum, cum_rev s t]
theorem cums_rev {s : Nat} : ∀ (segss : List (List (List (List Nat)))) (o : Nat), (∀ segs ∈ segss, ∀ rows ∈ segs, ∀ r ∈ rows, r.length = s) → cums s o (segss.map (·.map List.reverse)) = cums s o segss
  | [], _, _ => rfl
  | segs :: t, o, h => by
    simp only [List.map_cons, cums, cum_rev, fwd_rev, fwd_len (h segs (by simp))]
    rw [cums_rev t _ (fun q hq => h q (List.mem_cons_of_mem _ hq))]
theorem Rv.symm {s : Nat} {k : Int} {fl fl' : List Nat} {en : List Int} {ens : List (List Int)} (h : Rv s k fl fl' en ens) : Rv s k fl' fl en ens := by
  cases h with
  | @line _ rows hk hr =>
    have := Rv.line (s := s) (rows := rows.reverse) hk (fun r h => hr r (by simpa using h))
    simpa using this
  | @lines _ segs hk hr =>
    have := Rv.lines (s := s) (segs := segs.map List.reverse) hk (fun rows h r hr' => by
      obtain ⟨q, h1, rfl⟩ := List.mem_map.1 h
      exact hr q h1 r (by simpa using hr'))
    rwa [fwd_rev, bwd_rev, cum_rev] at this
  | @areas segss hr =>
    have := Rv.areas (s := s) (segss := segss.map (·.map List.reverse)) (fun segs h rows h2 r hr' => by
      obtain ⟨q, h1, rfl⟩ := List.mem_map.1 h
      obtain ⟨q2, h3, rfl⟩ := List.mem_map.1 h2
      exact hr q h1 q2 h3 r (by simpa using hr'))
    have e : (segss.map (·.map List.reverse)).flatten = segss.flatten.map List.reverse := by rw [List.map_flatten]
    rw [e, fwd_rev, bwd_rev, cums_rev _ _ hr] at this
    exact this
theorem Rv.mem {s : Nat} {k : Int} {fl fl' : List Nat} {en : List Int} {ens : List (List Int)} (h : Rv s k fl fl' en ens) : ∀ x ∈ fl', x ∈ fl := by
  have hb : ∀ (segs : List (List (List Nat))), ∀ x ∈ bwd segs, x ∈ fwd segs := fun segs x hx => by
    simp only [bwd, fwd, List.mem_flatten, List.mem_map] at hx ⊢
    obtain ⟨l, ⟨rows, h1, rfl⟩, h2⟩ := hx
    exact ⟨_, ⟨rows, h1, rfl⟩, by simpa using h2⟩
  cases h with
  | line hk hr => intro x hx; simpa using hx
  | lines hk hr => exact hb _
  | areas hr => exact hb _
theorem Rv.len {s : Nat} {k : Int} {fl fl' : List Nat} {en : List Int} {ens : List (List Int)} (h : Rv s k fl fl' en ens) : fl'.length = fl.length := by
  cases h with
  | @line _ rows hk hr => rw [flat_len hr, flat_len (rows := rows.reverse) (s := s) (fun r h => hr r (by simpa using h)), List.length_reverse]
  | lines hk hr => exact fwd_len hr
  | areas hr => exact fwd_len (fun rows h => by
      obtain ⟨l, h1, h2⟩ := List.mem_flatten.1 h
      exact hr l h1 rows h2)
theorem Rv.ex {s : Nat} {k : Int} {fl : List Nat} {en : List Int} {ens : List (List Int)} (hs : 0 < s) (h : KindOk k s fl.length en ens) (h1 : k ≠ 1) (hm : (fl.length : Int) % (s : Int) = 0) : ∃ fl', Rv s k fl fl' en ens := by
  rcases h with ⟨rfl, -⟩ | ⟨hk, rfl, rfl⟩ | ⟨hk, rfl, h3, h4⟩ | ⟨rfl, rfl, h3, h4⟩
  · exact absurd rfl h1
  · obtain ⟨m, hm⟩ := mod_ex hm
    obtain ⟨rows, -, r2, rfl⟩ := chunk hs m fl hm
    exact ⟨_, .line hk r2⟩
  · obtain ⟨segs, g1, rfl, rfl⟩ := segs_ex hs en 0 fl h3 (by simpa using h4)
    exact ⟨_, .lines hk g1⟩
  · obtain ⟨segss, g1, rfl, rfl⟩ := segss_ex hs ens 0 fl h3 (by simpa using h4)
    exact ⟨_, .areas g1⟩
end Go.Proofs.Ytdlhlgjgjkmdaaa
