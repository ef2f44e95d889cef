import Derived.Test.YtcpdhkbmfgphpaaKiA
import Derived.Test.YtcpdhkbmfgphpaaKnG
namespace Go.Proofs.Ytcpdhkbmfgphpaa
open Go.ChangeShapes Go.WideShapes Go.ChangeAt Go.RowKit Go.GrowR
set_option linter.unusedVariables false
set_option linter.unusedSimpArgs false

/-- but for the blocks F, what was there is as it was -/
structure FrF (F : List Nat) (a b : World) : Prop where
  os : b.os = a.os
  tape : b.tape = a.tape
  output : b.output = a.output
  size : a.heap.size ≤ b.heap.size
  block : ∀ k, k < a.heap.size → k ∉ F → b.heap[k]? = a.heap[k]?
namespace FrF
variable {F F' : List Nat} {a b c : World}
theorem refl (a : World) : FrF F a a := ⟨rfl, rfl, rfl, Nat.le_refl _, fun _ _ _ => rfl⟩
theorem of_grow (h : Grow a b) : FrF F a b := ⟨h.os, h.tape, h.output, h.size, fun k hk _ => h.block k hk⟩
theorem trans (h : FrF F a b) (k : FrF F' b c) (hF : ∀ x ∈ F', x ∈ F ∨ a.heap.size ≤ x) : FrF F a c :=
  ⟨k.os.trans h.os, k.tape.trans h.tape, k.output.trans h.output, Nat.le_trans h.size k.size, fun i hi hx => by
    rw [k.block i (Nat.lt_of_lt_of_le hi h.size) (fun hm => (hF i hm).elim hx (fun h2 => by omega))]; exact h.block i hi hx⟩
theorem mono (h : FrF F a b) (hF : ∀ x ∈ F, x ∈ F' ∨ a.heap.size ≤ x) : FrF F' a b := ⟨h.os, h.tape, h.output, h.size, fun k hk hx => h.block k hk fun hm => (hF k hm).elim hx (fun h2 => by omega)⟩
theorem then_grow (h : FrF F a b) (k : Grow b c) : FrF F a c := h.trans (F' := []) (of_grow k) (fun x hx => by cases hx)
theorem set {p : Addr} (h : FrF F a b) (hp : p.block ∈ F ∨ a.heap.size ≤ p.block) (u : Value) : FrF F a (b.setCell p u) :=
  ⟨h.os, h.tape, h.output, by simpa [World.setCell] using h.size, fun k hk hx => by
    rw [Below.heap_setCell _ _ _ _ (fun e => by subst e; rcases hp with hp | hp; exact hx hp; omega)]; exact h.block k hk hx⟩
theorem grow {w : World} (h : FrF F a b) (hw : Grow w a) (hF : ∀ k ∈ F, w.heap.size ≤ k) : Grow w b :=
  ⟨h.os.trans hw.os, h.tape.trans hw.tape, h.output.trans hw.output, Nat.le_trans hw.size h.size, fun k hk => by
    rw [h.block k (Nat.lt_of_lt_of_le hk hw.size) (fun hm => by have := hF k hm; omega)]; exact hw.block k hk⟩
end FrF
theorem NP.fr {t : PT} {v : Value} {F F2 : List Nat} {w w' : World} (h : NP t v F2 w) (hf : FrF F w w') (hd : ∀ k ∈ F2, k ∉ F) : NP t v F2 w' := h.move fun k hk => hf.block k (h.lt k hk) (hd k hk)
theorem own_fr {e : TypeId} {B : Nat} {v : Value} {xs : List Value} {F : List Nat} {w w' : World} (h : VOwn e B v xs w) (hf : FrF F w w') (hd : ∀ k ∈ blk v, k ∉ F) : VOwn e B v xs w' := VOwn.moveB h fun k hk => hf.block k (own_ltH' h k (by simpa [blk] using hk)).2 (hd k hk)
theorem BoxF.fr {bx : Option (List Nat × List Nat)} {v : Value} {F F2 : List Nat} {w w' : World} (h : BoxF bx v F2 w) (hf : FrF F w w') (hd : ∀ k ∈ F2, k ∉ F) : BoxF bx v F2 w' := h.move fun k hk => hf.block k (h.lt k hk) (hd k hk)
theorem NodeC.fr {b : Nat} {P : Value} {pl : Int} {lv rv bv : Value} {F : List Nat} {w w' : World} (h : NodeC b P pl lv rv bv w) (hf : FrF F w w') (hd : b ∉ F) : NodeC b P pl lv rv bv w' := h.move (hf.block b h.lt hd)
def amax (x y : Nat) : Nat :=
  let a := FloatKind.f64.decode x
  let b := FloatKind.f64.decode y
  if a == .infinity false || b == .infinity false then FloatKind.f64.encode (.infinity false)
  else if a.isNaN || b.isNaN then 0x7FF8000000000001
  else if a.isZero && b.isZero then (if a.neg == false then x else y)
  else if a.order b == some .gt then x else y
theorem run_amax (x y : Nat) (w : World) : (callFunc 93 #[.float .f64 x, .float .f64 y]).run Try.prog w = .ok (.value (.float .f64 (amax x y))) w := by
  rw [run_callFunc_extern (fn := Try.f93) (e := Extern.MathDim.pick "math.archMax" false .gt) Try.func93 (by kernel_rfl) (by kernel_rfl) (by kernel_rfl) (by rfl)]
  rfl
theorem max_calls (x y : Nat) (w : World) : Calls Try.prog 92 #[.float .f64 x, .float .f64 y] w fun e w' => e = .returned (.float .f64 (amax x y)) ∧ w' = w := by
  have ht := run_amax x y
  go_enter Try.func92, Try.ntmps92
  go_wp2
  go_ret
  exact ⟨rfl, rfl⟩
/-- two rows of a box, and the box, while the row of a point stays -/
structure ExI (b g1 g2 n c1 c2 : Nat) (P0 : Value) (p : List Nat) (W0 : World) (mn mx : List Nat) (wr : World) : Prop where
  l1 : mn.length = n
  l2 : mx.length = n
  o1 : VOwn 34 0 (.slice (some ⟨g1, 0, none⟩) n c1) (mn.map (.float .f64)) wr
  o2 : VOwn 34 0 (.slice (some ⟨g2, 0, none⟩) n c2) (mx.map (.float .f64)) wr
  o0 : VOwn 34 0 P0 (p.map (.float .f64)) wr
  bc : BoxC b (.slice (some ⟨g1, 0, none⟩) n c1) (.slice (some ⟨g2, 0, none⟩) n c2) wr
  ne1 : g1 ≠ g2
  ne2 : b ≠ g1
  ne3 : b ≠ g2
  ne0 : ∀ k ∈ blk P0, k ≠ b ∧ k ≠ g1 ∧ k ≠ g2
  fr : FrF [b, g1, g2] W0 wr
namespace ExI
variable {b g1 g2 n c1 c2 : Nat} {P0 : Value} {p : List Nat} {W0 : World} {mn mx : List Nat} {wr : World}
theorem put1 (h : ExI b g1 g2 n c1 c2 P0 p W0 mn mx wr) (k z : Nat) : ExI b g1 g2 n c1 c2 P0 p W0 (mn.set k z) mx (wr.setCell ⟨g1, k, none⟩ (.float .f64 z)) := by
  have hb : ∀ x, x ≠ g1 → (wr.setCell ⟨g1, k, none⟩ (.float .f64 z)).heap[x]? = wr.heap[x]? := fun x hx => NB.set_far hx
  have h1 := VOwn.put h.o1 (by simp [h.l1]) k (.float .f64 z)
  rw [← List.map_set] at h1
  exact ⟨by simp [h.l1], h.l2, h1, VOwn.moveB h.o2 fun x hx => hb x (by rw [show x = g2 by simpa [blk, Value.ownBlock] using hx]; exact fun e => h.ne1 e.symm), VOwn.moveB h.o0 fun x hx => hb x (h.ne0 x hx).2.1, h.bc.move (hb b h.ne2), h.ne1, h.ne2, h.ne3, h.ne0, h.fr.set (.inl (by simp)) _⟩
theorem put2 (h : ExI b g1 g2 n c1 c2 P0 p W0 mn mx wr) (k z : Nat) : ExI b g1 g2 n c1 c2 P0 p W0 mn (mx.set k z) (wr.setCell ⟨g2, k, none⟩ (.float .f64 z)) := by
  have hb : ∀ x, x ≠ g2 → (wr.setCell ⟨g2, k, none⟩ (.float .f64 z)).heap[x]? = wr.heap[x]? := fun x hx => NB.set_far hx
  have h1 := VOwn.put h.o2 (by simp [h.l2]) k (.float .f64 z)
  rw [← List.map_set] at h1
  exact ⟨h.l1, by simp [h.l2], VOwn.moveB h.o1 fun x hx => hb x (by rw [show x = g1 by simpa [blk, Value.ownBlock] using hx]; exact h.ne1), h1, VOwn.moveB h.o0 fun x hx => hb x (h.ne0 x hx).2.2, h.bc.move (hb b h.ne3), h.ne1, h.ne2, h.ne3, h.ne0, h.fr.set (.inl (by simp)) _⟩
theorem box (h : ExI b g1 g2 n c1 c2 P0 p W0 mn mx wr) : ExI b g1 g2 n c1 c2 P0 p W0 mn mx ((wr.setCell ⟨b, 0, none⟩ (ptV (.slice (some ⟨g1, 0, none⟩) n c1))).setCell ⟨b, 1, none⟩ (ptV (.slice (some ⟨g2, 0, none⟩) n c2))) := by
  have hb : ∀ x, x ≠ b → ((wr.setCell ⟨b, 0, none⟩ (ptV (.slice (some ⟨g1, 0, none⟩) n c1))).setCell ⟨b, 1, none⟩ (ptV (.slice (some ⟨g2, 0, none⟩) n c2))).heap[x]? = wr.heap[x]? := fun x hx => (NB.set_far hx).trans (NB.set_far hx)
  refine ⟨h.l1, h.l2, VOwn.moveB h.o1 fun x hx => hb x (by rw [show x = g1 by simpa [blk, Value.ownBlock] using hx]; exact fun e => h.ne2 e.symm), VOwn.moveB h.o2 fun x hx => hb x (by rw [show x = g2 by simpa [blk, Value.ownBlock] using hx]; exact fun e => h.ne3 e.symm), VOwn.moveB h.o0 fun x hx => hb x (h.ne0 x hx).1, ⟨WS.far (World.cell?_setCell_same _ _ _ h.bc.c0) (by simp), World.cell?_setCell_same _ _ _ (WS.far h.bc.c1 (by simp)), fun o => by rw [World.frozen?_setCell, World.frozen?_setCell]; exact h.bc.fz o⟩, h.ne1, h.ne2, h.ne3, h.ne0, (h.fr.set (.inl (by simp)) _).set (.inl (by simp)) _⟩
end ExI
def ExQ (n : Nat) (Fb : List Nat) (w : World) (e : Ending) (w' : World) : Prop := ∃ v F' mn mx, e = .returned v ∧ FrF Fb w w' ∧ BoxF (some (mn, mx)) v F' w' ∧ mn.length = n ∧ mx.length = n ∧ F'.Nodup ∧ ∀ k ∈ F', k ∈ Fb ∨ w.heap.size ≤ k
set_option maxRecDepth 100000 in
set_option maxHeartbeats 8000000 in
theorem extend_some (n b : Nat) (P0 v : Value) (p mn mx : List Nat) (Fb : List Nat) (w : World) (h0 : FOwn 34 0 P0 p w) (hb : BoxF (some (mn, mx)) v Fb w) (hp : p.length = n) (hl1 : mn.length = n) (hl2 : mx.length = n) (hn : 1 ≤ n) (h6 : n ≤ 6) (hd : Fb.Nodup) (hd0 : ∀ k ∈ blk P0, k ∉ Fb) :
    Calls Try.prog 91 #[P0, v] w (ExQ n Fb w) := by
  obtain ⟨b, P1, P2, rfl, rfl, hbc, ho1, ho2⟩ := hb
  obtain ⟨g1, m1, rfl, -, -, hc1⟩ := VOwn.form ho1 (by simp; omega)
  obtain ⟨g2, m2, rfl, -, -, hc2⟩ := VOwn.form ho2 (by simp; omega)
  simp only [List.length_map, hl1, hl2] at hbc ho1 ho2 hc1 hc2
  obtain ⟨A0, n0, c0, rfl⟩ := VOwn.isSl (B := 0) h0
  have hn0 : n0 = n := by
    obtain ⟨A', c', he, -, -⟩ := h0.sl
    simp at he; rw [he.2.1]; exact hp
  have hn0' := hn0.symm
  subst hn0'
  have HPL := Lib.hid hp
  simp only [blk, Value.ownBlock, Option.toList_some, List.cons_append, List.nil_append, List.nodup_cons, List.mem_cons, List.not_mem_nil, or_false, not_or] at hd hd0
  obtain ⟨⟨d1, d2⟩, d3, -⟩ := hd
  have HE0 : Hid (ExI b g1 g2 n m1 m2 (.slice A0 n c0) p w mn mx w) := ⟨hl1, hl2, ho1, ho2, h0, hbc, d3, d1, d2, fun k hk => hd0 k hk, FrF.refl w⟩
  obtain ⟨e0, e1, -⟩ := hbc
  have hnd : ([b, g1, g2] : List Nat).Nodup := by simp [d1, d2, d3]
  have HND := Lib.hid hnd
  clear hnd hd0 d1 d2 d3 hp hl1 hl2 h0 ho1 ho2
  go_enter Try.func91, Try.ntmps91
  go_wp2
  go_loopw [31] (fun i wr => ∃ (k : Nat) (mn mx : List Nat), i = .int .i64 k ∧ k ≤ n ∧ ExI b g1 g2 n m1 m2 (.slice A0 n c0) p w mn mx wr) (fun i _ => n - (intOf i).toNat)
  case atStart => exact ⟨0, _, _, rfl, Nat.zero_le _, HE0.out⟩
  case round =>
    obtain ⟨k, ms, Ms, rfl, hk, hE⟩ := hrel
    have HE := Lib.hid hE
    by_cases hlt : k < n
    case neg =>
      obtain ⟨e0, e1, ef⟩ := hE.bc
      have f0 := ef 0; have f1 := ef 1
      clear hE ef
      go_wp2
      go_ret
      have HB := Lib.hid HE.out.box
      exact ⟨_, [b, g1, g2], ms, Ms, rfl, HB.out.fr, ⟨b, _, _, rfl, rfl, HB.out.bc, HB.out.o1, HB.out.o2⟩, HB.out.l1, HB.out.l2, HND.out, fun k hk => .inl hk⟩
    case pos =>
      obtain ⟨x, hx⟩ : ∃ x, p[k]? = some x := ⟨p[k]'(by rw [HPL.out]; exact hlt), by simp⟩
      obtain ⟨y, hy⟩ : ∃ y, ms[k]? = some y := ⟨ms[k]'(by rw [hE.l1]; exact hlt), by simp⟩
      obtain ⟨z, hz⟩ : ∃ z, Ms[k]? = some z := ⟨Ms[k]'(by rw [hE.l2]; exact hlt), by simp⟩
      obtain ⟨b3, o3, hA3, e3⟩ : ∃ b o, A0 = some ⟨b, o, none⟩ ∧ wr.cell? ⟨b, o + k, none⟩ = some (.float .f64 x) := by
        obtain ⟨A', c', he, hc, hA⟩ := hE.o0.sl.f
        simp only [Value.slice.injEq] at he
        obtain ⟨rfl, -, -⟩ := he
        exact FC_at hA hx
      subst hA3
      have e1 := (VOwn.at hE.o1 (by simp [hE.l1]) k hlt).trans (show (ms.map (Value.float .f64))[k]? = some (.float .f64 y) by rw [List.getElem?_map, hy]; rfl)
      have e2 := (VOwn.at hE.o2 (by simp [hE.l2]) k hlt).trans (show (Ms.map (Value.float .f64))[k]? = some (.float .f64 z) by rw [List.getElem?_map, hz]; rfl)
      have f1 := VOwn.fz hE.o1 (by simp [hE.l1]) k
      have f2 := VOwn.fz hE.o2 (by simp [hE.l2]) k
      have ne1 := hE.ne1
      have HP1 := Lib.hid (hE.put1 k (Fl.amin y x))
      have HP2 := Lib.hid (HP1.out.put2 k (amax z x))
      have e2' : (wr.setCell ⟨g1, k, none⟩ (.float .f64 (Fl.amin y x))).cell? ⟨g2, k, none⟩ = some (.float .f64 z) := WS.far e2 (by simp [ne1])
      have f2' : (wr.setCell ⟨g1, k, none⟩ (.float .f64 (Fl.amin y x))).frozen? ⟨g2, k, none⟩ = false := by rw [World.frozen?_setCell]; exact f2
      have hk1 : (k : Int) < (n : Int) := by omega
      clear hE hx hy hz e2 f2
      go_wp2_with (first | (go_at_call 60; refine (min_calls _ _ _).mono ?_; rintro e w1 ⟨rfl, rfl⟩) | (go_at_call 92; refine (max_calls _ _ _).mono ?_; rintro e w1 ⟨rfl, rfl⟩))
      go_roundw
      case rel => exact ⟨k + 1, _, _, by first | go_num | (simp <;> omega), by omega, HP2.out⟩
      case measure => simp [intOf]; omega

theorem VOwn.formN {e : TypeId} {B n : Nat} {v : Value} {xs : List Value} {w : World} (h : VOwn e B v xs w) (hn : xs.length = n) (h0 : 0 < n) : ∃ g cap, v = .slice (some ⟨g, 0, none⟩) n cap ∧ B ≤ g ∧ g < w.heap.size ∧ n ≤ cap := by
  subst hn; exact VOwn.form h h0
theorem undP : Try.prog.underlying 61 = some (.slice 34) := by kernel_rfl
set_option maxRecDepth 100000 in
set_option maxHeartbeats 8000000 in
theorem extend_nil (n : Nat) (P0 : Value) (p : List Nat) (w : World) (h0 : FOwn 34 0 P0 p w) (hp : p.length = n) (hn : 1 ≤ n) (h6 : n ≤ 6) :
    Calls Try.prog 91 #[P0, .pointer none] w (ExQ n [] w) := by
  obtain ⟨A0, n0, c0, rfl⟩ := VOwn.isSl (B := 0) h0
  have hn0 : n0 = n := by
    obtain ⟨A', c', he, -, -⟩ := h0.sl
    simp at he; rw [he.2.1]; exact hp
  have hn0' := hn0.symm
  subst hn0'
  have HPL := Lib.hid hp
  have H0 := Lib.hid h0
  have HB0 : Hid (∀ k ∈ blk (.slice A0 n c0), k < w.heap.size) := fun k hk => (own_ltH' h0 k (by simpa [blk] using hk)).2
  obtain ⟨i0, hi, hz0, hz1, hz2⟩ := info_parts infoF
  have hpl : (p.map (Value.float .f64)).length = n := by simpa using hp
  have HPM := Lib.hid hpl
  clear hn0 h0 hp hpl
  go_enter Try.func91, Try.ntmps91
  go_wp2_with (first
    | (at_builtin; refine wpList_append_vsl rfl _ _ 61 rfl w1.heap.size 34 i0 (.float .f64 0) 8 undP hi hz0 hz1 hz2 rfl rfl VOwn.nil rfl (VOwn.sl (VOwn.up _ _ H0.out HG1.out)) (fl_one _) (by simp [maxLen, HPL.out]; omega) (by simp [HPL.out]; omega) (Nat.le_refl _) ?_; intro V2 w2 hown2 hgrow2 hwh2; have HGR2 := Lib.hid (grow_of_grown hgrow2); obtain ⟨g2, m2, rfl, hb2, hl2, hc2⟩ := VOwn.formN hown2 (n := n) (by simpa using HPM.out) hn; have HO2 := Lib.hid hown2; clear hown2 hgrow2 hwh2)
    | (at_builtin; refine wpList_append_vsl rfl _ _ 61 rfl w.heap.size 34 i0 (.float .f64 0) 8 undP hi hz0 hz1 hz2 rfl rfl VOwn.nil rfl (VOwn.sl H0.out) (fl_one _) (by simp [maxLen, HPL.out]; omega) (by simp [HPL.out]; omega) (Nat.le_refl _) ?_; intro V1 w1 hown1 hgrow1 hwh1; have HG1 := Lib.hid (grow_of_grown hgrow1); obtain ⟨g1, m1, rfl, hb1, hl1, hc1⟩ := VOwn.formN hown1 (n := n) (by simpa using HPM.out) hn; have HO1 := Lib.hid hown1; clear hown1 hgrow1 hwh1))
  have HE0 : Hid (ExI w2.heap.size g1 g2 n m1 m2 (.slice A0 n c0) p (w2.alloc (.cells #[ptV (.slice (some ⟨g1, 0, none⟩) n m1), ptV (.slice (some ⟨g2, 0, none⟩) n m2)] 107)) p p (w2.alloc (.cells #[ptV (.slice (some ⟨g1, 0, none⟩) n m1), ptV (.slice (some ⟨g2, 0, none⟩) n m2)] 107))) := by
    have s2 := HGR2.out.size
    have s1 := HG1.out.size
    refine ⟨HPL.out, HPL.out, VOwn.mono (VOwn.up _ _ HO1.out (HGR2.out.alloc _)) (Nat.zero_le _), VOwn.mono (VOwn.up _ _ HO2.out ((Grow.refl _).alloc _)) (Nat.zero_le _), VOwn.up _ _ H0.out ((HG1.out.trans HGR2.out).alloc _), ⟨by go_simp, by go_simp, fun o => by go_simp⟩, by omega, by omega, by omega, fun k hk => ?_, FrF.refl _⟩
    have := HB0.out k hk
    omega
  have HLO : Hid (∀ x ∈ [w2.heap.size, g1, g2], w.heap.size ≤ x) := fun x hx => by
    have s2 := HGR2.out.size
    have s1 := HG1.out.size
    simp only [List.mem_cons, List.not_mem_nil, or_false] at hx
    omega
  have HND : Hid ([w2.heap.size, g1, g2] : List Nat).Nodup := by
    have s2 := HGR2.out.size
    show List.Nodup _
    simp only [List.nodup_cons, List.mem_cons, List.not_mem_nil, or_false, not_or, not_false_eq_true, List.nodup_nil, and_true]
    omega
  have HGW : Hid (Grow w (w2.alloc (.cells #[ptV (.slice (some ⟨g1, 0, none⟩) n m1), ptV (.slice (some ⟨g2, 0, none⟩) n m2)] 107))) := (HG1.out.trans HGR2.out).alloc _
  generalize w2.alloc (.cells #[ptV (.slice (some ⟨g1, 0, none⟩) n m1), ptV (.slice (some ⟨g2, 0, none⟩) n m2)] 107) = W0 at *
  generalize w2.heap.size = b at *
  clear HO1 HO2 HGR2 HG1 hb1 hb2 hl1 hl2 hc1 hc2
  go_loopw [31] (fun i wr => ∃ (k : Nat) (mn mx : List Nat), i = .int .i64 k ∧ k ≤ n ∧ ExI b g1 g2 n m1 m2 (.slice A0 n c0) p W0 mn mx wr) (fun i _ => n - (intOf i).toNat)
  case atStart => exact ⟨0, _, _, rfl, Nat.zero_le _, HE0.out⟩
  case round =>
    obtain ⟨k, ms, Ms, rfl, hk, hE⟩ := hrel
    have HE := Lib.hid hE
    by_cases hlt : k < n
    case neg =>
      obtain ⟨e0, e1, ef⟩ := hE.bc
      have f0 := ef 0; have f1 := ef 1
      clear hE ef
      go_wp2
      go_ret
      have HB := Lib.hid HE.out.box
      exact ⟨_, [b, g1, g2], ms, Ms, rfl, ((FrF.of_grow HGW.out).trans HB.out.fr (fun x hx => .inr (HLO.out x hx))), ⟨b, _, _, rfl, rfl, HB.out.bc, HB.out.o1, HB.out.o2⟩, HB.out.l1, HB.out.l2, HND.out, fun k hk => .inr (HLO.out k hk)⟩
    case pos =>
      obtain ⟨x, hx⟩ : ∃ x, p[k]? = some x := ⟨p[k]'(by rw [HPL.out]; exact hlt), by simp⟩
      obtain ⟨y, hy⟩ : ∃ y, ms[k]? = some y := ⟨ms[k]'(by rw [hE.l1]; exact hlt), by simp⟩
      obtain ⟨z, hz⟩ : ∃ z, Ms[k]? = some z := ⟨Ms[k]'(by rw [hE.l2]; exact hlt), by simp⟩
      obtain ⟨b3, o3, hA3, e3⟩ : ∃ b o, A0 = some ⟨b, o, none⟩ ∧ wr.cell? ⟨b, o + k, none⟩ = some (.float .f64 x) := by
        obtain ⟨A', c', he, hc, hA⟩ := hE.o0.sl.f
        simp only [Value.slice.injEq] at he
        obtain ⟨rfl, -, -⟩ := he
        exact FC_at hA hx
      subst hA3
      have e1 := (VOwn.at hE.o1 (by simp [hE.l1]) k hlt).trans (show (ms.map (Value.float .f64))[k]? = some (.float .f64 y) by rw [List.getElem?_map, hy]; rfl)
      have e2 := (VOwn.at hE.o2 (by simp [hE.l2]) k hlt).trans (show (Ms.map (Value.float .f64))[k]? = some (.float .f64 z) by rw [List.getElem?_map, hz]; rfl)
      have f1 := VOwn.fz hE.o1 (by simp [hE.l1]) k
      have f2 := VOwn.fz hE.o2 (by simp [hE.l2]) k
      have ne1 := hE.ne1
      have HP1 := Lib.hid (hE.put1 k (Fl.amin y x))
      have HP2 := Lib.hid (HP1.out.put2 k (amax z x))
      have e2' : (wr.setCell ⟨g1, k, none⟩ (.float .f64 (Fl.amin y x))).cell? ⟨g2, k, none⟩ = some (.float .f64 z) := WS.far e2 (by simp [ne1])
      have f2' : (wr.setCell ⟨g1, k, none⟩ (.float .f64 (Fl.amin y x))).frozen? ⟨g2, k, none⟩ = false := by rw [World.frozen?_setCell]; exact f2
      have hk1 : (k : Int) < (n : Int) := by omega
      clear hE hx hy hz e2 f2
      go_wp2_with (first | (go_at_call 60; refine (min_calls _ _ _).mono ?_; rintro e w1 ⟨rfl, rfl⟩) | (go_at_call 92; refine (max_calls _ _ _).mono ?_; rintro e w1 ⟨rfl, rfl⟩))
      go_roundw
      case rel => exact ⟨k + 1, _, _, by first | go_num | (simp <;> omega), by omega, HP2.out⟩
      case measure => simp [intOf]; omega
end Go.Proofs.Ytcpdhkbmfgphpaa
