import Derived.Test.YtemobphkgbhhhaaGeoL
namespace Go.Proofs.Ytemobphkgbhhhaa
open Go.ChangeShapes Go.WideShapes Go.ChangeAt Go.RowKit Go.GrowR
set_option linter.unusedVariables false
set_option linter.unusedSimpArgs false

theorem infoT : (Try.prog.info? 63).map (fun i => (i.zero, i.size, i.bytes)) = some (some .nilIface, 1, 16) := by kernel_rfl
theorem undT : Try.prog.underlying 112 = some (.slice 63) := by kernel_rfl
theorem newCol (w : World) : Calls Try.prog 77 #[] w fun e w' => e = .returned (.pointer (some ⟨w.heap.size, 0, none⟩)) ∧ Grow w w' ∧ ColC w.heap.size 0 0 (.slice none 0 0) w' ∧ w'.heap.size = w.heap.size + 1 := by
  go_enter Try.func77, Try.ntmps77
  go_wp2
  go_ret
  exact ⟨rfl, (Grow.refl w).alloc _, ⟨by go_simp, by go_simp, by go_simp, fun o => by go_simp⟩, by simp⟩
theorem sridCol (b : Nat) (l r q : Int) (V : Value) (w : World) (h : ColC b l r V w) : Calls Try.prog 78 #[.pointer (some ⟨b, 0, none⟩), .int .i64 q] w fun e w' => e = .returned (.pointer (some ⟨b, 0, none⟩)) ∧ w' = w.setCell ⟨b, 2, none⟩ (.int .i64 q) := by
  obtain ⟨-, -, h3, h4⟩ := h
  have f3 := h4 2
  clear h4
  go_enter Try.func78, Try.ntmps78
  go_wp2
  go_ret
  exact ⟨rfl, rfl⟩
theorem ColC.set2 {b : Nat} {l r : Int} {V : Value} {w : World} (h : ColC b l r V w) (q : Int) : ColC b l q V (w.setCell ⟨b, 2, none⟩ (.int .i64 q)) :=
  let ⟨h0, h1, h2, h4⟩ := h
  ⟨by rw [World.cell?_setCell_other _ _ _ _ (by simp)]; exact h0, by rw [World.cell?_setCell_other _ _ _ _ (by simp)]; exact h1, World.cell?_setCell_same _ _ _ h2, fun o => by rw [World.frozen?_setCell]; exact h4 o⟩
theorem ColC.set1 {b : Nat} {l r : Int} {V : Value} {w : World} (h : ColC b l r V w) (q : Value) : ColC b l r q (w.setCell ⟨b, 1, none⟩ q) :=
  let ⟨h0, h1, h2, h4⟩ := h
  ⟨by rw [World.cell?_setCell_other _ _ _ _ (by simp)]; exact h0, World.cell?_setCell_same _ _ _ h1, by rw [World.cell?_setCell_other _ _ _ _ (by simp)]; exact h2, fun o => by rw [World.frozen?_setCell]; exact h4 o⟩
theorem ColC.set0 {b : Nat} {l r : Int} {V : Value} {w : World} (h : ColC b l r V w) (q : Int) : ColC b q r V (w.setCell ⟨b, 0, none⟩ (.int .i64 q)) :=
  let ⟨h0, h1, h2, h4⟩ := h
  ⟨World.cell?_setCell_same _ _ _ h0, by rw [World.cell?_setCell_other _ _ _ _ (by simp)]; exact h1, by rw [World.cell?_setCell_other _ _ _ _ (by simp)]; exact h2, fun o => by rw [World.frozen?_setCell]; exact h4 o⟩
theorem ColC.up {b : Nat} {l r : Int} {V : Value} : Up (ColC b l r V) := fun _ _ ⟨h0, h1, h2, h4⟩ hg => ⟨up_cell h0 hg, up_cell h1 hg, up_cell h2 hg, fun o => (frozUp (cell_ltH h0) hg).trans (h4 o)⟩
theorem ColC.by {b : Nat} {l r : Int} {V : Value} {w w' : World} {row : Option Nat} (h : ColC b l r V w) (hg : w.grownBy w' row) (hne : some b ≠ row) : ColC b l r V w' := by
  obtain ⟨h0, h1, h2, h4⟩ := h
  have hlt : b < w.heap.size := cell_ltH h0
  have k : ∀ o, w'.cell? ⟨b, o, none⟩ = w.cell? ⟨b, o, none⟩ := fun o => World.cell?_of_block (w := w) (hg.block b hlt hne)
  have f : ∀ o, w'.frozen? ⟨b, o, none⟩ = w.frozen? ⟨b, o, none⟩ := fun o => World.frozen?_of_block (w := w) (hg.block b hlt hne)
  exact ⟨(k 0).trans h0, (k 1).trans h1, (k 2).trans h2, fun o => (f o).trans (h4 o)⟩
def PushQ (B b : Nat) (V : Value) (us : List Value) (w : World) (R : Value) (e : Ending) (w' : World) : Prop := e = .returned R ∧ ∃ V' w1, VOwn 63 B V' us w1 ∧ w.grownBy w1 V.ownBlock ∧ (V'.ownBlock = V.ownBlock ∨ V'.ownBlock = some w.heap.size) ∧ w' = w1.setCell ⟨b, 1, none⟩ V'
set_option maxHeartbeats 2000000 in
theorem push_calls (B b : Nat) (r : Int) (V : Value) (us : List Value) (t : TypeId) (p : Value) (b1 : Nat) (w : World) (hc : ColC b 0 r V w) (hown : VOwn 63 B V us w) (hb : b < B) (hB : B ≤ w.heap.size) (hu : w.cell? ⟨b1, 0, none⟩ = some (.iface t p)) (hl : us.length ≤ 1172812402961) :
    Calls Try.prog 99 #[.pointer (some ⟨b, 0, none⟩), .slice (some ⟨b1, 0, none⟩) 1 1] w (PushQ B b V (us ++ [.iface t p]) w .nilIface) := by
  obtain ⟨i0, hi, hz0, hz1, hz2⟩ := info_parts infoT
  have HI := Lib.hid hi; have HZ0 := Lib.hid hz0; have HZ1 := Lib.hid hz1; have HZ2 := Lib.hid hz2; clear hi hz0 hz1 hz2
  obtain ⟨A, n, c, rfl⟩ := VOwn.isSl hown
  have HO := Lib.hid hown; have HC := Lib.hid hc
  obtain ⟨x0, x1, -, x3⟩ := hc
  have hne : some b ≠ (Value.slice A n c).ownBlock := fun h => by have := hown.lt b h.symm; omega
  have HNE := Lib.hid hne
  clear hown x3 hne
  go_enter Try.func99, Try.ntmps99
  go_wp2_with (at_builtin; refine wpList_append_vsl rfl _ _ 112 rfl B 63 i0 .nilIface 16 undT HI.out HZ0.out HZ1.out HZ2.out rfl rfl HO.out rfl (VSl.one (u := .iface t p) (by go_simp)) (by intro x hx; simp at hx; subst hx; rfl) (by simp [maxLen]; omega) (by simp; omega) hB ?_; intro V' w5 hown5 hgrow5 hwh5; have H5 := Lib.hid hown5; have HGR := Lib.hid hgrow5; have HW := Lib.hid hwh5; obtain ⟨A5, n5, c5, rfl⟩ := hown5.isSl; obtain ⟨-, y1, -, y3⟩ := HC.out.by hgrow5 HNE.out; have y4 := y3 1; clear hown5 hgrow5 hwh5 y3)
  go_ret
  exact ⟨rfl, _, _, H5.out, HGR.out, HW.out, rfl⟩
set_option maxHeartbeats 2000000 in
theorem mustPush_calls (B b : Nat) (r : Int) (V : Value) (us : List Value) (t : TypeId) (p : Value) (b1 : Nat) (w : World) (hc : ColC b 0 r V w) (hown : VOwn 63 B V us w) (hb : b < B) (hB : B ≤ w.heap.size) (hu : w.cell? ⟨b1, 0, none⟩ = some (.iface t p)) (hl : us.length ≤ 1172812402961) :
    Calls Try.prog 79 #[.pointer (some ⟨b, 0, none⟩), .slice (some ⟨b1, 0, none⟩) 1 1] w (PushQ B b V (us ++ [.iface t p]) w (.pointer (some ⟨b, 0, none⟩))) := by
  have HP := Lib.hid (push_calls B b r V us t p b1 w hc hown hb hB hu hl)
  clear hc hown hb hB hu hl
  go_enter Try.func79, Try.ntmps79
  go_wp2_with (go_at_call 99; refine (HP.out).mono ?_; rintro e w' ⟨rfl, hq⟩; have HQ := Lib.hid hq; clear hq)
  go_ret
  exact ⟨rfl, HQ.out⟩
def ChkQ (l : Int) (kids : List GT) (w : World) (e : Ending) (w' : World) : Prop := ∃ V, e = .returned V ∧ w' = w ∧ ((V = .nilIface ∧ (l = 0 ∨ ∀ g ∈ kids, layO g = l)) ∨ ((∃ x, V = .iface 163 x) ∧ l ≠ 0 ∧ ∃ g ∈ kids, layO g ≠ l))
set_option maxRecDepth 100000 in
set_option maxHeartbeats 8000000 in
theorem checkLay (b : Nat) (l0 l r : Int) (V : Value) (us : List Value) (kids : List GT) (w : World) (hc : ColC b l0 r V w) (hown : VOwn 63 0 V us w) (hk : TVs kids us w) :
    Calls Try.prog 103 #[.pointer (some ⟨b, 0, none⟩), .int .i64 l] w (ChkQ l kids w) := by
  by_cases h0 : l = 0
  · subst h0
    clear hc hown hk
    go_enter Try.func103, Try.ntmps103
    go_wp2
    go_ret
    exact ⟨_, rfl, rfl, .inl ⟨rfl, .inl rfl⟩⟩
  have e0 : (l != 0) = true := by simpa using h0
  have hub : us.length ≤ 9223372036854775807 := by
    rcases hown.2 with ⟨-, h0⟩ | ⟨g, cap, cur, -, -, -, h1, h2, -⟩
    · omega
    · simp [maxLen] at h2; omega
  obtain ⟨A, c, rfl, -, hA⟩ := VOwn.sl hown
  obtain ⟨-, x1, -, -⟩ := hc
  have HL := Lib.hid (TVs_len hk)
  have HA := Lib.hid hA; have HUS := Lib.hid hk; have HL0 := Lib.hid h0
  clear hA hk hown h0
  go_enter Try.func103, Try.ntmps103
  go_wp2
  go_loop [6, 7, 15] (fun _ _ i => ∃ j : Nat, j ≤ us.length ∧ i = .int .i64 j ∧ ∀ (q : Nat) (g : GT), q < j → kids[q]? = some g → layO g = l) (fun _ _ i => us.length - (intOf i).toNat)
  case atStart => exact ⟨0, Nat.zero_le _, rfl, fun q g h => by omega⟩
  case round =>
    obtain ⟨q, hq, rfl, hall⟩ := hrel
    have HALL := Lib.hid hall; clear hall
    by_cases hlt : q < us.length
    case neg =>
      have HQ := Lib.hid (show kids.length ≤ q by have := HL.out; omega)
      go_wp2
      go_ret
      refine ⟨_, rfl, rfl, .inl ⟨rfl, .inr fun g hg => ?_⟩⟩
      obtain ⟨i, hi⟩ := List.mem_iff_getElem?.1 hg
      exact HALL.out i g (by have := (List.getElem?_eq_some_iff.1 hi).1; have := HQ.out; omega) hi
    case pos =>
      obtain ⟨kid, hkid⟩ : ∃ p, kids[q]? = some p := ⟨kids[q]'(by have := HL.out; omega), by have := HL.out; simp [show q < kids.length by omega]⟩
      obtain ⟨u, hu, htv⟩ := TVs_at HUS.out hkid
      rcases HA.out with h0 | ⟨bV, oV, rfl, hcell⟩
      · exfalso; rw [h0] at hlt; simp at hlt
      have hcu := hcell q u hu
      have hlv := layV kid u w htv
      have HKID := Lib.hid hkid
      have HNX : Hid (layO kid = l → ∀ (i : Nat) (g : GT), i < q + 1 → kids[i]? = some g → layO g = l) := fun h i g hi hg => by
        rcases Nat.lt_or_ge i q with h1 | h1
        · exact HALL.out i g h1 hg
        · obtain rfl : i = q := by omega
          have := HKID.out; rw [hg] at this; cases this; exact h
      have HBAD : Hid (layO kid ≠ l → ∃ g ∈ kids, layO g ≠ l) := fun h => ⟨kid, List.mem_of_getElem? HKID.out, h⟩
      generalize layO kid = lk at *
      clear hcell hu htv hkid
      by_cases hl : lk = l
      · subst hl
        have e1 : (lk != lk) = false := by simp
        have HNX2 := Lib.hid (HNX.out rfl)
        rcases hlv with ⟨k2, b2, rfl, hc2⟩ | ⟨b2, rfl, hcall⟩
        · have hm := fun w => mLay0 k2 b2 w
          have HC2 := Lib.hid hc2; clear hc2
          go_wp2_with (go_at_call 126; refine (g0Layout b2 _ _ HC2.out).mono ?_; rintro e w' ⟨rfl, rfl⟩)
          go_round
          case rel => exact ⟨q + 1, by omega, by go_num, HNX2.out⟩
          case measure => simp [intOf]; omega
        · have hm := fun w => mLay7 b2 w
          have HCA := Lib.hid hcall; clear hcall
          go_wp2_with (go_at_call 161; refine (HCA.out).mono ?_; rintro e w' ⟨rfl, rfl⟩)
          go_round
          case rel => exact ⟨q + 1, by omega, by go_num, HNX2.out⟩
          case measure => simp [intOf]; omega
      · have e1 : (lk != l) = true := by simpa using hl
        have HB := Lib.hid (HBAD.out hl)
        clear hl
        rcases hlv with ⟨k2, b2, rfl, hc2⟩ | ⟨b2, rfl, hcall⟩
        · have hm := fun w => mLay0 k2 b2 w
          have HC2 := Lib.hid hc2; clear hc2
          go_wp2_with (go_at_call 126; refine (g0Layout b2 _ _ HC2.out).mono ?_; rintro e w' ⟨rfl, rfl⟩)
          go_ret
          exact ⟨_, rfl, rfl, .inr ⟨⟨_, rfl⟩, HL0.out, HB.out⟩⟩
        · have hm := fun w => mLay7 b2 w
          have HCA := Lib.hid hcall; clear hcall
          go_wp2_with (go_at_call 161; refine (HCA.out).mono ?_; rintro e w' ⟨rfl, rfl⟩)
          go_ret
          exact ⟨_, rfl, rfl, .inr ⟨⟨_, rfl⟩, HL0.out, HB.out⟩⟩
set_option maxHeartbeats 2000000 in
theorem setLay (b : Nat) (l r : Int) (V : Value) (us : List Value) (kids : List GT) (w : World) (hc : ColC b 0 r V w) (hown : VOwn 63 0 V us w) (hk : TVs kids us w) (hl : l ≠ 0 → ∀ g ∈ kids, layO g = l) :
    Calls Try.prog 100 #[.pointer (some ⟨b, 0, none⟩), .int .i64 l] w fun e w' => e = .returned .nilIface ∧ w' = w.setCell ⟨b, 0, none⟩ (.int .i64 l) := by
  have HCK : Hid (Calls Try.prog 103 #[.pointer (some ⟨b, 0, none⟩), .int .i64 l] w fun e w' => e = .returned .nilIface ∧ w' = w) := by
    refine Calls.mono (checkLay b 0 l r V us kids w hc hown hk) ?_
    rintro e w' ⟨V', rfl, rfl, ⟨rfl, -⟩ | ⟨-, h1, g, h2, h3⟩⟩
    · exact ⟨rfl, rfl⟩
    · exact absurd (hl h1 g h2) h3
  obtain ⟨x0, -, -, x3⟩ := hc
  have x4 := x3 0
  clear hown hk hl x3
  go_enter Try.func100, Try.ntmps100
  go_wp2_with (go_at_call 103; refine (HCK.out).mono ?_; rintro e w' ⟨rfl, rfl⟩)
  go_ret
  exact ⟨rfl, rfl⟩
theorem mustLay (b : Nat) (l r : Int) (V : Value) (us : List Value) (kids : List GT) (w : World) (hc : ColC b 0 r V w) (hown : VOwn 63 0 V us w) (hk : TVs kids us w) (hl : l ≠ 0 → ∀ g ∈ kids, layO g = l) :
    Calls Try.prog 80 #[.pointer (some ⟨b, 0, none⟩), .int .i64 l] w fun e w' => e = .returned (.pointer (some ⟨b, 0, none⟩)) ∧ w' = w.setCell ⟨b, 0, none⟩ (.int .i64 l) := by
  have HCK := Lib.hid (setLay b l r V us kids w hc hown hk hl)
  clear hc hown hk hl
  go_enter Try.func80, Try.ntmps80
  go_wp2_with (go_at_call 100; refine (HCK.out).mono ?_; rintro e w' ⟨rfl, rfl⟩)
  go_ret
  exact ⟨rfl, rfl⟩
end Go.Proofs.Ytemobphkgbhhhaa
