import Derived.Test.YtemobphkgbhhhaaPrtB
import Derived.Test.YtemobphkgbhhhaaGeoM
import Derived.Laws.CopyOwn
import Derived.Deep.OwnRows
namespace Go.Proofs.Ytemobphkgbhhhaa
open Go.ChangeShapes Go.WideShapes Go.ChangeAt Go.RowKit Go.GrowR
set_option linter.unusedVariables false
set_option linter.unusedSimpArgs false

/-- a polygon's object *)-/
def PolyObj (l : Int) (s : Nat) (segs : List (List (List Nat))) (w : World) (e : Ending) (w' : World) : Prop := ∃ b A m c E ce, e = .returned (.pointer (some ⟨b, 0, none⟩)) ∧ Obj4 b l s 0 (.slice A m c) w' ∧ FSl (.slice A m c) (fwd segs) w' ∧ w'.cell? ⟨b, 4, none⟩ = some (.slice E segs.length ce) ∧ ISl (.slice E segs.length ce) ((cum s 0 segs).map Int.ofNat) w' ∧ Grow w w'
structure ObA (b : Nat) (l : Int) (s : Nat) (r : Int) (A : Option Addr) (n c : Nat) (E : Option Addr) (ce : Nat) (segss : List (List (List (List Nat)))) (w : World) : Prop where
  o : Obj4 b l s r (.slice A n c) w
  f : FSl (.slice A n c) (fwd segss.flatten) w
  e : w.cell? ⟨b, 4, none⟩ = some (.slice E segss.length ce)
  en : EndRR E (cums s 0 segss) w
  rw : ∀ segs ∈ segss, ∀ rows ∈ segs, ∀ r ∈ rows, r.length = s
  st : strideN l = s
  l1 : 1 ≤ l
  l9 : l ≤ 9
  n1 : (fwd segss.flatten).length ≤ 17592186044416
  n2 : segss.length ≤ 17592186044416
  n3 : ∀ segs ∈ segss, segs.length ≤ 17592186044
theorem take_empty {segss : List (List (List (List Nat)))} {j i : Nat} (h : ∀ q, j ≤ q → q < i → segss[q]? = some []) (hj : j ≤ i) : (segss.take i).flatten = (segss.take j).flatten := by
  induction i with
  | zero => have : j = 0 := by omega
            rw [this]
  | succ i ih =>
    by_cases hji : j = i + 1
    · rw [hji]
    · rw [List.take_add_one, h i (by omega) (by omega), List.flatten_append]
      rw [ih (fun q h1 h2 => h q h1 (by omega)) (by omega)]
      simp
theorem segss_flat {segss : List (List (List (List Nat)))} {segs : List (List (List Nat))} {i : Nat} (hi : segss[i]? = some segs) : fwd segss.flatten = fwd (segss.take i).flatten ++ fwd segs ++ fwd (segss.drop (i + 1)).flatten := by
  have hdr : segss.drop i = segs :: segss.drop (i + 1) := by
    obtain ⟨hq', rfl⟩ := List.getElem?_eq_some_iff.1 hi
    exact List.drop_eq_getElem_cons hq'
  conv => lhs; rw [← List.take_append_drop i segss, hdr]
  simp [fwd_append, List.append_assoc]
theorem ObA.nil {b : Nat} {l : Int} {s : Nat} {r : Int} {A : Option Addr} {n c : Nat} {E : Option Addr} {ce : Nat} {segss : List (List (List (List Nat)))} {w : World} (h : ObA b l s r A n c E ce segss w) : E = none → segss.length = 0 := by
  rintro rfl
  rcases h.en with h0 | ⟨be, oe, h1, -⟩
  · have := congrArg List.length h0; rw [cums_len] at this; exact this
  · cases h1
set_option maxRecDepth 100000 in
set_option maxHeartbeats 4000000 in
theorem polyOut (b : Nat) (l : Int) (s : Nat) (r : Int) (A : Option Addr) (n c : Nat) (E : Option Addr) (ce : Nat) (i : Int) (segss : List (List (List (List Nat)))) (w : World) (hO : ObA b l s r A n c E ce segss w) (hi : i < 0 ∨ (segss.length : Int) ≤ i) :
    Calls Try.prog 41 #[.pointer (some ⟨b, 0, none⟩), .int .i64 i] w (Fell w) := by
  have c4 := hO.e
  have hb := cell_ltH c4
  obtain ⟨V1, W1, hg1, hv1, hr1⟩ := indexAt_outs (P := Try.prog) 23 E segss.length ce i (by kernel_rfl) hO.nil (by omega)
  clear hO hi
  go_enter Try.func41, Try.ntmps41
  go_wp2
  exact ⟨rfl, fell_mk (hv1 _) ((Grow.refl w).trans (hg1 _))⟩
theorem int_one (xs : List Int) : ∀ x ∈ xs.map (Value.int .i64), x.oneCell' = true := by
  intro x hx; obtain ⟨n, -, rfl⟩ := List.mem_map.1 hx; rfl
theorem isl_row {b c m : Nat} {ns : List Int} {w : World} (hm : ns.length = m) (hc : m ≤ c) (h : ∀ i x, ns[i]? = some x → w.cell? ⟨b, i, none⟩ = some (.int .i64 x)) : ISl (.slice (some ⟨b, 0, none⟩) m c) ns w := by
  refine ISl.of ⟨_, c, by unfold iVs; rw [List.length_map, hm], by unfold iVs; rw [List.length_map]; omega, .inr ⟨b, 0, rfl, fun i x hi => ?_⟩⟩
  unfold iVs at hi
  rw [List.getElem?_map] at hi
  obtain ⟨y, hy, rfl⟩ := Option.map_eq_some_iff.1 hi
  rw [Nat.zero_add]; exact h i y hy

set_option maxRecDepth 100000 in
set_option maxHeartbeats 4000000 in
theorem polyNone (b : Nat) (l : Int) (s : Nat) (r : Int) (A : Option Addr) (n c : Nat) (E : Option Addr) (ce i : Nat) (segss : List (List (List (List Nat)))) (w : World) (hO : ObA b l s r A n c E ce segss w) (hi : segss[i]? = some []) :
    Calls Try.prog 41 #[.pointer (some ⟨b, 0, none⟩), .int .i64 i] w (PolyObj l s [] w) := by
  have c4 := hO.e
  obtain ⟨c0, -, -, -, -⟩ := hO.o
  have hb := cell_ltH c4
  have hil : i < segss.length := (List.getElem?_eq_some_iff.1 hi).1
  obtain ⟨be, oe, A2, c2, rfl, hci⟩ : ∃ be oe A2 c2, E = some ⟨be, oe, none⟩ ∧ w.cell? ⟨be, oe + i, none⟩ = some (.slice A2 0 c2) := by
    rcases hO.en with h0 | ⟨be, oe, rfl, hce⟩
    · exfalso; have := congrArg List.length h0; rw [cums_len, List.length_nil] at this; omega
    · obtain ⟨A2, c2, h1, -⟩ := hce i _ (cums_at hi)
      exact ⟨be, oe, A2, c2, rfl, h1⟩
  have HN := Lib.hid (fun w' (hw : Grow w w') => newPolygon w.heap.size l s none 0 0 none 0 0 w' hO.l1 hO.l9 hO.st hw.size)
  have hin : (i : Int) < (segss.length : Int) := by omega
  clear hO hi
  have HE : Hid (∀ w', Grow w w' → Calls Try.prog 86 #[.int .i64 l] w' (fun e w2 => ∃ b, e = .returned (.pointer (some ⟨b, 0, none⟩)) ∧ Obj5 b l s 0 (.slice none 0 0) (.slice none 0 0) w2 ∧ Grow w' w2)) := fun w' hw => by
    have HN' := Lib.hid (HN.out w' hw)
    clear HN
    go_enter Try.func86, Try.ntmps86
    go_wp2_with (go_at_call 66; refine (HN'.out).mono ?_; rintro e w2 ⟨V, rfl, hg2, b2, rfl, -, ho2⟩; have HG2 := Lib.hid hg2; have HO2 := Lib.hid ho2; clear hg2 ho2)
    go_ret
    exact ⟨b2, rfl, HO2.out, HG2.out⟩
  go_enter Try.func41, Try.ntmps41
  go_wp2_with (go_at_call 86; refine (HE.out _ (Grow.refl _)).mono ?_; rintro e w2 ⟨b2, rfl, ho2, hg2⟩; have HG2 := Lib.hid hg2; have HO2 := Lib.hid ho2; clear hg2 ho2)
  go_ret
  exact ⟨b2, none, 0, 0, none, 0, rfl, HO2.out.1, ⟨none, 0, rfl, Nat.le_refl _, .inl rfl⟩, HO2.out.2, ISl.nil, HG2.out⟩

set_option maxRecDepth 100000 in
set_option maxHeartbeats 8000000 in
theorem polyIn (b : Nat) (l : Int) (s : Nat) (r : Int) (A : Option Addr) (n c : Nat) (E : Option Addr) (ce i : Nat) (segss : List (List (List (List Nat)))) (segs : List (List (List Nat))) (w : World) (hO : ObA b l s r A n c E ce segss w) (hi : segss[i]? = some segs) (hne : segs ≠ []) :
    Calls Try.prog 41 #[.pointer (some ⟨b, 0, none⟩), .int .i64 i] w (PolyObj l s segs w) := by
  have C4 := Lib.hid hO.e
  obtain ⟨x0, -, x2, -, -⟩ := hO.o
  have C0 := Lib.hid x0; have C2 := Lib.hid x2
  have hmem := List.mem_of_getElem? hi
  have hil : i < segss.length := (List.getElem?_eq_some_iff.1 hi).1
  have hm0 : 0 < segs.length := List.length_pos_iff.2 hne
  obtain ⟨i0, hi0, hz0, hz1, hz2⟩ := info_parts infoR0
  have hu := hO.f
  rw [segss_flat hi] at hu
  obtain ⟨A', c', hM, hcut⟩ := fcut (P := Try.prog) undR0 hi0 hz1 hu
  obtain ⟨X, hX⟩ : ∃ X, X = (fwd (segss.take i).flatten).length := ⟨_, rfl⟩
  obtain ⟨be, oe, rfl, hce⟩ : ∃ be oe, E = some ⟨be, oe, none⟩ ∧ ∀ (q : Nat) (l : List Nat), (cums s 0 segss)[q]? = some l → ∃ A c, w.cell? ⟨be, oe + q, none⟩ = some (.slice A l.length c) ∧ EndR A l w := by
    rcases hO.en with h0 | h
    · exfalso; have := congrArg List.length h0; rw [cums_len, List.length_nil] at this; omega
    · exact h
  obtain ⟨A2, c2, hci, hec⟩ := hce i _ (cums_at hi)
  rw [Nat.zero_add, ← hX] at hec
  rw [cum_len] at hci
  obtain ⟨b2, o2, rfl, hen⟩ : ∃ b2 o2, A2 = some ⟨b2, o2, none⟩ ∧ ∀ (q x : Nat), (cum s X segs)[q]? = some x → w.cell? ⟨b2, o2 + q, none⟩ = some (.int .i64 x) := by
    rcases hec with h0 | h
    · exfalso; have := congrArg List.length h0; rw [cum_len, List.length_nil] at this; omega
    · exact h
  obtain ⟨m, hmm⟩ : ∃ m, m = segs.length := ⟨_, rfl⟩
  have hlast := cum_last (o := X) (fun rows h => hO.rw segs hmem rows h) (m := segs.length - 1) (by omega)
  have hcl := hen _ _ hlast
  have hmb : m ≤ 17592186044 := by rw [hmm]; exact hO.n3 segs hmem
  have hXb : X + (fwd segs).length ≤ 17592186044416 := by
    have h1 := congrArg List.length (segss_flat hi)
    simp only [List.length_append] at h1
    have := hO.n1; omega
  rw [← hmm] at hci hcl
  obtain ⟨Y, hYe⟩ : ∃ Y, Y = X + (fwd segs).length := ⟨_, rfl⟩
  rw [← hYe] at hcl hXb
  have hN2 := hO.n2
  have HCE : Hid (∀ (p : Nat) (prev : List (List (List Nat))), segss[p]? = some prev → (∀ q, p + 1 ≤ q → q < i → segss[q]? = some []) → p < i → ∃ A c, w.cell? ⟨be, oe + p, none⟩ = some (.slice A prev.length c) ∧ (prev ≠ [] → ∃ bp op, A = some ⟨bp, op, none⟩ ∧ w.cell? ⟨bp, op + (prev.length - 1), none⟩ = some (.int .i64 (X : Int)))) := fun p prev hp hq hpi => by
    obtain ⟨A5, c5, h1, h2⟩ := hce p _ (cums_at hp)
    rw [cum_len] at h1
    refine ⟨A5, c5, h1, fun hpn => ?_⟩
    have hpl : 0 < prev.length := List.length_pos_iff.2 hpn
    rcases h2 with h0 | ⟨bp, op, rfl, h3⟩
    · exfalso; have := congrArg List.length h0; rw [cum_len, List.length_nil] at this; omega
    · refine ⟨bp, op, rfl, ?_⟩
      have h4 := cum_last (o := 0 + (fwd (segss.take p).flatten).length) (fun rows h => hO.rw prev (List.mem_of_getElem? hp) rows h) (m := prev.length - 1) (by omega)
      have h5 := h3 _ _ h4
      have h6 : X = 0 + (fwd (segss.take p).flatten).length + (fwd prev).length := by
        rw [hX, take_empty hq (by omega), List.take_add_one, hp]
        simp [fwd_append]
      rw [← h6] at h5
      exact h5
  have HX00 : Hid ((∀ q, 0 ≤ q → q < i → segss[q]? = some []) → X = 0) := fun hq => by rw [hX, take_empty hq (Nat.zero_le _)]; rfl
  have HPL : Hid (∀ p, p < segss.length → ∃ prev, segss[p]? = some prev ∧ prev.length ≤ 17592186044) := fun p hp => ⟨segss[p], by simp [hp], hO.n3 _ (List.getElem_mem hp)⟩
  have HXS : Hid (∀ (q x : Nat), (cum s X segs)[q]? = some x → x ≤ 17592186044416) := fun q x hx => by
    have h1 : q < segs.length := by rw [← cum_len s segs X]; exact (List.getElem?_eq_some_iff.1 hx).1
    have h2 := cum_at (o := X) (fun rows h => hO.rw segs hmem rows h) (show segs[q]? = some segs[q] by simp [h1])
    rw [h2] at hx; cases hx
    have h3 := congrArg List.length (seg_flat (show segs[q]? = some segs[q] by simp [h1]))
    simp only [List.length_append, flat_len (hO.rw segs hmem _ (List.getElem_mem h1))] at h3
    omega
  have HN := Lib.hid (fun A' m' c' w' (hw : Grow w w') => newPolygon w.heap.size l s A' (fwd segs).length c' (some ⟨w.heap.size, 0, none⟩) m' m' w' hO.l1 hO.l9 hO.st hw.size)
  have HCUT : Hid (∀ (w' : World), (Instr.slice 22 (.slice A n c) (some (.int .i64 (X : Int))) (some (.int .i64 (Y : Int))) none).run Try.prog w' = .ok (.slice A' (fwd segs).length c') w') := fun w' => by rw [hX]; exact hcut w' .i64 .i64 _ (by omega)
  have HF := Lib.hid hM; have HM := Lib.hid (show segs.length = m from hmm.symm); have HEN := Lib.hid hen; have CI := Lib.hid hci; have CL := Lib.hid hcl
  have hund := Lib.hid undIp
  have hsz := Lib.hid (show (Try.prog.info? 3).map (·.size) = some 1 by kernel_rfl)
  have hmk := fun w => run_make_row' (P := Try.prog) 25 3 (.int .i64 0) 8 undIp infoIp rfl .i64 .i64 m (by omega) (by omega) w
  have hin : (i : Int) < (segss.length : Int) := by omega
  have c0 := x0; have c2' := x2; have c4 := C4.out
  have hb := cell_ltH c0; have hbe := cell_ltH hci; have hb2 := cell_ltH hcl
  have hmp : 0 < m := by omega
  have hme : ((m : Int) == 0) = false := by simp; omega
  have hme2 : (m == 0) = false := by simp; omega
  have hi1 : IntKind.i64.wrap ((i : Int) - 1) = (i : Int) - 1 := IntWalk.i64_in _ (by omega)
  have hm1 : IntKind.i64.wrap ((m : Int) - 1) = (m : Int) - 1 := IntWalk.i64_in _ (by omega)
  have hm2 : (0 : Int) ≤ (m : Int) - 1 := by omega
  have hm3 : (m : Int) - 1 < (m : Int) := by omega
  have hm4 : ((m : Int) - 1).toNat = m - 1 := by omega
  have hm5 : 1 ≤ m := hmp
  have hm6 : (1 : Int) ≤ (m : Int) := by omega
  clear hO x0 x2 hmem hi0 hz0 hz1 hz2 hu hM hcut hX hce hec hen hmm hlast hi hne hm0 hYe
  generalize hfl : (fwd segs).length = fl at *
  have HFL := Lib.hid hfl
  clear hfl
  generalize hNN : segss.length = N at *
  have HNN := Lib.hid hNN
  clear hNN
  go_enter Try.func41, Try.ntmps41
  go_wp2
  go_loop [5, 6, 7] (fun ov iv _ => ov = .int .i64 0 ∧ ∃ j : Nat, j ≤ i ∧ Hid (∀ q, j ≤ q → q < i → segss[q]? = some []) ∧ (j = 0 ∧ iv = .int .i64 (-1) ∨ ∃ p : Nat, j = p + 1 ∧ iv = .int .i64 (p : Int))) (fun _ iv _ => (intOf iv + 1).toNat)
  case atStart =>
    refine ⟨rfl, i, Nat.le_refl _, Lib.hid (fun q h1 h2 => by omega), ?_⟩
    by_cases h0 : i = 0
    · exact .inl ⟨h0, by subst h0; simp⟩
    · exact .inr ⟨i - 1, by omega, by go_num⟩
  case round =>
    obtain ⟨rfl, j, hj, HQ, hjv⟩ := hrel
    rcases hjv with ⟨rfl, rfl⟩ | ⟨p, rfl, rfl⟩
    · have hX0 := HX00.out HQ.out
      have HX0 := Lib.hid hX0
      have hcut0 : ∀ (w' : World), (Instr.slice 22 (.slice A n c) (some (.int .i64 0)) (some (.int .i64 (Y : Int))) none).run Try.prog w' = .ok (.slice A' fl c') w' := fun w' => by have := HCUT.out w'; rw [hX0] at this; exact this
      clear hX0
      have HGA := Lib.hid (show Grow w (w.alloc (.cells (madeCells #[.int .i64 0] m) 3)) from (Grow.refl w).alloc _)
      have HH := Lib.hid (show (w.alloc (.cells (madeCells #[.int .i64 0] m) 3)).heap[w.heap.size]? = some (.cells (madeCells #[.int .i64 0] m).toList.toArray 3 (0, 0)) by simpa using heap_alloc_new w (.cells (madeCells #[.int .i64 0] m) 3))
      have HBL := Lib.hid (show Below w.heap.size w (w.alloc (.cells (madeCells #[.int .i64 0] m) 3)) from (Grow.refl w).alloc _)
      have HC : Hid (∀ j v, (((cum s 0 segs).map Int.ofNat).map (Value.int .i64))[j]? = some v → (w.alloc (.cells (madeCells #[.int .i64 0] m) 3)).cell? (Addr.add ⟨b2, o2, none⟩ j) = some v) := by
        intro j v hj
        rw [List.getElem?_map, List.getElem?_map] at hj
        cases hx : (cum s 0 segs)[j]? with
        | none => rw [hx] at hj; cases hj
        | some n => rw [hx] at hj; cases hj; rw [addr_add]; exact up_cell (HEN.out j n (by rw [HX0.out]; exact hx)) HGA.out
      go_wp2_with ((with_reducible refine wpList_copy_splice rfl (.tmp 64) (.tmp 72) 25 25 rfl 3 hund.out hsz.out (some ⟨w.heap.size, 0, none⟩) (some ⟨b2, o2, none⟩) m m m c2 rfl rfl w.heap.size 0 (madeCells #[.int .i64 0] m).toList 3 HH.out (((cum s 0 segs).map Int.ofNat).map (.int .i64)) (by rw [List.length_map, List.length_map, cum_len, HM.out]; exact (Nat.min_self _).symm) (fun _ => ⟨rfl, _, rfl, HC.out⟩) (by have := HM.out; simp [size_madeCells, cum_len]; omega) (int_one _) w.heap.size w HBL.out (Nat.le_refl _) ?_); intro w3 hg0 hb3; have hg' := Lib.hid hg0; have HG3 := Lib.hid (show Grow w w3 from hb3); clear hg0 hb3; have c0 := up_cell C0.out HG3.out; have c2' := up_cell C2.out HG3.out; have c4 := up_cell C4.out HG3.out; have hci := up_cell CI.out HG3.out; have hcl := up_cell CL.out HG3.out; have hb := cell_ltH c0; have hbe := cell_ltH hci; have hb2 := cell_ltH hcl)
      have hlt0 : w.heap.size < w3.heap.size := by
        rcases Nat.lt_or_ge w.heap.size w3.heap.size with h1 | h1
        · exact h1
        · have h2 := hg'.out
          rw [Array.getElem?_eq_none h1] at h2; cases h2
      have HIS : Hid (ISl (.slice (some ⟨w.heap.size, 0, none⟩) m m) ((cum s 0 segs).map Int.ofNat) w3) := isl_row (by rw [List.length_map, cum_len]; exact HM.out) (Nat.le_refl _) fun q x hq => by
        rw [cell_of_row w3 w.heap.size q _ 3 (0, 0) hg'.out]
        have hql : q < m := by have := (List.getElem?_eq_some_iff.1 hq).1; rw [List.length_map, cum_len] at this; have := HM.out; omega
        simp only [splice, List.getElem?_toArray, List.take_zero, List.nil_append]
        rw [List.getElem?_append_left (by rw [List.length_map, List.length_map, cum_len]; have := HM.out; omega), List.getElem?_map, hq]; rfl
      clear hlt0
      refine wp_region_grow_tail 37 (fun i => none) (by kernel_rfl) (by kernel_rfl) ?_ ?_
      · intro i Φ h lo hi v
        cases h
      simp only [List.take_succ_cons, List.take_zero, List.drop_succ_cons, List.drop_zero]
      repeat (first
        | (refine wpGrow_skip (by rfl) ?_; simp only [Act.put, List.setIfInBounds_toArray, List.set_cons_zero, List.set_cons_succ, Nat.reduceAdd])
        | (refine wpGrow_det' (by rfl) (by rfl) ?_; apply Exists.intro; refine ⟨fun w' hc hh => ?_, ?_⟩; (have hcell := grow_cell hc; clear hc hh; go_simp; rfl); simp only [Act.put, List.setIfInBounds_toArray, List.set_cons_zero, List.set_cons_succ, Nat.reduceAdd]))
      refine wpGrow_nil ?_
      intro w1 hg hh
      have HGF := Lib.hid hg
      clear hh hg
      go_wp2_with (go_at_call 66; refine (HN.out _ _ _ _ (HG3.out.trans HGF.out)).mono ?_; rintro e w6 ⟨V, rfl, hg6, b6, rfl, -, ho6⟩; have HG6 := Lib.hid ((HG3.out.trans HGF.out).trans hg6); have HG36 := Lib.hid (HGF.out.trans hg6); have HO6 := Lib.hid ho6; clear hg6 ho6)
      go_ret
      exact ⟨b6, A', _, c', some ⟨w.heap.size, 0, none⟩, m, rfl, HO6.out.1, FSl.up _ _ HF.out HG6.out, by rw [HM.out]; exact HO6.out.2, by rw [HM.out]; exact ISl.up _ _ HIS.out HG36.out, HG6.out⟩
    · obtain ⟨prev, hp, hpb⟩ := HPL.out p (by have := HNN.out; omega)
      obtain ⟨A5, c5, hc5, hc6⟩ := HCE.out p prev hp HQ.out (by omega)
      have HQ2 : Hid (prev = [] → ∀ q, p ≤ q → q < i → segss[q]? = some []) := fun h0 q h1 h2 => by
        by_cases e : q = p
        · rw [e, hp, h0]
        · exact HQ.out q (by omega) h2
      have hpN : (p : Int) < (N : Int) := by omega
      have hp1 : IntKind.i64.wrap ((p : Int) - 1) = (p : Int) - 1 := IntWalk.i64_in _ (by omega)
      clear hp
      by_cases hp0 : prev = []
      · have HP0 := Lib.hid hp0
        have hl0 : prev.length = 0 := by rw [hp0]; rfl
        rw [hl0] at hc5
        clear hp0 hl0 hc6
        go_wp2
        go_round
        case rel =>
          refine ⟨rfl, p, by omega, Lib.hid (HQ2.out HP0.out), ?_⟩
          by_cases h0 : p = 0
          · exact .inl ⟨h0, by first | (subst h0; rfl) | simp [h0]⟩
          · exact .inr ⟨p - 1, by omega, by go_num⟩
        case measure => first | (simp [intOf]; omega) | simp [intOf]
      · obtain ⟨bp, op, rfl, hcp⟩ := hc6 hp0
        have hpl : 0 < prev.length := List.length_pos_iff.2 hp0
        have hbp := cell_ltH hcp
        clear hc6 hp0
        generalize prev.length = M at *
        have hM1 : IntKind.i64.wrap ((M : Int) - 1) = (M : Int) - 1 := IntWalk.i64_in _ (by omega)
        have hM5 : 1 ≤ M := hpl
        by_cases hX0 : X = 0
        · have HX0 := Lib.hid hX0
          have hcut0 : ∀ (w' : World), (Instr.slice 22 (.slice A n c) (some (.int .i64 0)) (some (.int .i64 (Y : Int))) none).run Try.prog w' = .ok (.slice A' fl c') w' := fun w' => by have := HCUT.out w'; rw [hX0] at this; exact this
          rw [show ((X : Nat) : Int) = 0 by rw [hX0]; rfl] at hcp
          clear hX0
          have HGA := Lib.hid (show Grow w (w.alloc (.cells (madeCells #[.int .i64 0] m) 3)) from (Grow.refl w).alloc _)
          have HH := Lib.hid (show (w.alloc (.cells (madeCells #[.int .i64 0] m) 3)).heap[w.heap.size]? = some (.cells (madeCells #[.int .i64 0] m).toList.toArray 3 (0, 0)) by simpa using heap_alloc_new w (.cells (madeCells #[.int .i64 0] m) 3))
          have HBL := Lib.hid (show Below w.heap.size w (w.alloc (.cells (madeCells #[.int .i64 0] m) 3)) from (Grow.refl w).alloc _)
          have HC : Hid (∀ j v, (((cum s 0 segs).map Int.ofNat).map (Value.int .i64))[j]? = some v → (w.alloc (.cells (madeCells #[.int .i64 0] m) 3)).cell? (Addr.add ⟨b2, o2, none⟩ j) = some v) := by
            intro j v hj
            rw [List.getElem?_map, List.getElem?_map] at hj
            cases hx : (cum s 0 segs)[j]? with
            | none => rw [hx] at hj; cases hj
            | some n => rw [hx] at hj; cases hj; rw [addr_add]; exact up_cell (HEN.out j n (by rw [HX0.out]; exact hx)) HGA.out
          go_wp2_with ((with_reducible refine wpList_copy_splice rfl (.tmp 64) (.tmp 72) 25 25 rfl 3 hund.out hsz.out (some ⟨w.heap.size, 0, none⟩) (some ⟨b2, o2, none⟩) m m m c2 rfl rfl w.heap.size 0 (madeCells #[.int .i64 0] m).toList 3 HH.out (((cum s 0 segs).map Int.ofNat).map (.int .i64)) (by rw [List.length_map, List.length_map, cum_len, HM.out]; exact (Nat.min_self _).symm) (fun _ => ⟨rfl, _, rfl, HC.out⟩) (by have := HM.out; simp [size_madeCells, cum_len]; omega) (int_one _) w.heap.size w HBL.out (Nat.le_refl _) ?_); intro w3 hg0 hb3; have hg' := Lib.hid hg0; have HG3 := Lib.hid (show Grow w w3 from hb3); clear hg0 hb3; have c0 := up_cell C0.out HG3.out; have c2' := up_cell C2.out HG3.out; have c4 := up_cell C4.out HG3.out; have hci := up_cell CI.out HG3.out; have hcl := up_cell CL.out HG3.out; have hb := cell_ltH c0; have hbe := cell_ltH hci; have hb2 := cell_ltH hcl)
          have hlt0 : w.heap.size < w3.heap.size := by
            rcases Nat.lt_or_ge w.heap.size w3.heap.size with h1 | h1
            · exact h1
            · have h2 := hg'.out
              rw [Array.getElem?_eq_none h1] at h2; cases h2
          have HIS : Hid (ISl (.slice (some ⟨w.heap.size, 0, none⟩) m m) ((cum s 0 segs).map Int.ofNat) w3) := isl_row (by rw [List.length_map, cum_len]; exact HM.out) (Nat.le_refl _) fun q x hq => by
            rw [cell_of_row w3 w.heap.size q _ 3 (0, 0) hg'.out]
            have hql : q < m := by have := (List.getElem?_eq_some_iff.1 hq).1; rw [List.length_map, cum_len] at this; have := HM.out; omega
            simp only [splice, List.getElem?_toArray, List.take_zero, List.nil_append]
            rw [List.getElem?_append_left (by rw [List.length_map, List.length_map, cum_len]; have := HM.out; omega), List.getElem?_map, hq]; rfl
          clear hlt0
          refine wp_region_grow_tail 37 (fun i => none) (by kernel_rfl) (by kernel_rfl) ?_ ?_
          · intro i Φ h lo hi v
            cases h
          simp only [List.take_succ_cons, List.take_zero, List.drop_succ_cons, List.drop_zero]
          repeat (first
            | (refine wpGrow_skip (by rfl) ?_; simp only [Act.put, List.setIfInBounds_toArray, List.set_cons_zero, List.set_cons_succ, Nat.reduceAdd])
            | (refine wpGrow_det' (by rfl) (by rfl) ?_; apply Exists.intro; refine ⟨fun w' hc hh => ?_, ?_⟩; (have hcell := grow_cell hc; clear hc hh; go_simp; rfl); simp only [Act.put, List.setIfInBounds_toArray, List.set_cons_zero, List.set_cons_succ, Nat.reduceAdd]))
          refine wpGrow_nil ?_
          intro w1 hg hh
          have HGF := Lib.hid hg
          clear hh hg
          go_wp2_with (go_at_call 66; refine (HN.out _ _ _ _ (HG3.out.trans HGF.out)).mono ?_; rintro e w6 ⟨V, rfl, hg6, b6, rfl, -, ho6⟩; have HG6 := Lib.hid ((HG3.out.trans HGF.out).trans hg6); have HG36 := Lib.hid (HGF.out.trans hg6); have HO6 := Lib.hid ho6; clear hg6 ho6)
          go_ret
          exact ⟨b6, A', _, c', some ⟨w.heap.size, 0, none⟩, m, rfl, HO6.out.1, FSl.up _ _ HF.out HG6.out, by rw [HM.out]; exact HO6.out.2, by rw [HM.out]; exact ISl.up _ _ HIS.out HG36.out, HG6.out⟩
        · have hxp : (X == 0) = false := by simp; omega
          have hxp2 : ((X : Int) == 0) = false := by simp; omega
          have hXp : 0 < X := by omega
          have HA0 := Lib.hid (arr_start (w := w) (n := m) (F := fun q u w => ∀ x, (cum s 0 segs)[q]? = some x → u = .int .i64 (x : Int)) 3 (.int .i64 0))
          go_wp2
          clear hmk
          go_loopw [9, 10, 83] (fun _ _ vi wr => ∃ q : Nat, q ≤ m ∧ vi = .int .i64 q ∧ w.heap.size < wr.heap.size ∧ Arr w w.heap.size m q (fun q u w => ∀ x, (cum s 0 segs)[q]? = some x → u = .int .i64 (x : Int)) wr) (fun _ _ vi _ => (m - intOf vi).toNat)
          case atStart => exact ⟨0, Nat.zero_le _, rfl, by simp, HA0.out⟩
          case round =>
            obtain ⟨q, hq, rfl, hwl, har⟩ := hrel
            have HAR := Lib.hid har
            clear HA0 har
            by_cases hqm : q < m
            · obtain ⟨x, hx⟩ : ∃ x, (cum s 0 segs)[q]? = some x := by
                have hl : q < (cum s 0 segs).length := by rw [cum_len]; have := HM.out; omega
                exact ⟨(cum s 0 segs)[q], by simp [hl]⟩
              have hy : (cum s X segs)[q]? = some (X + x) := by
                have := cum_shift s X segs 0
                rw [Nat.add_zero] at this
                rw [this, List.getElem?_map, hx]; rfl
              have hxy := up_cell (HEN.out q _ hy) HAR.out.g
              have hxb : x ≤ 17592186044416 := by
                have := HXS.out q _ hy; omega
              have c0 := up_cell C0.out HAR.out.g; have c4 := up_cell C4.out HAR.out.g; have hci := up_cell CI.out HAR.out.g
              obtain ⟨v0, hv0⟩ := HAR.out.c q hqm
              have hf0 := HAR.out.f q
              have HST := Lib.hid (HAR.out.step (u := .int .i64 (x : Int)) hqm hwl (Grow.refl _) (fun w2 h2 y hy => by rw [hx] at hy; cases hy; rfl))
              have hq1 : IntKind.i64.wrap ((q : Int) + 1) = (q : Int) + 1 := IntWalk.i64_in _ (by omega)
              rw [show ((X + x : Nat) : Int) = (x : Int) + (X : Int) by omega] at hxy
              have hsub : IntKind.i64.wrap ((x : Int) + (X : Int) - (X : Int)) = (x : Int) := by rw [show (x : Int) + (X : Int) - (X : Int) = (x : Int) by omega]; exact IntWalk.i64_in _ (by omega)
              have hsub2 : (x : Int) + (X : Int) - (X : Int) = (x : Int) := by omega
              clear hx hy
              go_wp2
              go_roundw
              case rel => exact ⟨q + 1, by omega, by go_num, by simpa [World.setCell] using hwl, HST.out⟩
              case measure => simp [intOf]; omega
            · have hqe : q = m := by omega
              have HQE := Lib.hid hqe
              clear hqe
              have HG3 := Lib.hid HAR.out.g
              have hcut0 := HCUT.out
              have c0 := up_cell C0.out HG3.out; have c2' := up_cell C2.out HG3.out; have c4 := up_cell C4.out HG3.out; have hci := up_cell CI.out HG3.out; have hcl := up_cell CL.out HG3.out; have hb := cell_ltH c0; have hbe := cell_ltH hci; have hb2 := cell_ltH hcl
              have HIS : Hid (ISl (.slice (some ⟨w.heap.size, 0, none⟩) m m) ((cum s 0 segs).map Int.ofNat) wr) := isl_row (by rw [List.length_map, cum_len]; exact HM.out) (Nat.le_refl _) fun k x hk => by
                rw [List.getElem?_map] at hk
                obtain ⟨y, hy, rfl⟩ := Option.map_eq_some_iff.1 hk
                have hkl : k < q := by have := (List.getElem?_eq_some_iff.1 hy).1; rw [cum_len] at this; have := HM.out; have := HQE.out; omega
                obtain ⟨u, lo, hi, a1, -, -, a4⟩ := HAR.out.s k hkl
                rw [a1, a4 wr (fun _ _ _ => rfl) y hy]; rfl
              go_wp2
              refine wp_region_grow_tail 37 (fun i => none) (by kernel_rfl) (by kernel_rfl) ?_ ?_
              · intro i Φ h lo hi v
                cases h
              simp only [List.take_succ_cons, List.take_zero, List.drop_succ_cons, List.drop_zero]
              repeat (first
                | (refine wpGrow_skip (by rfl) ?_; simp only [Act.put, List.setIfInBounds_toArray, List.set_cons_zero, List.set_cons_succ, Nat.reduceAdd])
                | (refine wpGrow_det' (by rfl) (by rfl) ?_; apply Exists.intro; refine ⟨fun w' hc hh => ?_, ?_⟩; (have hcell := grow_cell hc; clear hc hh; go_simp; rfl); simp only [Act.put, List.setIfInBounds_toArray, List.set_cons_zero, List.set_cons_succ, Nat.reduceAdd]))
              refine wpGrow_nil ?_
              intro w1 hg hh
              have HGF := Lib.hid hg
              clear hh hg
              go_wp2_with (go_at_call 66; refine (HN.out _ _ _ _ (HG3.out.trans HGF.out)).mono ?_; rintro e w6 ⟨V, rfl, hg6, b6, rfl, -, ho6⟩; have HG6 := Lib.hid ((HG3.out.trans HGF.out).trans hg6); have HG36 := Lib.hid (HGF.out.trans hg6); have HO6 := Lib.hid ho6; clear hg6 ho6)
              go_ret
              exact ⟨b6, A', _, c', some ⟨w.heap.size, 0, none⟩, m, rfl, HO6.out.1, FSl.up _ _ HF.out HG6.out, by rw [HM.out]; exact HO6.out.2, by rw [HM.out]; exact ISl.up _ _ HIS.out HG36.out, HG6.out⟩
end Go.Proofs.Ytemobphkgbhhhaa
