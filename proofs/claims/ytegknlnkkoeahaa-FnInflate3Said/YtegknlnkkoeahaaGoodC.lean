import Derived.Test.YtegknlnkkoeahaaGoodG
namespace Go.Proofs.Ytegknlnkkoeahaa
open Go.ChangeShapes Go.WideShapes Go.ChangeAt Go.RowKit Go.GrowR
set_option linter.unusedVariables false
set_option linter.unusedSimpArgs false

/-- kids that are good so far -/
def KidsOk (l : Int) (kids : List GT) (q : Nat) : Prop := ∀ (j : Nat) (g : GT), j < q → kids[j]? = some g → GoodF g ∧ (l ≠ 0 → layO g = l)
theorem KidsOk.snoc {l : Int} {kids : List GT} {q : Nat} {kid : GT} (h : KidsOk l kids q) (hq : kids[q]? = some kid) (h1 : GoodF kid) (h2 : l ≠ 0 → layO kid = l) : KidsOk l kids (q + 1) := fun j g hj hg => by
  rcases Nat.lt_or_ge j q with hlt | hge
  · exact h j g hlt hg
  · obtain rfl : j = q := by omega
    rw [hq] at hg; cases hg; exact ⟨h1, h2⟩
def GoodR (g : GT) (V : Value) : Prop := ∃ r : Bool, V = .bool r ∧ (r = true → GoodF g)
set_option maxRecDepth 100000 in
set_option maxHeartbeats 8000000 in
theorem goodT : ∀ (g : GT) (v : Value) (w : World), Reach44 g → GV g v w → Calls Try.prog 62 #[v] w (GoodQ g w) := by
  refine GT.ind fun k l r fl en ens kids ih v w hr hv => ?_
  by_cases h7 : k = 7
  case neg => exact goodPlain k l r fl en ens kids v w hr hv h7
  subst h7
  obtain ⟨r0, r1, r2, r3, -, r5, r6, r7, -, r8⟩ := hr
  have hvf := hv
  obtain ⟨k', l', r', A1, n1, c1, A2, n2, c2, A3, n3, c3, A4, n4, c4, rfl⟩ := hvf.form
  unfold GV at hv
  obtain ⟨u, e1, e2, A, c, he, -, hfl, hen, hens, hk⟩ := hv
  simp only [Value.agg.injEq, Array.mk.injEq, List.cons.injEq, Value.int.injEq, Value.slice.injEq, true_and, and_true] at he
  obtain ⟨rfl, rfl, rfl, he1, he2, he3, rfl, rfl, rfl⟩ := he
  have q1 : n1 = fl.length := by obtain ⟨_, _, h, _⟩ := hfl; rw [← he1] at h; cases h; rfl
  have q2 : n2 = en.length := by obtain ⟨_, _, h, _⟩ := SlE.form hen; rw [← he2] at h; cases h; rfl
  have q3 : n3 = ens.length := by obtain ⟨_, _, h, _⟩ := SlE.form hens; rw [← he3] at h; cases h; rfl
  subst q1 q2 q3 he1 he2 he3
  clear hfl hvf
  obtain ⟨W, hW⟩ : ∃ W, W = w.alloc (Obj.cells #[.int .i64 7, .int .i64 l', .int .i64 r', .slice A1 fl.length c1, .slice A2 en.length c2, .slice A3 ens.length c3, .slice A4 kids.length c4] 28) := ⟨_, rfl⟩
  have HGW : Hid (Grow w W) := by rw [hW]; exact (Grow.refl w).alloc _
  have d0 : W.cell? ⟨w.heap.size, 0, none⟩ = some (.int .i64 7) := by rw [hW]; go_simp
  have d1 : W.cell? ⟨w.heap.size, 1, none⟩ = some (.int .i64 l') := by rw [hW]; go_simp
  have d3 : W.cell? ⟨w.heap.size, 3, none⟩ = some (.slice A1 fl.length c1) := by rw [hW]; go_simp
  have d4 : W.cell? ⟨w.heap.size, 4, none⟩ = some (.slice A2 en.length c2) := by rw [hW]; go_simp
  have d5 : W.cell? ⟨w.heap.size, 5, none⟩ = some (.slice A3 ens.length c3) := by rw [hW]; go_simp
  have d6 : W.cell? ⟨w.heap.size, 6, none⟩ = some (.slice A4 kids.length c4) := by rw [hW]; go_simp
  have HWE := Lib.hid hW; clear hW
  have HK := Lib.hid hk; have IH := Lib.hid ih; have R8 := Lib.hid r8
  clear hk ih r8 hen hens r5 r6 r7
  cases hl0 : (l' != 0)
  case false =>
    obtain rfl : l' = 0 := by simpa using hl0
    clear hl0
    go_enter Try.func62, Try.ntmps62
    go_wp2_with (go_at_call 22; refine (stride_calls _ _).mono ?_; rintro e w1 ⟨rfl, rfl⟩)
    rw [← HWE.out]
    clear HWE
    have D0 := Lib.hid d0; have D1 := Lib.hid d1; have D3 := Lib.hid d3; have D4 := Lib.hid d4; have D5 := Lib.hid d5
    clear d0 d1 d3 d4 d5 d6
    go_loopw [22] (fun i wr => ∃ (j : Nat), j ≤ kids.length ∧ i = .int .i64 j ∧ Grow W wr ∧ KidsOk 0 kids j) (fun i _ => kids.length - (intOf i).toNat)
    case atStart => exact ⟨0, Nat.zero_le _, rfl, Grow.refl _, fun j g hj => by omega⟩
    case round =>
      obtain ⟨q, hq, rfl, hg, hall⟩ := hrel
      have HG := Lib.hid hg; have HALL := Lib.hid hall
      clear hall
      by_cases hlt2 : q < kids.length
      case neg =>
        have hqe : q = kids.length := by omega
        have HQ := Lib.hid hqe
        have d1 := up_cell D1.out hg; have d3 := up_cell D3.out hg; have d4 := up_cell D4.out hg; have d5 := up_cell D5.out hg
        clear hqe hg
        go_wp2
        all_goals
          go_ret
          refine ⟨_, rfl, HGW.out.trans HG.out, fun hh => ?_⟩
          first
            | (exfalso; simp at hh; done)
            | (have hsum : fl.length = 0 ∧ en.length = 0 ∧ ens.length = 0 ∧ 0 ≤ 0 := by first | (simp at hh; omega) | (simp at *; omega)
               obtain ⟨z1, z2, z3, z4⟩ := hsum
               obtain rfl : fl = [] := List.eq_nil_of_length_eq_zero z1
               obtain rfl : en = [] := List.eq_nil_of_length_eq_zero z2
               obtain rfl : ens = [] := List.eq_nil_of_length_eq_zero z3
               have hall := HALL.out
               rw [HQ.out] at hall
               exact .coll (by omega) (fun g hg => by
                 obtain ⟨i, hi⟩ := List.mem_iff_getElem?.1 hg
                 exact (hall i g (List.getElem?_eq_some_iff.1 hi).1 hi).1) (fun g hg => by
                 obtain ⟨i, hi⟩ := List.mem_iff_getElem?.1 hg
                 exact (hall i g (List.getElem?_eq_some_iff.1 hi).1 hi).2))
      case pos =>
        obtain ⟨kid, hkid⟩ : ∃ p, kids[q]? = some p := ⟨kids[q], by simp [hlt2]⟩
        obtain ⟨b, o, rfl, hgk⟩ := gk_some HK.out hlt2
        have gw := HGW.out.trans hg
        obtain ⟨k', l'', r', A1', n1', c1', A2', n2', c2', A3', n3', c3', A4', n4', c4', h7, hv⟩ := kid_at hgk hkid
        obtain ⟨k0, k1, k2, k3, k4, k5, k6⟩ := Seven.up _ _ h7 gw
        have HKID := Lib.hid (fun w' (hw : Grow wr w') => IH.out kid (List.mem_of_getElem? hkid) _ w' (R8.out kid (List.mem_of_getElem? hkid)) (GV.up _ _ _ _ hv (gw.trans hw)))
        have HLAY := Lib.hid (fun w' (hw : Grow wr w') => layoutOf_calls kid _ w' (R8.out kid (List.mem_of_getElem? hkid)) (GV.up _ _ _ _ hv (gw.trans hw)))
        have d1 := up_cell D1.out hg
        have lW : w.heap.size < wr.heap.size := cell_ltH d1
        have HQ := Lib.hid hkid
        clear hv hgk hkid gw hg h7
        have hq1 : IntKind.i64.wrap ((q : Int) + 1) = (q : Int) + 1 := IntWalk.i64_in _ (by omega)
        go_wp2
        refine wp_region_grow (fun i => if i = 1 then some (fun _ _ V _ => GoodR kid V) else if i = 9 then some (fun _ _ V _ => V = .int .i64 (layO kid)) else none) (by kernel_rfl) (by kernel_rfl) ?_ ?_
        · intro i Φ h lo hi v
          (repeat' split at h) <;> cases h
          · exact fun _ _ h _ => h
          · exact fun _ _ h _ => h
        repeat (first
          | (refine wpGrow_skip (by rfl) ?_; simp only [Act.put, List.setIfInBounds_toArray, List.set_cons_zero, List.set_cons_succ, Nat.reduceAdd])
          | (refine wpGrow_det' (by rfl) (by rfl) ?_; apply Exists.intro; refine ⟨fun w' hc hh => ?_, ?_⟩; (have hcell := grow_cell hc; clear hc hh; go_simp; rfl); simp only [Act.put, List.setIfInBounds_toArray, List.set_cons_zero, List.set_cons_succ, Nat.reduceAdd]))
        refine wpGrow_eff' (by rfl) (by rfl) (fun w' hc hh => ?_) (fun v lo hi w' hap hc hh hv => ?_)
        · have HX := Lib.hid hc
          clear hc hh
          go_simp
          go_at_call 62
          refine (HKID.out _ (((Grow.refl _).alloc _).trans HX.out)).mono ?_
          rintro e w5 ⟨r, rfl, hg5, hr5⟩
          exact EffPost.mk hg5 ⟨r, rfl, hr5⟩
        obtain ⟨r, rfl, hr5⟩ := hv
        have HR5 := Lib.hid hr5; clear hr5
        clear hc hh hap w'
        cases r with
        | false =>
          simp only [Act.put, List.setIfInBounds_toArray, List.set_cons_zero, List.set_cons_succ, Nat.reduceAdd]
          repeat (first
            | (refine wpGrow_skip (by rfl) ?_; simp only [Act.put, List.setIfInBounds_toArray, List.set_cons_zero, List.set_cons_succ, Nat.reduceAdd])
            | (refine wpGrow_det' (by rfl) (by rfl) ?_; apply Exists.intro; refine ⟨fun w' hc hh => ?_, ?_⟩; (have hcell := grow_cell hc; clear hc hh; go_simp; rfl); simp only [Act.put, List.setIfInBounds_toArray, List.set_cons_zero, List.set_cons_succ, Nat.reduceAdd]))
          refine wpGrow_nil ?_
          intro w1 hg hh
          have HG1 := Lib.hid (HG.out.trans (((Grow.refl _).alloc _).trans hg))
          clear hg hh
          go_wp2
          go_ret
          exact GoodQ.no (HGW.out.trans HG1.out)
        | true =>
          simp only [Act.put, List.setIfInBounds_toArray, List.set_cons_zero, List.set_cons_succ, Nat.reduceAdd]
          repeat (first
            | (refine wpGrow_skip (by rfl) ?_; simp only [Act.put, List.setIfInBounds_toArray, List.set_cons_zero, List.set_cons_succ, Nat.reduceAdd])
            | (refine wpGrow_det' (by rfl) (by rfl) ?_; apply Exists.intro; refine ⟨fun w' hc hh => ?_, ?_⟩; (have hcell := grow_cell hc; clear hc hh; go_simp; rfl); simp only [Act.put, List.setIfInBounds_toArray, List.set_cons_zero, List.set_cons_succ, Nat.reduceAdd]))
          refine wpGrow_nil ?_
          intro w1 hg hh
          have HG1 := Lib.hid (HG.out.trans (((Grow.refl _).alloc _).trans hg))
          clear hg hh
          go_wp2
          go_roundw
          case rel => exact ⟨q + 1, by omega, by go_num, HG1.out, HALL.out.snoc HQ.out (HR5.out rfl) (fun h => absurd rfl h)⟩
          case measure => simp [intOf]; omega
  case true =>
    have HL0 := Lib.hid hl0
    go_enter Try.func62, Try.ntmps62
    go_wp2_with (go_at_call 22; refine (stride_calls _ _).mono ?_; rintro e w1 ⟨rfl, rfl⟩)
    rw [← HWE.out]
    clear HWE
    have D0 := Lib.hid d0; have D1 := Lib.hid d1; have D3 := Lib.hid d3; have D4 := Lib.hid d4; have D5 := Lib.hid d5
    clear d0 d1 d3 d4 d5 d6
    go_loopw [22] (fun i wr => ∃ (j : Nat), j ≤ kids.length ∧ i = .int .i64 j ∧ Grow W wr ∧ KidsOk l' kids j) (fun i _ => kids.length - (intOf i).toNat)
    case atStart => exact ⟨0, Nat.zero_le _, rfl, Grow.refl _, fun j g hj => by omega⟩
    case round =>
      obtain ⟨q, hq, rfl, hg, hall⟩ := hrel
      have HG := Lib.hid hg; have HALL := Lib.hid hall
      clear hall
      by_cases hlt2 : q < kids.length
      case neg =>
        have hqe : q = kids.length := by omega
        have HQ := Lib.hid hqe
        have d1 := up_cell D1.out hg; have d3 := up_cell D3.out hg; have d4 := up_cell D4.out hg; have d5 := up_cell D5.out hg
        clear hqe hg
        go_wp2
        all_goals
          go_ret
          refine ⟨_, rfl, HGW.out.trans HG.out, fun hh => ?_⟩
          first
            | (exfalso; simp at hh; done)
            | (have hsum : fl.length = 0 ∧ en.length = 0 ∧ ens.length = 0 ∧ 0 ≤ l' := by first | (simp at hh; omega) | (simp at *; omega)
               obtain ⟨z1, z2, z3, z4⟩ := hsum
               obtain rfl : fl = [] := List.eq_nil_of_length_eq_zero z1
               obtain rfl : en = [] := List.eq_nil_of_length_eq_zero z2
               obtain rfl : ens = [] := List.eq_nil_of_length_eq_zero z3
               have hall := HALL.out
               rw [HQ.out] at hall
               exact .coll (by omega) (fun g hg => by
                 obtain ⟨i, hi⟩ := List.mem_iff_getElem?.1 hg
                 exact (hall i g (List.getElem?_eq_some_iff.1 hi).1 hi).1) (fun g hg => by
                 obtain ⟨i, hi⟩ := List.mem_iff_getElem?.1 hg
                 exact (hall i g (List.getElem?_eq_some_iff.1 hi).1 hi).2))
      case pos =>
        obtain ⟨kid, hkid⟩ : ∃ p, kids[q]? = some p := ⟨kids[q], by simp [hlt2]⟩
        obtain ⟨b, o, rfl, hgk⟩ := gk_some HK.out hlt2
        have gw := HGW.out.trans hg
        obtain ⟨k', l'', r', A1', n1', c1', A2', n2', c2', A3', n3', c3', A4', n4', c4', h7, hv⟩ := kid_at hgk hkid
        obtain ⟨k0, k1, k2, k3, k4, k5, k6⟩ := Seven.up _ _ h7 gw
        have HKID := Lib.hid (fun w' (hw : Grow wr w') => IH.out kid (List.mem_of_getElem? hkid) _ w' (R8.out kid (List.mem_of_getElem? hkid)) (GV.up _ _ _ _ hv (gw.trans hw)))
        have HLAY := Lib.hid (fun w' (hw : Grow wr w') => layoutOf_calls kid _ w' (R8.out kid (List.mem_of_getElem? hkid)) (GV.up _ _ _ _ hv (gw.trans hw)))
        have d1 := up_cell D1.out hg
        have lW : w.heap.size < wr.heap.size := cell_ltH d1
        have HQ := Lib.hid hkid
        clear hv hgk hkid gw hg h7
        have hq1 : IntKind.i64.wrap ((q : Int) + 1) = (q : Int) + 1 := IntWalk.i64_in _ (by omega)
        go_wp2
        refine wp_region_grow (fun i => if i = 1 then some (fun _ _ V _ => GoodR kid V) else if i = 9 then some (fun _ _ V _ => V = .int .i64 (layO kid)) else none) (by kernel_rfl) (by kernel_rfl) ?_ ?_
        · intro i Φ h lo hi v
          (repeat' split at h) <;> cases h
          · exact fun _ _ h _ => h
          · exact fun _ _ h _ => h
        repeat (first
          | (refine wpGrow_skip (by rfl) ?_; simp only [Act.put, List.setIfInBounds_toArray, List.set_cons_zero, List.set_cons_succ, Nat.reduceAdd])
          | (refine wpGrow_det' (by rfl) (by rfl) ?_; apply Exists.intro; refine ⟨fun w' hc hh => ?_, ?_⟩; (have hcell := grow_cell hc; clear hc hh; go_simp; rfl); simp only [Act.put, List.setIfInBounds_toArray, List.set_cons_zero, List.set_cons_succ, Nat.reduceAdd]))
        refine wpGrow_eff' (by rfl) (by rfl) (fun w' hc hh => ?_) (fun v lo hi w' hap hc hh hv => ?_)
        · have HX := Lib.hid hc
          clear hc hh
          go_simp
          go_at_call 62
          refine (HKID.out _ (((Grow.refl _).alloc _).trans HX.out)).mono ?_
          rintro e w5 ⟨r, rfl, hg5, hr5⟩
          exact EffPost.mk hg5 ⟨r, rfl, hr5⟩
        obtain ⟨r, rfl, hr5⟩ := hv
        have HR5 := Lib.hid hr5; clear hr5
        clear hc hh hap w'
        cases r with
        | false =>
          simp only [Act.put, List.setIfInBounds_toArray, List.set_cons_zero, List.set_cons_succ, Nat.reduceAdd]
          repeat (first
            | (refine wpGrow_skip (by rfl) ?_; simp only [Act.put, List.setIfInBounds_toArray, List.set_cons_zero, List.set_cons_succ, Nat.reduceAdd])
            | (refine wpGrow_det' (by rfl) (by rfl) ?_; apply Exists.intro; refine ⟨fun w' hc hh => ?_, ?_⟩; (have hcell := grow_cell hc; clear hc hh; go_simp; rfl); simp only [Act.put, List.setIfInBounds_toArray, List.set_cons_zero, List.set_cons_succ, Nat.reduceAdd]))
          refine wpGrow_nil ?_
          intro w1 hg hh
          have HG1 := Lib.hid (HG.out.trans (((Grow.refl _).alloc _).trans hg))
          clear hg hh
          go_wp2
          go_ret
          exact GoodQ.no (HGW.out.trans HG1.out)
        | true =>
          simp only [Act.put, List.setIfInBounds_toArray, List.set_cons_zero, List.set_cons_succ, Nat.reduceAdd]
          repeat (first
            | (refine wpGrow_skip (by rfl) ?_; simp only [Act.put, List.setIfInBounds_toArray, List.set_cons_zero, List.set_cons_succ, Nat.reduceAdd])
            | (refine wpGrow_det' (by rfl) (by rfl) ?_; apply Exists.intro; refine ⟨fun w' hc hh => ?_, ?_⟩; (have hcell := grow_cell hc; clear hc hh; go_simp; rfl); simp only [Act.put, List.setIfInBounds_toArray, List.set_cons_zero, List.set_cons_succ, Nat.reduceAdd]))
          refine wpGrow_eff' (by rfl) (by rfl) (fun w' hc hh => ?_) (fun v lo hi w' hap hc hh hv => ?_)
          · have HX := Lib.hid hc
            clear hc hh
            go_simp
            go_at_call 83
            refine (HLAY.out _ (((Grow.refl _).alloc _).trans HX.out)).mono ?_
            rintro e w5 ⟨rfl, hg5⟩
            exact EffPost.mk hg5 rfl
          subst hv
          clear hc hh hap w'
          simp only [Act.put, List.setIfInBounds_toArray, List.set_cons_zero, List.set_cons_succ, Nat.reduceAdd]
          repeat (first
            | (refine wpGrow_skip (by rfl) ?_; simp only [Act.put, List.setIfInBounds_toArray, List.set_cons_zero, List.set_cons_succ, Nat.reduceAdd])
            | (refine wpGrow_det' (by rfl) (by rfl) ?_; apply Exists.intro; refine ⟨fun w' hc hh => ?_, ?_⟩; (have hcell := grow_cell hc; clear hc hh; go_simp; rfl); simp only [Act.put, List.setIfInBounds_toArray, List.set_cons_zero, List.set_cons_succ, Nat.reduceAdd]))
          refine wpGrow_nil ?_
          intro w1 hg hh
          have HG1 := Lib.hid (HG.out.trans (((Grow.refl _).alloc _).trans hg))
          clear hg hh
          go_wp2
          · go_ret
            exact GoodQ.no (HGW.out.trans HG1.out)
          · go_roundw
            case rel => exact ⟨q + 1, by omega, by go_num, HG1.out, HALL.out.snoc HQ.out (HR5.out rfl) (fun _ => by first | assumption | (simp_all; done))⟩
            case measure => simp [intOf]; omega
end Go.Proofs.Ytegknlnkkoeahaa
