import Derived.Test.YtcpdhkbmfgphpaaKdD
import Derived.Test.YtcpdhkbmfgphpaaHeadH
namespace Go.Proofs.Ytcpdhkbmfgphpaa
open Go.ChangeShapes Go.WideShapes Go.ChangeAt Go.RowKit Go.GrowR
set_option linter.unusedVariables false
set_option linter.unusedSimpArgs false

attribute [local go_sem ↓] Go.wp_at_zero Go.wp_at_succ
theorem map_snoc {α β : Type} (f : α → β) (l : List α) (x : α) : (l ++ [x]).map f = l.map f ++ [f x] := by simp
set_option maxRecDepth 100000 in
set_option maxHeartbeats 8000000 in
theorem from_main (w0 : World) (b n : Nat) (sc : Value) (L R : Nat → Int) (hn : n ≤ 4294967296)
    (hsd : ∀ (i : Nat) (w : World), i < n → Grow w0 w → Calls Try.prog 49 #[.int .i64 i, sc] w fun e w' => e = .returned (.tuple #[.int .i64 (L i), .int .i64 (R i)]) ∧ ∃ m, w' = w.drewN m)
    (j : Nat) (a d : Int) (s s1 s2 s4 : Kt.St) (w : World) (ha : a < (j : Int)) (hj : j < n) (hd : 0 ≤ d) (hdk : d ≤ 1099511627776) (hok : s.ok = true) (hsj : s.seen j = false) (hol : s2.ord.length ≤ 4294967296) (hdl : s2.dep.length ≤ 4294967296)
    (hs1 : s1 = { s with seen := fun x => if x = j then true else s.seen x })
    (ih1 : ∀ w', WS w0 b n (.func (.func 49) #[] #[sc]) s1 w' → Calls Try.prog 58 #[.int .i64 (L j), .int .i64 (j : Nat), .int .i64 (d + 1), .pointer (some ⟨b + 4, 0, none⟩), .pointer (some ⟨b, 0, none⟩), .pointer (some ⟨b + 6, 0, none⟩), .pointer (some ⟨b + 1, 0, none⟩), .pointer (some ⟨b + 7, 0, none⟩), .pointer (some ⟨b + 2, 0, none⟩), .pointer (some ⟨b + 3, 0, none⟩)] w' (WQ w0 b n (.func (.func 49) #[] #[sc]) s2))
    (ih2 : ∀ w', WS w0 b n (.func (.func 49) #[] #[sc]) { s2 with ord := s2.ord ++ [j], dep := s2.dep ++ [d] } w' → Calls Try.prog 58 #[.int .i64 (R j), .int .i64 (j : Nat), .int .i64 (d + 1), .pointer (some ⟨b + 4, 0, none⟩), .pointer (some ⟨b, 0, none⟩), .pointer (some ⟨b + 6, 0, none⟩), .pointer (some ⟨b + 1, 0, none⟩), .pointer (some ⟨b + 7, 0, none⟩), .pointer (some ⟨b + 2, 0, none⟩), .pointer (some ⟨b + 3, 0, none⟩)] w' (WQ w0 b n (.func (.func 49) #[] #[sc]) s4))
    (hws : WS w0 b n (.func (.func 49) #[] #[sc]) s w) :
    Calls Try.prog 58 #[.int .i64 (j : Nat), .int .i64 a, .int .i64 d, .pointer (some ⟨b + 4, 0, none⟩), .pointer (some ⟨b, 0, none⟩), .pointer (some ⟨b + 6, 0, none⟩), .pointer (some ⟨b + 1, 0, none⟩), .pointer (some ⟨b + 7, 0, none⟩), .pointer (some ⟨b + 2, 0, none⟩), .pointer (some ⟨b + 3, 0, none⟩)] w (WQ w0 b n (.func (.func 49) #[] #[sc]) s4) := by
  have HWS := Lib.hid hws
  obtain ⟨hg, hlb, c0, c1, ⟨V1, V2, c2, c3, hrows⟩, c4, cb, c6, c7, hfz⟩ := hws
  have f5 := hfz (b + 5) j (by omega) (by omega)
  have cj := cb j hj
  rw [hsj] at cj
  rw [hok] at c4
  have HSD := Lib.hid hsd; have IH1 := Lib.hid ih1; have IH2 := Lib.hid ih2
  have HS1 := Lib.hid hs1
  have h3 : ((j : Int) == -1) = false := by simp
  have h4 : ¬ (j : Int) ≤ a := by omega
  have h5 : ¬ (n : Int) ≤ (j : Int) := by omega
  have h7 : (j : Int) < (n : Int) := by omega
  have h8 : (0 : Int) ≤ (j : Int) := by omega
  have HM := Lib.hid (HWS.out.mark hj)
  clear hg hrows cb hfz hsd ih1 ih2 hs1 hok hsj c2 c3
  go_enter Try.func58, Try.ntmps58
  go_wp2_with (go_at_call 49; refine (HSD.out j _ hj HM.out.g).mono ?_; rintro e w2 ⟨rfl, m, rfl⟩)
  have HM2 : Hid (WS w0 b n (.func (.func 49) #[] #[sc]) s1 ((w.setCell ⟨b + 5, j, none⟩ (.bool true)).drewN m)) := by rw [HS1.out]; exact HM.out.drewN m
  refine (IH1.out _ HM2.out).mono ?_
  rintro e w3 ⟨rfl, hw3⟩
  have HW3 := Lib.hid hw3
  clear HM HM2 c0 c1 c4 c6 c7 cj f5 HWS HS1
  obtain ⟨-, -, -, -, ⟨V1, V2, c2, c3, hrows⟩, -, -, -, c7, hfz⟩ := hw3
  have g2 := hfz (b + 2) 0 (by omega) (by omega)
  have g3 := hfz (b + 3) 0 (by omega) (by omega)
  clear hfz
  obtain ⟨i0, hi, hz0, hz1, hz2⟩ := info_parts infoI
  have hl3 := HW3.out.lt
  have HA0 : AppS (b + 8) w3 V1 (s2.ord.map natv) V2 (s2.dep.map intv) [] w3 := ⟨Below.refl _ _, hrows, (fun h v hv => by cases hv), hl3⟩
  clear hrows
  go_wp2_with fail
  refine wp_region_G (fun w' => w'.cell? ⟨b + 2, 0, none⟩ = some V1 ∧ w'.cell? ⟨b + 3, 0, none⟩ = some V2) 8 (by kernel_rfl) ?_
  have HS0 := HA0.drew
  refine wpAnyG_take (i := 0) (v := ?_) rfl (by kernel_rfl) (fun _ _ _ h => h) (by rfl) (fun ws hS => ?_) (⟨c2, c3⟩) ?_
  rotate_left
  · (obtain ⟨s2', s3'⟩ := hS; (go_simp <;> rfl))
  simp only [Act.put, List.setIfInBounds_toArray, List.set_cons_zero, List.set_cons_succ, Nat.reduceAdd]
  refine wpAnyG_take (i := 1) (v := ?_) rfl (by kernel_rfl) (fun _ _ _ h => h) (by rfl) (fun ws hS => ?_) (⟨c2, c3⟩) ?_
  rotate_left
  · (obtain ⟨s2', s3'⟩ := hS; (go_simp <;> rfl))
  simp only [Act.put, List.setIfInBounds_toArray, List.set_cons_zero, List.set_cons_succ, Nat.reduceAdd]
  refine wpAnyG_take (i := 4) (v := ?_) rfl (by kernel_rfl) (fun _ _ _ h => h) (by rfl) (fun ws hS => ?_) (⟨c2, c3⟩) ?_
  rotate_left
  · (obtain ⟨s2', s3'⟩ := hS; (go_simp <;> rfl))
  simp only [Act.put, List.setIfInBounds_toArray, List.set_cons_zero, List.set_cons_succ, Nat.reduceAdd]
  refine wpAnyG_take (i := 5) (v := ?_) rfl (by kernel_rfl) (fun _ _ _ h => h) (by rfl) (fun ws hS => ?_) (⟨c2, c3⟩) ?_
  rotate_left
  · (obtain ⟨s2', s3'⟩ := hS; (go_simp <;> rfl))
  simp only [Act.put, List.setIfInBounds_toArray, List.set_cons_zero, List.set_cons_succ, Nat.reduceAdd]
  refine wpAnyG_ready (rs := [2, 6]) (by kernel_rfl) (by rfl) ?_
  refine AllReadyG.cons rfl (fun K hK => ?_) ?_
  · go_simp
    have HS1 := HS0.alloc (x := intv (j : Nat)) (t := 3)
    refine hK.out _ _ (fun _ => ⟨(HS1.be.cell (p := ⟨b + 2, 0, none⟩) (by simp)).trans c2, (HS1.be.cell (p := ⟨b + 3, 0, none⟩) (by simp)).trans c3⟩) ?_
    clear hK K
    try simp only [Act.put, List.setIfInBounds_toArray, List.set_cons_zero, List.set_cons_succ, Nat.reduceAdd]
    refine wpAnyG_ready (rs := [3, 6]) (by kernel_rfl) (by rfl) ?_
    refine AllReadyG.cons rfl (fun K hK => ?_) ?_
    · refine step_app1 (b + 8) _ (by rfl) _ _ _ (by rfl) undI hi hz0 hz1 hz2 (by rfl) (by rfl) HS1 (u := (j : Nat)) (by simp [World.alloc, go_sem]) (by simpa using hol) (fun vA wA HS2 => ?_)
      obtain ⟨aA, nA, cA, rfl⟩ := HS2.r.a.isSl
      refine hK.out _ _ (fun _ => ⟨(HS2.be.cell (p := ⟨b + 2, 0, none⟩) (by simp)).trans c2, (HS2.be.cell (p := ⟨b + 3, 0, none⟩) (by simp)).trans c3⟩) ?_
      clear hK K
      try simp only [Act.put, List.setIfInBounds_toArray, List.set_cons_zero, List.set_cons_succ, Nat.reduceAdd]
      refine wpAnyG_ready (rs := [6]) (by kernel_rfl) (by rfl) ?_
      refine AllReadyG.cons rfl (fun K hK => ?_) ?_
      · go_simp
        have HS3 := HS2.alloc (x := intv d) (t := 3)
        refine hK.out _ _ (fun _ => ⟨(HS3.be.cell (p := ⟨b + 2, 0, none⟩) (by simp)).trans c2, (HS3.be.cell (p := ⟨b + 3, 0, none⟩) (by simp)).trans c3⟩) ?_
        clear hK K
        try simp only [Act.put, List.setIfInBounds_toArray, List.set_cons_zero, List.set_cons_succ, Nat.reduceAdd]
        refine wpAnyG_ready (rs := [7]) (by kernel_rfl) (by rfl) ?_
        refine AllReadyG.cons rfl (fun K hK => ?_) ?_
        · refine step_app2 (b + 8) _ (by rfl) _ _ _ (by rfl) undI hi hz0 hz1 hz2 (by rfl) (by rfl) HS3 (u := d) (by simp [World.alloc, go_sem]) (by simpa using hdl) (fun vB wB HS4 => ?_)
          obtain ⟨aB, nB, cB, rfl⟩ := HS4.r.b.isSl
          refine hK.out _ _ (fun _ => ⟨(HS4.be.cell (p := ⟨b + 2, 0, none⟩) (by simp)).trans c2, (HS4.be.cell (p := ⟨b + 3, 0, none⟩) (by simp)).trans c3⟩) ?_
          clear hK K
          try simp only [Act.put, List.setIfInBounds_toArray, List.set_cons_zero, List.set_cons_succ, Nat.reduceAdd]
          have k2 := (HS4.be.cell (p := ⟨b + 2, 0, none⟩) (by simp)).trans c2
          have k3 := (HS4.be.cell (p := ⟨b + 3, 0, none⟩) (by simp)).trans c3
          have q2 := (HS4.be.frozen (p := ⟨b + 2, 0, none⟩) (by simp)).trans g2
          have q3 := (HS4.be.frozen (p := ⟨b + 3, 0, none⟩) (by simp)).trans g3
          refine wpAnyG_ready (rs := [8]) (by kernel_rfl) (by rfl) ?_
          refine AllReadyG.cons rfl (fun K hK => ?_) ?_
          · go_simp
            refine hK.out _ _ (fun h => absurd h (by decide)) ?_
            clear hK K
            try simp only [Act.put, List.setIfInBounds_toArray, List.set_cons_zero, List.set_cons_succ, Nat.reduceAdd]
            refine wpAnyG_ready (rs := [9]) (by kernel_rfl) (by rfl) ?_
            refine AllReadyG.cons rfl (fun K hK => ?_) ?_
            · go_simp
              refine hK.out _ _ (fun h => absurd h (by decide)) ?_
              clear hK K
              try simp only [Act.put, List.setIfInBounds_toArray, List.set_cons_zero, List.set_cons_succ, Nat.reduceAdd]
              refine wpAnyG_done (by kernel_rfl) ?_ _
              have HF0 := HW3.out.app (Below.refl _ _) (xs := s2.ord ++ [j]) (ys := s2.dep ++ [d]) (by rw [map_snoc, map_snoc]; exact HS4)
              have HF := Lib.hid HF0
              have d7 := HF0.cf
              clear HF0 HS0 HS1 HS2 HS3 HS4 k2 k3 q2 q3 c2 c3 c7 g2 g3
              go_wp2_with fail
              refine (IH2.out _ HF.out).mono ?_
              rintro e w9 ⟨rfl, hw9⟩
              have HW9 := Lib.hid hw9
              clear hw9
              go_wp2
              exact bodyPost_end (results_none rfl _ _ _) rfl ⟨rfl, HW9.out⟩
            exact AllReadyG.nil
          exact AllReadyG.nil
        exact AllReadyG.nil
      exact AllReadyG.nil
    refine AllReadyG.cons rfl (fun K hK => ?_) ?_
    · go_simp
      have HS2 := HS1.alloc (x := intv d) (t := 3)
      refine hK.out _ _ (fun _ => ⟨(HS2.be.cell (p := ⟨b + 2, 0, none⟩) (by simp)).trans c2, (HS2.be.cell (p := ⟨b + 3, 0, none⟩) (by simp)).trans c3⟩) ?_
      clear hK K
      try simp only [Act.put, List.setIfInBounds_toArray, List.set_cons_zero, List.set_cons_succ, Nat.reduceAdd]
      refine wpAnyG_ready (rs := [3]) (by kernel_rfl) (by rfl) ?_
      refine AllReadyG.cons rfl (fun K hK => ?_) ?_
      · refine step_app1 (b + 8) _ (by rfl) _ _ _ (by rfl) undI hi hz0 hz1 hz2 (by rfl) (by rfl) HS2 (u := (j : Nat)) (by simp [World.alloc, go_sem]) (by simpa using hol) (fun vA wA HS3 => ?_)
        obtain ⟨aA, nA, cA, rfl⟩ := HS3.r.a.isSl
        refine hK.out _ _ (fun _ => ⟨(HS3.be.cell (p := ⟨b + 2, 0, none⟩) (by simp)).trans c2, (HS3.be.cell (p := ⟨b + 3, 0, none⟩) (by simp)).trans c3⟩) ?_
        clear hK K
        try simp only [Act.put, List.setIfInBounds_toArray, List.set_cons_zero, List.set_cons_succ, Nat.reduceAdd]
        refine wpAnyG_ready (rs := [7]) (by kernel_rfl) (by rfl) ?_
        refine AllReadyG.cons rfl (fun K hK => ?_) ?_
        · refine step_app2 (b + 8) _ (by rfl) _ _ _ (by rfl) undI hi hz0 hz1 hz2 (by rfl) (by rfl) HS3 (u := d) (by simp [World.alloc, go_sem]) (by simpa using hdl) (fun vB wB HS4 => ?_)
          obtain ⟨aB, nB, cB, rfl⟩ := HS4.r.b.isSl
          refine hK.out _ _ (fun _ => ⟨(HS4.be.cell (p := ⟨b + 2, 0, none⟩) (by simp)).trans c2, (HS4.be.cell (p := ⟨b + 3, 0, none⟩) (by simp)).trans c3⟩) ?_
          clear hK K
          try simp only [Act.put, List.setIfInBounds_toArray, List.set_cons_zero, List.set_cons_succ, Nat.reduceAdd]
          have k2 := (HS4.be.cell (p := ⟨b + 2, 0, none⟩) (by simp)).trans c2
          have k3 := (HS4.be.cell (p := ⟨b + 3, 0, none⟩) (by simp)).trans c3
          have q2 := (HS4.be.frozen (p := ⟨b + 2, 0, none⟩) (by simp)).trans g2
          have q3 := (HS4.be.frozen (p := ⟨b + 3, 0, none⟩) (by simp)).trans g3
          refine wpAnyG_ready (rs := [8]) (by kernel_rfl) (by rfl) ?_
          refine AllReadyG.cons rfl (fun K hK => ?_) ?_
          · go_simp
            refine hK.out _ _ (fun h => absurd h (by decide)) ?_
            clear hK K
            try simp only [Act.put, List.setIfInBounds_toArray, List.set_cons_zero, List.set_cons_succ, Nat.reduceAdd]
            refine wpAnyG_ready (rs := [9]) (by kernel_rfl) (by rfl) ?_
            refine AllReadyG.cons rfl (fun K hK => ?_) ?_
            · go_simp
              refine hK.out _ _ (fun h => absurd h (by decide)) ?_
              clear hK K
              try simp only [Act.put, List.setIfInBounds_toArray, List.set_cons_zero, List.set_cons_succ, Nat.reduceAdd]
              refine wpAnyG_done (by kernel_rfl) ?_ _
              have HF0 := HW3.out.app (Below.refl _ _) (xs := s2.ord ++ [j]) (ys := s2.dep ++ [d]) (by rw [map_snoc, map_snoc]; exact HS4)
              have HF := Lib.hid HF0
              have d7 := HF0.cf
              clear HF0 HS0 HS1 HS2 HS3 HS4 k2 k3 q2 q3 c2 c3 c7 g2 g3
              go_wp2_with fail
              refine (IH2.out _ HF.out).mono ?_
              rintro e w9 ⟨rfl, hw9⟩
              have HW9 := Lib.hid hw9
              clear hw9
              go_wp2
              exact bodyPost_end (results_none rfl _ _ _) rfl ⟨rfl, HW9.out⟩
            exact AllReadyG.nil
          exact AllReadyG.nil
        exact AllReadyG.nil
      exact AllReadyG.nil
    exact AllReadyG.nil
  refine AllReadyG.cons rfl (fun K hK => ?_) ?_
  · go_simp
    have HS1 := HS0.alloc (x := intv d) (t := 3)
    refine hK.out _ _ (fun _ => ⟨(HS1.be.cell (p := ⟨b + 2, 0, none⟩) (by simp)).trans c2, (HS1.be.cell (p := ⟨b + 3, 0, none⟩) (by simp)).trans c3⟩) ?_
    clear hK K
    try simp only [Act.put, List.setIfInBounds_toArray, List.set_cons_zero, List.set_cons_succ, Nat.reduceAdd]
    refine wpAnyG_ready (rs := [2]) (by kernel_rfl) (by rfl) ?_
    refine AllReadyG.cons rfl (fun K hK => ?_) ?_
    · go_simp
      have HS2 := HS1.alloc (x := intv (j : Nat)) (t := 3)
      refine hK.out _ _ (fun _ => ⟨(HS2.be.cell (p := ⟨b + 2, 0, none⟩) (by simp)).trans c2, (HS2.be.cell (p := ⟨b + 3, 0, none⟩) (by simp)).trans c3⟩) ?_
      clear hK K
      try simp only [Act.put, List.setIfInBounds_toArray, List.set_cons_zero, List.set_cons_succ, Nat.reduceAdd]
      refine wpAnyG_ready (rs := [3]) (by kernel_rfl) (by rfl) ?_
      refine AllReadyG.cons rfl (fun K hK => ?_) ?_
      · refine step_app1 (b + 8) _ (by rfl) _ _ _ (by rfl) undI hi hz0 hz1 hz2 (by rfl) (by rfl) HS2 (u := (j : Nat)) (by simp [World.alloc, go_sem]) (by simpa using hol) (fun vA wA HS3 => ?_)
        obtain ⟨aA, nA, cA, rfl⟩ := HS3.r.a.isSl
        refine hK.out _ _ (fun _ => ⟨(HS3.be.cell (p := ⟨b + 2, 0, none⟩) (by simp)).trans c2, (HS3.be.cell (p := ⟨b + 3, 0, none⟩) (by simp)).trans c3⟩) ?_
        clear hK K
        try simp only [Act.put, List.setIfInBounds_toArray, List.set_cons_zero, List.set_cons_succ, Nat.reduceAdd]
        refine wpAnyG_ready (rs := [7]) (by kernel_rfl) (by rfl) ?_
        refine AllReadyG.cons rfl (fun K hK => ?_) ?_
        · refine step_app2 (b + 8) _ (by rfl) _ _ _ (by rfl) undI hi hz0 hz1 hz2 (by rfl) (by rfl) HS3 (u := d) (by simp [World.alloc, go_sem]) (by simpa using hdl) (fun vB wB HS4 => ?_)
          obtain ⟨aB, nB, cB, rfl⟩ := HS4.r.b.isSl
          refine hK.out _ _ (fun _ => ⟨(HS4.be.cell (p := ⟨b + 2, 0, none⟩) (by simp)).trans c2, (HS4.be.cell (p := ⟨b + 3, 0, none⟩) (by simp)).trans c3⟩) ?_
          clear hK K
          try simp only [Act.put, List.setIfInBounds_toArray, List.set_cons_zero, List.set_cons_succ, Nat.reduceAdd]
          have k2 := (HS4.be.cell (p := ⟨b + 2, 0, none⟩) (by simp)).trans c2
          have k3 := (HS4.be.cell (p := ⟨b + 3, 0, none⟩) (by simp)).trans c3
          have q2 := (HS4.be.frozen (p := ⟨b + 2, 0, none⟩) (by simp)).trans g2
          have q3 := (HS4.be.frozen (p := ⟨b + 3, 0, none⟩) (by simp)).trans g3
          refine wpAnyG_ready (rs := [8]) (by kernel_rfl) (by rfl) ?_
          refine AllReadyG.cons rfl (fun K hK => ?_) ?_
          · go_simp
            refine hK.out _ _ (fun h => absurd h (by decide)) ?_
            clear hK K
            try simp only [Act.put, List.setIfInBounds_toArray, List.set_cons_zero, List.set_cons_succ, Nat.reduceAdd]
            refine wpAnyG_ready (rs := [9]) (by kernel_rfl) (by rfl) ?_
            refine AllReadyG.cons rfl (fun K hK => ?_) ?_
            · go_simp
              refine hK.out _ _ (fun h => absurd h (by decide)) ?_
              clear hK K
              try simp only [Act.put, List.setIfInBounds_toArray, List.set_cons_zero, List.set_cons_succ, Nat.reduceAdd]
              refine wpAnyG_done (by kernel_rfl) ?_ _
              have HF0 := HW3.out.app (Below.refl _ _) (xs := s2.ord ++ [j]) (ys := s2.dep ++ [d]) (by rw [map_snoc, map_snoc]; exact HS4)
              have HF := Lib.hid HF0
              have d7 := HF0.cf
              clear HF0 HS0 HS1 HS2 HS3 HS4 k2 k3 q2 q3 c2 c3 c7 g2 g3
              go_wp2_with fail
              refine (IH2.out _ HF.out).mono ?_
              rintro e w9 ⟨rfl, hw9⟩
              have HW9 := Lib.hid hw9
              clear hw9
              go_wp2
              exact bodyPost_end (results_none rfl _ _ _) rfl ⟨rfl, HW9.out⟩
            exact AllReadyG.nil
          exact AllReadyG.nil
        exact AllReadyG.nil
      exact AllReadyG.nil
    exact AllReadyG.nil
  exact AllReadyG.nil
end Go.Proofs.Ytcpdhkbmfgphpaa
