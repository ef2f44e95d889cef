import Derived.Test.YtemobphkgbhhhaaGoodT
import Derived.Test.YtemobphkgbhhhaaFB
namespace Go.Proofs.Ytemobphkgbhhhaa
open Go.ChangeShapes Go.WideShapes Go.ChangeAt Go.RowKit Go.GrowR
set_option linter.unusedVariables false
set_option linter.unusedSimpArgs false
/-- ends that go on from a place and ascend by whole places -/
def EndsOk (s : Int) (single : Bool) : Int → List Int → Prop
  | _, [] => True
  | f, e :: es => f ≤ e ∧ (e - f) % s = 0 ∧ (single = true → e - f ≤ s) ∧ EndsOk s single e es
def lastE : Int → List Int → Int
  | f, [] => f
  | _, e :: es => lastE e es
theorem lastE_snoc : ∀ (l : List Int) (f e : Int), lastE f (l ++ [e]) = e
  | [], _, _ => rfl
  | _ :: l, _, e => lastE_snoc l _ e
theorem endsOk_snoc {s : Int} {single : Bool} : ∀ {l : List Int} {f e : Int}, EndsOk s single f l → lastE f l ≤ e → (e - lastE f l) % s = 0 → (single = true → e - lastE f l ≤ s) → EndsOk s single f (l ++ [e])
  | [], f, e, _, h1, h2, h3 => ⟨h1, h2, h3, trivial⟩
  | a :: l, f, e, ⟨k1, k2, k3, k4⟩, h1, h2, h3 => ⟨k1, k2, k3, endsOk_snoc k4 h1 h2 h3⟩
theorem is_at {e : Value} {ns : List Int} {w : World} (h : ISl e ns w) {j : Nat} {p : Int} (hp : ns[j]? = some p) : ∃ b o n, e = .slice (some ⟨b, o, none⟩) ns.length n ∧ w.cell? ⟨b, o + j, none⟩ = some (.int .i64 p) := by
  obtain ⟨A, c, rfl, -, h'⟩ := SlE.form h
  rcases h' with rfl | ⟨b, o, rfl, h'⟩
  · simp at hp
  · obtain ⟨u, h1, rfl⟩ := h' j p hp
    exact ⟨b, o, c, rfl, h1⟩
theorem wf_le {x : Int} (h : (Lit.int .i64 x).wf = true) : -9223372036854775808 ≤ x ∧ x ≤ 9223372036854775807 := by
  simp [Lit.wf] at h
  exact h
def EndsP (s : Int) (single : Bool) (f : Int) (ns : List Int) (w : World) (e : Ending) (w' : World) : Prop := ∃ (to : Int) (ok : Bool), e = .returned (.tuple #[.int .i64 to, .bool ok]) ∧ w' = w ∧ 0 ≤ to ∧ (ok = true → EndsOk s single f ns ∧ to = lastE f ns)
set_option maxRecDepth 100000 in
set_option maxHeartbeats 4000000 in
theorem goodEnds_calls (u : Value) (ns : List Int) (f s : Int) (single : Bool) (w : World) (hu : ISl u ns w) (hl : ns.length ≤ 17592186044416) (hwf : ∀ x ∈ ns, (Lit.int .i64 x).wf = true) (hf : 0 ≤ f) (hs : 0 < s) :
    Calls Try.prog 93 #[u, .int .i64 f, .int .i64 s, .bool single] w (EndsP s single f ns w) := by
  have HU := Lib.hid hu; have HWF := Lib.hid hwf
  obtain ⟨A, c, rfl, -, -⟩ := SlE.form hu
  clear hu hwf
  have hz : (s == 0) = false := by rw [beq_eq_false_iff_ne]; omega
  have hz2 : ¬ s = 0 := by omega
  go_enter Try.func93, Try.ntmps93
  go_wp2
  go_loop [1, 11, 14] (fun g x i => ∃ (j : Nat) (c : Int), j ≤ ns.length ∧ i = .int .i64 j ∧ g = .int .i64 c ∧ 0 ≤ c ∧ c = lastE f (ns.take j) ∧ EndsOk s single f (ns.take j)) (fun _ _ i => ns.length - (intOf i).toNat)
  case atStart => exact ⟨0, f, Nat.zero_le _, rfl, rfl, hf, by simp [lastE], by simp [EndsOk]⟩
  case round =>
    obtain ⟨j, c, hj, rfl, rfl, h0, hc, hok⟩ := hrel
    have HC := Lib.hid hc; have HOK := Lib.hid hok
    clear hc hok
    by_cases hlt : j < ns.length
    case neg =>
      have hje : j = ns.length := by omega
      have HJ := Lib.hid hje
      clear hje
      go_wp2
      go_ret2
      refine ⟨c, true, rfl, rfl, h0, fun _ => ?_⟩
      have h1 := HC.out; have h2 := HOK.out
      rw [List.take_of_length_le (by have := HJ.out; omega)] at h1 h2
      exact ⟨h2, h1⟩
    case pos =>
      obtain ⟨p, hp⟩ : ∃ p, ns[j]? = some p := ⟨ns[j], by simp [hlt]⟩
      have hpw := wf_le (HWF.out p (List.mem_of_getElem? hp))
      obtain ⟨b, o, n1, he, hcell⟩ := is_at HU.out hp
      simp only [Value.slice.injEq] at he
      obtain ⟨rfl, -, -⟩ := he
      have HP := Lib.hid (show ns.take (j + 1) = ns.take j ++ [p] by rw [List.take_add_one, hp]; rfl)
      clear hp
      obtain ⟨p0, p1⟩ := hpw
      by_cases hlt2 : p < c
      case pos =>
        go_wp2
        go_ret2
        exact ⟨c, false, rfl, rfl, h0, fun h => by cases h⟩
      have hle : c ≤ p := by omega
      have hw1 : IntKind.i64.wrap (p - c) = p - c := IntWalk.i64_in _ (by omega)
      have hd0 : 0 ≤ p - c := by omega
      obtain ⟨d, hd⟩ : ∃ d, d = p - c := ⟨_, rfl⟩
      have HD := Lib.hid hd
      cases hm : ((p - c) % s != 0) with
      | true =>
        have hm2 : ((p - c).tmod s != 0) = true := by rw [Int.tmod_eq_emod_of_nonneg hd0]; exact hm
        clear hd
        go_wp2
        go_ret2
        exact ⟨c, false, rfl, rfl, h0, fun h => by cases h⟩
      | false =>
        have hm2 : ((p - c).tmod s != 0) = false := by rw [Int.tmod_eq_emod_of_nonneg hd0]; exact hm
        have HM := Lib.hid (show (p - c) % s = 0 by simpa using hm)
        clear hd
        cases single with
        | false =>
          go_wp2
          go_round
          case rel => exact ⟨j + 1, p, by omega, by go_num, rfl, by omega, by rw [HP.out, lastE_snoc], by rw [HP.out]; exact endsOk_snoc HOK.out (by rw [← HC.out]; exact hle) (by rw [← HC.out]; exact HM.out) (fun h => by cases h)⟩
          case measure => simp [intOf]; omega
        | true =>
          by_cases hgt : s < p - c
          · go_wp2
            go_ret2
            exact ⟨c, false, rfl, rfl, h0, fun h => by cases h⟩
          · go_wp2
            go_round
            case rel => exact ⟨j + 1, p, by omega, by go_num, rfl, by omega, by rw [HP.out, lastE_snoc], by rw [HP.out]; exact endsOk_snoc HOK.out (by rw [← HC.out]; exact hle) (by rw [← HC.out]; exact HM.out) (fun _ => by rw [← HC.out]; omega)⟩
            case measure => simp [intOf]; omega
theorem endsOk_append {s : Int} {single : Bool} : ∀ {a b : List Int} {f : Int}, EndsOk s single f a → EndsOk s single (lastE f a) b → EndsOk s single f (a ++ b)
  | [], _, _, _, h => h
  | _ :: _, _, _, ⟨h1, h2, h3, h4⟩, h => ⟨h1, h2, h3, endsOk_append h4 h⟩
theorem lastE_append : ∀ (a b : List Int) (f : Int), lastE f (a ++ b) = lastE (lastE f a) b
  | [], _, _ => rfl
  | _ :: a, b, _ => lastE_append a b _
/-- the data of each kind -/
def KindOk (k s : Int) (n : Nat) (en : List Int) (ens : List (List Int)) : Prop :=
  (k = 1 ∧ en = [] ∧ ens = [] ∧ (n : Int) ≤ s) ∨ ((k = 2 ∨ k = 8) ∧ en = [] ∧ ens = []) ∨ ((k = 3 ∨ k = 4 ∨ k = 5) ∧ ens = [] ∧ EndsOk s (k == 4) 0 en ∧ lastE 0 en = n) ∨ (k = 6 ∧ en = [] ∧ EndsOk s false 0 ens.flatten ∧ lastE 0 ens.flatten = n)
/-- good data -/
inductive GoodF : GT → Prop
  | coll {l r : Int} {kids : List GT} (h0 : 0 ≤ l) (h1 : ∀ g ∈ kids, GoodF g) (h2 : ∀ g ∈ kids, l ≠ 0 → layO g = l) : GoodF (.mk 7 l r [] [] [] kids)
  | plain {k l r : Int} {fl : List Nat} {en : List Int} {ens : List (List Int)} (hk : k ≠ 7) (hl : 1 ≤ l) (hm : (fl.length : Int) % strideN l = 0) (hd : KindOk k (strideN l) fl.length en ens) : GoodF (.mk k l r fl en ens [])
end Go.Proofs.Ytemobphkgbhhhaa
namespace Go.Proofs.Ytemobphkgbhhhaa
open Go.ChangeShapes Go.WideShapes Go.ChangeAt Go.RowKit Go.GrowR
set_option linter.unusedVariables false
set_option linter.unusedSimpArgs false

def GoodQ (g : GT) (w : World) (e : Ending) (w' : World) : Prop := ∃ r : Bool, e = .returned (.bool r) ∧ Grow w w' ∧ (r = true → GoodF g)
theorem GoodQ.no {g : GT} {w w' : World} (h : Grow w w') : GoodQ g w (.returned (.bool false)) w' := ⟨false, rfl, h, fun h => by cases h⟩
theorem len0 {α : Type} {l : List α} (h : ((l.length : Int) == 0) = true) : l = [] := by
  have : l.length = 0 := by simp at h; simpa using h
  exact List.eq_nil_of_length_eq_zero this
set_option maxRecDepth 100000 in
set_option maxHeartbeats 8000000 in
/-- .. no collection -/
theorem goodPlain (k l r : Int) (fl : List Nat) (en : List Int) (ens : List (List Int)) (kids : List GT) (v : Value) (w : World) (hr : Reach44 (.mk k l r fl en ens kids)) (hv : GV (.mk k l r fl en ens kids) v w) (h7 : k ≠ 7) :
    Calls Try.prog 54 #[v] w (GoodQ (.mk k l r fl en ens kids) w) := by
  obtain ⟨r0, r1, r2, r3, -, r5, r6, r7, -, r8⟩ := hr
  have hvf := hv
  obtain ⟨k', l', r', A1, n1, c1, A2, n2, c2, A3, n3, c3, A4, n4, c4, rfl⟩ := hvf.form
  unfold GV at hv
  obtain ⟨u, e1, e2, A, c, he, -, hfl, hen, hens, hk⟩ := hv
  simp only [Value.agg.injEq, Array.mk.injEq, List.cons.injEq, Value.int.injEq, Value.slice.injEq, true_and, and_true] at he
  obtain ⟨rfl, rfl, rfl, he1, he2, he3, rfl, rfl, rfl⟩ := he
  have q1 : n1 = fl.length := by obtain ⟨_, _, h, _⟩ := hfl; rw [← he1] at h; cases h; rfl
  have q2 : n2 = en.length := by obtain ⟨_, _, h, _⟩ := SlE.form hen; rw [← he2] at h; cases h; rfl
  have q3 : n3 = ens.length := by obtain ⟨_, _, h, _⟩ := SlE.form hens; rw [← he3] at h; cases h; rfl
  subst q1 q2 q3 he1 he2 he3
  clear hfl hvf
  obtain ⟨W, hW⟩ : ∃ W, W = w.alloc (Obj.cells #[.int .i64 k', .int .i64 l', .int .i64 r', .slice A1 fl.length c1, .slice A2 en.length c2, .slice A3 ens.length c3, .slice A4 kids.length c4] 28) := ⟨_, rfl⟩
  have HGW : Hid (Grow w W) := by rw [hW]; exact (Grow.refl w).alloc _
  have d0 : W.cell? ⟨w.heap.size, 0, none⟩ = some (.int .i64 k') := by rw [hW]; go_simp
  have d1 : W.cell? ⟨w.heap.size, 1, none⟩ = some (.int .i64 l') := by rw [hW]; go_simp
  have d3 : W.cell? ⟨w.heap.size, 3, none⟩ = some (.slice A1 fl.length c1) := by rw [hW]; go_simp
  have d4 : W.cell? ⟨w.heap.size, 4, none⟩ = some (.slice A2 en.length c2) := by rw [hW]; go_simp
  have d5 : W.cell? ⟨w.heap.size, 5, none⟩ = some (.slice A3 ens.length c3) := by rw [hW]; go_simp
  have d6 : W.cell? ⟨w.heap.size, 6, none⟩ = some (.slice A4 kids.length c4) := by rw [hW]; go_simp
  have HWE := Lib.hid hW; clear hW
  have HEN := Lib.hid hen; have HENS := Lib.hid hens
  have R6 := Lib.hid r6; have R5 := Lib.hid r5; have R7 := Lib.hid r7
  have H7 := Lib.hid h7
  have e7 : (k' == 7) = false := by rw [beq_eq_false_iff_ne]; exact h7
  clear h7 hen hens hk r8 r5 r6 r7
  by_cases hl1 : 1 ≤ l'
  case neg =>
    have hs0 : strideN l' = 0 := by unfold strideN; rw [if_pos (by omega)]
    go_enter Try.func54, Try.ntmps54
    go_wp2_with (go_at_call 23; refine (stride_calls _ _).mono ?_; rw [hs0]; rintro e w1 ⟨rfl, rfl⟩)
    try (rw [← HWE.out]; go_wp2)
    go_ret
    exact GoodQ.no (by first | exact HGW.out | exact (Grow.refl w).alloc _)
  obtain ⟨s, hs⟩ : ∃ s, s = strideN l' := ⟨_, rfl⟩
  have hs1 : 0 < s := by rw [hs]; unfold strideN; repeat' split
                         all_goals omega
  have HS := Lib.hid hs
  have hs0 : (s == 0) = false := by rw [beq_eq_false_iff_ne]; omega
  have hs00 : ¬ s = 0 := by omega
  have KS := Lib.hid (fun w => (show Calls Try.prog 23 #[.int .i64 l'] w fun e w' => e = .returned (.int .i64 s) ∧ w' = w by rw [hs]; exact stride_calls _ _))
  have HL1 := Lib.hid hl1
  clear hs hl1
  cases hm : ((fl.length : Int) % s != 0) with
  | true =>
    go_enter Try.func54, Try.ntmps54
    go_wp2_with (go_at_call 23; refine (KS.out _).mono ?_; rintro e w1 ⟨rfl, rfl⟩)
    try (rw [← HWE.out]; go_wp2)
    go_ret
    exact GoodQ.no (by first | exact HGW.out | exact (Grow.refl w).alloc _)
  | false =>
  have HM := Lib.hid (show (fl.length : Int) % s = 0 by simpa using hm)
  by_cases hk0 : kids.length = 0
  case neg =>
    have p1 : (0 : Int) < (kids.length : Int) := by omega
    have p2 : 0 < kids.length := by omega
    clear hk0
    go_enter Try.func54, Try.ntmps54
    go_wp2_with (go_at_call 23; refine (KS.out _).mono ?_; rintro e w1 ⟨rfl, rfl⟩)
    try (rw [← HWE.out]; go_wp2)
    go_ret
    exact GoodQ.no (by first | exact HGW.out | exact (Grow.refl w).alloc _)
  obtain rfl : kids = [] := List.eq_nil_of_length_eq_zero hk0
  simp only [List.length_nil] at *
  clear hk0 r3
  by_cases h6 : k' = 6
  case pos =>
    subst h6
    clear H7 e7
    go_enter Try.func54, Try.ntmps54
    go_wp2_with (go_at_call 23; refine (KS.out _).mono ?_; rintro e w1 ⟨rfl, rfl⟩)
    rw [← HWE.out]
    clear HWE
    go_wp2
    all_goals
      go_loop [8, 9, 11, 12, 135] (fun t ok x y i => ∃ (j : Nat) (f : Int) (b : Bool), j ≤ ens.length ∧ i = .int .i64 j ∧ t = .int .i64 f ∧ ok = .bool b ∧ 0 ≤ f ∧ (b = true → EndsOk s false 0 (ens.take j).flatten ∧ f = lastE 0 (ens.take j).flatten)) (fun _ _ _ _ i => ens.length - (intOf i).toNat)
      case atStart => exact ⟨0, 0, true, Nat.zero_le _, rfl, rfl, rfl, by omega, fun _ => ⟨by simp [EndsOk], by simp [lastE]⟩⟩
      case round =>
        obtain ⟨j, f, b, hj, rfl, rfl, rfl, hf, hb⟩ := hrel
        have HB := Lib.hid hb
        clear hb
        by_cases hlt : j < ens.length
        · obtain ⟨p, hp⟩ : ∃ p, ens[j]? = some p := ⟨ens[j], by simp [hlt]⟩
          obtain ⟨b5, o5, A5, c5, n5, he, hc, hsl⟩ := iss_at HENS.out hp
          simp only [Value.slice.injEq] at he
          obtain ⟨rfl, -, -⟩ := he
          have hc' := up_cell hc HGW.out
          have HE := Lib.hid (goodEnds_calls _ p f s false W (ISl.up _ _ hsl HGW.out) (R5.out p (List.mem_of_getElem? hp)) (R7.out p (List.mem_of_getElem? hp)) hf hs1)
          have HT : Hid ((ens.take (j + 1)).flatten = (ens.take j).flatten ++ p) := by show _ = _; rw [List.take_add_one, hp]; simp
          clear hc hp hsl hf
          have hq1 : IntKind.i64.wrap ((j : Int) + 1) = (j : Int) + 1 := IntWalk.i64_in _ (by omega)
          go_wp2_with (go_at_call 93; refine HE.out.mono ?_; rintro e w5 ⟨to, ok, rfl, rfl, hto, hok⟩; have HOK := Lib.hid hok; clear hok)
          all_goals
            go_round
            case rel =>
              first
                | exact ⟨j + 1, to, true, by omega, by go_num, rfl, rfl, hto, fun _ => by
                    obtain ⟨h1, h2⟩ := HB.out (by first | rfl | assumption)
                    obtain ⟨h3, h4⟩ := HOK.out (by first | rfl | assumption)
                    rw [HT.out, lastE_append, ← h2]
                    exact ⟨endsOk_append h1 (by rw [← h2]; exact h3), h4⟩⟩
                | exact ⟨j + 1, to, _, by omega, by go_num, rfl, rfl, hto, fun hh => by
                    first
                      | (simp at hh)
                      | (have hb1 : b = true := by first | exact hh | (simp at hh; exact hh.1) | assumption
                         have hk1 : ok = true := by first | exact hh | (simp at hh; exact hh.2) | assumption
                         obtain ⟨h1, h2⟩ := HB.out hb1
                         obtain ⟨h3, h4⟩ := HOK.out hk1
                         rw [HT.out, lastE_append, ← h2]
                         exact ⟨endsOk_append h1 (by rw [← h2]; exact h3), h4⟩)⟩
            case measure => simp [intOf]; omega
        · have hje : j = ens.length := by omega
          have HJ := Lib.hid hje
          clear hje
          cases b with
          | false =>
            go_wp2
            go_ret
            exact GoodQ.no (by first | exact HGW.out | exact (Grow.refl w).alloc _)
          | true =>
            obtain ⟨hb1, hb2⟩ := HB.out rfl
            rw [List.take_of_length_le (by have := HJ.out; omega)] at hb1 hb2
            have HB1 := Lib.hid hb1; have HB2 := Lib.hid hb2
            clear hb1 hb2
            go_wp2
            all_goals
              go_ret
              refine ⟨_, rfl, by first | exact HGW.out | exact (Grow.refl w).alloc _, fun hh => ?_⟩
              first
                | (exfalso; simp at hh; done)
                | (have h1 : f = (fl.length : Int) := by first | assumption | (simp at hh; omega)
                   have h2 : en = [] := by first | (apply len0; assumption) | (simp at hh; first | exact List.eq_nil_of_length_eq_zero (by omega) | (obtain ⟨-, hh⟩ := hh; exact hh) | exact hh)
                   exact .plain (by decide) HL1.out (by rw [← HS.out]; exact HM.out) (.inr (.inr (.inr ⟨rfl, h2, by rw [← HS.out]; exact HB1.out, by rw [← HB2.out]; exact h1⟩))))
  by_cases he0 : ens.length = 0
  case neg =>
    have p1 : (0 : Int) < (ens.length : Int) := by omega
    have p2 : 0 < ens.length := by omega
    have e6 : (k' != 6) = true := by simpa using h6
    clear he0 h6
    go_enter Try.func54, Try.ntmps54
    go_wp2_with (go_at_call 23; refine (KS.out _).mono ?_; rintro e w1 ⟨rfl, rfl⟩)
    try (rw [← HWE.out]; go_wp2)
    go_ret
    exact GoodQ.no (by first | exact HGW.out | exact (Grow.refl w).alloc _)
  obtain rfl : ens = [] := List.eq_nil_of_length_eq_zero he0
  simp only [List.length_nil] at *
  clear he0 r2 HENS R5 R7
  by_cases h1 : k' = 1
  case pos =>
    subst h1
    clear H7 e7 h6
    go_enter Try.func54, Try.ntmps54
    go_wp2_with (go_at_call 23; refine (KS.out _).mono ?_; rintro e w1 ⟨rfl, rfl⟩)
    all_goals
      go_ret
      refine ⟨_, rfl, by first | exact HGW.out | exact (Grow.refl w).alloc _, fun hh => ?_⟩
      first
        | (exfalso; simp at hh; done)
        | (have h3 : (fl.length : Int) ≤ s := by first | assumption | exact of_decide_eq_true hh | (simp at hh; omega)
           exact .plain (by decide) HL1.out (by rw [← HS.out]; exact HM.out) (.inl ⟨rfl, len0 (by first | rfl | assumption | simpa using ‹en = []›), rfl, by rw [← HS.out]; exact h3⟩))
  by_cases h28 : k' = 2 ∨ k' = 8
  case pos =>
    have HE := Lib.hid (show ∀ r : Bool, r = ((en.length : Int) == 0) → r = true → en = [] from fun r h1 h2 => len0 (by rw [← h1]; exact h2))
    rcases h28 with rfl | rfl
    all_goals
      have H28 := Lib.hid HL1.out
      clear H7 e7 h6 h1
      go_enter Try.func54, Try.ntmps54
      go_wp2_with (go_at_call 23; refine (KS.out _).mono ?_; rintro e w1 ⟨rfl, rfl⟩)
    all_goals
      go_ret
      refine ⟨_, rfl, by first | exact HGW.out | exact (Grow.refl w).alloc _, fun hh => ?_⟩
      refine .plain (by decide) HL1.out (by rw [← HS.out]; exact HM.out) (.inr (.inl ⟨by decide, ?_, rfl⟩))
      first | exact len0 hh | (simp at hh; first | exact hh | exact List.eq_nil_of_length_eq_zero hh)
  by_cases h345 : k' = 3 ∨ k' = 4 ∨ k' = 5
  case pos =>
    rcases h345 with rfl | rfl | rfl
    all_goals
      clear H7 e7 h6 h1 h28
    case inl =>
      have HE := Lib.hid (fun w' (hg : Grow w w') => goodEnds_calls _ en 0 s false w' (ISl.up _ _ HEN.out hg) r1 R6.out (by omega) hs1)
      go_enter Try.func54, Try.ntmps54
      go_wp2_with (first
        | (go_at_call 23; refine (KS.out _).mono ?_; rintro e w1 ⟨rfl, rfl⟩)
        | (go_at_call 93; refine (HE.out _ (by first | exact HGW.out | exact (Grow.refl w).alloc _)).mono ?_; rintro e w5 ⟨to, ok, rfl, rfl, hto, hok⟩; have HOK := Lib.hid hok; clear hok))
      all_goals
        go_ret
        refine ⟨_, rfl, by first | exact HGW.out | exact (Grow.refl w).alloc _, fun hh => ?_⟩
        first
          | (exfalso; simp at hh; done)
          | (have hk : ok = true := by first | rfl | assumption | (simp at hh; exact hh.1)
             have ht : to = (fl.length : Int) := by first | assumption | (simp at hh; omega)
             obtain ⟨h3, h4⟩ := HOK.out hk
             exact .plain (by decide) HL1.out (by rw [← HS.out]; exact HM.out) (.inr (.inr (.inl ⟨by decide, rfl, by rw [← HS.out]; exact h3, by rw [← h4]; exact ht⟩))))
    case inr.inl =>
      have HE := Lib.hid (fun w' (hg : Grow w w') => goodEnds_calls _ en 0 s true w' (ISl.up _ _ HEN.out hg) r1 R6.out (by omega) hs1)
      go_enter Try.func54, Try.ntmps54
      go_wp2_with (first
        | (go_at_call 23; refine (KS.out _).mono ?_; rintro e w1 ⟨rfl, rfl⟩)
        | (go_at_call 93; refine (HE.out _ (by first | exact HGW.out | exact (Grow.refl w).alloc _)).mono ?_; rintro e w5 ⟨to, ok, rfl, rfl, hto, hok⟩; have HOK := Lib.hid hok; clear hok))
      all_goals
        go_ret
        refine ⟨_, rfl, by first | exact HGW.out | exact (Grow.refl w).alloc _, fun hh => ?_⟩
        first
          | (exfalso; simp at hh; done)
          | (have hk : ok = true := by first | rfl | assumption | (simp at hh; exact hh.1)
             have ht : to = (fl.length : Int) := by first | assumption | (simp at hh; omega)
             obtain ⟨h3, h4⟩ := HOK.out hk
             exact .plain (by decide) HL1.out (by rw [← HS.out]; exact HM.out) (.inr (.inr (.inl ⟨by decide, rfl, by rw [← HS.out]; exact h3, by rw [← h4]; exact ht⟩))))
    case inr.inr =>
      have HE := Lib.hid (fun w' (hg : Grow w w') => goodEnds_calls _ en 0 s false w' (ISl.up _ _ HEN.out hg) r1 R6.out (by omega) hs1)
      go_enter Try.func54, Try.ntmps54
      go_wp2_with (first
        | (go_at_call 23; refine (KS.out _).mono ?_; rintro e w1 ⟨rfl, rfl⟩)
        | (go_at_call 93; refine (HE.out _ (by first | exact HGW.out | exact (Grow.refl w).alloc _)).mono ?_; rintro e w5 ⟨to, ok, rfl, rfl, hto, hok⟩; have HOK := Lib.hid hok; clear hok))
      all_goals
        go_ret
        refine ⟨_, rfl, by first | exact HGW.out | exact (Grow.refl w).alloc _, fun hh => ?_⟩
        first
          | (exfalso; simp at hh; done)
          | (have hk : ok = true := by first | rfl | assumption | (simp at hh; exact hh.1)
             have ht : to = (fl.length : Int) := by first | assumption | (simp at hh; omega)
             obtain ⟨h3, h4⟩ := HOK.out hk
             exact .plain (by decide) HL1.out (by rw [← HS.out]; exact HM.out) (.inr (.inr (.inl ⟨by decide, rfl, by rw [← HS.out]; exact h3, by rw [← h4]; exact ht⟩))))
  case neg =>
    simp only [not_or] at h28 h345
    obtain ⟨x2, x8⟩ := h28
    obtain ⟨x3, x4, x5⟩ := h345
    have e1 : (k' == 1) = false := by rw [beq_eq_false_iff_ne]; exact h1
    have e2 : (k' == 2) = false := by rw [beq_eq_false_iff_ne]; exact x2
    have e3 : (k' == 3) = false := by rw [beq_eq_false_iff_ne]; exact x3
    have e4 : (k' == 4) = false := by rw [beq_eq_false_iff_ne]; exact x4
    have e5 : (k' == 5) = false := by rw [beq_eq_false_iff_ne]; exact x5
    have e6 : (k' == 6) = false := by rw [beq_eq_false_iff_ne]; exact h6
    have e8 : (k' == 8) = false := by rw [beq_eq_false_iff_ne]; exact x8
    clear H7 h6 h1 x2 x3 x4 x5 x8
    go_enter Try.func54, Try.ntmps54
    go_wp2_with (go_at_call 23; refine (KS.out _).mono ?_; rintro e w1 ⟨rfl, rfl⟩)
    go_ret
    exact GoodQ.no (by first | exact HGW.out | exact (Grow.refl w).alloc _)
end Go.Proofs.Ytemobphkgbhhhaa
namespace Go.Proofs.Ytemobphkgbhhhaa
open Go.ChangeShapes Go.WideShapes Go.ChangeAt Go.RowKit Go.GrowR
set_option linter.unusedVariables false
set_option linter.unusedSimpArgs false

/-- kids that are good so far -/
def KidsOk (l : Int) (kids : List GT) (q : Nat) : Prop := ∀ (j : Nat) (g : GT), j < q → kids[j]? = some g → GoodF g ∧ (l ≠ 0 → layO g = l)
theorem KidsOk.snoc {l : Int} {kids : List GT} {q : Nat} {kid : GT} (h : KidsOk l kids q) (hq : kids[q]? = some kid) (h1 : GoodF kid) (h2 : l ≠ 0 → layO kid = l) : KidsOk l kids (q + 1) := fun j g hj hg => by
  rcases Nat.lt_or_ge j q with hlt | hge
  · exact h j g hlt hg
  · obtain rfl : j = q := by omega
    rw [hq] at hg; cases hg; exact ⟨h1, h2⟩
def GoodR (g : GT) (V : Value) : Prop := ∃ r : Bool, V = .bool r ∧ (r = true → GoodF g)
set_option maxRecDepth 100000 in
set_option maxHeartbeats 8000000 in
theorem goodT : ∀ (g : GT) (v : Value) (w : World), Reach44 g → GV g v w → Calls Try.prog 54 #[v] w (GoodQ g w) := by
  refine GT.ind fun k l r fl en ens kids ih v w hr hv => ?_
  by_cases h7 : k = 7
  case neg => exact goodPlain k l r fl en ens kids v w hr hv h7
  subst h7
  obtain ⟨r0, r1, r2, r3, -, r5, r6, r7, -, r8⟩ := hr
  have hvf := hv
  obtain ⟨k', l', r', A1, n1, c1, A2, n2, c2, A3, n3, c3, A4, n4, c4, rfl⟩ := hvf.form
  unfold GV at hv
  obtain ⟨u, e1, e2, A, c, he, -, hfl, hen, hens, hk⟩ := hv
  simp only [Value.agg.injEq, Array.mk.injEq, List.cons.injEq, Value.int.injEq, Value.slice.injEq, true_and, and_true] at he
  obtain ⟨rfl, rfl, rfl, he1, he2, he3, rfl, rfl, rfl⟩ := he
  have q1 : n1 = fl.length := by obtain ⟨_, _, h, _⟩ := hfl; rw [← he1] at h; cases h; rfl
  have q2 : n2 = en.length := by obtain ⟨_, _, h, _⟩ := SlE.form hen; rw [← he2] at h; cases h; rfl
  have q3 : n3 = ens.length := by obtain ⟨_, _, h, _⟩ := SlE.form hens; rw [← he3] at h; cases h; rfl
  subst q1 q2 q3 he1 he2 he3
  clear hfl hvf
  obtain ⟨W, hW⟩ : ∃ W, W = w.alloc (Obj.cells #[.int .i64 7, .int .i64 l', .int .i64 r', .slice A1 fl.length c1, .slice A2 en.length c2, .slice A3 ens.length c3, .slice A4 kids.length c4] 28) := ⟨_, rfl⟩
  have HGW : Hid (Grow w W) := by rw [hW]; exact (Grow.refl w).alloc _
  have d0 : W.cell? ⟨w.heap.size, 0, none⟩ = some (.int .i64 7) := by rw [hW]; go_simp
  have d1 : W.cell? ⟨w.heap.size, 1, none⟩ = some (.int .i64 l') := by rw [hW]; go_simp
  have d3 : W.cell? ⟨w.heap.size, 3, none⟩ = some (.slice A1 fl.length c1) := by rw [hW]; go_simp
  have d4 : W.cell? ⟨w.heap.size, 4, none⟩ = some (.slice A2 en.length c2) := by rw [hW]; go_simp
  have d5 : W.cell? ⟨w.heap.size, 5, none⟩ = some (.slice A3 ens.length c3) := by rw [hW]; go_simp
  have d6 : W.cell? ⟨w.heap.size, 6, none⟩ = some (.slice A4 kids.length c4) := by rw [hW]; go_simp
  have HWE := Lib.hid hW; clear hW
  have HK := Lib.hid hk; have IH := Lib.hid ih; have R8 := Lib.hid r8
  clear hk ih r8 hen hens r5 r6 r7
  cases hl0 : (l' != 0)
  case false =>
    obtain rfl : l' = 0 := by simpa using hl0
    clear hl0
    go_enter Try.func54, Try.ntmps54
    go_wp2_with (go_at_call 23; refine (stride_calls _ _).mono ?_; rintro e w1 ⟨rfl, rfl⟩)
    rw [← HWE.out]
    clear HWE
    have D0 := Lib.hid d0; have D1 := Lib.hid d1; have D3 := Lib.hid d3; have D4 := Lib.hid d4; have D5 := Lib.hid d5
    clear d0 d1 d3 d4 d5 d6
    go_loopw [22] (fun i wr => ∃ (j : Nat), j ≤ kids.length ∧ i = .int .i64 j ∧ Grow W wr ∧ KidsOk 0 kids j) (fun i _ => kids.length - (intOf i).toNat)
    case atStart => exact ⟨0, Nat.zero_le _, rfl, Grow.refl _, fun j g hj => by omega⟩
    case round =>
      obtain ⟨q, hq, rfl, hg, hall⟩ := hrel
      have HG := Lib.hid hg; have HALL := Lib.hid hall
      clear hall
      by_cases hlt2 : q < kids.length
      case neg =>
        have hqe : q = kids.length := by omega
        have HQ := Lib.hid hqe
        have d1 := up_cell D1.out hg; have d3 := up_cell D3.out hg; have d4 := up_cell D4.out hg; have d5 := up_cell D5.out hg
        clear hqe hg
        go_wp2
        all_goals
          go_ret
          refine ⟨_, rfl, HGW.out.trans HG.out, fun hh => ?_⟩
          first
            | (exfalso; simp at hh; done)
            | (have hsum : fl.length = 0 ∧ en.length = 0 ∧ ens.length = 0 ∧ 0 ≤ 0 := by first | (simp at hh; omega) | (simp at *; omega)
               obtain ⟨z1, z2, z3, z4⟩ := hsum
               obtain rfl : fl = [] := List.eq_nil_of_length_eq_zero z1
               obtain rfl : en = [] := List.eq_nil_of_length_eq_zero z2
               obtain rfl : ens = [] := List.eq_nil_of_length_eq_zero z3
               have hall := HALL.out
               rw [HQ.out] at hall
               exact .coll (by omega) (fun g hg => by
                 obtain ⟨i, hi⟩ := List.mem_iff_getElem?.1 hg
                 exact (hall i g (List.getElem?_eq_some_iff.1 hi).1 hi).1) (fun g hg => by
                 obtain ⟨i, hi⟩ := List.mem_iff_getElem?.1 hg
                 exact (hall i g (List.getElem?_eq_some_iff.1 hi).1 hi).2))
      case pos =>
        obtain ⟨kid, hkid⟩ : ∃ p, kids[q]? = some p := ⟨kids[q], by simp [hlt2]⟩
        obtain ⟨b, o, rfl, hgk⟩ := gk_some HK.out hlt2
        have gw := HGW.out.trans hg
        obtain ⟨k', l'', r', A1', n1', c1', A2', n2', c2', A3', n3', c3', A4', n4', c4', h7, hv⟩ := kid_at hgk hkid
        obtain ⟨k0, k1, k2, k3, k4, k5, k6⟩ := Seven.up _ _ h7 gw
        have HKID := Lib.hid (fun w' (hw : Grow wr w') => IH.out kid (List.mem_of_getElem? hkid) _ w' (R8.out kid (List.mem_of_getElem? hkid)) (GV.up _ _ _ _ hv (gw.trans hw)))
        have HLAY := Lib.hid (fun w' (hw : Grow wr w') => layoutOf_calls kid _ w' (R8.out kid (List.mem_of_getElem? hkid)) (GV.up _ _ _ _ hv (gw.trans hw)))
        have d1 := up_cell D1.out hg
        have lW : w.heap.size < wr.heap.size := cell_ltH d1
        have HQ := Lib.hid hkid
        clear hv hgk hkid gw hg h7
        have hq1 : IntKind.i64.wrap ((q : Int) + 1) = (q : Int) + 1 := IntWalk.i64_in _ (by omega)
        go_wp2
        refine wp_region_grow (fun i => if i = 1 then some (fun _ _ V _ => GoodR kid V) else if i = 9 then some (fun _ _ V _ => V = .int .i64 (layO kid)) else none) (by kernel_rfl) (by kernel_rfl) ?_ ?_
        · intro i Φ h lo hi v
          (repeat' split at h) <;> cases h
          · exact fun _ _ h _ => h
          · exact fun _ _ h _ => h
        repeat (first
          | (refine wpGrow_skip (by rfl) ?_; simp only [Act.put, List.setIfInBounds_toArray, List.set_cons_zero, List.set_cons_succ, Nat.reduceAdd])
          | (refine wpGrow_det' (by rfl) (by rfl) ?_; apply Exists.intro; refine ⟨fun w' hc hh => ?_, ?_⟩; (have hcell := grow_cell hc; clear hc hh; go_simp; rfl); simp only [Act.put, List.setIfInBounds_toArray, List.set_cons_zero, List.set_cons_succ, Nat.reduceAdd]))
        refine wpGrow_eff' (by rfl) (by rfl) (fun w' hc hh => ?_) (fun v lo hi w' hap hc hh hv => ?_)
        · have HX := Lib.hid hc
          clear hc hh
          go_simp
          go_at_call 54
          refine (HKID.out _ (((Grow.refl _).alloc _).trans HX.out)).mono ?_
          rintro e w5 ⟨r, rfl, hg5, hr5⟩
          exact EffPost.mk hg5 ⟨r, rfl, hr5⟩
        obtain ⟨r, rfl, hr5⟩ := hv
        have HR5 := Lib.hid hr5; clear hr5
        clear hc hh hap w'
        cases r with
        | false =>
          simp only [Act.put, List.setIfInBounds_toArray, List.set_cons_zero, List.set_cons_succ, Nat.reduceAdd]
          repeat (first
            | (refine wpGrow_skip (by rfl) ?_; simp only [Act.put, List.setIfInBounds_toArray, List.set_cons_zero, List.set_cons_succ, Nat.reduceAdd])
            | (refine wpGrow_det' (by rfl) (by rfl) ?_; apply Exists.intro; refine ⟨fun w' hc hh => ?_, ?_⟩; (have hcell := grow_cell hc; clear hc hh; go_simp; rfl); simp only [Act.put, List.setIfInBounds_toArray, List.set_cons_zero, List.set_cons_succ, Nat.reduceAdd]))
          refine wpGrow_nil ?_
          intro w1 hg hh
          have HG1 := Lib.hid (HG.out.trans (((Grow.refl _).alloc _).trans hg))
          clear hg hh
          go_wp2
          go_ret
          exact GoodQ.no (HGW.out.trans HG1.out)
        | true =>
          simp only [Act.put, List.setIfInBounds_toArray, List.set_cons_zero, List.set_cons_succ, Nat.reduceAdd]
          repeat (first
            | (refine wpGrow_skip (by rfl) ?_; simp only [Act.put, List.setIfInBounds_toArray, List.set_cons_zero, List.set_cons_succ, Nat.reduceAdd])
            | (refine wpGrow_det' (by rfl) (by rfl) ?_; apply Exists.intro; refine ⟨fun w' hc hh => ?_, ?_⟩; (have hcell := grow_cell hc; clear hc hh; go_simp; rfl); simp only [Act.put, List.setIfInBounds_toArray, List.set_cons_zero, List.set_cons_succ, Nat.reduceAdd]))
          refine wpGrow_nil ?_
          intro w1 hg hh
          have HG1 := Lib.hid (HG.out.trans (((Grow.refl _).alloc _).trans hg))
          clear hg hh
          go_wp2
          go_roundw
          case rel => exact ⟨q + 1, by omega, by go_num, HG1.out, HALL.out.snoc HQ.out (HR5.out rfl) (fun h => absurd rfl h)⟩
          case measure => simp [intOf]; omega
  case true =>
    have HL0 := Lib.hid hl0
    go_enter Try.func54, Try.ntmps54
    go_wp2_with (go_at_call 23; refine (stride_calls _ _).mono ?_; rintro e w1 ⟨rfl, rfl⟩)
    rw [← HWE.out]
    clear HWE
    have D0 := Lib.hid d0; have D1 := Lib.hid d1; have D3 := Lib.hid d3; have D4 := Lib.hid d4; have D5 := Lib.hid d5
    clear d0 d1 d3 d4 d5 d6
    go_loopw [22] (fun i wr => ∃ (j : Nat), j ≤ kids.length ∧ i = .int .i64 j ∧ Grow W wr ∧ KidsOk l' kids j) (fun i _ => kids.length - (intOf i).toNat)
    case atStart => exact ⟨0, Nat.zero_le _, rfl, Grow.refl _, fun j g hj => by omega⟩
    case round =>
      obtain ⟨q, hq, rfl, hg, hall⟩ := hrel
      have HG := Lib.hid hg; have HALL := Lib.hid hall
      clear hall
      by_cases hlt2 : q < kids.length
      case neg =>
        have hqe : q = kids.length := by omega
        have HQ := Lib.hid hqe
        have d1 := up_cell D1.out hg; have d3 := up_cell D3.out hg; have d4 := up_cell D4.out hg; have d5 := up_cell D5.out hg
        clear hqe hg
        go_wp2
        all_goals
          go_ret
          refine ⟨_, rfl, HGW.out.trans HG.out, fun hh => ?_⟩
          first
            | (exfalso; simp at hh; done)
            | (have hsum : fl.length = 0 ∧ en.length = 0 ∧ ens.length = 0 ∧ 0 ≤ l' := by first | (simp at hh; omega) | (simp at *; omega)
               obtain ⟨z1, z2, z3, z4⟩ := hsum
               obtain rfl : fl = [] := List.eq_nil_of_length_eq_zero z1
               obtain rfl : en = [] := List.eq_nil_of_length_eq_zero z2
               obtain rfl : ens = [] := List.eq_nil_of_length_eq_zero z3
               have hall := HALL.out
               rw [HQ.out] at hall
               exact .coll (by omega) (fun g hg => by
                 obtain ⟨i, hi⟩ := List.mem_iff_getElem?.1 hg
                 exact (hall i g (List.getElem?_eq_some_iff.1 hi).1 hi).1) (fun g hg => by
                 obtain ⟨i, hi⟩ := List.mem_iff_getElem?.1 hg
                 exact (hall i g (List.getElem?_eq_some_iff.1 hi).1 hi).2))
      case pos =>
        obtain ⟨kid, hkid⟩ : ∃ p, kids[q]? = some p := ⟨kids[q], by simp [hlt2]⟩
        obtain ⟨b, o, rfl, hgk⟩ := gk_some HK.out hlt2
        have gw := HGW.out.trans hg
        obtain ⟨k', l'', r', A1', n1', c1', A2', n2', c2', A3', n3', c3', A4', n4', c4', h7, hv⟩ := kid_at hgk hkid
        obtain ⟨k0, k1, k2, k3, k4, k5, k6⟩ := Seven.up _ _ h7 gw
        have HKID := Lib.hid (fun w' (hw : Grow wr w') => IH.out kid (List.mem_of_getElem? hkid) _ w' (R8.out kid (List.mem_of_getElem? hkid)) (GV.up _ _ _ _ hv (gw.trans hw)))
        have HLAY := Lib.hid (fun w' (hw : Grow wr w') => layoutOf_calls kid _ w' (R8.out kid (List.mem_of_getElem? hkid)) (GV.up _ _ _ _ hv (gw.trans hw)))
        have d1 := up_cell D1.out hg
        have lW : w.heap.size < wr.heap.size := cell_ltH d1
        have HQ := Lib.hid hkid
        clear hv hgk hkid gw hg h7
        have hq1 : IntKind.i64.wrap ((q : Int) + 1) = (q : Int) + 1 := IntWalk.i64_in _ (by omega)
        go_wp2
        refine wp_region_grow (fun i => if i = 1 then some (fun _ _ V _ => GoodR kid V) else if i = 9 then some (fun _ _ V _ => V = .int .i64 (layO kid)) else none) (by kernel_rfl) (by kernel_rfl) ?_ ?_
        · intro i Φ h lo hi v
          (repeat' split at h) <;> cases h
          · exact fun _ _ h _ => h
          · exact fun _ _ h _ => h
        repeat (first
          | (refine wpGrow_skip (by rfl) ?_; simp only [Act.put, List.setIfInBounds_toArray, List.set_cons_zero, List.set_cons_succ, Nat.reduceAdd])
          | (refine wpGrow_det' (by rfl) (by rfl) ?_; apply Exists.intro; refine ⟨fun w' hc hh => ?_, ?_⟩; (have hcell := grow_cell hc; clear hc hh; go_simp; rfl); simp only [Act.put, List.setIfInBounds_toArray, List.set_cons_zero, List.set_cons_succ, Nat.reduceAdd]))
        refine wpGrow_eff' (by rfl) (by rfl) (fun w' hc hh => ?_) (fun v lo hi w' hap hc hh hv => ?_)
        · have HX := Lib.hid hc
          clear hc hh
          go_simp
          go_at_call 54
          refine (HKID.out _ (((Grow.refl _).alloc _).trans HX.out)).mono ?_
          rintro e w5 ⟨r, rfl, hg5, hr5⟩
          exact EffPost.mk hg5 ⟨r, rfl, hr5⟩
        obtain ⟨r, rfl, hr5⟩ := hv
        have HR5 := Lib.hid hr5; clear hr5
        clear hc hh hap w'
        cases r with
        | false =>
          simp only [Act.put, List.setIfInBounds_toArray, List.set_cons_zero, List.set_cons_succ, Nat.reduceAdd]
          repeat (first
            | (refine wpGrow_skip (by rfl) ?_; simp only [Act.put, List.setIfInBounds_toArray, List.set_cons_zero, List.set_cons_succ, Nat.reduceAdd])
            | (refine wpGrow_det' (by rfl) (by rfl) ?_; apply Exists.intro; refine ⟨fun w' hc hh => ?_, ?_⟩; (have hcell := grow_cell hc; clear hc hh; go_simp; rfl); simp only [Act.put, List.setIfInBounds_toArray, List.set_cons_zero, List.set_cons_succ, Nat.reduceAdd]))
          refine wpGrow_nil ?_
          intro w1 hg hh
          have HG1 := Lib.hid (HG.out.trans (((Grow.refl _).alloc _).trans hg))
          clear hg hh
          go_wp2
          go_ret
          exact GoodQ.no (HGW.out.trans HG1.out)
        | true =>
          simp only [Act.put, List.setIfInBounds_toArray, List.set_cons_zero, List.set_cons_succ, Nat.reduceAdd]
          repeat (first
            | (refine wpGrow_skip (by rfl) ?_; simp only [Act.put, List.setIfInBounds_toArray, List.set_cons_zero, List.set_cons_succ, Nat.reduceAdd])
            | (refine wpGrow_det' (by rfl) (by rfl) ?_; apply Exists.intro; refine ⟨fun w' hc hh => ?_, ?_⟩; (have hcell := grow_cell hc; clear hc hh; go_simp; rfl); simp only [Act.put, List.setIfInBounds_toArray, List.set_cons_zero, List.set_cons_succ, Nat.reduceAdd]))
          refine wpGrow_eff' (by rfl) (by rfl) (fun w' hc hh => ?_) (fun v lo hi w' hap hc hh hv => ?_)
          · have HX := Lib.hid hc
            clear hc hh
            go_simp
            go_at_call 92
            refine (HLAY.out _ (((Grow.refl _).alloc _).trans HX.out)).mono ?_
            rintro e w5 ⟨rfl, hg5⟩
            exact EffPost.mk hg5 rfl
          subst hv
          clear hc hh hap w'
          simp only [Act.put, List.setIfInBounds_toArray, List.set_cons_zero, List.set_cons_succ, Nat.reduceAdd]
          repeat (first
            | (refine wpGrow_skip (by rfl) ?_; simp only [Act.put, List.setIfInBounds_toArray, List.set_cons_zero, List.set_cons_succ, Nat.reduceAdd])
            | (refine wpGrow_det' (by rfl) (by rfl) ?_; apply Exists.intro; refine ⟨fun w' hc hh => ?_, ?_⟩; (have hcell := grow_cell hc; clear hc hh; go_simp; rfl); simp only [Act.put, List.setIfInBounds_toArray, List.set_cons_zero, List.set_cons_succ, Nat.reduceAdd]))
          refine wpGrow_nil ?_
          intro w1 hg hh
          have HG1 := Lib.hid (HG.out.trans (((Grow.refl _).alloc _).trans hg))
          clear hg hh
          go_wp2
          · go_ret
            exact GoodQ.no (HGW.out.trans HG1.out)
          · go_roundw
            case rel => exact ⟨q + 1, by omega, by go_num, HG1.out, HALL.out.snoc HQ.out (HR5.out rfl) (fun _ => by first | assumption | (simp_all; done))⟩
            case measure => simp [intOf]; omega
end Go.Proofs.Ytemobphkgbhhhaa
namespace Go.Proofs.Ytemobphkgbhhhaa
open Go.ChangeShapes Go.WideShapes Go.ChangeAt Go.RowKit Go.GrowR
set_option linter.unusedVariables false
set_option linter.unusedSimpArgs false
set_option maxHeartbeats 2000000 in
theorem weight0 (k l r most : Int) (A B A4 : Option Addr) (n c m d c4 : Nat) (e2 : Value) (nss : List (List Int)) (w : World) (he2 : ISSl e2 nss w) (hn : n ≤ 2147483647) (hm : m ≤ 2147483647) (hl : nss.length ≤ 2147483647)
    (hl2 : ∀ (i : Nat) (xs : List Int), nss[i]? = some xs → xs.length ≤ 2147483647) :
    Calls Try.prog 88 #[GeoF k l r (.slice A n c) (.slice B m d) e2 (.slice A4 0 c4), .int .i64 most] w (Told' (.int .i64 (weightD n m nss : Nat)) w) := by
  obtain ⟨E, c2, rfl, -, hE⟩ := SlE.form he2
  have HE := Lib.hid hE; clear hE he2
  have hb : ∀ k, lens (nss.take k) ≤ k * 2147483648 := fun k => lens_le (M := 2147483647) hl2 k
  have HB := Lib.hid hb; clear hb
  have HL2 := Lib.hid hl2; clear hl2
  go_enter Try.func88, Try.ntmps88
  go_wp2
  go_loop [5, 21] (fun s i => ∃ k : Nat, k ≤ nss.length ∧ i = .int .i64 k ∧ s = .int .i64 ((1 + n + m + lens (nss.take k) : Nat) : Int)) (fun _ i => nss.length - (intOf i).toNat)
  case atStart => exact ⟨0, Nat.zero_le _, rfl, by simp [lens]⟩
  case round =>
    obtain ⟨j, hj, rfl, rfl⟩ := hrel
    by_cases hlt : j < nss.length
    · obtain ⟨p, hp⟩ : ∃ p, nss[j]? = some p := ⟨nss[j], by simp [hlt]⟩
      rcases HE.out with h0 | ⟨b, o, rfl, hcell⟩
      · exfalso; subst h0; simp at hlt
      obtain ⟨z, hz, hzz⟩ := hcell j p hp
      obtain ⟨A1, c1, rfl, -, -⟩ := SlE.form hzz
      have hz' := up_cell hz ((Grow.refl w).alloc (Obj.cells #[.int .i64 k, .int .i64 l, .int .i64 r, .slice A n c, .slice B m d, .slice (some ⟨b, o, none⟩) nss.length c2, .slice A4 0 c4] 28))
      have hpl := HL2.out j p hp
      have hbj := HB.out j
      have HS := Lib.hid (lens_succ hp)
      clear hcell hp hzz hz
      go_wp2
      go_round
      case rel => exact ⟨j + 1, by omega, by go_num, by rw [HS.out]; go_num⟩
      case measure => simp [intOf]; omega
    · have hje : j = nss.length := by omega
      have HJ := Lib.hid hje; clear hje
      have hbj := HB.out j
      go_wp2
      go_loop [5, 34] (fun s i => i = .int .i64 0 ∧ s = .int .i64 ((1 + n + m + lens (nss.take j) : Nat) : Int)) (fun _ _ => 0)
      case atStart => exact ⟨rfl, rfl⟩
      case round =>
        obtain ⟨rfl, rfl⟩ := hrel
        go_wp2
        go_ret
        refine Told'.mk ?_ ((Grow.refl w).alloc _)
        have ht : nss.take j = nss := List.take_of_length_le (by have := HJ.out; omega)
        unfold weightD
        rw [ht]; rfl

inductive LayF (most : Int) : GT → Prop
  | mk {k l r : Int} {fl : List Nat} {en : List Int} {ens : List (List Int)} {kids : List GT} (h0 : l ≤ most) (h1 : 1 ≤ l ∨ (k = 7 ∧ 0 ≤ l)) (h2 : ∀ g ∈ kids, LayF most g) : LayF most (.mk k l r fl en ens kids)
def LayQ (most : Int) (g : GT) (w : World) (e : Ending) (w' : World) : Prop := ∃ r : Bool, e = .returned (.bool r) ∧ Grow w w' ∧ (r = true → LayF most g)
theorem LayQ.no {most : Int} {g : GT} {w w' : World} (h : Grow w w') : LayQ most g w (.returned (.bool false)) w' := ⟨false, rfl, h, fun h => by cases h⟩
def KidsLay (most : Int) (kids : List GT) (q : Nat) : Prop := ∀ (j : Nat) (g : GT), j < q → kids[j]? = some g → LayF most g
theorem KidsLay.snoc {most : Int} {kids : List GT} {q : Nat} {kid : GT} (h : KidsLay most kids q) (hq : kids[q]? = some kid) (h1 : LayF most kid) : KidsLay most kids (q + 1) := fun j g hj hg => by
  rcases Nat.lt_or_ge j q with hlt | hge
  · exact h j g hlt hg
  · obtain rfl : j = q := by omega
    rw [hq] at hg; cases hg; exact h1
set_option maxRecDepth 100000 in
set_option maxHeartbeats 8000000 in
theorem layoutsT (most : Int) : ∀ (g : GT) (v : Value) (w : World), Reach44 g → GV g v w → Calls Try.prog 46 #[v, .int .i64 most] w (LayQ most g w) := by
  refine GT.ind fun k l r fl en ens kids ih v w hr hv => ?_
  obtain ⟨-, -, -, r3, -, -, -, -, -, r8⟩ := hr
  have hvf := hv
  obtain ⟨k', l', r', A1, n1, c1, A2, n2, c2, A3, n3, c3, A4, n4, c4, rfl⟩ := hvf.form
  unfold GV at hv
  obtain ⟨u, e1, e2, A, c, he, -, -, -, -, hk⟩ := hv
  simp only [Value.agg.injEq, Array.mk.injEq, List.cons.injEq, Value.int.injEq, Value.slice.injEq, true_and, and_true] at he
  obtain ⟨rfl, rfl, rfl, -, -, -, rfl, rfl, rfl⟩ := he
  have HK := Lib.hid hk; have IH := Lib.hid ih; have R8 := Lib.hid r8
  clear hk ih r8 hvf
  obtain ⟨W, hW⟩ : ∃ W, W = w.alloc (Obj.cells #[.int .i64 k', .int .i64 l', .int .i64 r', .slice A1 n1 c1, .slice A2 n2 c2, .slice A3 n3 c3, .slice A4 kids.length c4] 28) := ⟨_, rfl⟩
  have HGW : Hid (Grow w W) := by rw [hW]; exact (Grow.refl w).alloc _
  have D0 := Lib.hid (show W.cell? ⟨w.heap.size, 0, none⟩ = some (.int .i64 k') by rw [hW]; go_simp)
  have D1 := Lib.hid (show W.cell? ⟨w.heap.size, 1, none⟩ = some (.int .i64 l') by rw [hW]; go_simp)
  have HWE := Lib.hid hW; clear hW
  go_enter Try.func46, Try.ntmps46
  go_wp2
  rw [← HWE.out]
  clear HWE
  go_loopw [10] (fun i wr => ∃ (j : Nat), j ≤ kids.length ∧ i = .int .i64 j ∧ KidsLay most kids j ∧ Grow W wr) (fun i _ => kids.length - (intOf i).toNat)
  case atStart => exact ⟨0, Nat.zero_le _, rfl, fun j g hj => by omega, Grow.refl _⟩
  case round =>
    obtain ⟨q, hq, rfl, hall, hg⟩ := hrel
    have HG := Lib.hid hg; have HALL := Lib.hid hall
    clear hall
    by_cases hlt2 : q < kids.length
    · obtain ⟨kid, hkid⟩ : ∃ p, kids[q]? = some p := ⟨kids[q], by simp [hlt2]⟩
      obtain ⟨b, o, rfl, hgk⟩ := gk_some HK.out hlt2
      have gw := HGW.out.trans hg
      obtain ⟨k2', l2', r2', A1', n1', c1', A2', n2', c2', A3', n3', c3', A4', n4', c4', h7, hv⟩ := kid_at hgk hkid
      obtain ⟨k0, k1, k2, k3, k4, k5, k6⟩ := Seven.up _ _ h7 gw
      have HKID := Lib.hid (fun w' (hw : Grow wr w') => IH.out kid (List.mem_of_getElem? hkid) _ w' (R8.out kid (List.mem_of_getElem? hkid)) (GV.up _ _ _ _ hv (gw.trans hw)))
      have HQ := Lib.hid hkid
      clear hv hgk hkid gw hg h7
      have hq1 : IntKind.i64.wrap ((q : Int) + 1) = (q : Int) + 1 := IntWalk.i64_in _ (by omega)
      go_wp2_with (go_at_call 46; refine (HKID.out _ ((Grow.refl _).alloc _)).mono ?_; rintro e w5 ⟨r5, rfl, hg5, hr5⟩; have HG5 := Lib.hid (HG.out.trans (((Grow.refl _).alloc _).trans hg5)); have HR5 := Lib.hid hr5; clear hg5 hr5; cases r5)
      · go_ret
        exact LayQ.no (HGW.out.trans HG5.out)
      · go_roundw
        case rel => exact ⟨q + 1, by omega, by go_num, HALL.out.snoc HQ.out (HR5.out (by first | rfl | trivial)), HG5.out⟩
        case measure => simp [intOf]; omega
    · have hqe : q = kids.length := by omega
      have HQ := Lib.hid hqe
      have d0 := up_cell D0.out hg; have d1 := up_cell D1.out hg
      clear hqe hg
      have HF : Hid (∀ (h0 : l' ≤ most) (h1 : 1 ≤ l' ∨ (k' = 7 ∧ 0 ≤ l')), LayF most (.mk k' l' r' fl en ens kids)) := fun h0 h1 => .mk h0 h1 (fun g hg => by
        obtain ⟨i, hi⟩ := List.mem_iff_getElem?.1 hg
        exact HALL.out i g (by have := (List.getElem?_eq_some_iff.1 hi).1; have := HQ.out; omega) hi)
      by_cases h0 : l' ≤ most
      · by_cases h1 : 1 ≤ l'
        · go_wp2
          go_ret
          exact ⟨_, rfl, HGW.out.trans HG.out, fun _ => HF.out h0 (.inl h1)⟩
        · by_cases h7 : k' = 7
          · subst h7
            by_cases h2 : 0 ≤ l'
            · go_wp2
              go_ret
              exact ⟨_, rfl, HGW.out.trans HG.out, fun _ => HF.out h0 (.inr ⟨by first | rfl | trivial, h2⟩)⟩
            · go_wp2
              go_ret
              exact LayQ.no (HGW.out.trans HG.out)
          · have e7 : (k' == 7) = false := by rw [beq_eq_false_iff_ne]; exact h7
            go_wp2
            go_ret
            exact LayQ.no (HGW.out.trans HG.out)
      · go_wp2
        go_ret
        exact LayQ.no (HGW.out.trans HG.out)
/-- the own lists of a geometry are short -/
def Small31 : GT → Prop
  | .mk k l r fl en ens kids => fl.length ≤ 2147483647 ∧ en.length ≤ 2147483647 ∧ ens.length ≤ 2147483647 ∧ (∀ x ∈ ens, x.length ≤ 2147483647) ∧ kids.length ≤ 2147483647
/-- small, as far as it has no parts -/
def Weight0 : GT → Prop
  | .mk k l r fl en ens kids => kids = [] → weightD fl.length en.length ens ≤ 2000
def SmallQ (g : GT) (w : World) (e : Ending) (w' : World) : Prop := ∃ r : Bool, e = .returned (.bool r) ∧ Grow w w' ∧ (r = true → LayF 9 g ∧ (Small31 g → Weight0 g))
theorem SmallQ.no {g : GT} {w w' : World} (h : Grow w w') : SmallQ g w (.returned (.bool false)) w' := ⟨false, rfl, h, fun h => by cases h⟩
/-- Weight's number, where it is known -/
def WgQ (g : GT) (w : World) (e : Ending) (w' : World) : Prop := ∃ n : Int, e = .returned (.int .i64 n) ∧ Grow w w' ∧ (Small31 g → Weight0 g ∨ (2000 < n ∧ n ≤ 9223372036854775807))
theorem weightQ (g : GT) (v : Value) (w : World) (hr : Reach44 g) (hv : GV g v w) : Calls Try.prog 88 #[v, .int .i64 2000] w (WgQ g w) := by
  by_cases hs : Small31 g
  case neg => exact (weightT g v 2000 w hr hv).mono fun e w' ⟨n, h1, h2⟩ => ⟨n, h1, h2, fun h => absurd h hs⟩
  obtain ⟨k, l, r, fl, en, ens, kids⟩ := g
  cases kids with
  | cons g0 gs => exact (weightT _ v 2000 w hr hv).mono fun e w' ⟨n, h1, h2⟩ => ⟨n, h1, h2, fun _ => .inl (fun h => by cases h)⟩
  | nil =>
    obtain ⟨s1, s2, s3, s4, -⟩ := hs
    unfold GV at hv
    obtain ⟨u, e1, e2, A, c, rfl, -, hfl, hen, hens, -⟩ := hv
    obtain ⟨Af, cf, rfl, -, -⟩ := hfl
    obtain ⟨Ae, ce, rfl, -, -⟩ := SlE.form hen
    exact (weight0 k l r 2000 Af Ae A fl.length cf en.length ce c _ ens w hens s1 s2 s3 (fun i xs hi => s4 xs (List.mem_of_getElem? hi))).mono fun e w' ⟨h1, h2⟩ => ⟨_, h1, h2, fun _ => by
      have hb := lens_le (M := 2147483647) (nss := ens) (fun i xs hi => s4 xs (List.mem_of_getElem? hi)) ens.length
      rw [List.take_length] at hb
      have hb2 : ens.length * (1 + 2147483647) ≤ 2147483647 * (1 + 2147483647) := Nat.mul_le_mul_right _ s3
      by_cases hn : weightD fl.length en.length ens ≤ 2000
      · exact .inl (fun _ => hn)
      · right; unfold weightD at hn ⊢; omega⟩

set_option maxRecDepth 100000 in
set_option maxHeartbeats 8000000 in
theorem gSmallT (g : GT) (b c0 : Nat) (k l r : Int) (A1 : Option Addr) (n1 c1 : Nat) (A2 : Option Addr) (n2 c2 : Nat) (A3 : Option Addr) (n3 c3 : Nat) (A4 : Option Addr) (n4 c4 : Nat) (w : World) (hr : Reach44 g) (h7 : Seven b 0 k l r A1 n1 c1 A2 n2 c2 A3 n3 c3 A4 n4 c4 w) (hv : GV g (Geo7 k l r A1 n1 c1 A2 n2 c2 A3 n3 c3 A4 n4 c4) w) :
    Calls Try.prog 48 #[.slice (some ⟨b, 0, none⟩) 1 c0] w (SmallQ g w) := by
  have HW := Lib.hid (fun w' (hw : Grow w w') => weightQ g _ w' hr (GV.up _ _ _ _ hv hw))
  have HL := Lib.hid (fun w' (hw : Grow w w') => layoutsT 9 g _ w' hr (GV.up _ _ _ _ hv hw))
  have H7 := Lib.hid h7
  clear h7 hv
  go_enter Try.func48, Try.ntmps48
  go_wp2
  go_loopw [3, 8] (fun s i wr => (i = .int .i64 0 ∧ s = .int .i64 2000 ∧ wr = w) ∨ (i = .int .i64 1 ∧ Grow w wr ∧ LayF 9 g ∧ (Small31 g → Weight0 g))) (fun _ i _ => 1 - (intOf i).toNat)
  case atStart => exact .inl ⟨rfl, rfl, rfl⟩
  case round =>
    rcases hrel with ⟨rfl, rfl, rfl⟩ | ⟨rfl, hg, h1, h2⟩
    · obtain ⟨k0, k1, k2, k3, k4, k5, k6⟩ := H7.out
      simp only [Nat.zero_add] at k1 k2 k3 k4 k5 k6
      go_wp2_with fail
      refine (HW.out _ ((Grow.refl _).alloc _)).mono ?_
      rintro e w1 ⟨n, rfl, hg1, hn⟩
      have HN := Lib.hid hn
      obtain ⟨q0, q1, q2, q3, q4, q5, q6⟩ : Seven wr.heap.size 0 k l r A1 n1 c1 A2 n2 c2 A3 n3 c3 A4 n4 c4 w1 := ⟨up_cell (by go_simp) hg1, up_cell (by go_simp) hg1, up_cell (by go_simp) hg1, up_cell (by go_simp) hg1, up_cell (by go_simp) hg1, up_cell (by go_simp) hg1, up_cell (by go_simp) hg1⟩
      simp only [Nat.zero_add] at q1 q2 q3 q4 q5 q6
      have HG1 := Lib.hid (((Grow.refl wr).alloc _).trans hg1)
      clear hn hg1 k0 k1 k2 k3 k4 k5 k6
      obtain ⟨m, hm⟩ : ∃ m, IntKind.i64.wrap (2000 - n) = m := ⟨_, rfl⟩
      have HM := Lib.hid hm
      by_cases hneg : m < 0
      · go_wp2
        go_ret
        exact SmallQ.no HG1.out
      · have HW0 : Hid (Small31 g → Weight0 g) := fun hs => by
          rcases HN.out hs with h | ⟨h1, h2⟩
          · exact h
          · exfalso
            have := HM.out
            rw [IntWalk.i64_in (2000 - n) (by omega)] at this
            omega
        go_wp2_with (go_at_call 46; refine (HL.out _ HG1.out).mono ?_; rintro e w5 ⟨r5, rfl, hg5, hr5⟩; have HG5 := Lib.hid (HG1.out.trans hg5); have HR5 := Lib.hid hr5; clear hg5 hr5; cases r5)
        · go_ret
          exact SmallQ.no HG5.out
        · go_roundw
          case rel => exact .inr ⟨by first | rfl | go_num, HG5.out, HR5.out (by first | rfl | trivial), HW0.out⟩
          case measure => simp [intOf]
    · go_wp2
      go_ret
      exact ⟨true, rfl, hg, fun _ => ⟨h1, h2⟩⟩
end Go.Proofs.Ytemobphkgbhhhaa
namespace Go.Proofs.Ytemobphkgbhhhaa
open Go.ChangeShapes Go.WideShapes Go.ChangeAt Go.RowKit Go.GrowR
set_option linter.unusedVariables false
set_option linter.unusedSimpArgs false

/-- what gGood tells -/
def GGood (g : GT) : Prop := GoodF g ∧ LayF 9 g ∧ (Small31 g → Weight0 g)
def GGoodQ (g : GT) (w : World) (e : Ending) (w' : World) : Prop := ∃ r : Bool, e = .returned (.bool r) ∧ Grow w w' ∧ (r = true → GGood g)
theorem GGoodQ.no {g : GT} {w w' : World} (h : Grow w w') : GGoodQ g w (.returned (.bool false)) w' := ⟨false, rfl, h, fun h => by cases h⟩
set_option maxRecDepth 100000 in
set_option maxHeartbeats 8000000 in
theorem gGoodT (g : GT) (b c0 : Nat) (k l r : Int) (A1 : Option Addr) (n1 c1 : Nat) (A2 : Option Addr) (n2 c2 : Nat) (A3 : Option Addr) (n3 c3 : Nat) (A4 : Option Addr) (n4 c4 : Nat) (w : World) (hr : Reach44 g) (h7 : Seven b 0 k l r A1 n1 c1 A2 n2 c2 A3 n3 c3 A4 n4 c4 w) (hv : GV g (Geo7 k l r A1 n1 c1 A2 n2 c2 A3 n3 c3 A4 n4 c4) w) :
    Calls Try.prog 28 #[.slice (some ⟨b, 0, none⟩) 1 c0] w (GGoodQ g w) := by
  have HW := Lib.hid (fun w' (hw : Grow w w') => gSmallT g b c0 k l r A1 n1 c1 A2 n2 c2 A3 n3 c3 A4 n4 c4 w' hr (Seven.up _ _ h7 hw) (GV.up _ _ _ _ hv hw))
  have HL := Lib.hid (fun w' (hw : Grow w w') => goodT g _ w' hr (GV.up _ _ _ _ hv hw))
  have H7 := Lib.hid h7
  clear h7 hv
  go_enter Try.func28, Try.ntmps28
  go_wp2_with fail
  refine (HW.out _ (Grow.refl _)).mono ?_
  rintro e w1 ⟨r1, rfl, hg1, hr1⟩
  have HG1 := Lib.hid hg1; have HR1 := Lib.hid hr1
  clear hg1 hr1
  cases r1 with
  | false =>
    go_wp2
    go_ret
    exact GGoodQ.no HG1.out
  | true =>
    go_wp2
    go_loopw [10] (fun i wr => (i = .int .i64 0 ∧ Grow w1 wr) ∨ (i = .int .i64 1 ∧ Grow w1 wr ∧ GoodF g)) (fun i _ => 1 - (intOf i).toNat)
    case atStart => exact .inl ⟨rfl, Grow.refl _⟩
    case round =>
      rcases hrel with ⟨rfl, hg⟩ | ⟨rfl, hg, h1⟩
      · obtain ⟨k0, k1, k2, k3, k4, k5, k6⟩ := Seven.up _ _ H7.out (HG1.out.trans hg)
        simp only [Nat.zero_add] at k1 k2 k3 k4 k5 k6
        have HG := Lib.hid (HG1.out.trans hg)
        have HG0 := Lib.hid hg
        clear hg
        go_wp2_with (go_at_call 54; refine (HL.out _ (HG.out.trans ((Grow.refl _).alloc _))).mono ?_; rintro e w5 ⟨r5, rfl, hg5, hr5⟩; have HG5 := Lib.hid (((Grow.refl wr).alloc _).trans hg5); have HR5 := Lib.hid hr5; clear hg5 hr5; cases r5)
        · go_ret
          exact GGoodQ.no (HG.out.trans HG5.out)
        · go_roundw
          case rel => exact .inr ⟨by first | rfl | go_num, HG0.out.trans HG5.out, HR5.out (by first | rfl | trivial)⟩
          case measure => simp [intOf]
      · have H1 := Lib.hid h1; have HG := Lib.hid hg
        clear h1 hg
        go_wp2
        go_ret
        exact ⟨true, rfl, HG1.out.trans HG.out, fun _ => ⟨H1.out, HR1.out (by first | rfl | trivial)⟩⟩
def FitsQ (b : Prop) (w : World) (e : Ending) (w' : World) : Prop := ∃ r : Bool, e = .returned (.bool r) ∧ Grow w w' ∧ (r = true → b)
theorem FitsQ.no {b : Prop} {w w' : World} (h : Grow w w') : FitsQ b w (.returned (.bool false)) w' := ⟨false, rfl, h, fun h => by cases h⟩
set_option maxHeartbeats 4000000 in
theorem fits3_calls (u : Value) (ens : List (List Int)) (w : World) (hu : ISSl u ens w) (hl : ens.length ≤ 17592186044416) (hl2 : ∀ x ∈ ens, x.length ≤ 17592186044416) :
    Calls Try.prog 7 #[u] w (FitsQ (ens.length ≤ 2147483647 ∧ ∀ x ∈ ens, x.length ≤ 2147483647) w) := by
  have HU := Lib.hid hu; have HL2 := Lib.hid hl2
  obtain ⟨A, c, rfl, -, -⟩ := SlE.form hu
  clear hu hl2
  by_cases h1 : 2147483647 < ens.length
  · go_enter Try.func7, Try.ntmps7
    go_wp2
    go_ret
    exact FitsQ.no (Grow.refl _)
  have L1 := Lib.hid (show ens.length ≤ 2147483647 by omega)
  go_enter Try.func7, Try.ntmps7
  go_wp2
  go_loop [4, 10] (fun x i => ∃ k : Nat, i = .int .i64 k ∧ k ≤ ens.length ∧ ∀ (j : Nat) (x : List Int), j < k → ens[j]? = some x → x.length ≤ 2147483647) (fun _ i => ens.length - (intOf i).toNat)
  case atStart => exact ⟨0, rfl, Nat.zero_le _, by intro i xs h; omega⟩
  case round =>
    obtain ⟨k, rfl, hk, hall⟩ := hrel
    have HL := Lib.hid hall; clear hall
    by_cases hlt : k < ens.length
    case neg =>
      go_wp2
      go_ret
      exact ⟨true, rfl, Grow.refl _, fun _ => ⟨L1.out, fun x hx => by
        obtain ⟨i, hi⟩ := List.mem_iff_getElem?.1 hx
        exact HL.out i x (by have := (List.getElem?_eq_some_iff.1 hi).1; omega) hi⟩⟩
    case pos =>
      obtain ⟨p, hp⟩ : ∃ p, ens[k]? = some p := ⟨ens[k], by simp [hlt]⟩
      have hpl := HL2.out p (List.mem_of_getElem? hp)
      obtain ⟨b, o, A1, c1, n1, he, hc, -⟩ := iss_at HU.out hp
      simp only [Value.slice.injEq] at he
      obtain ⟨rfl, -, -⟩ := he
      have HP := Lib.hid hp
      clear hp h1
      by_cases h2 : 2147483647 < p.length
      case pos =>
        go_wp2
        go_ret
        exact FitsQ.no (Grow.refl _)
      case neg =>
        have H2 := Lib.hid h2
        go_wp2
        go_round
        case rel =>
          refine ⟨k + 1, by go_num, by omega, fun i xs hi hx => ?_⟩
          rcases Nat.lt_or_ge i k with h | h
          · exact HL.out i xs h hx
          · obtain rfl : i = k := by omega
            have h3 := HP.out
            rw [hx] at h3; cases h3
            have := H2.out; omega
        case measure => simp [intOf]; omega
set_option maxRecDepth 100000 in
set_option maxHeartbeats 4000000 in
theorem fits2_calls : ∀ (g : GT) (v : Value) (w : World), Reach44 g → GV g v w → Calls Try.prog 14 #[v] w (FitsQ (Small31 g) w)
  | .mk k l r fl en ens kids, v, w, hr, hv => by
    obtain ⟨r0, r1, r2, r3, -, r5, -, -, -, -⟩ := hr
    have hvf := hv
    obtain ⟨k', l', r', A1, n1, c1, A2, n2, c2, A3, n3, c3, A4, n4, c4, rfl⟩ := hvf.form
    unfold GV at hv
    obtain ⟨u, e1, e2, A, c, he, -, hfl, hen, hens, -⟩ := hv
    simp only [Value.agg.injEq, Array.mk.injEq, List.cons.injEq, Value.int.injEq, Value.slice.injEq, true_and, and_true] at he
    obtain ⟨rfl, rfl, rfl, he1, he2, he3, rfl, rfl, rfl⟩ := he
    have q1 : n1 = fl.length := by obtain ⟨_, _, h, _⟩ := hfl; rw [← he1] at h; cases h; rfl
    have q2 : n2 = en.length := by obtain ⟨_, _, h, _⟩ := SlE.form hen; rw [← he2] at h; cases h; rfl
    subst q1 q2 he3
    have HF := Lib.hid (fun w' (hw : Grow w w') => fits3_calls _ ens w' (ISSl.up _ _ hens hw) (by omega) r5)
    clear hvf hens hfl hen he1 he2 r5
    by_cases h1 : 2147483647 < fl.length
    · go_enter Try.func14, Try.ntmps14
      go_wp2
      go_ret
      exact FitsQ.no ((Grow.refl w).alloc _)
    by_cases h2 : 2147483647 < en.length
    · go_enter Try.func14, Try.ntmps14
      go_wp2
      go_ret
      exact FitsQ.no ((Grow.refl w).alloc _)
    have L1 : Hid (fl.length ≤ 2147483647 ∧ en.length ≤ 2147483647) := ⟨by omega, by omega⟩
    go_enter Try.func14, Try.ntmps14
    go_wp2_with fail
    refine (HF.out _ ((Grow.refl w).alloc _)).mono ?_
    rintro e w1 ⟨r1, rfl, hg1, hr1⟩
    have d6 := up_cell (a := ⟨w.heap.size, 6, none⟩) (v := .slice A4 kids.length c4) (by go_simp) hg1
    have HG1 := Lib.hid (((Grow.refl w).alloc _).trans hg1); have HR1 := Lib.hid hr1
    clear hg1 hr1 h1 h2
    cases r1 with
    | false =>
      go_wp2
      go_ret
      exact FitsQ.no HG1.out
    | true =>
      by_cases h3 : 2147483647 < kids.length
      · go_wp2
        go_ret
        exact FitsQ.no HG1.out
      · go_wp2
        go_ret
        exact ⟨true, rfl, HG1.out, fun _ => ⟨L1.out.1, L1.out.2, (HR1.out (by first | rfl | trivial)).1, (HR1.out (by first | rfl | trivial)).2, by omega⟩⟩
end Go.Proofs.Ytemobphkgbhhhaa
