import Derived.Test.YtegknlnkkoeahaaGoodT
import Derived.Test.YtegknlnkkoeahaaFB
namespace Go.Proofs.Ytegknlnkkoeahaa
open Go.ChangeShapes Go.WideShapes Go.ChangeAt Go.RowKit Go.GrowR
set_option linter.unusedVariables false
set_option linter.unusedSimpArgs false
/-- ends that go on from a place and ascend by whole places -/
def EndsOk (s : Int) (single : Bool) : Int → List Int → Prop
  | _, [] => True
  | f, e :: es => f ≤ e ∧ (e - f) % s = 0 ∧ (single = true → e - f ≤ s) ∧ EndsOk s single e es
def lastE : Int → List Int → Int
  | f, [] => f
  | _, e :: es => lastE e es
theorem lastE_snoc : ∀ (l : List Int) (f e : Int), lastE f (l ++ [e]) = e
  | [], _, _ => rfl
  | _ :: l, _, e => lastE_snoc l _ e
theorem endsOk_snoc {s : Int} {single : Bool} : ∀ {l : List Int} {f e : Int}, EndsOk s single f l → lastE f l ≤ e → (e - lastE f l) % s = 0 → (single = true → e - lastE f l ≤ s) → EndsOk s single f (l ++ [e])
  | [], f, e, _, h1, h2, h3 => ⟨h1, h2, h3, trivial⟩
  | a :: l, f, e, ⟨k1, k2, k3, k4⟩, h1, h2, h3 => ⟨k1, k2, k3, endsOk_snoc k4 h1 h2 h3⟩
theorem is_at {e : Value} {ns : List Int} {w : World} (h : ISl e ns w) {j : Nat} {p : Int} (hp : ns[j]? = some p) : ∃ b o n, e = .slice (some ⟨b, o, none⟩) ns.length n ∧ w.cell? ⟨b, o + j, none⟩ = some (.int .i64 p) := by
  obtain ⟨A, c, rfl, -, h'⟩ := SlE.form h
  rcases h' with rfl | ⟨b, o, rfl, h'⟩
  · simp at hp
  · obtain ⟨u, h1, rfl⟩ := h' j p hp
    exact ⟨b, o, c, rfl, h1⟩
theorem wf_le {x : Int} (h : (Lit.int .i64 x).wf = true) : -9223372036854775808 ≤ x ∧ x ≤ 9223372036854775807 := by
  simp [Lit.wf] at h
  exact h
def EndsP (s : Int) (single : Bool) (f : Int) (ns : List Int) (w : World) (e : Ending) (w' : World) : Prop := ∃ (to : Int) (ok : Bool), e = .returned (.tuple #[.int .i64 to, .bool ok]) ∧ w' = w ∧ 0 ≤ to ∧ (ok = true → EndsOk s single f ns ∧ to = lastE f ns)
set_option maxRecDepth 100000 in
set_option maxHeartbeats 4000000 in
theorem goodEnds_calls (u : Value) (ns : List Int) (f s : Int) (single : Bool) (w : World) (hu : ISl u ns w) (hl : ns.length ≤ 17592186044416) (hwf : ∀ x ∈ ns, (Lit.int .i64 x).wf = true) (hf : 0 ≤ f) (hs : 0 < s) :
    Calls Try.prog 84 #[u, .int .i64 f, .int .i64 s, .bool single] w (EndsP s single f ns w) := by
  have HU := Lib.hid hu; have HWF := Lib.hid hwf
  obtain ⟨A, c, rfl, -, -⟩ := SlE.form hu
  clear hu hwf
  have hz : (s == 0) = false := by rw [beq_eq_false_iff_ne]; omega
  have hz2 : ¬ s = 0 := by omega
  go_enter Try.func84, Try.ntmps84
  go_wp2
  go_loop [1, 11, 14] (fun g x i => ∃ (j : Nat) (c : Int), j ≤ ns.length ∧ i = .int .i64 j ∧ g = .int .i64 c ∧ 0 ≤ c ∧ c = lastE f (ns.take j) ∧ EndsOk s single f (ns.take j)) (fun _ _ i => ns.length - (intOf i).toNat)
  case atStart => exact ⟨0, f, Nat.zero_le _, rfl, rfl, hf, by simp [lastE], by simp [EndsOk]⟩
  case round =>
    obtain ⟨j, c, hj, rfl, rfl, h0, hc, hok⟩ := hrel
    have HC := Lib.hid hc; have HOK := Lib.hid hok
    clear hc hok
    by_cases hlt : j < ns.length
    case neg =>
      have hje : j = ns.length := by omega
      have HJ := Lib.hid hje
      clear hje
      go_wp2
      go_ret2
      refine ⟨c, true, rfl, rfl, h0, fun _ => ?_⟩
      have h1 := HC.out; have h2 := HOK.out
      rw [List.take_of_length_le (by have := HJ.out; omega)] at h1 h2
      exact ⟨h2, h1⟩
    case pos =>
      obtain ⟨p, hp⟩ : ∃ p, ns[j]? = some p := ⟨ns[j], by simp [hlt]⟩
      have hpw := wf_le (HWF.out p (List.mem_of_getElem? hp))
      obtain ⟨b, o, n1, he, hcell⟩ := is_at HU.out hp
      simp only [Value.slice.injEq] at he
      obtain ⟨rfl, -, -⟩ := he
      have HP := Lib.hid (show ns.take (j + 1) = ns.take j ++ [p] by rw [List.take_add_one, hp]; rfl)
      clear hp
      obtain ⟨p0, p1⟩ := hpw
      by_cases hlt2 : p < c
      case pos =>
        go_wp2
        go_ret2
        exact ⟨c, false, rfl, rfl, h0, fun h => by cases h⟩
      have hle : c ≤ p := by omega
      have hw1 : IntKind.i64.wrap (p - c) = p - c := IntWalk.i64_in _ (by omega)
      have hd0 : 0 ≤ p - c := by omega
      obtain ⟨d, hd⟩ : ∃ d, d = p - c := ⟨_, rfl⟩
      have HD := Lib.hid hd
      cases hm : ((p - c) % s != 0) with
      | true =>
        have hm2 : ((p - c).tmod s != 0) = true := by rw [Int.tmod_eq_emod_of_nonneg hd0]; exact hm
        clear hd
        go_wp2
        go_ret2
        exact ⟨c, false, rfl, rfl, h0, fun h => by cases h⟩
      | false =>
        have hm2 : ((p - c).tmod s != 0) = false := by rw [Int.tmod_eq_emod_of_nonneg hd0]; exact hm
        have HM := Lib.hid (show (p - c) % s = 0 by simpa using hm)
        clear hd
        cases single with
        | false =>
          go_wp2
          go_round
          case rel => exact ⟨j + 1, p, by omega, by go_num, rfl, by omega, by rw [HP.out, lastE_snoc], by rw [HP.out]; exact endsOk_snoc HOK.out (by rw [← HC.out]; exact hle) (by rw [← HC.out]; exact HM.out) (fun h => by cases h)⟩
          case measure => simp [intOf]; omega
        | true =>
          by_cases hgt : s < p - c
          · go_wp2
            go_ret2
            exact ⟨c, false, rfl, rfl, h0, fun h => by cases h⟩
          · go_wp2
            go_round
            case rel => exact ⟨j + 1, p, by omega, by go_num, rfl, by omega, by rw [HP.out, lastE_snoc], by rw [HP.out]; exact endsOk_snoc HOK.out (by rw [← HC.out]; exact hle) (by rw [← HC.out]; exact HM.out) (fun _ => by rw [← HC.out]; omega)⟩
            case measure => simp [intOf]; omega
theorem endsOk_append {s : Int} {single : Bool} : ∀ {a b : List Int} {f : Int}, EndsOk s single f a → EndsOk s single (lastE f a) b → EndsOk s single f (a ++ b)
  | [], _, _, _, h => h
  | _ :: _, _, _, ⟨h1, h2, h3, h4⟩, h => ⟨h1, h2, h3, endsOk_append h4 h⟩
theorem lastE_append : ∀ (a b : List Int) (f : Int), lastE f (a ++ b) = lastE (lastE f a) b
  | [], _, _ => rfl
  | _ :: a, b, _ => lastE_append a b _
/-- the data of each kind -/
def KindOk (k s : Int) (n : Nat) (en : List Int) (ens : List (List Int)) : Prop :=
  (k = 1 ∧ en = [] ∧ ens = [] ∧ (n : Int) ≤ s) ∨ ((k = 2 ∨ k = 8) ∧ en = [] ∧ ens = []) ∨ ((k = 3 ∨ k = 4 ∨ k = 5) ∧ ens = [] ∧ EndsOk s (k == 4) 0 en ∧ lastE 0 en = n) ∨ (k = 6 ∧ en = [] ∧ EndsOk s false 0 ens.flatten ∧ lastE 0 ens.flatten = n)
/-- good data -/
inductive GoodF : GT → Prop
  | coll {l r : Int} {kids : List GT} (h0 : 0 ≤ l) (h1 : ∀ g ∈ kids, GoodF g) (h2 : ∀ g ∈ kids, l ≠ 0 → layO g = l) : GoodF (.mk 7 l r [] [] [] kids)
  | plain {k l r : Int} {fl : List Nat} {en : List Int} {ens : List (List Int)} (hk : k ≠ 7) (hl : 1 ≤ l) (hm : (fl.length : Int) % strideN l = 0) (hd : KindOk k (strideN l) fl.length en ens) : GoodF (.mk k l r fl en ens [])
end Go.Proofs.Ytegknlnkkoeahaa
