import Derived.Test.YtcpdhkbmfgphpaaHkS
namespace Go.Proofs.Ytcpdhkbmfgphpaa
open Go.ChangeShapes Go.WideShapes Go.ChangeAt Go.RowKit Go.GrowR
set_option linter.unusedVariables false
set_option linter.unusedSimpArgs false

def CL (A : Option Addr) (n : Nat) (f : Nat → Nat) (w : World) : Prop := ∀ k, k < n → ∃ b o, A = some ⟨b, o, none⟩ ∧ w.cell? ⟨b, o + k, none⟩ = some (.float .f64 (f k))
theorem CL.up {A : Option Addr} {n : Nat} {f : Nat → Nat} : Up (CL A n f) := fun _ _ h hg k hk => by obtain ⟨b, o, e, hc⟩ := h k hk; exact ⟨b, o, e, up_cell hc hg⟩
theorem CL.less {A : Option Addr} {n m : Nat} {f : Nat → Nat} {w : World} (h : CL A n f w) (hm : m ≤ n) : CL A m f w := fun k hk => h k (by omega)
theorem row_CL {e : TypeId} {B n c : Nat} {A : Option Addr} {f : Nat → Nat} {w : World} (h : VOwn e B (.slice A n c) (fl f n) w) : CL A n f w ∧ n ≤ c := by
  rcases h.2 with ⟨e1, h0⟩ | ⟨g, cap, cur, e1, hb, hh, hr⟩
  · rw [fl_len] at h0; subst h0
    exact ⟨fun k hk => by omega, Nat.zero_le _⟩
  · rw [fl_len] at e1
    cases e1
    refine ⟨fun k hk => ⟨g, 0, rfl, ?_⟩, by have := hr.1; rwa [fl_len] at this⟩
    rw [Nat.zero_add, row_at h (fl_len _ _).symm k hk, fl_at _ hk]
def UpQ (A : Option Addr) (n c : Nat) (f : Nat → Nat) (d : Nat) (w : World) (e : Ending) (w' : World) : Prop := ∃ (m : Nat), e = .returned (.slice A m c) ∧ m ≤ n ∧ Grow w w' ∧ (∀ k, k < m → vq (f k) ≤ vq d) ∧ (m < n → ¬ vq (f m) ≤ vq d)
theorem le_vq {x y : Nat} (hx : finB x = true) (hy : finB y = true) : (FloatKind.f64.format.order x y == some .lt || FloatKind.f64.format.order x y == some .eq) = decide (vq x ≤ vq y) := Fl.le_V (V_vq hx) (V_vq hy)
theorem ne_vq {x y : Nat} (hx : finB x = true) (hy : finB y = true) (h : vq x = vq y) : (FloatKind.f64.format.order x y != some .eq) = false := by rw [Fl.ne_V (V_vq hx) (V_vq hy)]; simp [h]
theorem eq_vq {x y : Nat} (hx : finB x = true) (hy : finB y = true) (h : vq x = vq y) : (FloatKind.f64.format.order x y == some .eq) = true := by rw [Fl.eq_V (V_vq hx) (V_vq hy)]; simp [h]
set_option maxRecDepth 100000 in
set_option maxHeartbeats 4000000 in
theorem upTo_calls (A : Option Addr) (n c d : Nat) (f : Nat → Nat) (w : World) (hc : CL A n f w) (hnc : n ≤ c) (hf : ∀ k, k < n → finB (f k) = true) (hd : finB d = true) (hn : n ≤ 200) : Calls Try.prog 24 #[.slice A n c, .float .f64 d] w (UpQ A n c f d w) := by
  have HC := Lib.hid hc; have HF := Lib.hid hf; have HD := Lib.hid hd
  clear hc hf hd
  go_enter Try.func24, Try.ntmps24
  go_wp2
  go_loopw [5] (fun i wr => ∃ k : Nat, i = .int .i64 k ∧ k ≤ n ∧ Grow w wr ∧ ∀ a, a < k → vq (f a) ≤ vq d) (fun i _ => n - (intOf i).toNat)
  case atStart => exact ⟨0, rfl, Nat.zero_le _, Grow.refl _, fun a ha => by omega⟩
  case round =>
    obtain ⟨k, rfl, hk, hg, hle⟩ := hrel
    have HG := Lib.hid hg; have HLE := Lib.hid hle
    clear hg hle
    by_cases hlt : k < n
    case neg =>
      have hkn : k = n := by omega
      subst hkn
      go_wp2
      go_ret
      exact ⟨k, rfl, Nat.le_refl _, HG.out, HLE.out, fun h => by omega⟩
    case pos =>
      obtain ⟨b, o, rfl, hc⟩ := HC.out k hlt
      have hcc := up_cell hc HG.out
      have t1 := le_vq (HF.out k hlt) HD.out
      clear hc
      have hk3 : (k : Int) < (n : Int) := by omega
      by_cases hl : vq (f k) ≤ vq d
      · have HN : Hid (∀ a, a < k + 1 → vq (f a) ≤ vq d) := fun a ha => by
          rcases Nat.lt_or_eq_of_le (Nat.lt_succ_iff.1 ha) with h | rfl
          · exact HLE.out a h
          · exact hl
        rw [decide_eq_true hl] at t1
        clear hl
        generalize f k = x at *
        go_wp2
        go_roundw
        case rel => exact ⟨k + 1, by go_num, by omega, HG.out, HN.out⟩
        case measure => simp [intOf]; omega
      · have HN := Lib.hid hl
        rw [decide_eq_false hl] at t1
        clear hl
        obtain ⟨x, hx⟩ : ∃ x, x = f k := ⟨_, rfl⟩
        rw [← hx] at hcc t1
        clear hx
        go_wp2
        go_ret
        exact ⟨k, rfl, by omega, HG.out, HLE.out, fun _ => HN.out⟩
set_option maxRecDepth 100000 in
set_option maxHeartbeats 4000000 in
theorem sameF_calls (A B : Option Addr) (n c c' : Nat) (f g : Nat → Nat) (w : World) (hc : CL A n f w) (hc' : CL B n g w) (hf : ∀ k, k < n → finB (f k) = true) (hg : ∀ k, k < n → finB (g k) = true) (he : ∀ k, k < n → vq (f k) = vq (g k)) (hn : n ≤ 200) : Calls Try.prog 20 #[.slice A n c, .slice B n c'] w fun e w' => e = .returned (.bool true) ∧ Grow w w' := by
  have HC := Lib.hid hc; have HF := Lib.hid hf; have HC' := Lib.hid hc'; have HF' := Lib.hid hg; have HE := Lib.hid he
  clear hc hf hc' hg he
  go_enter Try.func20, Try.ntmps20
  go_wp2
  go_loopw [14] (fun i wr => ∃ k : Nat, i = .int .i64 k ∧ k ≤ n ∧ Grow w wr) (fun i _ => n - (intOf i).toNat)
  case atStart => exact ⟨0, rfl, Nat.zero_le _, Grow.refl _⟩
  case round =>
    obtain ⟨k, rfl, hk, hg⟩ := hrel
    have HG := Lib.hid hg
    clear hg
    by_cases hlt : k < n
    case neg =>
      have hkn : k = n := by omega
      subst hkn
      go_wp2
      go_ret
      exact ⟨rfl, HG.out⟩
    case pos =>
      obtain ⟨b, o, rfl, hc⟩ := HC.out k hlt
      obtain ⟨b', o', rfl, hc'⟩ := HC'.out k hlt
      have hcc := up_cell hc HG.out
      have hcc' := up_cell hc' HG.out
      have t1 := ne_vq (HF.out k hlt) (HF'.out k hlt) (HE.out k hlt)
      have t2 := eq_vq (HF.out k hlt) (HF'.out k hlt) (HE.out k hlt)
      clear hc hc'
      have hk3 : (k : Int) < (n : Int) := by omega
      generalize f k = x at *
      generalize g k = y at *
      go_wp2
      go_roundw
      case rel => exact ⟨k + 1, by go_num, by omega, HG.out⟩
      case measure => simp [intOf]; omega
end Go.Proofs.Ytcpdhkbmfgphpaa
