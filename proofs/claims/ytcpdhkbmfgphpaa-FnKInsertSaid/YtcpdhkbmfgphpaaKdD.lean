import Derived.Test.YtcpdhkbmfgphpaaKdC
import Derived.BigRegion
namespace Go.Proofs.Ytcpdhkbmfgphpaa
open Go.ChangeShapes Go.WideShapes Go.ChangeAt Go.RowKit Go.GrowR
set_option linter.unusedVariables false
set_option linter.unusedSimpArgs false

attribute [local go_sem ↓] Go.wp_at_zero Go.wp_at_succ
set_option maxRecDepth 100000 in
set_option maxHeartbeats 4000000 in
theorem from_end (w0 : World) (b n : Nat) (fs : Value) (i a d : Int) (s : Kt.St) (w : World) (hws : WS w0 b n fs s w) (h : i = -1 ∨ s.ok = false) :
    Calls Try.prog 58 #[.int .i64 i, .int .i64 a, .int .i64 d, .pointer (some ⟨b + 4, 0, none⟩), .pointer (some ⟨b, 0, none⟩), .pointer (some ⟨b + 6, 0, none⟩), .pointer (some ⟨b + 1, 0, none⟩), .pointer (some ⟨b + 7, 0, none⟩), .pointer (some ⟨b + 2, 0, none⟩), .pointer (some ⟨b + 3, 0, none⟩)] w (WQ w0 b n fs s) := by
  have HWS := Lib.hid hws
  obtain ⟨-, hlb, c0, c1, ⟨V1, V2, c2, c3, hrows⟩, c4, cb, c6, c7, hfz⟩ := hws
  have HR := Lib.hid hrows
  have f4 := hfz (b + 4) 0 (by omega) (by omega)
  clear hrows
  clear cb hfz
  by_cases h1 : i = -1
  · subst h1
    clear h
    go_enter Try.func58, Try.ntmps58
    go_wp2
    exact bodyPost_end (results_none rfl _ _ _) rfl ⟨rfl, HWS.out⟩
  · have h2 := h.resolve_left h1
    have h3 : (i == -1) = false := by simpa using h1
    rw [h2] at c4
    clear h
    go_enter Try.func58, Try.ntmps58
    go_wp2
    exact bodyPost_end (results_none rfl _ _ _) rfl ⟨rfl, HWS.out⟩

set_option maxRecDepth 100000 in
set_option maxHeartbeats 4000000 in
theorem from_bad (w0 : World) (b n : Nat) (fs : Value) (i a d : Int) (s : Kt.St) (w : World) (hws : WS w0 b n fs s w) (h1 : ¬ i = -1) (h2 : s.ok = true) (ha : -1 ≤ a) (h : i ≤ a ∨ (n : Int) ≤ i ∨ s.seen i.toNat = true) :
    Calls Try.prog 58 #[.int .i64 i, .int .i64 a, .int .i64 d, .pointer (some ⟨b + 4, 0, none⟩), .pointer (some ⟨b, 0, none⟩), .pointer (some ⟨b + 6, 0, none⟩), .pointer (some ⟨b + 1, 0, none⟩), .pointer (some ⟨b + 7, 0, none⟩), .pointer (some ⟨b + 2, 0, none⟩), .pointer (some ⟨b + 3, 0, none⟩)] w (WQ w0 b n fs { s with ok := false }) := by
  have HWS := Lib.hid hws
  obtain ⟨-, hlb, c0, c1, ⟨V1, V2, c2, c3, hrows⟩, c4, cb, c6, c7, hfz⟩ := hws
  have HR := Lib.hid hrows
  have f4 := hfz (b + 4) 0 (by omega) (by omega)
  clear hrows
  clear hfz
  have h3 : (i == -1) = false := by simpa using h1
  rw [h2] at c4
  by_cases h4 : i ≤ a
  · clear cb h
    go_enter Try.func58, Try.ntmps58
    go_wp2
    exact bodyPost_end (results_none rfl _ _ _) rfl ⟨rfl, HWS.out.bad⟩
  by_cases h5 : (n : Int) ≤ i
  · clear cb h
    go_enter Try.func58, Try.ntmps58
    go_wp2
    exact bodyPost_end (results_none rfl _ _ _) rfl ⟨rfl, HWS.out.bad⟩
  · obtain ⟨j, rfl⟩ := Int.eq_ofNat_of_zero_le (a := i) (by omega)
    have h6 : s.seen j = true := by
      have := (h.resolve_left h4).resolve_left h5
      simpa using this
    have h7 : (j : Int) < (n : Int) := by omega
    have h8 : (0 : Int) ≤ (j : Int) := by omega
    have cj := cb j (by omega)
    rw [h6] at cj
    clear cb h h6 h1 ha
    go_enter Try.func58, Try.ntmps58
    go_wp2
    exact bodyPost_end (results_none rfl _ _ _) rfl ⟨rfl, HWS.out.bad⟩

end Go.Proofs.Ytcpdhkbmfgphpaa
