import Derived.Test.YtlkoaanagbgpkaaBufA
import Derived.Laws.Externs
import Derived.Deep.OwnRows
namespace Go.Proofs.Ytlkoaanagbgpkaa
open Go.ChangeShapes Go.WideShapes Go.ChangeAt Go.RowKit Go.GrowR
set_option linter.unusedVariables false
set_option linter.unusedSimpArgs false
theorem run_bits9 (x : Nat) (w : World) : (callFunc 54 #[.float .f64 x]).run Try.prog w = .ok (.value (.int .u64 x)) w := by
  rw [run_callFunc_extern (fn := Try.f54) (e := Extern.MathFloatBits.float64bits) Try.func54 (by kernel_rfl) (by kernel_rfl) (by kernel_rfl) (by rfl)]
  rfl
theorem run_frombits9 (x : Int) (w : World) : (callFunc 131 #[.int .u64 x]).run Try.prog w = .ok (.value (.float .f64 x.toNat)) w := by
  rw [run_callFunc_extern (fn := Try.f131) (e := Extern.MathFloatBits.float64frombits) Try.func131 (by kernel_rfl) (by kernel_rfl) (by kernel_rfl) (by rfl)]
  rfl

/-- the two orders, as values of the interface -/
def ordV (big : Bool) : Value := if big then .iface 163 (.agg #[]) else .iface 164 (.agg #[])
def NAN : Nat := 9221120237041090560
theorem pointEmpty_calls (w : World) : Calls Try.prog 106 #[] w fun e w' => e = .returned (.float .f64 9221120237041090560) ∧ w' = w := by
  have hf : ∀ w : World, (callFunc 131 #[.int .u64 9221120237041090560]).run Try.prog w = .ok (.value (.float .f64 9221120237041090560)) w := fun w => by
    have h := run_frombits9 9221120237041090560 w
    simpa only [Int.reduceToNat] using h
  go_enter Try.func106, Try.ntmps106
  go_wp2
  go_ret
  exact ⟨rfl, rfl⟩
set_option maxRecDepth 100000 in
set_option maxHeartbeats 2000000 in
theorem writeFloatB_calls (g m o n c : Nat) (f : Nat → Int) (w : World) (h : RowI g m f w) (hn : n = m - o) (ho : o + 8 ≤ m) (hm : m ≤ 1000) :
    Calls Try.prog 148 #[.slice (some ⟨g, o, none⟩) n c, .iface 163 (.agg #[]), .float .f64 9221120237041090560] w (PutP true g m o f w) := by
  have hb : ∀ w : World, (callFunc 54 #[.float .f64 9221120237041090560]).run Try.prog w = .ok (.value (.int .u64 9221120237041090560)) w := fun w => by
    have h := run_bits9 9221120237041090560 w
    have e : ((9221120237041090560 : Nat) : Int) = 9221120237041090560 := rfl
    rw [e] at h; exact h
  have HP := Lib.hid (putB_calls g m o n c f w h hn ho hm)
  clear h hn
  have hD : ∀ (w : World), (method 343 163 (.agg #[]) "PutUint64").run Try.prog w = .ok (195, .agg #[]) w := fun _ => by kernel_rfl
  go_enter Try.func148, Try.ntmps148
  go_wp2_with (go_at_call 195; refine HP.out.mono ?_; rintro e w1 ⟨rfl, hr, hg⟩)
  exact bodyPost_end (results_none rfl _ _ _) rfl ⟨rfl, hr, hg⟩
set_option maxRecDepth 100000 in
set_option maxHeartbeats 2000000 in
theorem writeFloatL_calls (g m o n c : Nat) (f : Nat → Int) (w : World) (h : RowI g m f w) (hn : n = m - o) (ho : o + 8 ≤ m) (hm : m ≤ 1000) :
    Calls Try.prog 148 #[.slice (some ⟨g, o, none⟩) n c, .iface 164 (.agg #[]), .float .f64 9221120237041090560] w (PutP false g m o f w) := by
  have hb : ∀ w : World, (callFunc 54 #[.float .f64 9221120237041090560]).run Try.prog w = .ok (.value (.int .u64 9221120237041090560)) w := fun w => by
    have h := run_bits9 9221120237041090560 w
    have e : ((9221120237041090560 : Nat) : Int) = 9221120237041090560 := rfl
    rw [e] at h; exact h
  have HP := Lib.hid (putL_calls g m o n c f w h hn ho hm)
  clear h hn
  have hD : ∀ (w : World), (method 343 164 (.agg #[]) "PutUint64").run Try.prog w = .ok (203, .agg #[]) w := fun _ => by kernel_rfl
  go_enter Try.func148, Try.ntmps148
  go_wp2_with (go_at_call 203; refine HP.out.mono ?_; rintro e w1 ⟨rfl, hr, hg⟩)
  exact bodyPost_end (results_none rfl _ _ _) rfl ⟨rfl, hr, hg⟩
theorem writeFloat_calls (big : Bool) (g m o n c : Nat) (f : Nat → Int) (w : World) (h : RowI g m f w) (hn : n = m - o) (ho : o + 8 ≤ m) (hm : m ≤ 1000) :
    Calls Try.prog 148 #[.slice (some ⟨g, o, none⟩) n c, ordV big, .float .f64 9221120237041090560] w (PutP big g m o f w) := by
  cases big
  · exact writeFloatL_calls g m o n c f w h hn ho hm
  · exact writeFloatB_calls g m o n c f w h hn ho hm
end Go.Proofs.Ytlkoaanagbgpkaa
