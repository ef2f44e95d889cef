import Derived.Test.YtemobphkgbhhhaaStrideN
import Derived.Test.YtemobphkgbhhhaaOwn
import Derived.OwnWalk
import Derived.ArgAppend
namespace Go.Proofs.Ytemobphkgbhhhaa
open Go.ChangeShapes Go.WideShapes Go.ChangeAt Go.RowKit Go.GrowR
set_option linter.unusedVariables false
set_option linter.unusedSimpArgs false
theorem wrap_okR {n : Int} (h0 : 0 ≤ n) (h1 : n ≤ 1099511627776) : IntKind.i64.wrap n = n := IntWalk.i64_in _ (by omega)
theorem infoS : (Try.prog.info? 22).map (fun i => (i.zero, i.size, i.bytes)) = some (some (.slice none 0 0), 1, 24) := by kernel_rfl
theorem undSS : Try.prog.underlying 57 = some (.slice 22) := by kernel_rfl
def rowsV (b o c s K : Nat) : List Value := (List.range K).map fun i => .slice (some ⟨b, o + i * s, none⟩) s (c - i * s)
theorem rowsV_succ (b o c s K : Nat) : rowsV b o c s (K + 1) = rowsV b o c s K ++ [.slice (some ⟨b, o + K * s, none⟩) s (c - K * s)] := by
  unfold rowsV; rw [List.range_succ, List.map_append]; rfl
theorem rowsV_len (b o c s K : Nat) : (rowsV b o c s K).length = K := by simp [rowsV]
def RowsP (b o c s K : Nat) (w : World) (e : Ending) (w' : World) : Prop := ∃ V, e = .returned V ∧ Grow w w' ∧ VOwn 22 w.heap.size V (rowsV b o c s K) w'
set_option maxRecDepth 100000 in
set_option maxHeartbeats 2000000 in
theorem rows_calls (b o c n s K : Nat) (w : World) (hs : 1 ≤ s) (hs9 : s ≤ 9) (hK : n = K * s) (hn : n ≤ 2147483647) (hc : n ≤ c) :
    Calls Try.prog 31 #[.slice (some ⟨b, o, none⟩) n c, .int .i64 s] w (RowsP b o c s K w) := by
  obtain ⟨i0, hi, hz0, hz1, hz2⟩ := info_parts infoS
  have HI := Lib.hid hi; have HZ0 := Lib.hid hz0; have HZ1 := Lib.hid hz1; have HZ2 := Lib.hid hz2; clear hi hz0 hz1 hz2
  have hKn : K ≤ n := by rw [hK]; exact Nat.le_mul_of_pos_right K (by omega)
  have HK := Lib.hid hK; clear hK
  go_enter Try.func31, Try.ntmps31
  go_wp2
  go_loopw [5, 6] (fun O i wr => ∃ k p : Nat, k ≤ K ∧ p = k * s ∧ p ≤ n ∧ i = .int .i64 p ∧ Grow w wr ∧ VOwn 22 w.heap.size O (rowsV b o c s k) wr) (fun _ i _ => n - (intOf i).toNat)
  case atStart => exact ⟨0, 0, Nat.zero_le _, by simp, by omega, rfl, Grow.refl w, VOwn.nil⟩
  case round =>
    obtain ⟨k, p, hk, hp, hpn, rfl, hg, hown⟩ := hrel
    have HP := Lib.hid hp; clear hp
    have HG := Lib.hid hg
    have HO := Lib.hid hown; clear hg hown
    by_cases hlt : k < K
    case neg =>
      have hge : (n : Int) < (p : Int) + (s : Int) := by
        have h1 := HP.out; have h2 := HK.out
        have h3 : k = K := by omega
        rw [h3] at h1; omega
      have hd1 : decide (p + s ≤ n) = false := by simp; omega
      have hd2 : decide ((p : Int) + (s : Int) ≤ (n : Int)) = false := by simp; omega
      go_wp2
      go_ret
      have h3 : k = K := by omega
      subst h3
      exact ⟨_, rfl, HG.out, HO.out⟩
    case pos =>
      have hle : p + s ≤ n := by
        have h1 := HP.out; have h2 := HK.out
        have h3 : (k + 1) * s ≤ K * s := Nat.mul_le_mul_right s hlt
        rw [Nat.add_mul] at h3; omega
      have hle' : (p : Int) + (s : Int) ≤ (n : Int) := by omega
      have hs0 : (0 : Int) < (s : Int) := by omega
      have hpc : ¬ c = p := by omega
      go_wp2_with (at_builtin; refine wpList_append_vsl rfl _ _ 57 rfl w.heap.size 22 i0 (.slice none 0 0) 24 undSS HI.out HZ0.out HZ1.out HZ2.out rfl rfl (VOwn.up _ _ HO.out ((Grow.refl wr).alloc _)) rfl (VSl.one (u := .slice (some ⟨b, o + p, none⟩) s (c - p)) (by go_simp)) (by intro x hx; simp at hx; subst hx; rfl) (by rw [rowsV_len]; simp [maxLen] at *; omega) (by rw [rowsV_len]; simp at *; omega) (by have := HG.out.size; simp; omega) ?_; intro O5 w5 hown5 hgrow5 hwh5; have H5 := Lib.hid hown5; have HGR := Lib.hid hgrow5; clear hown5 hgrow5 hwh5)
      go_roundw
      case rel =>
        refine ⟨k + 1, p + s, by omega, by rw [Nat.add_mul, HP.out]; omega, by omega, by go_num, Below.grown (HG.out.alloc _) HGR.out (by have := HG.out.size; simp; omega) HO.out.lt, ?_⟩
        rw [rowsV_succ, ← HP.out]; exact H5.out
      case measure => simp [intOf]; omega
theorem rows_at (b o c s K k : Nat) (hk : k < K) : (rowsV b o c s K)[k]? = some (.slice (some ⟨b, o + k * s, none⟩) s (c - k * s)) := by
  unfold rowsV; rw [List.getElem?_map, List.getElem?_range hk]; rfl
theorem mul_cast (i s : Nat) : (i : Int) * (s : Int) = ((i * s : Nat) : Int) := by simp
theorem rows_div {n s : Nat} (hs : 0 < s) (h : (n : Int) % (s : Int) = 0) : n = n / s * s := by
  have h' : n % s = 0 := by omega
  have := Nat.div_add_mod n s
  rw [h'] at this; rw [Nat.mul_comm]; omega
theorem all_at {xs : List Nat} {P : Nat → Bool} (h : xs.all P = true) {k x : Nat} (hx : xs[k]? = some x) : P x = true := List.all_eq_true.1 h x (List.mem_of_getElem? hx)
end Go.Proofs.Ytemobphkgbhhhaa
