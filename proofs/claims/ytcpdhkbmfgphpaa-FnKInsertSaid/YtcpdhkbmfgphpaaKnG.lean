import Derived.Test.YtcpdhkbmfgphpaaKnF
import Derived.Laws.OwnMore
namespace Go.Proofs.Ytcpdhkbmfgphpaa
open Go.ChangeShapes Go.WideShapes Go.ChangeAt Go.RowKit Go.GrowR
set_option linter.unusedVariables false
set_option linter.unusedSimpArgs false

theorem VOwn.form {e : TypeId} {B : Nat} {v : Value} {xs : List Value} {w : World} (h : VOwn e B v xs w) (hn : 0 < xs.length) : ∃ g cap, v = .slice (some ⟨g, 0, none⟩) xs.length cap ∧ B ≤ g ∧ g < w.heap.size ∧ xs.length ≤ cap := by
  rcases h.2 with ⟨-, h0⟩ | ⟨g, cap, cur, rfl, hb, hh, hr⟩
  · omega
  · refine ⟨g, cap, rfl, hb, ?_, hr.1⟩
    rcases Nat.lt_or_ge g w.heap.size with hlt | hge
    · exact hlt
    · rw [Array.getElem?_eq_none hge] at hh; cases hh
theorem VOwn.form1 {e : TypeId} {B n : Nat} {v : Value} {xs : List Value} {w : World} (h : VOwn e B v xs w) (hn : xs.length = n + 1) : ∃ g cap, v = .slice (some ⟨g, 0, none⟩) (n + 1) cap ∧ B ≤ g ∧ g < w.heap.size ∧ n + 1 ≤ cap := by
  rw [← hn]; exact VOwn.form h (by omega)
theorem VOwn.at {e : TypeId} {B g cap n : Nat} {xs : List Value} {w : World} (h : VOwn e B (.slice (some ⟨g, 0, none⟩) n cap) xs w) (hn : n = xs.length) (j : Nat) (hj : j < n) : w.cell? ⟨g, j, none⟩ = xs[j]? := by
  subst hn; exact World.ownsRow.cellAt h j (by omega)
theorem VOwn.fz {e : TypeId} {B g cap n : Nat} {xs : List Value} {w : World} (h : VOwn e B (.slice (some ⟨g, 0, none⟩) n cap) xs w) (hn : n = xs.length) (j : Nat) : w.frozen? ⟨g, j, none⟩ = false := by
  subst hn; exact World.ownsRow.frozenAt h j
theorem VOwn.put {e : TypeId} {B g cap n : Nat} {xs : List Value} {w : World} (h : VOwn e B (.slice (some ⟨g, 0, none⟩) n cap) xs w) (hn : n = xs.length) (j : Nat) (u : Value) : VOwn e B (.slice (some ⟨g, 0, none⟩) n cap) (xs.set j u) (w.setCell ⟨g, j, none⟩ u) := by
  subst hn
  have := (World.ownsRow.stored h j u).1
  unfold VOwn
  rw [List.length_set]; exact this
theorem below_put {B : Nat} {w w' : World} (h : Below B w w') {p : Addr} (hp : B ≤ p.block) (u : Value) : Below B w (w'.setCell p u) := Below.setCell h hp u
theorem swap_row {α : Type} (ys : List α) (x y : α) {i : Nat} (hi : ys[i]? = some y) : ((ys.take (i + 1) ++ x :: ys.drop (i + 1)).set (i + 1) y).set i x = ys.take i ++ x :: ys.drop i := by
  have hl := (List.getElem?_eq_some_iff.1 hi).1
  have hd : ys.drop i = y :: ys.drop (i + 1) := by
    rw [List.drop_eq_getElem_cons hl]; congr 1; exact (List.getElem?_eq_some_iff.1 hi).2
  have ht : ys.take (i + 1) = ys.take i ++ [y] := by rw [List.take_add_one, hi]; rfl
  rw [hd, ht, List.append_assoc]
  have l1 : (ys.take i).length = i := by simp; omega
  rw [List.set_append_right _ _ (by omega), List.set_append_right _ _ (by omega), l1]
  simp
/-- x is put into a row -/
structure Put (ys : List Nat) (x : Nat) (j : Nat) : Prop where
  le : j ≤ ys.length
  gt : ∀ y ∈ ys.drop j, Fl.ival x < Fl.ival y
  lo : j = 0 ∨ ∃ y, ys[j - 1]? = some y ∧ Fl.ival y ≤ Fl.ival x
def WithQ (B : Nat) (ys : List Nat) (x : Nat) (w : World) (e : Ending) (w' : World) : Prop := ∃ V j, e = .returned V ∧ Put ys x j ∧ VOwn 34 B V ((ys.take j ++ x :: ys.drop j).map (.float .f64)) w' ∧ Below B w w'
set_option maxRecDepth 100000 in
set_option maxHeartbeats 8000000 in
theorem withNumber_calls (B : Nat) (V : Value) (ys : List Nat) (x : Nat) (w : World) (hown : VOwn 34 B V (ys.map (.float .f64)) w) (hB : B ≤ w.heap.size) (hl : ys.length ≤ 2147483647) (hys : ∀ y ∈ ys, ∃ a, Fl.IsI y a) (hx : ∃ a, Fl.IsI x a) :
    Calls Try.prog 36 #[V, .float .f64 x] w (WithQ B ys x w) := by
  obtain ⟨i0, hi, hz0, hz1, hz2⟩ := info_parts infoF
  have HO := Lib.hid hown; have HYS := Lib.hid hys; have HX := Lib.hid hx
  obtain ⟨A0, n0, c0, rfl⟩ := hown.isSl
  clear hown hys hx
  go_enter Try.func36, Try.ntmps36
  go_wp2_with (at_builtin; refine wpList_append_vsl rfl _ _ 23 rfl B 34 i0 (.float .f64 0) 8 undF hi hz0 hz1 hz2 rfl rfl (VOwn.up _ _ HO.out ((Grow.refl w).alloc _)) rfl (VSl.one (u := .float .f64 x) (by go_simp)) (by intro y hy; simp at hy; subst hy; rfl) (by simp [maxLen]; omega) (by simp; omega) (by simp; omega) ?_; intro V' w5 hown5 hgrow5 hwh5; obtain ⟨g, cap, rfl, hbg, hlg, hcp⟩ := VOwn.form1 hown5 (n := ys.length) (by simp); have H5 := Lib.hid hown5; have HGR5 := Lib.hid hgrow5; clear hown5 hgrow5 hwh5)
  have HB5 : Hid (Below B w w5) := Below.grown ((Below.refl B w).alloc hB _) HGR5.out (by simp; omega) (fun k hk => HO.out.lt k hk)
  have H5' : Hid (VOwn 34 B (.slice (some ⟨g, 0, none⟩) (ys.length + 1) cap) ((ys.take ys.length ++ x :: ys.drop ys.length).map (.float .f64)) w5) := by
    have := H5.out
    show VOwn _ _ _ _ _
    simpa using this
  clear H5 HGR5 hlg
  go_loopw [5] (fun i wr => ∃ k : Nat, i = .int .i64 (k : Nat) ∧ k ≤ ys.length ∧ VOwn 34 B (.slice (some ⟨g, 0, none⟩) (ys.length + 1) cap) ((ys.take k ++ x :: ys.drop k).map (.float .f64)) wr ∧ Below B w wr ∧ ∀ y ∈ ys.drop k, Fl.ival x < Fl.ival y) (fun i _ => (intOf i).toNat)
  case atStart => exact ⟨ys.length, by first | go_num | (simp <;> omega), Nat.le_refl _, H5'.out, HB5.out, fun y hy => by simp at hy⟩
  case round =>
    obtain ⟨k, rfl, hk, hrow, hbel, hgt⟩ := hrel
    have HR := Lib.hid hrow; have HBE := Lib.hid hbel; have HGT := Lib.hid hgt
    clear hbel hgt HB5 H5'
    by_cases h0 : k = 0
    · subst h0
      clear hrow
      go_wp2
      go_ret
      exact ⟨_, 0, rfl, ⟨Nat.zero_le _, HGT.out, .inl rfl⟩, HR.out, HBE.out⟩
    · obtain ⟨i, rfl⟩ : ∃ i, k = i + 1 := ⟨k - 1, by omega⟩
      obtain ⟨y, hy⟩ : ∃ y, ys[i]? = some y := ⟨ys[i]'(by omega), by simp⟩
      obtain ⟨a, ha⟩ := HX.out
      obtain ⟨b, hb⟩ := HYS.out y (List.mem_of_getElem? hy)
      have hlen : ys.length + 1 = ((ys.take (i + 1) ++ x :: ys.drop (i + 1)).map (Value.float .f64)).length := by simp; omega
      have hcy := VOwn.at hrow hlen i (by omega)
      rw [List.getElem?_map, List.getElem?_append_left (by simp; omega), List.getElem?_take, if_pos (by omega), hy] at hcy
      have hcx := VOwn.at hrow hlen (i + 1) (by omega)
      rw [List.getElem?_map, List.getElem?_append_right (by simp; omega)] at hcx
      simp only [List.length_take, show min (i + 1) ys.length = i + 1 by omega, Nat.sub_self, List.getElem?_cons_zero, Option.map_some] at hcx hcy
      have f0 := VOwn.fz hrow hlen i
      have f1 := VOwn.fz hrow hlen (i + 1)
      have t1 := gtB hb ha
      have hva := Fl.ival_eq ha; have hvb := Fl.ival_eq hb
      have HP : Hid (VOwn 34 B (.slice (some ⟨g, 0, none⟩) (ys.length + 1) cap) ((ys.take i ++ x :: ys.drop i).map (.float .f64)) ((wr.setCell ⟨g, i + 1, none⟩ (.float .f64 y)).setCell ⟨g, i, none⟩ (.float .f64 x))) := by
        have h1 := VOwn.put (VOwn.put hrow hlen (i + 1) (.float .f64 y)) (by simpa using hlen) i (.float .f64 x)
        rw [← List.map_set, ← List.map_set, swap_row ys x y hy] at h1
        exact h1
      have HY := Lib.hid hy
      have hk1 : (0 : Int) < ((i + 1 : Nat) : Int) := by omega
      have hk2 : IntKind.i64.wrap (((i + 1 : Nat) : Int) - 1) = (i : Int) := by rw [IntWalk.i64_in _ (by omega)]; omega
      have HVA := Lib.hid hva; have HVB := Lib.hid hvb
      clear hrow hlen hy ha hb hva hvb h0
      by_cases hab : a < b
      · rw [decide_eq_true hab] at t1
        go_wp2
        go_roundw
        case rel => exact ⟨i, by first | go_num | (simp <;> omega), by omega, HP.out, below_put (below_put HBE.out (by simpa using hbg) _) (by simpa using hbg) _, fun z hz => by
          rw [List.drop_eq_getElem_cons (by have := (List.getElem?_eq_some_iff.1 HY.out).1; exact this)] at hz
          rcases List.mem_cons.1 hz with rfl | hz
          · rw [(List.getElem?_eq_some_iff.1 HY.out).2, HVA.out, HVB.out]; exact hab
          · exact HGT.out z hz⟩
        case measure => simp [intOf] <;> omega
      · rw [decide_eq_false hab] at t1
        go_wp2
        go_ret
        exact ⟨_, i + 1, rfl, ⟨hk, HGT.out, .inr ⟨y, by simpa using HY.out, by rw [HVA.out, HVB.out]; omega⟩⟩, HR.out, HBE.out⟩
end Go.Proofs.Ytcpdhkbmfgphpaa
