import Derived.Test.YtcpdhkbmfgphpaaKiE
namespace Go.Proofs.Ytcpdhkbmfgphpaa
open Go.ChangeShapes Go.WideShapes Go.ChangeAt Go.RowKit Go.GrowR
set_option linter.unusedVariables false
set_option linter.unusedSimpArgs false

@[go_sem] theorem asExt (v : Value) (w : World) : (Instr.typeAssert (.iface 61 v) 66 102 true).run Try.prog w = .ok (.tuple #[.iface 61 v, .bool true]) w := by kernel_rfl
def TInsQ (d : Nat) (p : List Nat) (t : PT) (P0 : Value) (bt : Nat) (F : List Nat) (w : World) (e : Ending) (w' : World) : Prop := ∃ v' F' t', e = .returned (.tuple #[]) ∧ FrF (bt :: F) w w' ∧ w'.cell? ⟨bt, 0, none⟩ = some v' ∧ NP t' v' F' w' ∧ Like t' (t.ins d p 0) ∧ t'.WB d ∧ ∀ k ∈ F', k ∈ F ∨ k ∈ blk P0 ∨ w.heap.size ≤ k
set_option maxRecDepth 100000 in
set_option maxHeartbeats 8000000 in
theorem treeInsert_calls (d bt cnt : Nat) (rv P0 : Value) (p q : List Nat) (pl : Int) (bx : Option (List Nat × List Nat)) (l r : PT) (F : List Nat) (bd : Bool) (w : World) (ht : TreeC bt rv cnt w) (hn : NP (.node q pl bx l r) rv F w) (hk : PT.KD d (.node q pl bx l r)) (hwb : PT.WB d (.node q pl bx l r)) (h0 : FOwn 34 0 P0 p w) (hp : Num p d (iv p)) (h1 : 1 ≤ d) (h6 : d ≤ 6) (hd0 : ∀ k ∈ blk P0, k ∉ F) (hb0 : bt ∉ F) (hb1 : bt ∉ blk P0) (hc : cnt ≤ 1000000) :
    Calls Try.prog 38 #[.pointer (some ⟨bt, 0, none⟩), .iface 61 P0, .bool bd] w (TInsQ d p (.node q pl bx l r) P0 bt F w) := by
  obtain ⟨t0, t1, tf⟩ := ht
  have hbx : ∃ bn bv, rv = .pointer (some ⟨bn, 0, none⟩) ∧ bn ∈ F ∧ w.cell? ⟨bn, 4, none⟩ = some bv ∧ ((bx = none ∧ bv = .pointer none) ∨ (∃ mm, bx = some mm ∧ ∃ bb, bv = .pointer (some ⟨bb, 0, none⟩))) := by
    obtain ⟨b, P, lv, rv, bv, Fb, Fl, Fr, e1, e2, -, hnode, -, hx, -, -⟩ := hn
    refine ⟨b, bv, e1, by rw [e2]; simp, hnode.c4, ?_⟩
    cases bx with
    | none => exact .inl ⟨rfl, hx.1⟩
    | some mm => obtain ⟨mn, mx⟩ := mm; obtain ⟨bb, P1, P2, e3, -⟩ := hx; exact .inr ⟨_, rfl, bb, e3⟩
  obtain ⟨bn, bv, rfl, hbF, n4, hcase⟩ := hbx
  have f0 := tf 0; have f1 := tf 1
  have hne : bn ≠ bt := fun e => hb0 (e ▸ hbF)
  have HFR1 : Hid (FrF (bt :: F) w (w.setCell ⟨bt, 1, none⟩ (.int .i64 ((cnt : Int) + 1)))) := (FrF.refl w).set (.inl (by simp)) _
  have HN1 : Hid (NP (.node q pl bx l r) (.pointer (some ⟨bn, 0, none⟩)) F (w.setCell ⟨bt, 1, none⟩ (.int .i64 ((cnt : Int) + 1)))) := hn.move fun k hk => NB.set_far fun e => hb0 ((show k = bt from e) ▸ hk)
  have H01 : Hid (FOwn 34 0 P0 p (w.setCell ⟨bt, 1, none⟩ (.int .i64 ((cnt : Int) + 1)))) := VOwn.moveB h0 fun k hk => NB.set_far fun e => hb1 ((show k = bt from e) ▸ hk)
  have m4 : (w.setCell ⟨bt, 1, none⟩ (.int .i64 ((cnt : Int) + 1))).cell? ⟨bn, 4, none⟩ = some bv := WS.far n4 (by simp <;> omega)
  have m0 : (w.setCell ⟨bt, 1, none⟩ (.int .i64 ((cnt : Int) + 1))).cell? ⟨bt, 0, none⟩ = some (.pointer (some ⟨bn, 0, none⟩)) := WS.far t0 (by simp)
  have g0 : (w.setCell ⟨bt, 1, none⟩ (.int .i64 ((cnt : Int) + 1))).frozen? ⟨bt, 0, none⟩ = false := by rw [World.frozen?_setCell]; exact f0
  have HI := Lib.hid (fun w' a c => insert_calls d P0 p hp h6 (.node q pl bx l r) (.pointer (some ⟨bn, 0, none⟩)) F 0 w' (by omega) hk hwb a c hd0)
  have HIB := Lib.hid (fun w' a c => insertB_calls d P0 p hp h1 h6 (.node q pl bx l r) (.pointer (some ⟨bn, 0, none⟩)) F 0 w' (by omega) hk hwb a c hd0)
  have HB0 := Lib.hid hb0; have HB1 := Lib.hid hb1
  have hlt : bt < w.heap.size := cell_lt' t0
  have HBL : Hid (bt < (w.setCell ⟨bt, 1, none⟩ (.int .i64 ((cnt : Int) + 1))).heap.size) := cell_lt' m0
  have HZ : Hid ((w.setCell ⟨bt, 1, none⟩ (.int .i64 ((cnt : Int) + 1))).heap.size = w.heap.size) := by show _ = _; simp [World.setCell]
  have hw1 : IntKind.i64.wrap ((cnt : Int) + 1) = (cnt : Int) + 1 := IntWalk.i64_in _ (by omega)
  obtain ⟨A0, n00, c0, rfl⟩ := VOwn.isSl (B := 0) h0
  clear hn hk hwb h0 hp hd0 hb0 hb1 n4 tf
  generalize PT.node q pl bx l r = t at *
  rcases hcase with ⟨rfl, rfl⟩ | ⟨mm, rfl, bb, rfl⟩
  all_goals
    go_enter Try.func38, Try.ntmps38
    go_wp2_with fail
    first | refine (HI.out _ HN1.out H01.out).mono ?_ | refine (HIB.out _ HN1.out H01.out).mono ?_
    rintro e w3 ⟨v3, F3, t3, rfl, hf3, hn3, hlk, hwb3, hF3⟩
    obtain ⟨a3, rfl⟩ := hn3.isP
    have HF3 := Lib.hid hF3
    have HLK := Lib.hid hlk; have HWB := Lib.hid hwb3
    have k0 := (World.cell?_of_block (hf3.block bt HBL.out HB0.out)).trans m0
    have k0f := (World.frozen?_of_block (a := ⟨bt, 0, none⟩) (hf3.block bt HBL.out HB0.out)).trans g0
    have hbt3 : bt ∉ F3 := fun hm => by
      rcases hF3 bt hm with h | h | h
      · exact HB0.out h
      · exact HB1.out h
      · have := HBL.out; omega
    have HN3 : Hid (NP t3 (.pointer a3) F3 (w3.setCell ⟨bt, 0, none⟩ (.pointer a3))) := hn3.move fun k hk => NB.set_far fun e => hbt3 ((show k = bt from e) ▸ hk)
    have HFR3 : Hid (FrF (bt :: F) w (w3.setCell ⟨bt, 0, none⟩ (.pointer a3))) := (HFR1.out.trans (hf3.mono (F' := bt :: F) fun x hx => .inl (by simp [hx])) (fun x hx => .inl hx)).set (.inl (by simp)) _
    have HK0 : Hid ((w3.setCell ⟨bt, 0, none⟩ (.pointer a3)).cell? ⟨bt, 0, none⟩ = some (.pointer a3)) := World.cell?_setCell_same _ _ _ k0
    clear hf3 hn3 hlk hwb3 hF3 hbt3
    go_wp2
    exact bodyPost_end (results_none rfl _ _ _) rfl ⟨_, F3, t3, rfl, HFR3.out, HK0.out, HN3.out, HLK.out, HWB.out, fun k hk => by rw [← HZ.out]; exact HF3.out k hk⟩
end Go.Proofs.Ytcpdhkbmfgphpaa
