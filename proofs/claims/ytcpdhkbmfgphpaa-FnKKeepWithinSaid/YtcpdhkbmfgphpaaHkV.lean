import Derived.Test.YtcpdhkbmfgphpaaHkU
namespace Go.Proofs.Ytcpdhkbmfgphpaa
open Go.ChangeShapes Go.WideShapes Go.ChangeAt Go.RowKit Go.GrowR
set_option linter.unusedVariables false
set_option linter.unusedSimpArgs false

/-- append to a row of elements of q cells, as one step of a region that draws -/
theorem step_append_k {P : Program} {ops : Array Oper} {o : Oper} {a : Act} {w : World} {K : Act → World → Prop} {Q : Exit → Act → World → Prop} {E : Prop} (hgd : o.guard = none) (s x : Operand) (t : TypeId) (ho : o.op = .call { callee := .builtin .append, args := #[s, x], argTypes := #[t, t] })
    (B q : Nat) (e : TypeId) (i : TypeInfo) (z : Value) (bytes : Nat) (ht : P.underlying t = some (.slice e)) (hi : P.info? e = some i) (hz : i.zero = some z)
    (hsize : i.size = q) (hby : i.bytes = bytes) (hzs : z.cells.size = q) (hq : 0 < q) {v : Value} {n : Nat} {xs : List Value} (hs : a.eval s = v) (hown : KOwn e q B v n xs w) {ad : Addr} {m c : Nat} {ys : List Value} (hx : a.eval x = .slice (some ad) m c) (hl : ys.length = m * q)
    (hnews : ∀ j u, ys[j]? = some u → w.cell? (ad.add j) = some u) (h1 : ∀ x ∈ ys, x.oneCell' = true)
    (h63 : n + m ≤ maxLen) (hbytes : (n + m) * bytes ≤ 140737488355328) (hbase : B ≤ w.heap.size)
    (h : ∀ v' w', KOwn e q B v' (n + m) (xs ++ ys) w' → w.grownBy w' v.ownBlock → (v'.ownBlock = v.ownBlock ∨ v'.ownBlock = some w.heap.size) → K (a.put o.dst v') w') :
    if Region.wanted o (yielded ops a.tmps) = true then Oper.wp P o a w K Q else E := by
  have hw : Region.wanted o (yielded ops a.tmps) = true := by simp [Region.wanted, hgd]
  rw [if_pos hw]
  obtain ⟨v', w', hr, h2, h3, _, h4⟩ := run_append_own_at (P := P) w B t o.type e i z q bytes ht hi hz hsize hby hzs hq v n xs hown ad m c ys hl hnews h1 h63 hbytes hbase
  unfold Oper.wp execOp
  simp only [ho, resolve, invoke, builtin, Sem.run_bind, Sem.run_pure, Result.andThen_ok, List.map_toArray, List.map_cons, List.map_nil, hs, hx, hr, Oper.upon]
  exact h v' w' h2 h3 h4
theorem krow_form {e : TypeId} {q B n : Nat} {v : Value} {xs : List Value} {w : World} (h : KOwn e q B v (n + 1) xs w) : ∃ g cap, v = .slice (some ⟨g, 0, none⟩) (n + 1) cap := by
  rcases h.2 with ⟨-, h0⟩ | ⟨g, cap, cur, rfl, _⟩
  · cases h0
  · exact ⟨g, cap, rfl⟩
theorem undH : Try.prog.underlying 86 = some (.slice 82) := by kernel_rfl
def upd {α : Type} (f : Nat → α) (n : Nat) (x : α) : Nat → α := fun k => if k = n then x else f k
namespace HS
variable {w1 : World} {b n d : Nat} {C : Nat → Value} {f : Nat → Nat} {w : World}
theorem pushed (h : HS w1 b n d C f w) {g cap cap' g' : Nat} {cs : List Value} {v : Value} {y : Nat} {W w5 : World} (hc : w.cell? ⟨b, 0, none⟩ = some (.slice (some ⟨g, 0, none⟩) n cap)) (hl : cs.length = n * 2) (h3 : ∀ k, k < n → cs[k * 2]? = some (C k) ∧ cs[k * 2 + 1]? = some (.float .f64 (f k)))
    (hg : Grow w W) (hgr : W.grownBy w5 (some g)) (ho : KOwn 82 2 w1.heap.size (.slice (some ⟨g', 0, none⟩) (n + 1) cap') (n + 1) (cs ++ [v, .float .f64 y]) w5) (hv : PtV v) (hy : finB y = true ∧ vq y ≤ vq d) :
    HS w1 b (n + 1) d (upd C n v) (upd f n y) (w5.setCell ⟨b, 0, none⟩ (.slice (some ⟨g', 0, none⟩) (n + 1) cap')) := by
  obtain ⟨g1, cap1, e1, hcap, hg1, hne, -, -⟩ := h.at2
  rw [hc] at e1; cases e1
  obtain ⟨c, fz, ht⟩ := h.ty
  have hbl : b < w.heap.size := (Array.getElem?_eq_some_iff.1 ht).1
  have hb5 : w5.heap[b]? = w.heap[b]? := (hgr.block b (Nat.lt_of_lt_of_le hbl hg.size) (by simpa using hne.symm)).trans (hg.block b hbl)
  have hne' : g' ≠ b := fun e => by
    rcases ho.2 with ⟨h0, -⟩ | ⟨g2, cap2, cur, he, hb, hh, hn, hr⟩
    · cases h0
    · cases he; subst e; rw [hb5, ht] at hh; cases hh
  have hw1 : w1.heap.size ≤ w.heap.size := h.gr.size
  have k0 : Grow w1 W := h.gr.trans hg
  have hg5 : Grow w1 w5 := ⟨hgr.os.trans k0.os, hgr.tape.trans k0.tape, hgr.output.trans k0.output, Nat.le_trans k0.size hgr.size, fun k hk => (hgr.block k (Nat.lt_of_lt_of_le hk k0.size) (fun e => by cases e; omega)).trans (k0.block k hk)⟩
  have hty : ∃ c fz, (w5.setCell ⟨b, 0, none⟩ (.slice (some ⟨g', 0, none⟩) (n + 1) cap')).heap[b]? = some (.cells c 88 fz) := ⟨c.setIfInBounds 0 (.slice (some ⟨g', 0, none⟩) (n + 1) cap'), fz, by simp [World.setCell, Array.getElem?_modify, hb5, ht]⟩
  have h0 := h.one
  refine ⟨hbelow hg5 (by have := h.hb; simp; omega) _, h.hb, hty, by rw [World.frozen?_setCell]; exact (World.frozen?_of_block (a := ⟨b, 0, none⟩) hb5).trans h.fz, ⟨g', cap', cs ++ [v, .float .f64 y], World.cell?_setCell_same _ _ _ ((World.cell?_of_block (a := ⟨b, 0, none⟩) hb5).trans hc), ?_, fun k hk => ?_⟩, by omega, ?_, ?_, fun k h1 h2 => ?_, fun k hk => ?_⟩
  · refine ⟨ho.1, ?_⟩
    rcases ho.2 with ⟨h0, -⟩ | ⟨g2, cap2, cur, he, hb, hh, hr⟩
    · cases h0
    · cases he
      exact .inr ⟨g', cap', cur, rfl, hb, (Below.heap_setCell _ _ _ _ hne').trans hh, hr⟩
  · unfold upd
    by_cases e : k = n
    · subst e
      rw [if_pos rfl, if_pos rfl, List.getElem?_append_right (by omega), List.getElem?_append_right (by omega), hl]
      rw [show k * 2 - k * 2 = 0 by omega, show k * 2 + 1 - k * 2 = 1 by omega]
      exact ⟨rfl, rfl⟩
    · rw [if_neg e, if_neg e, List.getElem?_append_left (by omega), List.getElem?_append_left (by omega)]
      exact h3 k (by omega)
  · unfold upd; rw [if_neg (by omega)]; exact h.c0
  · unfold upd; rw [if_neg (by omega)]; exact h.f0
  · unfold upd; split
    · exact hv
    · exact h.cp k h1 (by omega)
  · unfold upd; split
    · exact hy
    · exact h.le k (by omega)
set_option maxRecDepth 100000 in
set_option maxHeartbeats 16000000 in
theorem push (h : HS w1 b n d C f w) (a : Option Addr) (y : Nat) (hy : finB y = true ∧ vq y ≤ vq d) (hn : n ≤ 1000) : Calls Try.prog 97 #[.pointer (some ⟨b, 0, none⟩), .iface 82 (.agg #[.iface 61 (.slice a 0 0), .float .f64 y])] w fun e w' => e = .returned (.tuple #[]) ∧ HS w1 b (n + 1) d (upd C n (.iface 61 (.slice a 0 0))) (upd f n y) w' := by
  obtain ⟨i0, hi, hz0, hz1, hz2⟩ := info_parts infoCD
  have HI := Lib.hid hi; have HZ0 := Lib.hid hz0; have HZ1 := Lib.hid hz1; have HZ2 := Lib.hid hz2
  obtain ⟨g, cap, cs, e1, e2, e3⟩ := h.row
  obtain ⟨g1, cap1, e1', hcap, hg1, hne, -, -⟩ := h.at2
  rw [e1] at e1'; cases e1'
  have HE1 := Lib.hid e1; have HE2 := Lib.hid e2; have HE3 := Lib.hid e3
  have HH := Lib.hid h; have HN := Lib.hid hn; have HY := Lib.hid hy
  have hf0 := h.fz
  obtain ⟨c, fz, ht⟩ := h.ty
  have hbl : b < w.heap.size := (Array.getElem?_eq_some_iff.1 ht).1
  have HBL := Lib.hid hbl; have HNE := Lib.hid hne
  have HW1 := Lib.hid h.gr.size
  have HP := Lib.hid (fun (W w5 : World) (g' cap' : Nat) (hg : Grow w W) (hgr : W.grownBy w5 (some g)) ho => h.pushed (W := W) (w5 := w5) (g' := g') (cap' := cap') (v := .iface 61 (.slice a 0 0)) (y := y) e1 e2.len e3 hg hgr ho ⟨a, rfl⟩ hy)
  have hta : ∀ w : World, (Instr.typeAssert (.iface 82 (.agg #[.iface 61 (.slice a 0 0), .float .f64 y])) 20 82 false).run Try.prog w = .ok (.agg #[.iface 61 (.slice a 0 0), .float .f64 y]) w := fun w => by kernel_rfl
  clear hi hz0 hz1 hz2 e2 e3 h hn hy ht hne
  obtain ⟨A, hA⟩ : ∃ A, A = (some ⟨g, 0, none⟩ : Option Addr) := ⟨_, rfl⟩
  rw [← hA] at e1 HE2
  have HA := Lib.hid hA
  clear hA
  go_enter Try.func97, Try.ntmps97
  go_region_law (first
    | (refine step_append_k rfl _ _ 86 rfl w1.heap.size 2 82 i0 (.agg #[.nilIface, .float .f64 0]) 24 undH HI.out HZ0.out HZ1.out HZ2.out rfl (by decide) rfl (KOwn.up _ _ HE2.out (by repeat (first | exact Grow.refl _ | refine Grow.drew ?_ | refine Grow.alloc ?_ _))) rfl (ys := [.iface 61 (.slice a 0 0), .float .f64 y]) rfl (by intro j u hu; match j, hu with | 0, hu => (cases hu; rw [addr_add]; go_simp) | 1, hu => (cases hu; rw [addr_add]; go_simp) | j + 2, hu => simp at hu) (by intro x hx; simp at hx; rcases hx with rfl | rfl <;> rfl) (by have := HN.out; simp [maxLen]; omega) (by have := HN.out; omega) (by have := HW1.out; simp; omega) ?_; intro V' w5 hown5 hgrow5 hwh5; rw [HA.out] at hgrow5;
       obtain ⟨g', cap', rfl⟩ := krow_form hown5; have hgr : World.grownBy _ w5 (some g) := hgrow5; have hq := HP.out _ w5 g' cap' (by repeat (first | exact Grow.refl _ | refine Grow.drew ?_ | refine Grow.alloc ?_ _)) hgr hown5;
       have k1 : w5.cell? ⟨b, 0, none⟩ = some (.slice A n cap) := (World.cell?_of_block (hgr.block b (by have := HBL.out; simp; omega) (by simpa using HNE.out.symm))).trans (by go_simp);
       have k2 : w5.frozen? ⟨b, 0, none⟩ = false := (World.frozen?_of_block (a := ⟨b, 0, none⟩) (hgr.block b (by have := HBL.out; simp; omega) (by simpa using HNE.out.symm))).trans (by go_simp);
       have HQ := Lib.hid hq; clear hq hgr hown5 hgrow5 hwh5))
  all_goals exact bodyPost_end (results_none rfl _ _ _) rfl ⟨rfl, HQ.out⟩
end HS
end Go.Proofs.Ytcpdhkbmfgphpaa
