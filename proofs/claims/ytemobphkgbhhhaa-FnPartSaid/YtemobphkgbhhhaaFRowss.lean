import Derived.Test.YtemobphkgbhhhaaGoodAll
import Derived.Test.YtemobphkgbhhhaaPlainF
import Derived.Test.YtemobphkgbhhhaaFStride
import Derived.Test.YtemobphkgbhhhaaPartAll
namespace Go.Proofs.Ytemobphkgbhhhaa
open Go.ChangeShapes Go.WideShapes Go.ChangeAt Go.RowKit Go.GrowR
set_option linter.unusedVariables false
set_option linter.unusedSimpArgs false

section
variable {H : Type} {enc : TypeId × Value → H} {P : Program} {w : World} {base : Nat} {spare : Nat → Bool} {held : Bool}
theorem open_iss {t s e : TypeId} (ht : P.underlying t = some (.slice s)) (hcs : P.cellsOf s = 1) (hs : P.underlying s = some (.slice e)) (hc : P.cellsOf e = 1) (he : P.underlying e = some (.int .i64)) (hb : P.bytesOf e = 8) (hb2 : P.bytesOf s = 24) {r : Reach} {b0 : Nat} {v : Value} {d : DataW H} {p : List MemPlace} (hv : Value.okWide P w r b0 t v) (h : DataW.Trod enc P w base spare held t v d p) (hw : (d.weights P t).all (· ≤ reachBytes) = true) :
    ∃ nss, ISSl v nss w ∧ nss.length ≤ 5864062014805 ∧ (∀ l ∈ nss, l.length ≤ 17592186044416) ∧ ∀ l ∈ nss, ∀ x ∈ l, (Lit.int .i64 x).wf = true := by
  obtain ⟨a', len, c', rfl⟩ := okWide_slice ht hv
  obtain ⟨n, h⟩ := h
  exact cell_iss ht hcs hs hc he hb hb2 (n := n) (v := .slice a' len c') h hw
theorem open_fw {t e : TypeId} (ht : P.underlying t = some (.slice e)) (hc : P.cellsOf e = 1) (he : P.underlying e = some (.float .f64)) (hb : P.bytesOf e = 8) {r : Reach} {b0 : Nat} {v : Value} {d : DataW H} {p : List MemPlace} (hv : Value.okWide P w r b0 t v) (h : DataW.Trod enc P w base spare held t v d p) (hw : (d.weights P t).all (· ≤ reachBytes) = true) :
    ∃ xs, FSl v xs w ∧ xs.length ≤ 17592186044416 ∧ ∀ x ∈ xs, (Lit.float .f64 x).wf = true := by
  obtain ⟨a', len, c', rfl⟩ := okWide_slice ht hv
  obtain ⟨n, h⟩ := h
  exact cell_fw ht hc he hb (n := n) (v := .slice a' len c') h hw
end
theorem fRowss_out (A E : Option Addr) (n c m ce : Nat) (q : Int) (w : World) (h : ¬ (2 ≤ q ∧ q ≤ 9)) : Calls Try.prog 8 #[.slice A n c, .slice E m ce, .int .i64 q] w fun e w' => e = .returned (.tuple #[.agg #[.int .i64 0, .int .i64 0, .int .i64 0, .slice none 0 0, .slice none 0 0, .slice none 0 0, .slice none 0 0], .bool false]) ∧ Grow w w' := by
  have HN := Lib.hid (fun w => fStride_out q w h); clear h
  go_enter Try.func8, Try.ntmps8
  go_wp2_with (go_at_call 26; refine (HN.out _).mono ?_; rintro e w1 ⟨rfl, rfl⟩)
  exact bodyPost_ret (v := .tuple #[.agg #[.int .i64 0, .int .i64 0, .int .i64 0, .slice none 0 0, .slice none 0 0, .slice none 0 0, .slice none 0 0], .bool false]) (by simp [results, Try.results8, go_sem]) rfl ⟨rfl, (Grow.refl w).alloc _⟩
def OneG (V : Value) (k l r : Int) (A1 : Option Addr) (n1 c1 : Nat) (A3 : Option Addr) (n3 c3 : Nat) (w : World) : Prop := ∃ b, V = .slice (some ⟨b, 0, none⟩) 1 1 ∧ Seven b 0 k l r A1 n1 c1 none 0 0 A3 n3 c3 none 0 0 w
theorem OneG.up {V : Value} {k l r : Int} {A1 : Option Addr} {n1 c1 : Nat} {A3 : Option Addr} {n3 c3 : Nat} : Up (OneG V k l r A1 n1 c1 A3 n3 c3) := fun _ _ ⟨b, h1, h2⟩ hg => ⟨b, h1, Seven.up _ _ h2 hg⟩
def GoodV (G : GT) (V : Value) : Prop := ∃ g : Bool, V = .bool g ∧ (g = true → GGood G)
def FrQ (L : Int) (A E : Option Addr) (n c m ce : Nat) (g : GT) (w : World) (e : Ending) (w' : World) : Prop := ∃ r : Bool, e = .returned (.tuple #[Geo7 6 L 0 A n c none 0 0 E m ce none 0 0, .bool r]) ∧ Grow w w' ∧ (r = true → GGood g)
set_option maxRecDepth 100000 in
set_option maxHeartbeats 4000000 in
theorem fRowss_in (A E : Option Addr) (n c m ce : Nat) (q : Int) (fl : List Nat) (ens : List (List Int)) (w : World) (h1 : 2 ≤ q) (h9 : q ≤ 9) (hu : FSl (.slice A n c) fl w) (hv : ISSl (.slice E m ce) ens w) (hr : Reach44 (.mk 6 (layN q) 0 fl [] ens [])) : Calls Try.prog 8 #[.slice A n c, .slice E m ce, .int .i64 q] w (FrQ (layN q) A E n c m ce (.mk 6 (layN q) 0 fl [] ens []) w) := by
  have hgv : ∀ w', Grow w w' → GV (.mk 6 (layN q) 0 fl [] ens []) (Geo7 6 (layN q) 0 A n c none 0 0 E m ce none 0 0) w' := fun w' hw => by
    unfold GV
    exact ⟨_, _, _, none, 0, rfl, Nat.le_refl _, FSl.up _ _ hu hw, ISl.nil, ISSl.up _ _ hv hw, .inl rfl⟩
  have HK := Lib.hid (fun b c0 w' (hw : Grow w w') h7 => gGoodT _ b c0 _ _ _ _ _ _ _ _ _ _ _ _ _ _ _ w' hr h7 (hgv w' hw))
  have HI := Lib.hid (fun w => fStride_in q w h1 h9)
  have HL := Lib.hid (fun w => fLayout_calls q w h1)
  clear h1 h9 hr hu hv hgv
  obtain ⟨G, hG⟩ : ∃ G, G = GT.mk 6 (layN q) 0 fl [] ens [] := ⟨_, rfl⟩
  rw [← hG] at HK ⊢
  clear hG
  generalize layN q = L at *
  go_enter Try.func8, Try.ntmps8
  go_wp2_with (first
    | (go_at_call 26; refine (HI.out _).mono ?_; rintro e w1 ⟨rfl, rfl⟩)
    | (go_at_call 27; refine (HL.out _).mono ?_; rintro e w1 ⟨rfl, rfl⟩))
  refine wp_region_grow_tail 4 (fun i => if i = 2 then some (fun _ _ V ww => OneG V 6 L 0 A n c E m ce ww) else if i = 3 then some (fun _ _ V _ => GoodV G V) else none) (by kernel_rfl) (by kernel_rfl) ?_ ?_
  · intro i Φ h lo hi v
    (repeat' split at h) <;> cases h
    · exact OneG.up
    · exact fun _ _ h _ => h
  simp only [List.take_succ_cons, List.take_zero, List.drop_succ_cons, List.drop_zero]
  repeat (first
    | (refine wpGrow_skip (by rfl) ?_; simp only [Act.put, List.setIfInBounds_toArray, List.set_cons_zero, List.set_cons_succ, Nat.reduceAdd])
    | (refine wpGrow_det' (by rfl) (by rfl) ?_; apply Exists.intro; refine ⟨fun w' hc hh => ?_, ?_⟩; (have hcell := grow_cell hc; clear hc hh; go_simp; rfl); simp only [Act.put, List.setIfInBounds_toArray, List.set_cons_zero, List.set_cons_succ, Nat.reduceAdd]))
  refine wpGrow_eff' (by rfl) (by rfl) (fun w' hc hh => ?_) (fun v lo hi w' hap hc hh hv => ?_)
  · clear hh
    have hcell := grow_cell hc
    clear hc
    go_simp
    exact EffVal.mk ((Grow.refl w').alloc _) ⟨_, rfl, by go_simp, by go_simp, by go_simp, by go_simp, by go_simp, by go_simp, by go_simp⟩
  obtain ⟨b2, rfl, -⟩ := hv
  clear hc hh hap w'
  simp only [Act.put, List.setIfInBounds_toArray, List.set_cons_zero, List.set_cons_succ, Nat.reduceAdd]
  repeat (first
    | (refine wpGrow_skip (by rfl) ?_; simp only [Act.put, List.setIfInBounds_toArray, List.set_cons_zero, List.set_cons_succ, Nat.reduceAdd])
    | (refine wpGrow_det' (by rfl) (by rfl) ?_; apply Exists.intro; refine ⟨fun w' hc hh => ?_, ?_⟩; (have hcell := grow_cell hc; clear hc hh; go_simp; rfl); simp only [Act.put, List.setIfInBounds_toArray, List.set_cons_zero, List.set_cons_succ, Nat.reduceAdd]))
  refine wpGrow_eff' (by rfl) (by rfl) (fun w' hc hh => ?_) (fun v lo hi w' hap hc hh hv => ?_)
  · have H2 := Lib.hid (hh 2 (anc_of 5 (by kernel_rfl)))
    have HGC := Lib.hid (((((Grow.refl w).alloc _).alloc _)).trans hc)
    clear hc hh
    obtain ⟨b3, hb3, hgeo⟩ := H2.out
    cases hb3
    go_simp
    go_at_call 28
    refine (HK.out _ _ _ HGC.out hgeo).mono ?_
    rintro e w5 ⟨r5, rfl, hg5, hr5⟩
    exact EffPost.mk hg5 ⟨r5, rfl, hr5⟩
  obtain ⟨g5, rfl, hg5⟩ := hv
  have HG5 := Lib.hid hg5
  clear hg5
  clear hc hh hap w'
  simp only [Act.put, List.setIfInBounds_toArray, List.set_cons_zero, List.set_cons_succ, Nat.reduceAdd]
  repeat (first
    | (refine wpGrow_skip (by rfl) ?_; simp only [Act.put, List.setIfInBounds_toArray, List.set_cons_zero, List.set_cons_succ, Nat.reduceAdd])
    | (refine wpGrow_det' (by rfl) (by rfl) ?_; apply Exists.intro; refine ⟨fun w' hc hh => ?_, ?_⟩; (have hcell := grow_cell hc; clear hc hh; go_simp; rfl); simp only [Act.put, List.setIfInBounds_toArray, List.set_cons_zero, List.set_cons_succ, Nat.reduceAdd]))
  refine wpGrow_nil ?_
  intro w1 hg hh
  have HG := Lib.hid ((((Grow.refl w).alloc _).alloc _).trans hg)
  have e0 := up_cell (a := ⟨w.heap.size, 0, none⟩) (v := .int .i64 0) (by go_simp) hg
  have e1 := up_cell (a := ⟨w.heap.size, 1, none⟩) (v := .int .i64 0) (by go_simp) hg
  have e2 := up_cell (a := ⟨w.heap.size, 2, none⟩) (v := .int .i64 0) (by go_simp) hg
  have e3 := up_cell (a := ⟨w.heap.size, 3, none⟩) (v := .slice none 0 0) (by go_simp) hg
  have e4 := up_cell (a := ⟨w.heap.size, 4, none⟩) (v := .slice none 0 0) (by go_simp) hg
  have e5 := up_cell (a := ⟨w.heap.size, 5, none⟩) (v := .slice none 0 0) (by go_simp) hg
  have e6 := up_cell (a := ⟨w.heap.size, 6, none⟩) (v := .slice none 0 0) (by go_simp) hg
  have hf : ∀ o, w1.frozen? ⟨w.heap.size, o, none⟩ = false := fun o => (grow_frozen hg _ _ (by simp <;> omega)).trans (by go_simp)
  clear hh hg
  go_wp2
  exact bodyPost_ret (v := .tuple #[Geo7 6 L 0 A n c none 0 0 E m ce none 0 0, .bool g5]) (by simp [results, Try.results8, go_sem, e0, e1, e2, e3, e4, e5, e6]) rfl ⟨_, rfl, (((((((HG.out).setCell (by simp) _).setCell (by simp) _).setCell (by simp) _).setCell (by simp) _).setCell (by simp) _).setCell (by simp) _).setCell (by simp) _, HG5.out⟩
end Go.Proofs.Ytemobphkgbhhhaa
