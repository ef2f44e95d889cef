import Derived.Test.YtdlhlgjgjkmdaaaGeoD
import Derived.RegionTactic
import Derived.ChangeAlike
import Derived.Defers
import Derived.Recover
namespace Go.Proofs.Ytdlhlgjgjkmdaaa
open Go.ChangeShapes Go.WideShapes Go.ChangeAt Go.RowKit Go.GrowR
set_option linter.unusedVariables false
set_option linter.unusedSimpArgs false
theorem idleCk (p0 p1 : Addr) (w : World) :
    CallsD Try.prog 44 #[.pointer (some p0), .pointer (some p1)] .returning w fun e u' w' => e = .returned (.tuple #[]) ∧ u' = .returning ∧ w' = w := by
  refine callsD_of_wpS Try.func44 rfl fun c₀ cs hu => ?_
  apply wpS_seq
  apply wpS_region
  simp [wpOpsS, go_sem, recoverD, hu, Try.ntmps44, Exit.thenS]
  refine wpS_cond (t := false) (by simp [Act.eval, Array.replicate]) ?_
  simp only [Bool.false_eq_true, if_false]
  refine wpS_of_wp ?_
  go_wp2
  cases c₀
  simp_all [bodyPostS, results, Try.results44, Exit.thenS]

def AllLay (l : Int) (kids : List GT) : Bool := kids.all fun g => decide (layO g = l)
def CkQ (l : Int) (kids : List GT) (w : World) (e : Ending) (w' : World) : Prop := e = .returned (.tuple #[.bool (AllLay l kids), .bool true]) ∧ Grow w w'
theorem ta_col (v : Value) (w : World) : (Instr.typeAssert (.iface 68 v) 70 68 false).run Try.prog w = .ok v w := by kernel_rfl
set_option maxRecDepth 100000 in
set_option maxHeartbeats 8000000 in
theorem chk_calls (ly : Int) (hly : ly ≠ 0) (l r : Int) (A1 : Option Addr) (n1 c1 : Nat) (A2 : Option Addr) (n2 c2 : Nat) (A3 : Option Addr) (n3 c3 : Nat) (A4 : Option Addr) (n4 c4 : Nat) (kids : List GT) (w : World) (hge : ∀ w', Grow w w' → Calls Try.prog 45 #[Geo7 7 l r A1 n1 c1 A2 n2 c2 A3 n3 c3 A4 n4 c4] w' (GQ (.mk 7 l r [] [] [] kids) w')) :
    Calls Try.prog 14 #[Geo7 7 l r A1 n1 c1 A2 n2 c2 A3 n3 c3 A4 n4 c4, .int .i64 ly] w (CkQ ly kids w) := by
  have hmf : ∀ (fn : Fn) (first cap : Array Value) (w : World), (Instr.makeFunc fn first cap).run Try.prog w = .ok (.func fn first cap) w := fun _ _ _ _ => rfl
  have hta := ta_col
  have HGE := Lib.hid hge
  clear hge
  go_enter_defers Try.func14, Try.ntmps14
  go_wp2_with fail
  refine (HGE.out _ (by first | exact (((((Grow.refl w).alloc _).alloc _).alloc _).alloc _) | exact ((((Grow.refl w).alloc _).alloc _).alloc _))).mono ?_
  rintro e w1 ⟨v, rfl, hg1, hst⟩
  have htv := hst.now
  unfold TV at htv
  rcases htv with ⟨h, -⟩ | ⟨-, b, V, us, rfl, hcc, hown, hus⟩
  · exact absurd rfl h
  have HCK := Lib.hid (checkLay b l ly r V us kids w1 hcc hown hus)
  have HG1 := Lib.hid hg1
  clear hst hcc hown hus hg1
  go_wp2_with fail
  refine (HCK.out).mono ?_
  rintro e w2 ⟨V', rfl, rfl, hV⟩
  have hgw := HG1.out
  have y1 := up_cell (a := ⟨w.heap.size + 1, 0, none⟩) (v := .bool false) (by go_simp) hgw
  have y2 := up_cell (a := ⟨w.heap.size + 1 + 1, 0, none⟩) (v := .bool false) (by go_simp) hgw
  have f1 : w2.frozen? ⟨w.heap.size + 1, 0, none⟩ = false := (grow_frozen hgw _ _ (by simp <;> omega)).trans (by go_simp)
  have f2 : w2.frozen? ⟨w.heap.size + 1 + 1, 0, none⟩ = false := (grow_frozen hgw _ _ (by simp <;> omega)).trans (by go_simp)
  have HG := Lib.hid (((((Grow.refl w).alloc _).alloc _).alloc _).trans hgw)
  clear hgw
  rcases hV with ⟨rfl, h⟩ | ⟨⟨x, rfl⟩, -, hg⟩
  · have HB : Hid (AllLay ly kids = true) := List.all_eq_true.2 fun g hg => decide_eq_true (h.resolve_left hly g hg)
    clear h
    go_wp2
    refine leaves_cons (f := 44) (args := #[.pointer (some ⟨w.heap.size + 1, 0, none⟩), .pointer (some ⟨w.heap.size + 1 + 1, 0, none⟩)]) (by simp) (by simp [go_sem]) ?_
    refine (idleCk ⟨w.heap.size + 1, 0, none⟩ ⟨w.heap.size + 1 + 1, 0, none⟩ _).mono ?_
    rintro e u' w'' ⟨rfl, rfl, rfl⟩
    have k1 : ((w2.setCell ⟨w.heap.size + 1, 0, none⟩ (.bool true)).setCell ⟨w.heap.size + 1 + 1, 0, none⟩ (.bool true)).cell? ⟨w.heap.size + 1, 0, none⟩ = some (.bool true) := by go_simp
    have k2 : ((w2.setCell ⟨w.heap.size + 1, 0, none⟩ (.bool true)).setCell ⟨w.heap.size + 1 + 1, 0, none⟩ (.bool true)).cell? ⟨w.heap.size + 1 + 1, 0, none⟩ = some (.bool true) := by go_simp
    refine ⟨.tuple #[.bool true, .bool true], by simp [results, Try.results14, go_sem, k1, k2], by rw [HB.out], (HG.out.setCell (by simp <;> omega) _).setCell (by simp <;> omega) _⟩
  · have HB : Hid (AllLay ly kids = false) := by
      obtain ⟨g, hg, hne⟩ := hg
      exact List.all_eq_false.2 ⟨g, hg, by simpa using hne⟩
    clear hg
    go_wp2
    refine leaves_cons (f := 44) (args := #[.pointer (some ⟨w.heap.size + 1, 0, none⟩), .pointer (some ⟨w.heap.size + 1 + 1, 0, none⟩)]) (by simp) (by simp [go_sem]) ?_
    refine (idleCk ⟨w.heap.size + 1, 0, none⟩ ⟨w.heap.size + 1 + 1, 0, none⟩ _).mono ?_
    rintro e u' w'' ⟨rfl, rfl, rfl⟩
    have k1 : ((w2.setCell ⟨w.heap.size + 1, 0, none⟩ (.bool false)).setCell ⟨w.heap.size + 1 + 1, 0, none⟩ (.bool true)).cell? ⟨w.heap.size + 1, 0, none⟩ = some (.bool false) := by go_simp
    have k2 : ((w2.setCell ⟨w.heap.size + 1, 0, none⟩ (.bool false)).setCell ⟨w.heap.size + 1 + 1, 0, none⟩ (.bool true)).cell? ⟨w.heap.size + 1 + 1, 0, none⟩ = some (.bool true) := by go_simp
    refine ⟨.tuple #[.bool false, .bool true], by simp [results, Try.results14, go_sem, k1, k2], by rw [HB.out], (HG.out.setCell (by simp <;> omega) _).setCell (by simp <;> omega) _⟩
set_option maxRecDepth 100000 in
set_option maxHeartbeats 4000000 in
theorem kidsOf_calls (l r ly : Int) (A1 : Option Addr) (n1 c1 : Nat) (A2 : Option Addr) (n2 c2 : Nat) (A3 : Option Addr) (n3 c3 : Nat) (A4 : Option Addr) (c4 : Nat) (kids : List GT) (w : World) (hk : kids = [] ∨ ∃ b o, A4 = some ⟨b, o, none⟩ ∧ GK kids b o w) (hr : ∀ g ∈ kids, Reach44 g) (hl : kids.length ≤ 1172812402961) :
    Calls Try.prog 15 #[Geo7 7 l r A1 n1 c1 A2 n2 c2 A3 n3 c3 A4 kids.length c4, .int .i64 ly] w fun e w' => e = .returned (.bool (AllLay ly kids)) ∧ Grow w w' := by
  have HK := Lib.hid hk; have R8 := Lib.hid hr
  clear hk hr
  obtain ⟨W, hW⟩ : ∃ W, W = w.alloc (Obj.cells #[.int .i64 7, .int .i64 l, .int .i64 r, .slice A1 n1 c1, .slice A2 n2 c2, .slice A3 n3 c3, .slice A4 kids.length c4] 27) := ⟨_, rfl⟩
  have HGW : Hid (Grow w W) := by rw [hW]; exact (Grow.refl w).alloc _
  have HWE := Lib.hid hW; clear hW
  go_enter Try.func15, Try.ntmps15
  go_wp2
  rw [← HWE.out]
  clear HWE
  go_loopw [6, 10] (fun _ i wr => ∃ q : Nat, q ≤ kids.length ∧ i = .int .i64 q ∧ Grow W wr ∧ ∀ (i : Nat) (g : GT), i < q → kids[i]? = some g → layO g = ly) (fun _ i _ => kids.length - (intOf i).toNat)
  case atStart => exact ⟨0, Nat.zero_le _, rfl, Grow.refl _, fun i g h => by omega⟩
  case round =>
    obtain ⟨q, hq, rfl, hg, hall⟩ := hrel
    have HG := Lib.hid hg; have HALL := Lib.hid hall
    clear hall
    by_cases hlt : q < kids.length
    · obtain ⟨kid, hkid⟩ : ∃ p, kids[q]? = some p := ⟨kids[q], by simp [hlt]⟩
      obtain ⟨b, o, rfl, hgk⟩ := gk_some HK.out hlt
      have gw := HGW.out.trans hg
      obtain ⟨k', l', r', A1', n1', c1', A2', n2', c2', A3', n3', c3', A4', n4', c4', h7, hv⟩ := kid_at hgk hkid
      obtain ⟨k0, k1, k2, k3, k4, k5, k6⟩ := Seven.up _ _ h7 gw
      have HKID := Lib.hid (fun w' (hw : Grow wr w') => layoutOf_calls kid _ w' (R8.out kid (List.mem_of_getElem? hkid)) (GV.up _ _ _ _ hv (gw.trans hw)))
      have HKK := Lib.hid hkid
      have hq1 : IntKind.i64.wrap ((q : Int) + 1) = (q : Int) + 1 := IntWalk.i64_in _ (by omega)
      have HNX : Hid (layO kid = ly → ∀ (i : Nat) (g : GT), i < q + 1 → kids[i]? = some g → layO g = ly) := fun h i g hi hg => by
        rcases Nat.lt_or_ge i q with h1 | h1
        · exact HALL.out i g h1 hg
        · obtain rfl : i = q := by omega
          have := HKK.out; rw [hg] at this; cases this; exact h
      have HBAD : Hid (layO kid ≠ ly → AllLay ly kids = false) := fun h => List.all_eq_false.2 ⟨kid, List.mem_of_getElem? HKK.out, by simpa using h⟩
      clear hv hgk hkid gw hg h7
      generalize layO kid = lk at *
      by_cases hly : lk = ly
      · have e1 : (lk != ly) = false := by simpa using hly
        have HN2 := Lib.hid (HNX.out hly)
        clear hly
        go_wp2_with (go_at_call 47; refine (HKID.out _ ((Grow.refl _).alloc _)).mono ?_; rintro e w5 ⟨rfl, hg5⟩; have HG5 := Lib.hid (HG.out.trans (((Grow.refl _).alloc _).trans hg5)); clear hg5)
        go_roundw
        case rel => exact ⟨q + 1, by omega, by go_num, HG5.out, HN2.out⟩
        case measure => simp [intOf]; omega
      · have e1 : (lk != ly) = true := by simpa using hly
        have HB2 := Lib.hid (HBAD.out hly)
        clear hly
        go_wp2_with (go_at_call 47; refine (HKID.out _ ((Grow.refl _).alloc _)).mono ?_; rintro e w5 ⟨rfl, hg5⟩; have HG5 := Lib.hid (HG.out.trans (((Grow.refl _).alloc _).trans hg5)); clear hg5)
        go_ret
        exact ⟨by rw [HB2.out]; rfl, HGW.out.trans HG5.out⟩
    · have HQ := Lib.hid (show kids.length ≤ q by omega)
      clear hg
      go_wp2
      go_ret
      refine ⟨?_, HGW.out.trans HG.out⟩
      have : AllLay ly kids = true := List.all_eq_true.2 fun g hg => decide_eq_true (by
        obtain ⟨i, hi⟩ := List.mem_iff_getElem?.1 hg
        exact HALL.out i g (by have := (List.getElem?_eq_some_iff.1 hi).1; have := HQ.out; omega) hi)
      rw [this]; rfl
end Go.Proofs.Ytdlhlgjgjkmdaaa
