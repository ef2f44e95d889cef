import Derived.Test.YtemobphkgbhhhaaGeoP
import Derived.Test.YtemobphkgbhhhaaStabA
namespace Go.Proofs.Ytemobphkgbhhhaa
open Go.ChangeShapes Go.WideShapes Go.ChangeAt Go.RowKit Go.GrowR
set_option linter.unusedVariables false
set_option linter.unusedSimpArgs false

namespace Stab
variable {lo hi : Nat} {X Y : World → Prop} {w w' : World}
theorem iown {B : Nat} {V : Value} {ns : List Int} (h : IOwn B V ns w) (h1 : lo ≤ B) (h2 : w.heap.size ≤ hi) : Stab lo hi (IOwn B V ns) w := own h h1 h2
theorem iiown {B : Nat} {V : Value} {nss : List (List Int)} (h : IIOwn B V nss w) (h1 : lo ≤ B) (h2 : w.heap.size ≤ hi) : Stab lo hi (IIOwn B V nss) w := by
  obtain ⟨us, h3, h4⟩ := h
  exact fun w2 hw => ⟨us, own h3 h1 h2 w2 hw, h4.1, fun i u x hu hx => own (h4.2 i u x hu hx) h1 h2 w2 hw⟩
theorem obj4 {b : Nat} {l s r : Int} {u : Value} (h : Obj4 b l s r u w) (h1 : lo ≤ b) (h2 : b < hi) : Stab lo hi (Obj4 b l s r u) w := by
  obtain ⟨c0, c1, c2, c3, c4⟩ := h
  exact fun w2 hw => ⟨cell c0 h1 h2 w2 hw, cell c1 h1 h2 w2 hw, cell c2 h1 h2 w2 hw, cell c3 h1 h2 w2 hw, fun o => froz (c4 o) h1 h2 w2 hw⟩
end Stab
/-- the dynamic types of the geometries -/
def tyK (k : Int) : TypeId := if k = 1 then 71 else if k = 2 then 74 else if k = 3 then 66 else if k = 4 then 70 else if k = 5 then 73 else if k = 6 then 76 else 68
/-- the ends a geometry's object holds -/
def EvK (B : Nat) (k : Int) (en : List Int) (ens : List (List Int)) (b : Nat) (w : World) : Prop :=
  (k = 1 ∨ k = 2 ∨ k = 8) ∨ ((k = 3 ∨ k = 4 ∨ k = 5) ∧ ∃ ev, w.cell? ⟨b, 4, none⟩ = some ev ∧ IOwn B ev en w) ∨ (k = 6 ∧ ∃ ev, w.cell? ⟨b, 4, none⟩ = some ev ∧ IIOwn B ev ens w)
/-- an object of a collection: layout, parts, SRID -/
def ColC (b : Nat) (l r : Int) (V : Value) (w : World) : Prop := w.cell? ⟨b, 0, none⟩ = some (.int .i64 l) ∧ w.cell? ⟨b, 1, none⟩ = some V ∧ w.cell? ⟨b, 2, none⟩ = some (.int .i64 r) ∧ ∀ o, w.frozen? ⟨b, o, none⟩ = false
def TPlain (k l r : Int) (fl : List Nat) (en : List Int) (ens : List (List Int)) (v : Value) (w : World) : Prop :=
  ∃ b u, v = .iface (tyK k) (.pointer (some ⟨b, 0, none⟩)) ∧ Obj4 b l (strideN l) r u w ∧ FOwn 36 0 u fl w ∧ EvK 0 k en ens b w
mutual
/-- an object of the package that holds a geometry -/
def TV : GT → Value → World → Prop
  | .mk k l r fl en ens kids, v, w => (k ≠ 7 ∧ TPlain k l r fl en ens v w) ∨
    (k = 7 ∧ ∃ b V us, v = .iface 78 (.pointer (some ⟨b, 0, none⟩)) ∧ ColC b l r V w ∧ VOwn 63 0 V us w ∧ TVs kids us w)
def TVs : List GT → List Value → World → Prop
  | [], us, _ => us = []
  | g :: gs, us, w => ∃ u us', us = u :: us' ∧ TV g u w ∧ TVs gs us' w
end
theorem TVs_len : ∀ {gs : List GT} {us : List Value} {w : World}, TVs gs us w → us.length = gs.length
  | [], _, _, h => by unfold TVs at h; subst h; rfl
  | g :: gs, _, _, h => by
    unfold TVs at h
    obtain ⟨u, us', rfl, -, h2⟩ := h
    simp [TVs_len h2]
theorem TVs_at : ∀ {gs : List GT} {us : List Value} {w : World}, TVs gs us w → ∀ {i : Nat} {g : GT}, gs[i]? = some g → ∃ u, us[i]? = some u ∧ TV g u w
  | [], _, _, _, i, g, h => by simp at h
  | g :: gs, us, w, hk, 0, g', h => by
    simp at h; subst h
    unfold TVs at hk
    obtain ⟨u, us', rfl, h1, -⟩ := hk
    exact ⟨u, rfl, h1⟩
  | g :: gs, us, w, hk, i + 1, g', h => by
    unfold TVs at hk
    obtain ⟨u, us', rfl, -, h2⟩ := hk
    obtain ⟨u', h3, h4⟩ := TVs_at h2 (i := i) (g := g') (by simpa using h)
    exact ⟨u', by simpa using h3, h4⟩
theorem TVs_mk : ∀ {gs : List GT} {us : List Value} {w : World}, us.length = gs.length → (∀ (i : Nat) (g : GT) (u : Value), gs[i]? = some g → us[i]? = some u → TV g u w) → TVs gs us w
  | [], [], _, _, _ => by unfold TVs; rfl
  | [], u :: us, _, h, _ => by simp at h
  | g :: gs, [], _, h, _ => by simp at h
  | g :: gs, u :: us, w, hl, h => by
    unfold TVs
    refine ⟨u, us, rfl, h 0 g u rfl rfl, TVs_mk (by simpa using hl) fun i g' u' h1 h2 => h (i + 1) g' u' (by simpa using h1) (by simpa using h2)⟩
def GQ (g : GT) (w : World) (e : Ending) (w' : World) : Prop := ∃ v, e = .returned v ∧ Grow w w' ∧ Stab w.heap.size w'.heap.size (TV g v) w'
theorem TPlain.of4 {k l r : Int} {s : Nat} {fl : List Nat} {en : List Int} {ens : List (List Int)} {w w' : World} {e : Ending} (hs : strideN l = s) (hk : k = 1 ∨ k = 2 ∨ k = 8) (h : GObj w.heap.size l r s (tyK k) fl w e w') : GQ (.mk k l r fl en ens []) w e w' := by
  obtain ⟨b, u, rfl, hb, ho, hown, hg⟩ := h
  have hlt : b < w'.heap.size := cell_ltH ho.1
  refine ⟨_, rfl, hg, fun w2 hw => ?_⟩
  unfold TV
  refine .inl ⟨by omega, b, u, rfl, ?_, VOwn.mono (Stab.own hown (Nat.le_refl _) (Nat.le_refl _) w2 hw) (Nat.zero_le _), .inl hk⟩
  rw [hs]; exact Stab.obj4 ho hb hlt w2 hw
theorem TPlain.of5 {k l r : Int} {s : Nat} {fl : List Nat} {en : List Int} {ens : List (List Int)} {w w' : World} {e : Ending} (hs : strideN l = s) (hk : k = 3 ∨ k = 4 ∨ k = 5) (h : GObj5 w.heap.size l r s (tyK k) fl (fun ev w' => IOwn w.heap.size ev en w') w e w') : GQ (.mk k l r fl en ens []) w e w' := by
  obtain ⟨b, u, ev, rfl, hb, ho, hown, hev, hg⟩ := h
  have hlt : b < w'.heap.size := cell_ltH ho.1.1
  refine ⟨_, rfl, hg, fun w2 hw => ?_⟩
  unfold TV
  refine .inl ⟨by omega, b, u, rfl, ?_, VOwn.mono (Stab.own hown (Nat.le_refl _) (Nat.le_refl _) w2 hw) (Nat.zero_le _), .inr (.inl ⟨hk, ev, Stab.cell ho.2 hb hlt w2 hw, VOwn.mono (Stab.iown hev (Nat.le_refl _) (Nat.le_refl _) w2 hw) (Nat.zero_le _)⟩)⟩
  rw [hs]; exact Stab.obj4 ho.1 hb hlt w2 hw
theorem TPlain.of6 {l r : Int} {s : Nat} {fl : List Nat} {en : List Int} {ens : List (List Int)} {w w' : World} {e : Ending} (hs : strideN l = s) (h : GObj5 w.heap.size l r s (tyK 6) fl (fun ev w' => IIOwn w.heap.size ev ens w') w e w') : GQ (.mk 6 l r fl en ens []) w e w' := by
  obtain ⟨b, u, ev, rfl, hb, ho, hown, hev, hg⟩ := h
  have hlt : b < w'.heap.size := cell_ltH ho.1.1
  refine ⟨_, rfl, hg, fun w2 hw => ?_⟩
  unfold TV
  refine .inl ⟨by decide, b, u, rfl, ?_, VOwn.mono (Stab.own hown (Nat.le_refl _) (Nat.le_refl _) w2 hw) (Nat.zero_le _), .inr (.inr ⟨rfl, ev, Stab.cell ho.2 hb hlt w2 hw, IIOwn.mono (Stab.iiown hev (Nat.le_refl _) (Nat.le_refl _) w2 hw) (Nat.zero_le _)⟩)⟩
  rw [hs]; exact Stab.obj4 ho.1 hb hlt w2 hw
/-- the objects of geometries that are no collection -/
theorem geoPlain {k l r : Int} {fl : List Nat} {en : List Int} {ens : List (List Int)} {A1 : Option Addr} {c1 : Nat} {A2 : Option Addr} {c2 : Nat} {A3 : Option Addr} {c3 : Nat} {A4 : Option Addr} {c4 : Nat} {w : World} (hu : FSl (.slice A1 fl.length c1) fl w) (he : ISl (.slice A2 en.length c2) en w) (he2 : ISSl (.slice A3 ens.length c3) ens w)
    (hr : Reach44 (.mk k l r fl en ens [])) (h1 : 1 ≤ l) (h9 : l ≤ 9) (hd : KindOk k (strideN l) fl.length en ens) :
    Calls Try.prog 35 #[Geo7 k l r A1 fl.length c1 A2 en.length c2 A3 ens.length c3 A4 0 c4] w (GQ (.mk k l r fl en ens []) w) := by
  obtain ⟨s, hs, s2, s9⟩ := stride_nat l h1 h9
  cases hr with
  | mk r0 r1 r2 r3 r4 r5 r6 r7 rk r8 =>
  rcases hd with ⟨rfl, h2, h3, h4⟩ | ⟨rfl | rfl, h2, h3⟩ | ⟨rfl | rfl | rfl, h2, h3, h4⟩ | ⟨rfl, h2, h3, h4⟩
  · exact (geometry1 l r s fl A1 c1 A2 _ c2 A3 _ c3 A4 _ c4 w hu r0 h1 h9 hs).mono fun e w' h => TPlain.of4 hs (.inl rfl) h
  · exact (geometry2 l r s fl A1 c1 A2 _ c2 A3 _ c3 A4 _ c4 w hu r0 h1 h9 hs).mono fun e w' h => TPlain.of4 hs (.inr (.inl rfl)) h
  · exact (geometry8 l r s fl A1 c1 A2 _ c2 A3 _ c3 A4 _ c4 w hu r0 h1 h9 hs).mono fun e w' h => TPlain.of4 hs (.inr (.inr rfl)) h
  · exact (geometry3 l r s fl en A1 c1 A2 c2 A3 _ c3 A4 _ c4 w hu he r0 r1 h1 h9 hs).mono fun e w' h => TPlain.of5 hs (.inl rfl) h
  · refine (geometry4 l r s fl en A1 c1 A2 c2 A3 _ c3 A4 _ c4 w hu he r0 r1 h1 h9 hs fun h0 => ?_).mono fun e w' h => TPlain.of5 hs (.inr (.inl rfl)) h
    subst h0
    simp [lastE] at h4
    exact List.eq_nil_of_length_eq_zero (by omega)
  · exact (geometry5 l r s fl en A1 c1 A2 c2 A3 _ c3 A4 _ c4 w hu he r0 r1 h1 h9 hs).mono fun e w' h => TPlain.of5 hs (.inr (.inr rfl)) h
  · exact (geometry6 l r s fl ens A1 c1 A2 _ c2 A3 c3 A4 _ c4 w hu he2 r0 r2 (fun i xs hx => r5 xs (List.mem_of_getElem? hx)) h1 h9 hs).mono fun e w' h => TPlain.of6 hs h
end Go.Proofs.Ytemobphkgbhhhaa
