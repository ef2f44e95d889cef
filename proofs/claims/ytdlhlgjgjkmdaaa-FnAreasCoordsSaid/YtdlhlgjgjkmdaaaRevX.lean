import Derived.Test.YtdlhlgjgjkmdaaaRevW
import Derived.Test.YtdlhlgjgjkmdaaaSegA
namespace Go.Proofs.Ytdlhlgjgjkmdaaa
open Go.ChangeShapes Go.WideShapes Go.ChangeAt Go.RowKit Go.GrowR
set_option linter.unusedVariables false
set_option linter.unusedSimpArgs false

/-- an own row, or none: what a slice holds that is turned about *)-/
def FLg (A : Option Addr) (g : Nat) (xs : List Nat) (w : World) : Prop := xs = [] ∨ (A = some ⟨g, 0, none⟩ ∧ FB g xs w)
theorem FLg.fsl {A : Option Addr} {g n c : Nat} {xs : List Nat} {w : World} (h : FLg A g xs w) (hn : xs.length = n) (hc : n ≤ c) : FSl (.slice A n c) xs w := by
  subst hn
  rcases h with rfl | ⟨rfl, h⟩
  · exact ⟨_, _, rfl, hc, .inl rfl⟩
  · exact h.fsl hc
set_option maxHeartbeats 2000000 in
theorem rev1_none (A : Option Addr) (n c s o e : Nat) (w : World) (hs : e < o + s) (ho : o ≤ 17592186044416) (hs9 : s ≤ 9) :
    Calls Try.prog 180 #[.slice A n c, .int .i64 o, .int .i64 e, .int .i64 s] w fun e w' => e = .returned (.tuple #[]) ∧ w' = w := by
  go_enter Try.func180, Try.ntmps180
  go_wp2
  go_loopw [8, 9, 10, 24, 25] (fun vi vj _ _ _ wr => vi = .int .i64 ((o : Int) + s) ∧ vj = .int .i64 e ∧ wr = w) (fun vi vj _ _ _ _ => 0)
  case atStart => exact ⟨rfl, rfl, rfl⟩
  case round =>
    obtain ⟨rfl, rfl, rfl⟩ := hrel
    have h1 : ¬ ((o : Int) + s ≤ e) := by omega
    have h2 : (e : Int) < (o : Int) + s := by omega
    go_wp2
    exact bodyPost_end (results_none rfl _ _ _) rfl ⟨rfl, rfl⟩
theorem rev1F (A : Option Addr) (g n c s e : Nat) (X : List Nat) (rows : List (List Nat)) (Z : List Nat) (w : World) (hs : 0 < s) (hs9 : s ≤ 9) (hr : ∀ r ∈ rows, r.length = s) (hn : (X ++ rows.flatten ++ Z).length = n) (hnl : n ≤ 17592186044416) (hc : n ≤ c) (he : e = X.length + rows.length * s) (hfb : FLg A g (X ++ rows.flatten ++ Z) w) :
    Calls Try.prog 180 #[.slice A n c, .int .i64 X.length, .int .i64 e, .int .i64 s] w fun e w' => e = .returned (.tuple #[]) ∧ FLg A g (X ++ rows.reverse.flatten ++ Z) w' ∧ G1 g w w' := by
  rcases hfb with h0 | ⟨rfl, h⟩
  · have hrow : rows = [] := by
      cases rows with
      | nil => rfl
      | cons r rows =>
        have := hr r (by simp)
        have h1 := congrArg List.length h0
        simp at h1
        have h2 : r = [] := h1.2.1
        subst h2; simp at this; omega
    subst hrow
    refine (rev1_none A n c s X.length e w (by simp at he; omega) (by rw [← hn] at hnl; simp at hnl; omega) hs9).mono ?_
    rintro e w' ⟨rfl, rfl⟩
    exact ⟨rfl, .inl (by simpa using h0), G1.refl g _⟩
  · refine (rev1_calls g n c s e X rows Z w hs hs9 hr hn hnl hc he h).mono ?_
    rintro e w' ⟨rfl, h1, h2⟩
    exact ⟨rfl, .inr ⟨rfl, h1⟩, h2⟩
/-- the ends' cells in a block of their own -/
def EndC (E : Option Addr) (g : Nat) (en : List Nat) (w : World) : Prop := en = [] ∨ ∃ b o, E = some ⟨b, o, none⟩ ∧ b ≠ g ∧ ∀ (i x : Nat), en[i]? = some x → w.cell? ⟨b, o + i, none⟩ = some (.int .i64 x)
theorem EndC.g1 {E : Option Addr} {g : Nat} {en : List Nat} {w w' : World} (h : EndC E g en w) (hg : G1 g w w') : EndC E g en w' := by
  rcases h with h | ⟨b, o, h1, h2, h3⟩
  · exact .inl h
  · exact .inr ⟨b, o, h1, h2, fun i x hi => by have := h3 i x hi; rw [hg.cell _ _ (cell_ltH this) h2]; exact this⟩
set_option maxRecDepth 100000 in
set_option maxHeartbeats 4000000 in
theorem rev2F (A E : Option Addr) (g n c s ce : Nat) (X : List Nat) (segs : List (List (List Nat))) (Z : List Nat) (w : World) (hs : 0 < s) (hs9 : s ≤ 9) (hr : ∀ rows ∈ segs, ∀ r ∈ rows, r.length = s) (hn : (X ++ fwd segs ++ Z).length = n) (hnl : n ≤ 17592186044416) (hc : n ≤ c) (hsl : segs.length ≤ 17592186044416) (hfb : FLg A g (X ++ fwd segs ++ Z) w) (hE : EndC E g (cum s X.length segs) w) :
    Calls Try.prog 190 #[.slice A n c, .int .i64 X.length, .slice E segs.length ce, .int .i64 s] w fun e w' => e = .returned (.tuple #[]) ∧ FLg A g (X ++ bwd segs ++ Z) w' ∧ G1 g w w' := by
  have HR := Lib.hid hr; have HN := Lib.hid hn; have HFB := Lib.hid hfb; have HE := Lib.hid hE
  clear hr hn hfb hE
  go_enter Try.func190, Try.ntmps190
  go_wp2
  go_loopw [1, 9, 12] (fun vo _ vi wr => ∃ q : Nat, q ≤ segs.length ∧ vi = .int .i64 q ∧ vo = .int .i64 ((X ++ bwd (segs.take q)).length : Nat) ∧ FLg A g (X ++ bwd (segs.take q) ++ (fwd (segs.drop q) ++ Z)) wr ∧ G1 g w wr) (fun _ _ vi _ => (segs.length - intOf vi).toNat)
  case atStart => exact ⟨0, Nat.zero_le _, rfl, by simp [bwd], by simpa [bwd, List.append_assoc] using HFB.out, G1.refl g w⟩
  case round =>
    obtain ⟨q, hq, rfl, rfl, hfl, hg1⟩ := hrel
    have HF := Lib.hid hfl; have HG := Lib.hid hg1
    clear hfl hg1 HFB
    by_cases hlt : q < segs.length
    · obtain ⟨rows, hrows⟩ : ∃ p, segs[q]? = some p := ⟨segs[q], by simp [hlt]⟩
      have hmem := List.mem_of_getElem? hrows
      have hrl := HR.out rows hmem
      have hend := cum_at (o := X.length) HR.out hrows
      have hft : ∀ q' ∈ segs.take q, ∀ r ∈ q', r.length = s := fun q' h => HR.out q' (take_mem h)
      rw [← fwd_len hft] at hend
      have HE' := Lib.hid (HE.out.g1 HG.out)
      rcases HE'.out with h0 | ⟨be, oe, rfl, hbe, hce⟩
      · exfalso; have := congrArg List.length h0; rw [cum_len] at this; simp at this; rw [this] at hlt; simp at hlt
      have hcell := hce q _ hend
      have hsp := seg_split hrows
      have hfw : fwd (segs.drop q) = rows.flatten ++ fwd (segs.drop (q + 1)) := by rw [hsp]; simp [fwd]
      have HF' := Lib.hid (show FLg A g ((X ++ bwd (segs.take q)) ++ rows.flatten ++ (fwd (segs.drop (q + 1)) ++ Z)) wr by have := HF.out; rw [hfw] at this; simpa [List.append_assoc] using this)
      have htot : (X ++ bwd (segs.take q) ++ rows.flatten ++ (fwd (segs.drop (q + 1)) ++ Z)).length = n := by
        have h1 := HN.out
        have h2 : fwd segs = fwd (segs.take q) ++ fwd (segs.drop q) := by
          unfold fwd; rw [← List.flatten_append, ← List.map_append, List.take_append_drop]
        rw [h2, hfw] at h1
        simp only [List.length_append, fwd_len hft] at h1 ⊢
        omega
      have hbs := bwd_snoc hrows
      have HC := Lib.hid (rev1F A g n c s ((X ++ bwd (segs.take q)).length + rows.length * s) (X ++ bwd (segs.take q)) rows (fwd (segs.drop (q + 1)) ++ Z) wr hs hs9 hrl htot hnl hc rfl HF'.out)
      have HBS := Lib.hid hbs
      have hol : (X ++ bwd (segs.take q)).length + rows.length * s ≤ 17592186044416 := by
        simp only [List.length_append, flat_len hrl] at htot ⊢; omega
      have HOE := Lib.hid (show (X ++ bwd (segs.take (q + 1))).length = (X ++ bwd (segs.take q)).length + rows.length * s by rw [hbs]; simp only [List.length_append, flat_len (rows := rows.reverse) (s := s) (fun r hr => hrl r (by simpa using hr)), List.length_reverse]; omega)
      have hcell2 : wr.cell? ⟨be, oe + q, none⟩ = some (.int .i64 ((X ++ bwd (segs.take q)).length + rows.length * s : Nat)) := by rw [hcell]; congr 2; simp only [List.length_append]
      have hq1 : IntKind.i64.wrap ((q : Int) + 1) = (q : Int) + 1 := IntWalk.i64_in _ (by omega)
      clear hrows hmem hrl hend hft hce hcell hsp hfw htot hbs
      generalize (X ++ bwd (segs.take q)).length + rows.length * s = en at *
      generalize (X ++ bwd (segs.take q)).length = oo at *
      go_wp2_with (go_at_call 180; refine (HC.out).mono ?_; rintro e w' ⟨rfl, hf1, hg1⟩; have HF1 := Lib.hid hf1; have HGG := Lib.hid (HG.out.trans hg1); clear hf1 hg1)
      go_roundw
      case rel => exact ⟨q + 1, by omega, by go_num, by rw [HOE.out], by rw [HBS.out]; simpa [List.append_assoc] using HF1.out, HGG.out⟩
      case measure => simp [intOf]; omega
    · have hqe : q = segs.length := by omega
      have HQ := Lib.hid hqe
      clear hqe
      go_wp2
      refine bodyPost_end (results_none rfl _ _ _) rfl ⟨rfl, ?_, HG.out⟩
      have h1 := HF.out
      rw [HQ.out, List.take_length, List.drop_length] at h1
      simpa [fwd] using h1

def EndCC (E : Option Addr) (g : Nat) (ens : List (List Nat)) (w : World) : Prop := ens = [] ∨ ∃ b o, E = some ⟨b, o, none⟩ ∧ b ≠ g ∧ ∀ (i : Nat) (l : List Nat), ens[i]? = some l → ∃ A c, w.cell? ⟨b, o + i, none⟩ = some (.slice A l.length c) ∧ EndC A g l w
theorem EndCC.g1 {E : Option Addr} {g : Nat} {ens : List (List Nat)} {w w' : World} (h : EndCC E g ens w) (hg : G1 g w w') : EndCC E g ens w' := by
  rcases h with h | ⟨b, o, h1, h2, h3⟩
  · exact .inl h
  · refine .inr ⟨b, o, h1, h2, fun i l hi => ?_⟩
    obtain ⟨A, c, h4, h5⟩ := h3 i l hi
    exact ⟨A, c, by rw [hg.cell _ _ (cell_ltH h4) h2]; exact h4, h5.g1 hg⟩
set_option maxRecDepth 100000 in
set_option maxHeartbeats 4000000 in
theorem rev3F (A E : Option Addr) (g n c s ce : Nat) (X : List Nat) (segss : List (List (List (List Nat)))) (Z : List Nat) (w : World) (hs : 0 < s) (hs9 : s ≤ 9) (hr : ∀ segs ∈ segss, ∀ rows ∈ segs, ∀ r ∈ rows, r.length = s) (hn : (X ++ fwd segss.flatten ++ Z).length = n) (hnl : n ≤ 17592186044416) (hc : n ≤ c) (hsl : segss.length ≤ 17592186044416) (hsl2 : ∀ segs ∈ segss, segs.length ≤ 17592186044416) (hfb : FLg A g (X ++ fwd segss.flatten ++ Z) w) (hE : EndCC E g (cums s X.length segss) w) :
    Calls Try.prog 204 #[.slice A n c, .int .i64 X.length, .slice E segss.length ce, .int .i64 s] w fun e w' => e = .returned (.tuple #[]) ∧ FLg A g (X ++ bwd segss.flatten ++ Z) w' ∧ G1 g w w' := by
  have HR := Lib.hid hr; have HN := Lib.hid hn; have HFB := Lib.hid hfb; have HE := Lib.hid hE; have HSL := Lib.hid hsl2
  clear hr hn hfb hE hsl2
  go_enter Try.func204, Try.ntmps204
  go_wp2
  go_loopw [1, 9, 12] (fun vo _ vi wr => ∃ q : Nat, q ≤ segss.length ∧ vi = .int .i64 q ∧ vo = .int .i64 ((X ++ bwd (segss.take q).flatten).length : Nat) ∧ FLg A g (X ++ bwd (segss.take q).flatten ++ (fwd (segss.drop q).flatten ++ Z)) wr ∧ G1 g w wr) (fun _ _ vi _ => (segss.length - intOf vi).toNat)
  case atStart => exact ⟨0, Nat.zero_le _, rfl, by simp [bwd], by simpa [bwd, List.append_assoc] using HFB.out, G1.refl g w⟩
  case round =>
    obtain ⟨q, hq, rfl, rfl, hfl, hg1⟩ := hrel
    have HF := Lib.hid hfl; have HG := Lib.hid hg1
    clear hfl hg1 HFB
    by_cases hlt : q < segss.length
    · obtain ⟨segs, hsegs⟩ : ∃ p, segss[q]? = some p := ⟨segss[q], by simp [hlt]⟩
      have hmem := List.mem_of_getElem? hsegs
      have hrl := HR.out segs hmem
      have hsn := HSL.out segs hmem
      have hend := cums_at (s := s) (o := X.length) hsegs
      have hft : ∀ rows ∈ (segss.take q).flatten, ∀ r ∈ rows, r.length = s := fun rows h => by
        obtain ⟨l, h1, h2⟩ := List.mem_flatten.1 h
        exact HR.out l (take_mem h1) rows h2
      rw [← fwd_len hft] at hend
      rcases (HE.out.g1 HG.out) with h0 | ⟨be, oe, rfl, hbe, hce⟩
      · exfalso; have := congrArg List.length h0; rw [cums_len] at this; simp at this; rw [this] at hlt; simp at hlt
      obtain ⟨A2, c2, hcell, hec⟩ := hce q _ hend
      have hdr : segss.drop q = segs :: segss.drop (q + 1) := by
        obtain ⟨hq', rfl⟩ := List.getElem?_eq_some_iff.1 hsegs
        exact List.drop_eq_getElem_cons hq'
      have htk : segss.take (q + 1) = segss.take q ++ [segs] := by rw [List.take_add_one, hsegs]; rfl
      have hfw : fwd (segss.drop q).flatten = fwd segs ++ fwd (segss.drop (q + 1)).flatten := by rw [hdr, List.flatten_cons, fwd_append]
      have hbs : bwd (segss.take (q + 1)).flatten = bwd (segss.take q).flatten ++ bwd segs := by rw [htk, List.flatten_append, bwd_append]; simp
      have HF' := Lib.hid (show FLg A g ((X ++ bwd (segss.take q).flatten) ++ fwd segs ++ (fwd (segss.drop (q + 1)).flatten ++ Z)) wr by have := HF.out; rw [hfw] at this; simpa [List.append_assoc] using this)
      have htot : (X ++ bwd (segss.take q).flatten ++ fwd segs ++ (fwd (segss.drop (q + 1)).flatten ++ Z)).length = n := by
        have h1 := HN.out
        have h2 : fwd segss.flatten = fwd (segss.take q).flatten ++ fwd (segss.drop q).flatten := by
          rw [← fwd_append, ← List.flatten_append, List.take_append_drop]
        rw [h2, hfw] at h1
        simp only [List.length_append, fwd_len hft] at h1 ⊢
        omega
      have hoe : (X ++ bwd (segss.take (q + 1)).flatten).length = (X ++ bwd (segss.take q).flatten).length + (fwd segs).length := by rw [hbs]; simp only [List.length_append, fwd_len hrl]; omega
      have hxe : X.length + (bwd (segss.take q).flatten).length = (X ++ bwd (segss.take q).flatten).length := by simp only [List.length_append]
      rw [hxe] at hec hcell
      have HC := Lib.hid (rev2F A A2 g n c s c2 (X ++ bwd (segss.take q).flatten) segs (fwd (segss.drop (q + 1)).flatten ++ Z) wr hs hs9 hrl htot hnl hc hsn HF'.out hec)
      have HBS := Lib.hid hbs; have HOE := Lib.hid hoe; have HEC := Lib.hid hec
      have hol : (X ++ bwd (segss.take q).flatten).length + (fwd segs).length ≤ 17592186044416 := by
        simp only [List.length_append] at htot ⊢; omega
      have hq1 : IntKind.i64.wrap ((q : Int) + 1) = (q : Int) + 1 := IntWalk.i64_in _ (by omega)
      have HRL := Lib.hid hrl
      have HX0 := Lib.hid (show segs = [] → X ++ bwd (segss.take (q + 1)).flatten ++ (fwd (segss.drop (q + 1)).flatten ++ Z) = X ++ bwd (segss.take q).flatten ++ (fwd (segss.drop q).flatten ++ Z) by intro h; subst h; rw [hfw, hbs]; simp [fwd, bwd])
      have HX1 := Lib.hid (show segs = [] → (X ++ bwd (segss.take (q + 1)).flatten).length = (X ++ bwd (segss.take q).flatten).length by intro h; subst h; rw [hbs]; simp [bwd])
      rw [cum_len] at hcell
      clear hsegs hmem hrl hend hft hce hdr htk hfw htot hbs hec hxe hoe
      by_cases h0 : segs = []
      · have X0 := Lib.hid (HX0.out h0); have X1 := Lib.hid (HX1.out h0)
        subst h0
        clear HX0 HX1 hol
        simp only [List.length_nil] at hcell
        generalize (X ++ bwd (segss.take q).flatten).length = oo at *
        go_wp2
        go_roundw
        case rel => exact ⟨q + 1, by omega, by go_num, by rw [X1.out], by rw [X0.out]; exact HF.out, HG.out⟩
        case measure => simp [intOf]; omega
      · obtain ⟨m, hm⟩ : ∃ m, segs.length = m + 1 := ⟨segs.length - 1, by have : segs.length ≠ 0 := fun h => h0 (List.eq_nil_of_length_eq_zero h); omega⟩
        have hlast := cum_last (o := (X ++ bwd (segss.take q).flatten).length) HRL.out hm
        rcases HEC.out with h1 | ⟨b2, o2, rfl, hb2, hc2⟩
        · exfalso; have := congrArg List.length h1; rw [cum_len] at this; simp at this; exact h0 this
        have hl2 := hc2 m _ hlast
        have HB2 := Lib.hid hb2
        have hsl0 : ((segs.length : Int) == 0) = false := by rw [beq_eq_false_iff_ne]; omega
        have hsm : IntKind.i64.wrap ((segs.length : Int) - 1) = (m : Int) := by rw [hm]; exact (wrapN (by omega) (by omega)).trans (by omega)
        have hsm2 : (segs.length : Int) - 1 = (m : Int) := by omega
        have hmlt : (m : Int) < (segs.length : Int) := by omega
        have hne : ¬ segs.length = 0 := by omega
        have HL2 := Lib.hid hl2
        clear HX0 HX1 h0 hc2 hm hlast hl2 hb2 HEC
        generalize segs.length = sl at *
        generalize (X ++ bwd (segss.take q).flatten).length = oo at *
        go_wp2_with (go_at_call 190; refine (HC.out).mono ?_; rintro e w' ⟨rfl, hf1, hg1⟩; have HF1 := Lib.hid hf1; have HGG := Lib.hid (HG.out.trans hg1); have hl3 := HL2.out; rw [← hg1.cell _ _ (cell_ltH hl3) HB2.out] at hl3; clear hf1 hg1)
        go_roundw
        case rel => exact ⟨q + 1, by omega, by go_num, by rw [HOE.out]; go_num, by rw [HBS.out]; simpa [List.append_assoc] using HF1.out, HGG.out⟩
        case measure => simp [intOf]; omega
    · have hqe : q = segss.length := by omega
      have HQ := Lib.hid hqe
      clear hqe
      go_wp2
      refine bodyPost_end (results_none rfl _ _ _) rfl ⟨rfl, ?_, HG.out⟩
      have h1 := HF.out
      rw [HQ.out, List.take_length, List.drop_length] at h1
      simpa [fwd] using h1
end Go.Proofs.Ytdlhlgjgjkmdaaa
