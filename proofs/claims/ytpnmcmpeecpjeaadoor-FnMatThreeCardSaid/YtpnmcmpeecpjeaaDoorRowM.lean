import Derived.Test.YtpnmcmpeecpjeaaDoorRow
namespace Go
open Go.ChangeShapes Go.WideShapes Go.ChangeAt Go.RowKit
/-- an argument that is an array of nine floats -/
theorem open_m9 {H : Type} {enc : TypeId × Value → H} {P : Program} {w : World} {base : Nat} {spare : Nat → Bool} {held : Bool} {t e : TypeId} {v : Value} {d : DataW H} {p : List MemPlace} (ht : P.underlying t = some (.array 9 e))
    (hC : P.cellsOf t = 9) (hE : P.cellsOf e = 1) (he : P.underlying e = some (.float .f64)) (h : DataW.Trod enc P w base spare held t v d p) :
    ∃ ds : Nat → Nat, v = .agg #[.float .f64 (ds 0), .float .f64 (ds 1), .float .f64 (ds 2), .float .f64 (ds 3), .float .f64 (ds 4), .float .f64 (ds 5), .float .f64 (ds 6), .float .f64 (ds 7), .float .f64 (ds 8)] := by
  obtain ⟨fuel, hf⟩ := h
  obtain ⟨xs, m, rfl, -, hlen, hn, hel⟩ := DataW.trod_array ht hf
  rw [hC] at hlen
  rw [hE] at hel
  cases v with
  | agg cs =>
    obtain ⟨l⟩ := cs
    have hl : l.length = 9 := by simpa [Value.cells] using hlen
    have k : ∀ (i : Nat) (c : Value), l[i]? = some c → ∃ b, c = .float .f64 b := by
      intro i c hc
      have hi : i < 9 := by
        rcases Nat.lt_or_ge i 9 with h1 | h1
        · exact h1
        · rw [List.getElem?_eq_none (by omega)] at hc; cases hc
      have h1 := hel i hi
      have h2 : ((Value.cells (.agg ⟨l⟩)).toList.drop (i * 1)).take 1 = [c] := by
        show (l.drop (i * 1)).take 1 = [c]
        rw [Nat.mul_one, List.take_one, List.head?_drop, hc]; rfl
      rw [h2, List.getElem?_eq_getElem (by omega)] at h1
      obtain ⟨b, hb, -⟩ := cell_float he h1
      exact ⟨b, hb⟩
    match l, hl, k with
    | [c0, c1, c2, c3, c4, c5, c6, c7, c8], _, k =>
      obtain ⟨b0, rfl⟩ := k 0 c0 rfl
      obtain ⟨b1, rfl⟩ := k 1 c1 rfl
      obtain ⟨b2, rfl⟩ := k 2 c2 rfl
      obtain ⟨b3, rfl⟩ := k 3 c3 rfl
      obtain ⟨b4, rfl⟩ := k 4 c4 rfl
      obtain ⟨b5, rfl⟩ := k 5 c5 rfl
      obtain ⟨b6, rfl⟩ := k 6 c6 rfl
      obtain ⟨b7, rfl⟩ := k 7 c7 rfl
      obtain ⟨b8, rfl⟩ := k 8 c8 rfl
      exact ⟨fun k => [b0, b1, b2, b3, b4, b5, b6, b7, b8].getD k 0, rfl⟩
  | _ => simp [Value.cells] at hlen
end Go
