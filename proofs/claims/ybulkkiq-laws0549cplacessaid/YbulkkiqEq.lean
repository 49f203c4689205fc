import Derived.Test.YbulkkiqQuery
namespace Go.Proofs.Ybulkkiq
open Go.RowKit Go.Lib Go.Maps Go.WideMaps

/-- slices.Equal at two owned rows that hold one and the same list, not empty. -/
theorem eq_own {w : World} {base1 base2 : Nat} {v1 v2 : Value} {l : List ByteArray} (h1 : w.ownsRow base1 9 1 v1 l.length (l.map Value.string)) (h2 : w.ownsRow base2 9 1 v2 l.length (l.map Value.string)) (hl : 0 < l.length) (hb : l.length ≤ 2000) :
    Calls Yba.prog 14 #[v1, v2] w fun e w' => e = .returned (.bool true) ∧ ∃ q, w' = w.drewN q := by
  obtain ⟨g1, c1, rfl, _, _⟩ := h1.form hl
  obtain ⟨g2, c2, rfl, _, _⟩ := h2.form hl
  refine (Yba.slices_Equal_string g1 0 l.length c1 g2 0 l.length c2 l l w (Nat.le_refl _) (Nat.le_refl _) (by omega) (by omega) (fun j hj => ?_) (fun j hj => ?_)).mono fun e w' he => ?_
  · rw [Nat.zero_add, h1.cellAt j (by omega)]
    simp [List.getElem?_eq_getElem hj]
  · rw [Nat.zero_add, h2.cellAt j (by omega)]
    simp [List.getElem?_eq_getElem hj]
  · simpa using he

end Go.Proofs.Ybulkkiq
