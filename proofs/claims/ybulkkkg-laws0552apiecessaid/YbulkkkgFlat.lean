import Derived.Test.YbulkkkgEntry
import Derived.OwnWalk
import Derived.Maps.AppendAt
namespace Go.Proofs.Ybulkkkg
open Go.RowKit

theorem Yba.info26 : (Yba.prog.info? 26).map (fun i => (i.zero, i.size, i.bytes)) = some (some (.agg #[.int .i64 0, .int .i64 0, .int .i64 0, .bool false, .bool false]), 5, 32) := by kernel_rfl
theorem Yba.info5 : (Yba.prog.info? 5).map (fun i => (i.zero, i.size, i.bytes)) = some (some (.int .u8 0), 1, 1) := by kernel_rfl

/-- An entry's five cells. -/
def ent (a : Int) : List Value := [.int .i64 a, .int .i64 0, .int .i64 0, .bool false, .bool false]
/-- The cells of j entries. -/
def flat (f : Nat → Nat) : Nat → List Value
  | 0 => []
  | j + 1 => flat f j ++ ent (f j)
theorem flat_len (f : Nat → Nat) : ∀ j, (flat f j).length = j * 5
  | 0 => rfl
  | j + 1 => by
    rw [flat, List.length_append, flat_len f j]
    simp [ent]
    omega
theorem flat_get (f : Nat → Nat) : ∀ j i, i < j → (flat f j)[i * 5]? = some (.int .i64 (f i))
  | 0, i, h => by omega
  | j + 1, i, h => by
    rw [flat]
    by_cases e : i = j
    · subst e
      rw [List.getElem?_append_right (by rw [flat_len]; omega), flat_len, Nat.sub_self]
      rfl
    · rw [List.getElem?_append_left (by rw [flat_len]; omega)]
      exact flat_get f j i (by omega)
theorem ent_one (a : Int) : ∀ u ∈ ent a, u.oneCell' = true := by
  intro u hu
  simp [ent] at hu
  rcases hu with rfl | rfl | rfl <;> rfl
/-- The five cells of an entry that was laid in a block of its own. -/
theorem ent_new (w : World) (a : Int) (t : TypeId) : ∀ j u, (ent a)[j]? = some u → (w.alloc (.cells #[.int .i64 a, .int .i64 0, .int .i64 0, .bool false, .bool false] t)).cell? ((⟨w.heap.size, 0, none⟩ : Addr).add j) = some u := by
  intro j u hj
  have hadd : (⟨w.heap.size, 0, none⟩ : Addr).add j = ⟨w.heap.size, j, none⟩ := by unfold Addr.add; split <;> simp_all
  rw [hadd, World.cell?_alloc_new]
  simpa [ent] using hj
theorem row_cell {w : World} {base g n cap : Nat} {f : Nat → Nat} (h : w.ownsRow base 26 5 (.slice (some ⟨g, 0, none⟩) n cap) n (flat f n)) (i : Nat) (hi : i < n) : w.cell? ⟨g, i * 5, none⟩ = some (.int .i64 (f i)) := by
  rw [h.cellAt (i * 5) (by omega)]
  exact flat_get f n i hi

end Go.Proofs.Ybulkkkg
