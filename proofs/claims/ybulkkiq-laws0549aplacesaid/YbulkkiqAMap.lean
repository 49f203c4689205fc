import Derived.Test.YbulkkiqAKey
import Derived.Test.YbulkkiqAPeer
import Derived.Maps.OwnSet
import Derived.Maps.Views
namespace Go.Proofs.Ybulkkiq
open Go.RowKit Go.Maps Go.WideMaps Go.Lib

theorem lawA9 : Keyed Yba.prog 9 := string_keyed Yba.underlying9
/-- A map's element, held as the value that it is. -/
def tokA (v : Value) : Option (DataW Value × List MemPlace) := some (.held v, [])
def keyLit (m : Nat) : Lit := .string (strOfNums (keyN m)).data.toList
theorem keyLit_ne {i j : Nat} (h : i ≠ j) : keyLit i ≠ keyLit j := fun e => h (key_inj (by
  simp only [keyLit, Lit.string.injEq] at e
  have : (strOfNums (keyN i)).data = (strOfNums (keyN j)).data := Array.toList_inj.1 e
  cases h1 : strOfNums (keyN i)
  cases h2 : strOfNums (keyN j)
  rw [h1, h2] at this
  simp at this
  rw [this]))

/-- Block B is a map that holds the first i keys. -/
structure Keys (w : World) (B i : Nat) (D : DataW Value) : Prop where
  own : w.ownsMap Yba.prog 9 tokA B i D
  size : Maps.size D = i
  has : ∀ m, i ≤ m → Maps.has D (keyLit m) = false

theorem Keys.made (w : World) : Keys (w.alloc (.map #[] 0)) w.heap.size 0 (.map []) where
  own := World.ownsMap_made _ _ _ _
  size := rfl
  has := fun _ _ => rfl

theorem Keys.put {w : World} {B i : Nat} {D : DataW Value} (h : Keys w B i D) (hi : i < 1024) (v : Value) :
    ∃ w2 D', (Instr.mapUpdate 33 (.map (some B)) (.string (strOfNums (keyN i))) v).run Yba.prog w = .ok () w2 ∧ Keys w2 B (i + 1) D' ∧ w.grownBy w2 (some B) := by
  have hkey : keyOf Yba.prog 9 (.string (strOfNums (keyN i))) = some (keyLit i) := keyOf_string_mk Yba.underlying9 (keyN_size i (by omega))
  obtain ⟨w2, hrun, ho2, hg2⟩ := h.own.update (t := 33) (e := 39) lawA9 Yba.underlying33 (by unfold maxLen; omega) hkey (d := .held v) (ps := []) rfl
  refine ⟨w2, _, hrun, ⟨ho2, ?_, fun m hm => ?_⟩, hg2⟩
  · rw [size_put (h.own.tidy lawA9), h.has i (Nat.le_refl _), h.size]
    rfl
  · rw [has_put_other (keyLit_ne (by omega))]
    exact h.has m (by omega)

theorem Keys.of_block {w w' : World} {B i : Nat} {D : DataW Value} (h : Keys w B i D) (hb : w'.heap[B]? = w.heap[B]?) : Keys w' B i D where
  own := by
    obtain ⟨es, clock, h1, h2⟩ := h.own
    exact ⟨es, clock, hb.trans h1, h2⟩
  size := h.size
  has := h.has

theorem Keys.len {w : World} {B i : Nat} {D : DataW Value} (h : Keys w B i D) : (Builtin.len_ #[33] 3 #[.map (some B)]).run Yba.prog w = .ok (.int .i64 i) w := by
  have := h.own.len (t := 33) (e := 39) Yba.underlying33 3
  rw [h.size] at this
  exact this

/-- The store at the next key, at the list of a plain region's operations. -/
theorem wpList_put_key {ops : Array Oper} {rest : List Oper} {o : Oper} {a : Act} {w : World} {Q : Exit → Act → World → Prop} (hg : o.guard = none) (m x v : Operand) (hop : o.op = Op.mapUpdate 33 m x v) (B i : Nat) (D : DataW Value)
    (hm : a.eval m = .map (some B)) (hx : a.eval x = .string (strOfNums (keyN i))) (hk : Keys w B i D) (hi : i < 1024)
    (hK : ∀ w2 D2, Keys w2 B (i + 1) D2 → w.grownBy w2 (some B) → wpList Yba.prog ops Q rest (a.put o.dst undef) w2) : wpList Yba.prog ops Q (o :: rest) a w := by
  obtain ⟨w2, D2, hrun, h1, h2⟩ := hk.put hi (a.eval v)
  refine wpList_plain hg fun K' hK' => ?_
  unfold Oper.wp execOp
  simp only [hop, hm, hx, Sem.run_bind, hrun, Result.andThen_ok, Sem.run_pure]
  exact hK' _ _ (hK w2 D2 h1 h2)

end Go.Proofs.Ybulkkiq
