import Derived.Test.YbulkkiqASucc
namespace Go.Proofs.Ybulkkiq
open Go.RowKit
set_option maxRecDepth 100000

theorem yieldsIf_neq {ops : Array Oper} {S : World → Prop} {o : Oper} {a : Act} (m : Mem) (hw : Region.wanted o (yielded ops a.tmps) = true) (x y : Operand) (hop : o.op = Op.binOp .neq 31 x y 31)
    (hx : a.eval x = .agg m.cells.toArray) (hy : a.eval y = .agg m.cells.toArray) : YieldsIf Yba.prog ops S o (.bool false) a :=
  .inl ⟨hw, fun w _ => by
    have h1 := run_eqGuard_agg (P := Yba.prog) w .neq 31 x y m.cells.toArray m.cells.toArray (by kernel_rfl)
    have h2 := m.neq w
    unfold execOp
    simp only [hop, hx, hy, Sem.run_bind, h1, h2, Result.andThen_ok, Sem.run_pure]⟩
theorem st_self {w : World} {b : Nat} {sc pc : List Value} {s : Value} {k : Int} (h : w.rangeAt b 0 (stC sc pc s k)) : w.rangeAt b 0 sc := fun j v hv => h j v (by
  rw [stC, List.append_assoc, List.getElem?_append_left (List.getElem?_eq_some_iff.1 hv).1]
  exact hv)
theorem st_pred {w : World} {b : Nat} {sc pc : List Value} {s : Value} {k : Int} (h : w.rangeAt b 0 (stC sc pc s k)) (h1 : sc.length = 22) : w.rangeAt b 22 pc := fun j v hv => by
  have := h (22 + j) v (by
    rw [stC, List.append_assoc, List.getElem?_append_right (by omega), h1, Nat.add_sub_cancel_left, List.getElem?_append_left (List.getElem?_eq_some_iff.1 hv).1]
    exact hv)
  rw [Nat.zero_add] at this
  exact this
theorem st_end {w : World} {b : Nat} {sc pc : List Value} {s : Value} {k : Int} (h : w.rangeAt b 0 (stC sc pc s k)) (h1 : sc.length = 22) (h2 : pc.length = 22) (p : Nat) (v : Value) (hv : [s, Value.slice none 0 0, .int .i64 k][p]? = some v) : w.cell? ⟨b, 44 + p, none⟩ = some v := by
  have := h (44 + p) v (by
    rw [stC, List.getElem?_append_right (by simp; omega), List.length_append, h1, h2, Nat.add_sub_cancel_left]
    exact hv)
  rw [Nat.zero_add] at this
  exact this
end Go.Proofs.Ybulkkiq
