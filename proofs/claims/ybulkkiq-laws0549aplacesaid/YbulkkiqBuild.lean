import Derived.Test.YbulkkiqProg
import Derived.WalkKit
import Derived.Deep.WholeRow
namespace Go.Proofs.Ybulkkiq
open Go.RowKit

/-- A struct of two fields built out of its parts, at the list of a plain region's operations: the run's equation is handed in. -/
theorem wpList_built2 {P : Program} {ops : Array Oper} {rest : List Oper} {o : Oper} {a : Act} {w : World} {Q : Exit → Act → World → Prop}
    (hg : o.guard = none) (t : TypeId) (i j : Nat) (x y : Operand) (hop : o.op = Op.build t #[(i, x), (j, y)]) (vx vy : Value) (hx : a.eval x = vx) (hy : a.eval y = vy) (v : Value)
    (hrun : (Instr.build t #[(i, vx), (j, vy)]).run P w = .ok v w) (hK : wpList P ops Q rest (a.put o.dst v) w) : wpList P ops Q (o :: rest) a w := by
  refine wpList_plain hg fun K' hK' => ?_
  unfold Oper.wp execOp
  simp only [hop, List.map_toArray, List.map_cons, List.map_nil, hx, hy, Sem.run_bind, hrun, Result.andThen_ok, Sem.run_pure]
  exact hK' _ _ hK

/-- A whole struct stored into the block that was made last. -/
theorem wpList_store_new {P : Program} {ops : Array Oper} {rest : List Oper} {o : Oper} {a : Act} {W : World} {Q : Exit → Act → World → Prop} (hgd : o.guard = none) (ty : TypeId) (x y : Operand) (ho : o.op = .store ty x y)
    (t : TypeId) (old cells : Array Value) (g : Nat) (hgs : g = W.heap.size) (hx : a.eval x = .pointer (some ⟨g, 0, none⟩)) (hy : a.eval y = .agg cells)
    (hi : (P.info? ty).map (·.size) = some cells.size) (hs : old.size = cells.size) (h1 : cells.all (·.oneCell') = true)
    (h : wpList P ops Q rest (a.put o.dst undef) (W.alloc (.cells cells t))) : wpList P ops Q (o :: rest) a (W.alloc (.cells old t)) := by
  subst hgs
  refine wpList_plain hgd fun K' hK' => ?_
  have hrun := run_storeVar_row (P := P) (W.alloc (.cells old t)) W.heap.size t ty old cells (heap_alloc_last W _) hi hs h1
  rw [World.setRow_alloc_new] at hrun
  unfold Oper.wp execOp
  simp only [ho, hx, hy, Instr.storeAt, Instr.sureAddr, Sem.run_bind, Sem.run_pure, Result.andThen_ok, hrun]
  exact hK' _ _ h

set_option maxRecDepth 100000 in
theorem build29 (cs : List Value) (h : cs.length = 20) (b : Int) (w : World) : (Instr.build 29 #[(0, .agg cs.toArray), (1, .int .u8 b)]).run Yba.prog w = .ok (.agg (cs ++ [Value.int .u8 b]).toArray) w := by
  match cs, h with
  | [c0, c1, c2, c3, c4, c5, c6, c7, c8, c9, c10, c11, c12, c13, c14, c15, c16, c17, c18, c19], _ => show (Instr.build 29 _).run Yba.prog w = _; kernel_rfl

set_option maxRecDepth 100000 in
theorem build31 (cs : List Value) (h : cs.length = 21) (s : ByteArray) (w : World) : (Instr.build 31 #[(0, .agg cs.toArray), (1, .string s)]).run Yba.prog w = .ok (.agg (cs ++ [Value.string s]).toArray) w := by
  match cs, h with
  | [c0, c1, c2, c3, c4, c5, c6, c7, c8, c9, c10, c11, c12, c13, c14, c15, c16, c17, c18, c19, c20], _ => show (Instr.build 31 _).run Yba.prog w = _; kernel_rfl

end Go.Proofs.Ybulkkiq
