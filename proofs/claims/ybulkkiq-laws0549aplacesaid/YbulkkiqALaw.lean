import Derived.Test.YbulkkiqAMap
import Derived.Test.YbulkkiqAPlace1
import Derived.Test.YbulkkiqATry
namespace Go.Proofs.Ybulkkiq
open Go.RowKit Go.MuLone
set_option maxRecDepth 100000
set_option linter.unusedSimpArgs false

/-- A member's plain data. -/
structure Mem where
  xs : List Int
  bits : Int
  addr : ByteArray
  len : xs.length = 20
def Mem.cells (m : Mem) : List Value := pcells m.xs m.bits m.addr
theorem Mem.cells_len (m : Mem) : m.cells.length = 22 := pcells_len _ _ _ m.len
theorem Mem.one (m : Mem) : ∀ u ∈ m.cells, u.oneCell' = true := by
  have h := pcells_one m.xs m.bits m.addr
  rw [Array.all_eq_true_iff_forall_mem] at h
  exact fun u hu => h u (by simpa [Mem.cells] using hu)
theorem Mem.oneA (m : Mem) : m.cells.toArray.all (·.oneCell') = true := pcells_one _ _ _
theorem Mem.peer (m : Mem) (w : World) : Calls Yba.prog 6 #[.agg m.cells.toArray] w fun e w' => e = .returned (.agg m.cells.toArray) ∧ Below w.heap.size w w' := peer_any _ _ _ _ m.len
theorem Mem.neq (m : Mem) (w : World) : (binOp .neq 31 (.agg m.cells.toArray) (.agg m.cells.toArray)).run Yba.prog w = .ok (.bool false) w := neq31 _ _ _ _ m.len

/-- The cells of the first j successors. -/
def rowM (M : Nat → Mem) : Nat → List Value
  | 0 => []
  | j + 1 => rowM M j ++ (M j).cells
theorem rowM_len (M : Nat → Mem) : ∀ j, (rowM M j).length = j * 22
  | 0 => rfl
  | j + 1 => by rw [rowM, List.length_append, rowM_len M j, Mem.cells_len]; omega
theorem rowM_one (M : Nat → Mem) : ∀ j, ∀ u ∈ rowM M j, u.oneCell' = true
  | 0 => fun u hu => by cases hu
  | j + 1 => fun u hu => by
    rw [rowM, List.mem_append] at hu
    rcases hu with hu | hu
    · exact rowM_one M j u hu
    · exact (M j).one u hu
theorem rowM_get (M : Nat → Mem) : ∀ j i p, i < j → p < 22 → (rowM M j)[i * 22 + p]? = ((M i).cells)[p]?
  | 0, i, p, h, _ => by omega
  | j + 1, i, p, h, hp => by
    rw [rowM]
    by_cases e : i = j
    · subst e
      rw [List.getElem?_append_right (by rw [rowM_len]; omega), rowM_len]
      congr 1
      omega
    · rw [List.getElem?_append_left (by rw [rowM_len]; omega)]
      exact rowM_get M j i p (by omega) hp

theorem bslice27 (cs : List Value) (h : cs.length = 22) (w : World) : (Instr.buildSlice 27 1 #[(0, .agg cs.toArray)]).run Yba.prog w = .ok (.slice (some ⟨w.heap.size, 0, none⟩) 1 1) (w.alloc (.cells cs.toArray 31)) := by
  match cs, h with
  | [a0, a1, a2, a3, a4, a5, a6, a7, a8, a9, a10, a11, a12, a13, a14, a15, a16, a17, a18, a19, a20, a21], _ => show (Instr.buildSlice 27 1 _).run Yba.prog w = _; kernel_rfl
/-- A slice of one struct, at the list of a plain region's operations. -/
theorem wpList_bslice1 {P : Program} {ops : Array Oper} {rest : List Oper} {o : Oper} {a : Act} {w w' : World} {Q : Exit → Act → World → Prop}
    (hg : o.guard = none) (t : TypeId) (n i : Nat) (x : Operand) (hop : o.op = Op.buildSlice t n #[(i, x)]) (vx : Value) (hx : a.eval x = vx) (v : Value)
    (hrun : (Instr.buildSlice t n #[(i, vx)]).run P w = .ok v w') (hK : wpList P ops Q rest (a.put o.dst v) w') : wpList P ops Q (o :: rest) a w := by
  refine wpList_plain hg fun K' hK' => ?_
  unfold Oper.wp execOp
  simp only [hop, List.map_toArray, List.map_cons, List.map_nil, hx, Sem.run_bind, hrun, Result.andThen_ok, Sem.run_pure]
  exact hK' _ _ hK

theorem makeMap33 (k : Nat) (w : World) : (Instr.makeMap 33 (some (.int .i64 k))).run Yba.prog w = .ok (.map (some w.heap.size)) (w.alloc (.map #[] 0)) := by
  simp [Instr.makeMap, go_sem]
theorem neqNil25 (a : Addr) (n c : Nat) (w : World) : (binOp .neq 25 (.slice (some a) n c) (.slice none 0 0)).run Yba.prog w = .ok (.bool true) w := by kernel_rfl
theorem neqNil25_nil (w : World) : (binOp .neq 25 (.slice none 0 0) (.slice none 0 0)).run Yba.prog w = .ok (.bool false) w := by kernel_rfl
theorem neqNil62 (w : World) : (binOp .neq 62 (.slice none 0 0) (.slice none 0 0)).run Yba.prog w = .ok (.bool false) w := by kernel_rfl
theorem infoA24 : (Yba.prog.info? 24).map (·.size) = some 22 := by kernel_rfl

theorem aplace_long (a b : Value) (ao : Option Addr) (n c : Nat) (k : Int) (w : World) (h : 1024 < n ∨ 1024 < k) (m1 m2 : Mem) (ha : a = .agg m1.cells.toArray) (hb : b = .agg m2.cells.toArray) :
    Calls Yba.prog 3 #[a, b, .slice ao n c, .int .u16 k] w fun e w' => e = .returned (.bool true) ∧ Below w.heap.size w w' := by
  subst ha; subst hb
  by_cases h1 : 1024 < n
  · have t1 : (1024 : Int) < (n : Int) := by omega
    go_enter Yba.func3, Yba.ntmps3
    go_wp2
    go_ret
    exact ⟨rfl, ((Below.refl _ _).alloc (Nat.le_refl _) _).alloc (by simp) _⟩
  · have t1 : ¬ (1024 : Int) < (n : Int) := by omega
    have t2 : 1024 < k := by omega
    go_enter Yba.func3, Yba.ntmps3
    go_wp2
    go_ret
    exact ⟨rfl, ((Below.refl _ _).alloc (Nat.le_refl _) _).alloc (by simp) _⟩

end Go.Proofs.Ybulkkiq
