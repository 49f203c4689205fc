-- MINE
import Derived.Test.YbulkkiqFmtLocks
import Derived.Test.YbulkkiqFmtClos
import Derived.WalkKit
import Derived.WalkSpells
import Derived.WalkLawsBesides
import Derived.Deep.WholeRow
import Derived.Deep.RegionHeldLaw
import Derived.Deep.DeepCutAuto
import Derived.Deep.AppendLies
import Derived.Maps.OwnSet
namespace Go.Proofs.YbulkkiqFmt
open Go.RowKit Go.MuLone
open Go.Extern.Stop (cell)
set_option maxRecDepth 100000
set_option linter.unusedSimpArgs false

/-- A cell stored, and stored back. -/
theorem setCell_back (w : World) (b o : Nat) (u v : Value) (h : w.cell? ⟨b, o, none⟩ = some v) : (w.setCell ⟨b, o, none⟩ u).setCell ⟨b, o, none⟩ v = w := by
  have hb : b < w.heap.size := World.block_lt_of_cell? w _ h
  have e : ((w.setCell ⟨b, o, none⟩ u).setCell ⟨b, o, none⟩ v).heap = w.heap := by
    apply Array.ext_getElem?
    intro i
    simp only [World.setCell, Array.getElem?_modify]
    by_cases hi : b = i
    · subst hi
      simp only [if_true]
      rw [Array.getElem?_eq_getElem hb]
      simp only [World.cell?, Array.getElem?_eq_getElem hb] at h
      generalize w.heap[b] = ob at h ⊢
      cases ob with
      | cells cs t fr =>
        simp at h ⊢
        apply Array.ext_getElem?
        intro j
        rw [Array.getElem?_setIfInBounds]
        by_cases hj : o = j
        · subst hj
          rw [if_pos rfl, if_pos (Array.getElem?_eq_some_iff.1 h).1, h]
        · rw [if_neg hj]
      | _ => simp at h
    · simp [hi]
  cases w
  simp only [World.setCell] at e ⊢
  congr

/-- A whole row stored into a block, at a step of a region that draws its order. -/
theorem step_store_row {P : Program} {ops : Array Oper} {o : Oper} {a : Act} {w : World} {K : Act → World → Prop} {Q : Exit → Act → World → Prop} {E : Prop} (hw : Region.wanted o (yielded ops a.tmps) = true) (ty : TypeId) (x y : Operand) (ho : o.op = .store ty x y)
    (t : TypeId) (old cells : Array Value) (g : Nat) (hg : w.heap[g]? = some (.cells old t (0, 0))) (hx : a.eval x = .pointer (some ⟨g, 0, none⟩)) (hy : a.eval y = .agg cells)
    (hi : (P.info? ty).map (·.size) = some cells.size) (hs : old.size = cells.size) (h1 : cells.all (·.oneCell') = true)
    (h : K (a.put o.dst undef) (w.setRow g cells)) : if Region.wanted o (yielded ops a.tmps) = true then Oper.wp P o a w K Q else E := by
  rw [if_pos hw]
  unfold Oper.wp execOp
  simp only [ho, hx, hy, Instr.storeAt, Instr.sureAddr, Sem.run_bind, Sem.run_pure, Result.andThen_ok, run_storeVar_row (P := P) w g t ty old cells hg hi hs h1]
  exact h

theorem below_heap {B : Nat} {w w' : World} (h : Below B w w') (k : Nat) (hk : k < B) : w'.heap[k]? = w.heap[k]? := h.block k hk
theorem range_of_below {B : Nat} {w w' : World} {b o : Nat} {cs : List Value} (hr : w.rangeAt b o cs) (h : Below B w w') (hb : b < B) : w'.rangeAt b o cs := fun j v hv => (h.cell (p := ⟨b, o + j, none⟩) hb).trans (hr j v hv)

theorem setCell_other_block (w : World) (a : Addr) (v : Value) (k : Nat) (h : k ≠ a.block) : (w.setCell a v).heap[k]? = w.heap[k]? := by
  simp only [World.setCell, Array.getElem?_modify]
  rw [if_neg (fun e => h e.symm)]
theorem setCell_row (w : World) (g o : Nat) (v : Value) (cs : Array Value) (t : TypeId) (fr : Nat × Nat) (h : w.heap[g]? = some (.cells cs t fr)) : (w.setCell ⟨g, o, none⟩ v).heap[g]? = some (.cells (cs.setIfInBounds o v) t fr) := by
  simp [World.setCell, Array.getElem?_modify, h]
theorem setCell_comm (w : World) (b o b' o' : Nat) (u v : Value) (h : b ≠ b') : (w.setCell ⟨b, o, none⟩ u).setCell ⟨b', o', none⟩ v = (w.setCell ⟨b', o', none⟩ v).setCell ⟨b, o, none⟩ u := by
  have e : ((w.setCell ⟨b, o, none⟩ u).setCell ⟨b', o', none⟩ v).heap = ((w.setCell ⟨b', o', none⟩ v).setCell ⟨b, o, none⟩ u).heap := by
    apply Array.ext_getElem?
    intro i
    simp only [World.setCell, Array.getElem?_modify]
    by_cases h1 : b = i
    · have h2 : ¬ b' = i := fun e => h (h1.trans e.symm)
      simp [h1, h2]
    · by_cases h2 : b' = i
      · simp [h1, h2]
      · simp [h1, h2]
  cases w
  simp only [World.setCell] at e ⊢
  congr
theorem row_range {w : World} {g : Nat} {cs : List Value} {t : TypeId} {fr : Nat × Nat} (h : w.heap[g]? = some (.cells cs.toArray t fr)) : w.rangeAt g 0 cs := fun j v hv => by
  rw [Nat.zero_add, cell_of_row _ _ j cs.toArray t fr h]
  simpa using hv
/-- A whole row stored into a block, at the list of a plain region's operations. -/
theorem wpList_store_row {P : Program} {ops : Array Oper} {rest : List Oper} {o : Oper} {a : Act} {w : World} {Q : Exit → Act → World → Prop} (hgd : o.guard = none) (ty : TypeId) (x y : Operand) (ho : o.op = .store ty x y)
    (t : TypeId) (old cells : Array Value) (g : Nat) (hg : w.heap[g]? = some (.cells old t (0, 0))) (hx : a.eval x = .pointer (some ⟨g, 0, none⟩)) (hy : a.eval y = .agg cells)
    (hi : (P.info? ty).map (·.size) = some cells.size) (hs : old.size = cells.size) (h1 : cells.all (·.oneCell') = true)
    (h : wpList P ops Q rest (a.put o.dst undef) (w.setRow g cells)) : wpList P ops Q (o :: rest) a w := by
  refine wpList_plain hgd fun K' hK' => ?_
  unfold Oper.wp execOp
  simp only [ho, hx, hy, Instr.storeAt, Instr.sureAddr, Sem.run_bind, Sem.run_pure, Result.andThen_ok, run_storeVar_row (P := P) w g t ty old cells hg hi hs h1]
  exact hK' _ _ h

theorem range_setCell {w : World} {b o p : Nat} {cs : List Value} (h : w.rangeAt b o cs) (v : Value) (hp : p < o ∨ o + cs.length ≤ p) : (w.setCell ⟨b, p, none⟩ v).rangeAt b o cs := fun j u hu => by
  have hj : j < cs.length := (List.getElem?_eq_some_iff.1 hu).1
  rw [World.cell?_setCell_other _ _ _ _ (fun e => by cases e; omega)]
  exact h j u hu
theorem setCell_congr {x y : World} {b o : Nat} {v : Value} (h : x.heap[b]? = y.heap[b]?) : (x.setCell ⟨b, o, none⟩ v).heap[b]? = (y.setCell ⟨b, o, none⟩ v).heap[b]? := by
  simp only [World.setCell, Array.getElem?_modify, if_true, h]

/-- A slice of one struct, at the list of a plain region's operations. -/
theorem wpList_bslice1 {P : Program} {ops : Array Oper} {rest : List Oper} {o : Oper} {a : Act} {w w' : World} {Q : Exit → Act → World → Prop}
    (hg : o.guard = none) (t : TypeId) (n i : Nat) (x : Operand) (hop : o.op = Op.buildSlice t n #[(i, x)]) (vx : Value) (hx : a.eval x = vx) (v : Value)
    (hrun : (Instr.buildSlice t n #[(i, vx)]).run P w = .ok v w') (hK : wpList P ops Q rest (a.put o.dst v) w') : wpList P ops Q (o :: rest) a w := by
  refine wpList_plain hg fun K' hK' => ?_
  unfold Oper.wp execOp
  simp only [hop, List.map_toArray, List.map_cons, List.map_nil, hx, Sem.run_bind, hrun, Result.andThen_ok, Sem.run_pure]
  exact hK' _ _ hK

/-- A struct of two fields built out of its parts, at the list of a plain region's operations: the run's equation is handed in. -/
theorem wpList_built2 {P : Program} {ops : Array Oper} {rest : List Oper} {o : Oper} {a : Act} {w : World} {Q : Exit → Act → World → Prop}
    (hg : o.guard = none) (t : TypeId) (i j : Nat) (x y : Operand) (hop : o.op = Op.build t #[(i, x), (j, y)]) (vx vy : Value) (hx : a.eval x = vx) (hy : a.eval y = vy) (v : Value)
    (hrun : (Instr.build t #[(i, vx), (j, vy)]).run P w = .ok v w) (hK : wpList P ops Q rest (a.put o.dst v) w) : wpList P ops Q (o :: rest) a w := by
  refine wpList_plain hg fun K' hK' => ?_
  unfold Oper.wp execOp
  simp only [hop, List.map_toArray, List.map_cons, List.map_nil, hx, hy, Sem.run_bind, hrun, Result.andThen_ok, Sem.run_pure]
  exact hK' _ _ hK

/-- A whole struct stored into the block that was made last. -/
theorem wpList_store_new {P : Program} {ops : Array Oper} {rest : List Oper} {o : Oper} {a : Act} {W : World} {Q : Exit → Act → World → Prop} (hgd : o.guard = none) (ty : TypeId) (x y : Operand) (ho : o.op = .store ty x y)
    (t : TypeId) (old cells : Array Value) (g : Nat) (hgs : g = W.heap.size) (hx : a.eval x = .pointer (some ⟨g, 0, none⟩)) (hy : a.eval y = .agg cells)
    (hi : (P.info? ty).map (·.size) = some cells.size) (hs : old.size = cells.size) (h1 : cells.all (·.oneCell') = true)
    (h : wpList P ops Q rest (a.put o.dst undef) (W.alloc (.cells cells t))) : wpList P ops Q (o :: rest) a (W.alloc (.cells old t)) := by
  subst hgs
  refine wpList_plain hgd fun K' hK' => ?_
  have hrun := run_storeVar_row (P := P) (W.alloc (.cells old t)) W.heap.size t ty old cells (heap_alloc_last W _) hi hs h1
  rw [World.setRow_alloc_new] at hrun
  unfold Oper.wp execOp
  simp only [ho, hx, hy, Instr.storeAt, Instr.sureAddr, Sem.run_bind, Sem.run_pure, Result.andThen_ok, hrun]
  exact hK' _ _ h

theorem cells_new (w : World) (g : Nat) (hg : g = w.heap.size) (cs : List Value) (t : TypeId) : ∀ j u, cs[j]? = some u → (w.alloc (.cells cs.toArray t)).cell? ((⟨g, 0, none⟩ : Addr).add j) = some u := by
  subst hg
  intro j u hj
  have hadd : (⟨w.heap.size, 0, none⟩ : Addr).add j = ⟨w.heap.size, j, none⟩ := by unfold Addr.add; split <;> simp_all
  rw [hadd, World.cell?_alloc_new]
  simpa using hj
theorem range_new (w : World) (cs : List Value) (t : TypeId) : (w.alloc (.cells cs.toArray t)).rangeAt w.heap.size 0 cs := row_range (heap_alloc_last w _)

theorem yieldsIf_built3 {P : Program} {ops : Array Oper} {S : World → Prop} {o : Oper} {a : Act} (hw : Region.wanted o (yielded ops a.tmps) = true) (t : TypeId) (i j k : Nat) (x y z : Operand) (hop : o.op = Op.build t #[(i, x), (j, y), (k, z)])
    (vx vy vz : Value) (hx : a.eval x = vx) (hy : a.eval y = vy) (hz : a.eval z = vz) (v : Value) (hrun : ∀ w, (Instr.build t #[(i, vx), (j, vy), (k, vz)]).run P w = .ok v w) : YieldsIf P ops S o v a :=
  .inl ⟨hw, fun w _ => by
    unfold execOp
    simp only [hop, List.map_toArray, List.map_cons, List.map_nil, hx, hy, hz, Sem.run_bind, hrun, Result.andThen_ok, Sem.run_pure]⟩


theorem yieldsIf_built2 {P : Program} {ops : Array Oper} {S : World → Prop} {o : Oper} {a : Act} (hw : Region.wanted o (yielded ops a.tmps) = true) (t : TypeId) (i j : Nat) (x y : Operand) (hop : o.op = Op.build t #[(i, x), (j, y)])
    (vx vy : Value) (hx : a.eval x = vx) (hy : a.eval y = vy) (v : Value) (hrun : ∀ w, (Instr.build t #[(i, vx), (j, vy)]).run P w = .ok v w) : YieldsIf P ops S o v a :=
  .inl ⟨hw, fun w _ => by
    unfold execOp
    simp only [hop, List.map_toArray, List.map_cons, List.map_nil, hx, hy, Sem.run_bind, hrun, Result.andThen_ok, Sem.run_pure]⟩

theorem bslice58 (x : UInt8) (w : World) : (Instr.buildSlice 58 1 #[(0, .agg (peerC x).toArray)]).run Ybaf.prog w = .ok (.slice (some ⟨w.heap.size, 0, none⟩) 1 1) (w.alloc (.cells (peerC x).toArray 54)) := by kernel_rfl
theorem bslice22 (cs : List Value) (h : cs.length = 21) (w : World) : (Instr.buildSlice 22 1 #[(0, .agg cs.toArray)]).run Ybaf.prog w = .ok (.slice (some ⟨w.heap.size, 0, none⟩) 1 1) (w.alloc (.cells cs.toArray 25)) := by
  match cs, h with
  | [a0, a1, a2, a3, a4, a5, a6, a7, a8, a9, a10, a11, a12, a13, a14, a15, a16, a17, a18, a19, a20], _ => show (Instr.buildSlice 22 1 _).run Ybaf.prog w = _; kernel_rfl
theorem build54 (x : UInt8) (w : World) : (Instr.build 54 #[(0, .agg (idC x).toArray), (1, .string addrT)]).run Ybaf.prog w = .ok (.agg (peerC x).toArray) w := by kernel_rfl
theorem idC_one (x : UInt8) : ∀ u ∈ idC x, u.oneCell' = true := by
  intro u hu
  simp [idC, bytesL, cell] at hu
  rcases hu with rfl | rfl | rfl <;> rfl
theorem peerC_one (x : UInt8) : ∀ u ∈ peerC x, u.oneCell' = true := by
  intro u hu
  simp [peerC, bytesL, cell] at hu
  rcases hu with rfl | rfl | rfl | rfl <;> rfl
theorem info25 : (Ybaf.prog.info? 25).map (·.size) = some 21 := by kernel_rfl
theorem info54 : (Ybaf.prog.info? 54).map (·.size) = some 22 := by kernel_rfl
theorem peer_id {w : World} {b o : Nat} {x : UInt8} (h : w.rangeAt b o (peerC x)) : w.rangeAt b o (idC x) := fun j v hv => h j v (by
  have e : peerC x = idC x ++ [.string addrT] := rfl
  rw [e, List.getElem?_append_left (List.getElem?_eq_some_iff.1 hv).1]
  exact hv)
theorem id_bytes {w : World} {b o : Nat} {x : UInt8} (h : w.rangeAt b o (idC x)) : w.rangeAt b o ((bytesL x).map cell) := fun j v hv => h j v (by
  rw [idC, List.getElem?_append_left (List.getElem?_eq_some_iff.1 hv).1]
  exact hv)
end Go.Proofs.YbulkkiqFmt
