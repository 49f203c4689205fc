-- MINE
import Derived.Test.YbulkkiqFmtPow
namespace Go.Proofs.YbulkkiqFmt
open Go.RowKit Go.MuLone
open Go.Extern.Stop (cell)
set_option maxRecDepth 100000
set_option linter.unusedSimpArgs false

theorem powC (x : UInt8) (k : Nat) (w : World) (hk : k < 8) :
    Calls Ybaf.prog 14 #[.agg (idC x).toArray, .int .i64 k] w fun e w' => (∃ zs : List Int, zs.length = 20 ∧ e = .returned (.agg (idZ zs).toArray)) ∧ Below w.heap.size w w' :=
  by
  rw [idC_idZ]
  exact pow14 _ (by simp [bytesL]) k w hk

theorem parts25 : ∃ i0 z, Ybaf.prog.info? 25 = some i0 ∧ i0.zero = some z ∧ i0.size = 21 ∧ i0.bytes = 21 ∧ z.cells.size = 21 := by
  obtain ⟨i0, hi, h0, h1, h2⟩ := info_parts (show (Ybaf.prog.info? 25).map (fun i => (i.zero, i.size, i.bytes)) = some (some (.agg #[.int .u8 0, .int .u8 0, .int .u8 0, .int .u8 0, .int .u8 0, .int .u8 0, .int .u8 0, .int .u8 0, .int .u8 0, .int .u8 0, .int .u8 0, .int .u8 0, .int .u8 0, .int .u8 0, .int .u8 0, .int .u8 0, .int .u8 0, .int .u8 0, .int .u8 0, .int .u8 0, .int .u8 0]), 21, 21) by kernel_rfl)
  exact ⟨i0, _, hi, h0, h1, h2, rfl⟩
theorem parts54 : ∃ i0 z, Ybaf.prog.info? 54 = some i0 ∧ i0.zero = some z ∧ i0.size = 22 ∧ i0.bytes = 40 ∧ z.cells.size = 22 := by
  obtain ⟨i0, hi, h0, h1, h2⟩ := info_parts (show (Ybaf.prog.info? 54).map (fun i => (i.zero, i.size, i.bytes)) = some (some (.agg #[.int .u8 0, .int .u8 0, .int .u8 0, .int .u8 0, .int .u8 0, .int .u8 0, .int .u8 0, .int .u8 0, .int .u8 0, .int .u8 0, .int .u8 0, .int .u8 0, .int .u8 0, .int .u8 0, .int .u8 0, .int .u8 0, .int .u8 0, .int .u8 0, .int .u8 0, .int .u8 0, .int .u8 0, .string ⟨#[]⟩]), 22, 40) by kernel_rfl)
  exact ⟨i0, _, hi, h0, h1, h2, rfl⟩

/-- A Node's cells. -/
def nodeF (x : UInt8) (r : Int) (hb : Nat) (st mu su fi ru : Value) (ch : Int) : List Value :=
  peerC x ++ [.int .i64 r, .pointer (some ⟨hb, 0, none⟩), .int .i32 0, .int .u32 0, st, mu, .int .u32 0,
    .int .u8 0, .int .u8 0, .int .u8 0, .int .u8 0, .int .u8 0, .int .u8 0, .int .u8 0, .int .u8 0, .int .u8 0, .int .u8 0, .int .u8 0, .int .u8 0, .int .u8 0, .int .u8 0, .int .u8 0, .int .u8 0, .int .u8 0, .int .u8 0, .int .u8 0, .int .u8 0, .int .u8 0, .string ⟨#[]⟩,
    su, fi, ru, .int .u64 ch]
theorem nodeF_len (x : UInt8) (r : Int) (hb : Nat) (st mu su fi ru : Value) (ch : Int) : (nodeF x r hb st mu su fi ru ch).length = 55 := rfl

theorem build60 (x : UInt8) (r : Int) (hb g : Nat) (w : World) : (Instr.build 60 #[(0, .agg (peerC x).toArray), (1, .int .i64 r), (2, .pointer (some ⟨hb, 0, none⟩)), (7, .slice (some ⟨g, 0, none⟩) 1 1)]).run Ybaf.prog w
    = .ok (.agg (nodeF x r hb (.slice none 0 0) (.int .i32 0) (.slice (some ⟨g, 0, none⟩) 1 1) (.slice none 0 0) (.slice none 0 0) 0).toArray) w := by kernel_rfl

theorem wpList_built4 {P : Program} {ops : Array Oper} {rest : List Oper} {o : Oper} {a : Act} {w : World} {Q : Exit → Act → World → Prop}
    (hg : o.guard = none) (t : TypeId) (i j k l : Nat) (x y z u : Operand) (hop : o.op = Op.build t #[(i, x), (j, y), (k, z), (l, u)]) (vx vy vz vu : Value) (hx : a.eval x = vx) (hy : a.eval y = vy) (hz : a.eval z = vz) (hu : a.eval u = vu) (v : Value)
    (hrun : (Instr.build t #[(i, vx), (j, vy), (k, vz), (l, vu)]).run P w = .ok v w) (hK : wpList P ops Q rest (a.put o.dst v) w) : wpList P ops Q (o :: rest) a w := by
  refine wpList_plain hg fun K' hK' => ?_
  unfold Oper.wp execOp
  simp only [hop, List.map_toArray, List.map_cons, List.map_nil, hx, hy, hz, hu, Sem.run_bind, hrun, Result.andThen_ok, Sem.run_pure]
  exact hK' _ _ hK

/-- What stands in memory while newNode runs. -/
structure NN (w wr : World) (x : UInt8) (r : Int) (hb : Nat) (st fi : Value) (j1 j2 : Nat) (l1 l2 : List Value) : Prop where
  arg : wr.heap[w.heap.size]? = some (.cells (peerC x).toArray 54 (0, 0))
  succ : wr.heap[w.heap.size + 1]? = some (.cells (peerC x).toArray 54 (0, 0))
  node : wr.heap[w.heap.size + 2]? = some (.cells (nodeF x r hb st (.int .i32 0) (.slice (some ⟨w.heap.size + 1, 0, none⟩) 1 1) fi (.slice none 0 0) 0).toArray 60 (0, 0))
  rs : wr.ownsRow (w.heap.size + 3) 25 21 st j1 l1
  rf : wr.ownsRow (w.heap.size + 3) 54 22 fi j2 l2
  below : Below w.heap.size w wr
  room : w.heap.size + 3 ≤ wr.heap.size

theorem own_apart {wr : World} {lo : Nat} {t t' : TypeId} {z z' : Nat} {v v' : Value} {n n' : Nat} {l l' : List Value} (h : wr.ownsRow lo t z v n l) (h' : wr.ownsRow lo t' z' v' n' l') (ht : t ≠ t') : v.ownBlock = none ∨ v.ownBlock ≠ v'.ownBlock := by
  rcases h.2 with ⟨hv, _⟩ | ⟨g, cp, cur, hv, _, hg, _⟩
  · exact .inl (by rw [hv]; rfl)
  · refine .inr fun e => ?_
    rcases h'.2 with ⟨hv', _⟩ | ⟨g', cp', cur', hv', _, hg', _⟩
    · rw [hv, hv'] at e
      simp [Value.ownBlock] at e
    · rw [hv, hv'] at e
      have : g = g' := by simpa [Value.ownBlock] using e
      subst this
      rw [hg] at hg'
      simp at hg'
      exact ht hg'.2

variable {w wr wp w1 : World} {x : UInt8} {r : Int} {hb : Nat} {st fi : Value} {j1 j2 : Nat} {l1 l2 : List Value}

theorem NN.own25 (h : NN w wr x r hb st fi j1 j2 l1 l2) (hp : Below wr.heap.size wr wp) (o : Obj) : (wp.alloc o).ownsRow (w.heap.size + 3) 25 21 st j1 l1 :=
  (h.rs.kept (show World.grownBy wr wp none from ⟨hp.os, hp.tape, hp.output, hp.size, fun k hk _ => hp.block k hk⟩) (Classical.em _)).alloc o
theorem NN.own54 (h : NN w wr x r hb st fi j1 j2 l1 l2) (hp : Below wr.heap.size wr wp) (o : Obj) : (wp.alloc o).ownsRow (w.heap.size + 3) 54 22 fi j2 l2 :=
  (h.rf.kept (show World.grownBy wr wp none from ⟨hp.os, hp.tape, hp.output, hp.size, fun k hk _ => hp.block k hk⟩) (Classical.em _)).alloc o

theorem NN.starts (h : NN w wr x r hb st fi j1 j2 l1 l2) (hp : Below wr.heap.size wr wp) {o : Obj} (hg : (wp.alloc o).grownBy w1 st.ownBlock) {st' : Value} {k : Nat} {l : List Value} (hown : w1.ownsRow (w.heap.size + 3) 25 21 st' k l) :
    NN w (w1.setCell ⟨w.heap.size + 2, 26, none⟩ st') x r hb st' fi k j2 l l2 := by
  have hsz := hp.size
  have hroom := h.room
  have hlo : ∀ k, st.ownBlock = some k → w.heap.size + 3 ≤ k := fun k hk => (h.rs.lt k hk).1
  have hold : ∀ k, k < wr.heap.size → some k ≠ st.ownBlock → w1.heap[k]? = wr.heap[k]? := fun k hk hne => by
    rw [hg.block k (by simp; omega) hne, Below.heap_alloc _ _ _ (by omega), hp.block k hk]
  have hb1 : Below w.heap.size w w1 := ((h.below.trans (hp.mono (by omega))).alloc (by omega) o).grown hg (by simp; omega) (fun k hk => by have := hlo k hk; omega)
  have hs1 := hg.size
  rw [World.size_alloc] at hs1
  refine ⟨?_, ?_, ?_, ?_, ?_, ?_, ?_⟩
  · rw [setCell_other_block _ _ _ _ (by simp only; omega), hold _ (by omega) (fun e => by have := hlo _ e.symm; omega)]
    exact h.arg
  · rw [setCell_other_block _ _ _ _ (by simp only; omega), hold _ (by omega) (fun e => by have := hlo _ e.symm; omega)]
    exact h.succ
  · rw [setCell_row _ _ _ _ _ _ _ ((hold _ (by omega) (fun e => by have := hlo _ e.symm; omega)).trans h.node)]
    rfl
  · exact RowKit.ownsRow_setCell_below hown (by show w.heap.size + 2 < _; omega) _
  · refine RowKit.ownsRow_setCell_below ((h.own54 hp o).kept hg ?_) (by show w.heap.size + 2 < _; omega) _
    exact own_apart h.rf h.rs (by decide)
  · exact hb1.setCell (by simp only; omega) _
  · simp [World.setCell]
    omega

theorem NN.fingers (h : NN w wr x r hb st fi j1 j2 l1 l2) (hp : Below wr.heap.size wr wp) {o : Obj} (hg : (wp.alloc o).grownBy w1 fi.ownBlock) {fi' : Value} {k : Nat} {l : List Value} (hown : w1.ownsRow (w.heap.size + 3) 54 22 fi' k l) :
    NN w (w1.setCell ⟨w.heap.size + 2, 52, none⟩ fi') x r hb st fi' j1 k l1 l := by
  have hsz := hp.size
  have hroom := h.room
  have hlo : ∀ k, fi.ownBlock = some k → w.heap.size + 3 ≤ k := fun k hk => (h.rf.lt k hk).1
  have hold : ∀ k, k < wr.heap.size → some k ≠ fi.ownBlock → w1.heap[k]? = wr.heap[k]? := fun k hk hne => by
    rw [hg.block k (by simp; omega) hne, Below.heap_alloc _ _ _ (by omega), hp.block k hk]
  have hb1 : Below w.heap.size w w1 := ((h.below.trans (hp.mono (by omega))).alloc (by omega) o).grown hg (by simp; omega) (fun k hk => by have := hlo k hk; omega)
  have hs1 := hg.size
  rw [World.size_alloc] at hs1
  refine ⟨?_, ?_, ?_, ?_, ?_, ?_, ?_⟩
  · rw [setCell_other_block _ _ _ _ (by simp only; omega), hold _ (by omega) (fun e => by have := hlo _ e.symm; omega)]
    exact h.arg
  · rw [setCell_other_block _ _ _ _ (by simp only; omega), hold _ (by omega) (fun e => by have := hlo _ e.symm; omega)]
    exact h.succ
  · rw [setCell_row _ _ _ _ _ _ _ ((hold _ (by omega) (fun e => by have := hlo _ e.symm; omega)).trans h.node)]
    rfl
  · refine RowKit.ownsRow_setCell_below ((h.own25 hp o).kept hg ?_) (by show w.heap.size + 2 < _; omega) _
    exact own_apart h.rs h.rf (by decide)
  · exact RowKit.ownsRow_setCell_below hown (by show w.heap.size + 2 < _; omega) _
  · exact hb1.setCell (by simp only; omega) _
  · simp [World.setCell]
    omega

end Go.Proofs.YbulkkiqFmt
