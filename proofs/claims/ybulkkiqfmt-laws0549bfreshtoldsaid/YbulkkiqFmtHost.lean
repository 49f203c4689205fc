-- MINE
import Derived.Test.YbulkkiqFmtRing
namespace Go.Proofs.YbulkkiqFmt
open Go.RowKit Go.MuLone Go.Shelf
open Go.Extern.Stop (cell)
set_option maxRecDepth 100000
set_option linter.unusedSimpArgs false
set_option linter.unusedVariables false

/-- The last byte of identifier i. -/
def X (i : Nat) : UInt8 := UInt8.ofNat (7 * i)
theorem X_toNat (i : Nat) (h : i < 16) : (X i).toNat = 7 * i := by
  rw [X, UInt8.toNat_ofNat_of_lt' (by show 7 * i < 256; omega)]
theorem X_inj (i j : Nat) (hi : i < 16) (hj : j < 16) (e : X i = X j) : i = j := by
  have := congrArg UInt8.toNat e
  rw [X_toNat i hi, X_toNat j hj] at this
  omega

/-- A Host's cells. -/
def hostF (v cv mv : Value) : List Value := [.string addrT, v, .int .i64 1, .nilIface, .int .i64 0, .int .i32 0, .int .u32 0, .int .u32 0, cv, .int .i32 0, .int .u32 0, mv, .int .u64 0]
/-- The row of the nodes' pointers. -/
def ptrs (bs : Nat → Nat) (k : Nat) : List Value := (List.range k).map fun i => Value.pointer (some ⟨bs i, 0, none⟩)
theorem ptrs_len (bs : Nat → Nat) (k : Nat) : (ptrs bs k).length = k := by simp [ptrs]
theorem ptrs_get (bs : Nat → Nat) (k i : Nat) (h : i < k) : (ptrs bs k)[i]? = some (.pointer (some ⟨bs i, 0, none⟩)) := by simp [ptrs, h]
/-- A function with one more value. -/
def upd {α : Type} (f : Nat → α) (k : Nat) (a : α) : Nat → α := fun i => if i = k then a else f i
theorem upd_same {α : Type} (f : Nat → α) (k : Nat) (a : α) : upd f k a k = a := by simp [upd]
theorem upd_other {α : Type} (f : Nat → α) (k : Nat) (a : α) (i : Nat) (h : i ≠ k) : upd f k a i = f i := by simp [upd, h]
theorem ptrs_upd (bs : Nat → Nat) (k b : Nat) : ptrs (upd bs k b) (k + 1) = ptrs bs k ++ [.pointer (some ⟨b, 0, none⟩)] := by
  simp only [ptrs, List.range_succ, List.map_append, List.map_cons, List.map_nil, upd_same]
  congr 1
  apply List.map_congr_left
  intro i hi
  rw [upd_other _ _ _ _ (by have := List.mem_range.1 hi; omega)]

/-- What stands in memory after k rounds of NewHost. -/
structure HSt (w0 wr : World) (hb k : Nat) (v cv mv : Value) (bs gs : Nat → Nat) (st fi ru : Nat → Value) (r : Int) : Prop where
  host : wr.heap[hb]? = some (.cells (hostF v cv mv).toArray 48 (0, 0))
  row : wr.ownsRow (hb + 1) 51 1 v k (ptrs bs k)
  ring : Ring wr k bs gs X st fi ru r hb
  lo : ∀ i, i < k → hb < bs i ∧ hb < gs i
  below : Below hb w0 wr

section
variable {w0 wr wn w2 : World} {hb k nb g : Nat} {v cv mv : Value} {bs gs : Nat → Nat} {st fi ru : Nat → Value} {r : Int}
theorem HSt.room (h : HSt w0 wr hb k v cv mv bs gs st fi ru r) : hb < wr.heap.size := (Array.getElem?_eq_some_iff.1 h.host).1

theorem HSt.step (h : HSt w0 wr hb k v cv mv bs gs st fi ru r) (hk : k < 16) (hp : Below wr.heap.size wr wn) (hnb : wr.heap.size ≤ nb) (hg : wr.heap.size ≤ g) {st1 fi1 ru1 : Value}
    (hN : wn.heap[nb]? = some (.cells (nodeF (X k) r hb st1 (.int .i32 0) (.slice (some ⟨g, 0, none⟩) 1 1) fi1 ru1 0).toArray 60 (0, 0))) (hG : wn.heap[g]? = some (.cells (peerC (X k)).toArray 54 (0, 0)))
    {o : Obj} (hgr : (wn.alloc o).grownBy w2 v.ownBlock) {v' : Value} (hown : w2.ownsRow (hb + 1) 51 1 v' (k + 1) (ptrs bs k ++ [.pointer (some ⟨nb, 0, none⟩)])) :
    w2.cell? ⟨hb, 1, none⟩ = some v ∧ w2.frozen? ⟨hb, 1, none⟩ = false ∧ HSt w0 (w2.setCell ⟨hb, 1, none⟩ v') hb (k + 1) v' cv mv (upd bs k nb) (upd gs k g) (upd st k st1) (upd fi k fi1) (upd ru k ru1) r := by
  have hroom := h.room
  have hsz := hp.size
  have hs2 := hgr.size
  rw [World.size_alloc] at hs2
  have hlo : ∀ q, v.ownBlock = some q → hb + 1 ≤ q ∧ q < wr.heap.size := fun q hq => h.row.lt q hq
  have hold : ∀ q, q < wr.heap.size → some q ≠ v.ownBlock → w2.heap[q]? = wr.heap[q]? := fun q hq hne => by
    rw [hgr.block q (by simp; omega) hne, Below.heap_alloc _ _ _ (by omega), hp.block q hq]
  have hnew : ∀ q, wr.heap.size ≤ q → q < wn.heap.size → w2.heap[q]? = wn.heap[q]? := fun q hq hq2 => by
    rw [hgr.block q (by simp; omega) (fun e => by have := (hlo q e.symm).2; omega), Below.heap_alloc _ _ _ hq2]
  have hrowt : ∀ q, v.ownBlock = some q → ∃ cur, wr.heap[q]? = some (.cells cur 51 (0, 0)) := fun q hq => by
    rcases h.row.2 with ⟨hv, _⟩ | ⟨g', cp, cur, hv, _, hg', _⟩
    · rw [hv] at hq
      cases hq
    · rw [hv] at hq
      have : g' = q := by simpa [Value.ownBlock] using hq
      subst this
      exact ⟨cur, hg'⟩
  have hbne : ∀ i, i < k → some (bs i) ≠ v.ownBlock := fun i hi e => by
    obtain ⟨cur, hc⟩ := hrowt _ e.symm
    have := h.ring.node i hi
    rw [hc] at this
    simp at this
  have hgne : ∀ i, i < k → some (gs i) ≠ v.ownBlock := fun i hi e => by
    obtain ⟨cur, hc⟩ := hrowt _ e.symm
    have := h.ring.succ i hi
    rw [hc] at this
    simp at this
  have hhost : w2.heap[hb]? = some (.cells (hostF v cv mv).toArray 48 (0, 0)) := (hold hb hroom (fun e => by have := (hlo hb e.symm).1; omega)).trans h.host
  have hnblt : nb < wn.heap.size := (Array.getElem?_eq_some_iff.1 hN).1
  have hglt : g < wn.heap.size := (Array.getElem?_eq_some_iff.1 hG).1
  refine ⟨?_, ?_, ?_, ?_, ⟨?_, ?_, ?_, ?_⟩, ?_, ?_⟩
  · simp only [World.cell?, hhost]
    rfl
  · simp [World.frozen?, hhost]
  · rw [setCell_row _ _ _ _ _ _ _ hhost]
    rfl
  · rw [ptrs_upd]
    exact RowKit.ownsRow_setCell_below hown (by show hb < hb + 1; omega) _
  · intro i hi
    by_cases e : i = k
    · subst e
      simp only [upd_same]
      rw [setCell_other_block _ _ _ _ (by simp only; omega), hnew nb hnb hnblt]
      exact hN
    · simp only [upd_other _ _ _ _ e]
      have hik : i < k := by omega
      have := h.lo i hik
      rw [setCell_other_block _ _ _ _ (by simp only; omega), hold _ (h.ring.blt i hik) (hbne i hik)]
      exact h.ring.node i hik
  · intro i hi
    by_cases e : i = k
    · subst e
      simp only [upd_same]
      rw [setCell_other_block _ _ _ _ (by simp only; omega), hnew g hg hglt]
      exact hG
    · simp only [upd_other _ _ _ _ e]
      have hik : i < k := by omega
      have := h.lo i hik
      rw [setCell_other_block _ _ _ _ (by simp only; omega), hold _ (h.ring.glt i hik) (hgne i hik)]
      exact h.ring.succ i hik
  · intro i j hi hj e
    by_cases e1 : i = k
    · by_cases e2 : j = k
      · omega
      · rw [e1, upd_same, upd_other _ _ _ _ e2] at e
        have := h.ring.blt j (by omega)
        omega
    · by_cases e2 : j = k
      · rw [e2, upd_same, upd_other _ _ _ _ e1] at e
        have := h.ring.blt i (by omega)
        omega
      · rw [upd_other _ _ _ _ e1, upd_other _ _ _ _ e2] at e
        exact h.ring.injb i j (by omega) (by omega) e
  · intro i j hi hj e
    exact X_inj i j (by omega) (by omega) e
  · intro i hi
    by_cases e : i = k
    · subst e
      simp only [upd_same]
      omega
    · simp only [upd_other _ _ _ _ e]
      exact h.lo i (by omega)
  · exact (((h.below.trans (hp.mono (by omega))).alloc (by omega) o).grown hgr (by simp; omega) (fun q hq => by have := (hlo q hq).1; omega)).setCell (by simp only; omega) _
end

theorem contains8 (n k ib icap : Nat) (hk : k < n) (hn : n ≤ 16) (w : World) (hid : ∀ i, i < n → w.rangeAt ib (i * 21) (idC (X i))) :
    Calls Ybaf.prog 8 #[.slice (some ⟨ib, 0, none⟩) k icap, .agg (idC (X k)).toArray] w fun e w' => e = .returned (.bool false) ∧ Below w.heap.size w w' := by
  have hlen : ((List.range n).map X).length = n := by simp
  have hcon := AnyQ.slices_Contains Ybaf.containsID 21 Ybaf.isAgg25 Ybaf.sizeOf25 idC idC_len (fun x y : UInt8 => x == y) eqID ib 0 k icap ((List.range n).map X) (X k) w (by rw [hlen]; omega) (by omega) (fun j hj i v hv => by
    rw [hlen] at hj
    rw [getElem!_pos _ j (by rw [hlen]; exact hj)] at hv
    simp at hv
    rw [Nat.zero_add]
    exact hid j hj i v hv)
  change Calls Ybaf.prog 8 _ _ _ at hcon
  have e : ((((List.range n).map X).take k).any fun y => X k == y) = false := by
    rw [List.any_eq_false]
    intro y hy
    rw [← List.map_take, List.mem_map] at hy
    obtain ⟨i, hi, rfl⟩ := hy
    rw [List.take_range, List.mem_range] at hi
    simp
    intro e
    have := X_inj k i (by omega) (by omega) e
    omega
  rw [e] at hcon
  exact hcon

end Go.Proofs.YbulkkiqFmt
