import Derived.Test.YbulkkiqEq
namespace Go.Proofs.Ybulkkiq
open Go.RowKit Go.Lib Go.Maps Go.WideMaps

/-- 'wantL' by the key's bytes. -/
def wantK (ks vs : List ByteArray) (n : Nat) (k : List UInt8) : List ByteArray :=
  ((List.range n).filter fun j => (ks.getD j ByteArray.empty).toList == k).map fun j => vs.getD j ByteArray.empty
theorem wantK_eq (ks vs : List ByteArray) (n : Nat) (k : ByteArray) : wantL ks vs n k = wantK ks vs n k.data.toList := by
  rw [← toList_data]
  rfl
theorem wantK_zero (ks vs : List ByteArray) : wantK ks vs 0 = fun _ => [] := by
  funext k
  rfl
theorem wantK_le (ks vs : List ByteArray) (n : Nat) (k : List UInt8) : (wantK ks vs n k).length ≤ n := by
  unfold wantK
  rw [List.length_map]
  exact Nat.le_trans (List.length_filter_le _ _) (by simp)
theorem wantK_step (ks vs : List ByteArray) (n : Nat) (x y : ByteArray) (hx : x = ks.getD n ByteArray.empty) (hy : y = vs.getD n ByteArray.empty) :
    upd (wantK ks vs n) x.data.toList (wantK ks vs n x.data.toList ++ [y]) = wantK ks vs (n + 1) := by
  funext k
  by_cases e : k = x.data.toList
  · subst e
    rw [upd_same, ← wantK_eq, ← wantK_eq, wantL_succ_yes ks vs n x (by rw [hx]; simp), hy]
  · rw [upd_other _ _ e]
    unfold wantK
    rw [List.range_succ, List.filter_append, List.map_append, List.filter_cons_of_neg (by
      rw [← hx, toList_data]
      simp
      exact fun h => e h.symm)]
    simp

/-- How many different keys there are among the first n. -/
def cnt (ks : List ByteArray) (n : Nat) : Nat := ((List.range n).filter (fstB ks)).length
theorem cnt_succ (ks : List ByteArray) (n : Nat) : cnt ks (n + 1) = cnt ks n + if fstB ks n then 1 else 0 := by
  unfold cnt
  rw [List.range_succ, List.filter_append, List.length_append]
  cases h : fstB ks n <;> simp [h]
theorem cnt_le (ks : List ByteArray) (n : Nat) : cnt ks n ≤ n := by
  unfold cnt
  exact Nat.le_trans (List.length_filter_le _ _) (by simp)

/-- What the map that is filled holds after j pairs. -/
structure Filled (ks vs : List ByteArray) (base B : Nat) (w0 wr : World) (j : Nat) (D : DataW Value) (V : List UInt8 → Value) : Prop where
  grp : Groups wr base B j D V (wantK ks vs j)
  has : ∀ k, Maps.has D (.string k) = (ks.take j).any (fun s => s.toList == k)
  size : Maps.size D = cnt ks j
  below : Below B w0 wr
  room : base ≤ wr.heap.size

theorem Filled.made (ks vs : List ByteArray) (w : World) : Filled ks vs (w.heap.size + 1) w.heap.size w (w.alloc (.map #[] 0)) 0 (.map []) (fun _ => .slice none 0 0) where
  grp := by rw [wantK_zero]; exact Groups.made w
  has := fun k => by simp [Maps.has]
  size := rfl
  below := (Below.refl _ _).alloc (Nat.le_refl _) _
  room := by simp

/-- THE ROUND, from the world in which the look-up is made, behind the append: the store, and what holds then. -/
theorem Filled.step {ks vs : List ByteArray} {base B j g cap : Nat} {w0 wr W w1 : World} {D : DataW Value} {V : List UInt8 → Value} {x y : ByteArray} {o : Obj} (h : Filled ks vs base B w0 wr j D V) (hW : W = (wr.alloc o).drew)
    (hj : j < ks.length) (hx : x = ks.getD j ByteArray.empty) (hy : y = vs.getD j ByteArray.empty) (hs : x.size ≤ maxLen) (hj2 : j ≤ 1024)
    (hown : w1.ownsRow base 9 1 (.slice (some ⟨g, 0, none⟩) ((wantK ks vs j x.data.toList).length + 1) cap) ((wantK ks vs j x.data.toList).length + 1) ((wantK ks vs j x.data.toList).map Value.string ++ [.string y]))
    (hgr : W.grownBy w1 (V x.data.toList).ownBlock) (hat : (V x.data.toList).ownBlock = some g ∨ g = W.heap.size) :
    ∃ w2 D' V', (Instr.mapUpdate 73 (.map (some B)) (.string x) (.slice (some ⟨g, 0, none⟩) ((wantK ks vs j x.data.toList).length + 1) cap)).run Yba.prog w1 = .ok () w2 ∧ Filled ks vs base B w0 w2 (j + 1) D' V' ∧ Below B w0 w1 := by
  subst hW
  have hg1 : wr.grownBy w1 (V x.data.toList).ownBlock := (World.grownBy_alloc wr o _).trans ⟨hgr.os, hgr.tape, hgr.output, hgr.size, hgr.block⟩
  have hBb : ∀ k, (V x.data.toList).ownBlock = some k → B ≤ k := fun k hk => by
    have := ((h.grp.row x.data.toList).lt k hk).1
    have := h.grp.lt
    omega
  have hbr : B ≤ wr.heap.size := by have := h.grp.lt; have := h.room; omega
  have b1 : Below B w0 w1 := h.below.grown hg1 hbr hBb
  obtain ⟨w2, hrun, hG, hg2⟩ := h.grp.put (w1 := w1) (v' := .slice (some ⟨g, 0, none⟩) ((wantK ks vs j x.data.toList).length + 1) cap) (l' := wantK ks vs j x.data.toList ++ [y]) x hs (by unfold maxLen; omega) hg1
    (by rw [List.length_append, List.map_append]; exact hown)
    (by
      rcases hat with e | e
      · exact .inl (by rw [e]; rfl)
      · refine .inr ⟨g, rfl, ?_⟩
        rw [e]
        show wr.heap.size ≤ (wr.alloc o).heap.size
        simp)
  rw [wantK_step ks vs j x y hx hy] at hG
  refine ⟨w2, _, _, hrun, ⟨hG, fun k => ?_, ?_, ?_, ?_⟩, b1⟩
  · have hsn := any_snoc ks (fun s => s.toList == k) j hj
    rw [hsn]
    by_cases e : k = x.data.toList
    · subst e
      rw [has_put_same h.grp.own.isMap (law9.key (keyOf_string_mk Yba.underlying9 hs)), ← hx]
      simp [toList_data]
    · rw [has_put_other (by simpa using e), h.has, ← hx, toList_data]
      have : (x.data.toList == k) = false := by rw [beq_eq_false_iff_ne]; exact fun h => e h.symm
      rw [this, Bool.or_false]
  · rw [size_put (h.grp.own.tidy law9), h.has, h.size, cnt_succ]
    unfold fstB
    rw [← hx, toList_data]
    cases (ks.take j).any (fun s => s.toList == x.data.toList) <;> simp
  · exact b1.grown hg2 (by have := hg1.size; omega) (fun k hk => by cases hk; exact Nat.le_refl _)
  · exact Nat.le_trans h.room (Nat.le_trans hg1.size hg2.size)

end Go.Proofs.Ybulkkiq
