import Derived.Test.YbulkkiqBHost
import Derived.Deep.DeepCutAuto
import Derived.Deep.AppendLies
namespace Go.Proofs.Ybulkkiq
open Go.RowKit Go.MuLone

theorem Yba.info58 : (Yba.prog.info? 58).map (fun i => (i.zero, i.size, i.bytes)) = some (some (.pointer none), 1, 8) := by kernel_rfl

theorem cell_one_new2 (w : World) (o : Obj) (x : Value) (t : TypeId) : ∀ j u, [x][j]? = some u → ((w.alloc o).alloc (.cells #[x] t)).cell? ((⟨w.heap.size + 1, 0, none⟩ : Addr).add j) = some u := by
  have := cell_one_new (w.alloc o) x t
  rw [World.size_alloc] at this
  exact this
theorem ptr_oneCell (a : Option Addr) : ∀ u ∈ [Value.pointer a], u.oneCell' = true := by
  intro u hu
  simp at hu
  subst hu
  rfl

/-- A node's block: its lock is free, its count is c. -/
def NodeAt (w : World) (b : Nat) (c : Int) : Prop := ∃ cs, w.heap[b]? = some (.cells cs 61 (0, 0)) ∧ cs[27]? = some (.int .i32 0) ∧ cs[54]? = some (.int .u64 c)
theorem NodeAt.is {w : World} {b : Nat} {c : Int} (h : NodeAt w b c) : IsNode w b c := by
  obtain ⟨cs, hb, h27, h54⟩ := h
  refine ⟨?_, ?_, ?_⟩
  · simp [World.cell?, hb, h27]
  · simp [World.frozen?, hb]
  · simp [World.cell?, hb, h54]
theorem NodeAt.of_block {w w' : World} {b : Nat} {c : Int} (h : NodeAt w b c) (e : w'.heap[b]? = w.heap[b]?) : NodeAt w' b c := by
  obtain ⟨cs, hb, h⟩ := h
  exact ⟨cs, e.trans hb, h⟩
theorem NodeAt.lt {w : World} {b : Nat} {c : Int} (h : NodeAt w b c) : b < w.heap.size := by
  obtain ⟨cs, hb, _⟩ := h
  exact (Array.getElem?_eq_some_iff.1 hb).1

/-- What stands in memory after j rounds: the host's block H holds the slice v of its nodes, which lie at 'bs' and hold the first counts. -/
structure Nodes (w0 wr : World) (H : Nat) (v : Value) (j : Nat) (bs : List Nat) (zs : List Int) : Prop where
  cell : wr.cell? ⟨H, 1, none⟩ = some v
  free : wr.frozen? ⟨H, 1, none⟩ = false
  row : wr.ownsRow (H + 1) 58 1 v j (bs.map fun b => Value.pointer (some ⟨b, 0, none⟩))
  len : bs.length = j
  node : ∀ i, i < j → NodeAt wr (bs.getD i 0) (zs.getD i 0) ∧ H < bs.getD i 0
  below : Below H w0 wr
  room : H + 1 ≤ wr.heap.size

theorem Nodes.step {w0 wr w1 : World} {H j : Nat} {v v' : Value} {bs : List Nat} {zs : List Int} {cs : Array Value} {o : Obj} (h : Nodes w0 wr H v j bs zs) (c27 : cs[27]? = some (.int .i32 0)) (c54 : cs[54]? = some (.int .u64 (zs.getD j 0)))
    (hown : w1.ownsRow (H + 1) 58 1 v' (j + 1) ((bs.map fun b => Value.pointer (some ⟨b, 0, none⟩)) ++ [.pointer (some ⟨wr.heap.size, 0, none⟩)])) (hg : ((wr.alloc (.cells cs 61)).alloc o).grownBy w1 v.ownBlock) :
    w1.cell? ⟨H, 1, none⟩ = some v ∧ w1.frozen? ⟨H, 1, none⟩ = false ∧ Nodes w0 (w1.setCell ⟨H, 1, none⟩ v') H v' (j + 1) (bs ++ [wr.heap.size]) zs := by
  have hH : H < wr.heap.size := h.room
  have hgb : ∀ k, v.ownBlock = some k → H + 1 ≤ k := fun k hk => (h.row.lt k hk).1
  have hold : ∀ k, k < wr.heap.size → some k ≠ v.ownBlock → w1.heap[k]? = wr.heap[k]? := fun k hk hne => by
    rw [hg.block k (by simp; omega) hne, Below.heap_alloc _ _ _ (by simp; omega), Below.heap_alloc _ _ _ hk]
  have hHo : w1.heap[H]? = wr.heap[H]? := hold H hH (fun e => by have := hgb H e.symm; omega)
  have k1 : w1.cell? ⟨H, 1, none⟩ = some v := (World.cell?_of_block (a := ⟨H, 1, none⟩) hHo).trans h.cell
  have k2 : w1.frozen? ⟨H, 1, none⟩ = false := (World.frozen?_of_block (a := ⟨H, 1, none⟩) hHo).trans h.free
  have hb1 : Below H w0 w1 := ((h.below.alloc (by omega) _).alloc (by simp; omega) _).grown hg (by simp; omega) (fun k hk => by have := hgb k hk; omega)
  refine ⟨k1, k2, ⟨World.cell?_setCell_same _ _ _ k1, ?_, ?_, by simp [h.len], ?_, hb1.setCell (Nat.le_refl _) _, ?_⟩⟩
  · simp [k2]
  · rw [List.map_append]
    exact RowKit.ownsRow_setCell_below hown (by show H < H + 1; omega) _
  · intro i hi
    by_cases e : i = j
    · subst e
      have eb : (bs ++ [wr.heap.size]).getD i 0 = wr.heap.size := by simp [List.getD, ← h.len]
      rw [eb]
      refine ⟨⟨cs, ?_, c27, c54⟩, hH⟩
      rw [Below.heap_setCell _ _ _ _ (by show wr.heap.size ≠ H; omega)]
      rw [hg.block _ (by simp; omega) (fun e => by have := (h.row.lt _ e.symm).2; omega), Below.heap_alloc _ _ _ (by simp)]
      exact heap_alloc_new wr _
    · have eb : (bs ++ [wr.heap.size]).getD i 0 = bs.getD i 0 := by
        simp only [List.getD]
        rw [List.getElem?_append_left (by have := h.len; omega)]
      rw [eb]
      obtain ⟨hn, hlt⟩ := h.node i (by omega)
      refine ⟨hn.of_block ?_, hlt⟩
      rw [Below.heap_setCell _ _ _ _ (by show bs.getD i 0 ≠ H; omega)]
      refine hold _ hn.lt (fun e2 => ?_)
      obtain ⟨ncs, hnb, _⟩ := hn
      rcases h.row.2 with ⟨hv, _⟩ | ⟨g, cp, cur, hv, _, hgb2, _⟩
      · rw [hv] at e2
        cases e2
      · rw [hv] at e2
        have : bs.getD i 0 = g := by simpa [Value.ownBlock] using e2
        rw [this, hgb2] at hnb
        simp at hnb
  · simp [World.setCell]
    have := hg.size
    simp at this
    omega

set_option maxRecDepth 100000 in
set_option maxHeartbeats 1000000 in
theorem bsum_any (a : Option Addr) (b off len cap : Nat) (zs : List Int) (w : World) (hm : len ≤ 1024) (hl : len ≤ zs.length) (ha : 0 < len → a = some ⟨b, off, none⟩) (hb : 0 < len → b < w.heap.size) (hc : 0 < len → ∀ j, j < zs.length → w.cell? ⟨b, off + j, none⟩ = some (.int .u64 (zs.getD j 0))) :
    Calls Yba.prog 4 #[.slice a len cap] w fun e w' => e = .returned (.bool true) ∧ Below w.heap.size w w' := by
  have hmm := @run_makeMap Yba.prog
  obtain ⟨i0, hi, hz0, hz1, hz2⟩ := info_parts Yba.info58
  have HC := hid hc
  have HA := hid ha
  have HB := hid hb
  have hd : decide ((1024 : Int) < (len : Int)) = false := by simp; omega
  clear hc ha hb
  go_enter Yba.func4, Yba.ntmps4
  go_upto_region 6 with fail
  clear hmm
  go_loopw [4, 15] (fun s i wr => ∃ j : Nat, j ≤ len ∧ i = .int .i64 j ∧ s = .int .u64 (sumTo zs j) ∧ ∃ v bs, Nodes (w.alloc (.map #[] 0)) wr (w.heap.size + 1) v j bs zs) (fun _ i _ => len - (intOf i).toNat)
  case atStart =>
    refine ⟨0, Nat.zero_le _, rfl, rfl, .slice none 0 0, [], ?_, ?_, World.ownsRow_nil _ _ _ _, rfl, fun i hi => absurd hi (by omega), ?_, by simp⟩
    · simp
    · simp
    · exact (Below.refl _ _).alloc (by simp) _
  case round =>
    obtain ⟨j, hj, rfl, rfl, v, bs, hN⟩ := hrel
    by_cases hlt : j < len
    · have e1 := HA.out (by omega)
      subst e1
      have hb := HB.out (by omega)
      have hcj : wr.cell? ⟨b, off + j, none⟩ = some (.int .u64 (zs.getD j 0)) := by
        rw [hN.below.cell (p := ⟨b, off + j, none⟩) (by show b < _; omega), World.cell?_alloc_past _ _ _ hb]
        exact HC.out (by omega) j (by omega)
      have hcell := hN.cell
      have hroom := hN.room
      have HN := hid hN
      clear hN
      obtain ⟨z, hz⟩ : ∃ z, z = zs.getD j 0 := ⟨_, rfl⟩
      rw [← hz] at hcj
      have HZ : Hid (z = zs.getD j 0) := hz
      clear hz
      go_wp2_with (at_builtin; refine wpList_append_lies _ rfl _ _ 42 rfl (w.heap.size + 2) 58 i0 (.pointer none) 1 8 Yba.underlying42 hi hz0 hz1 hz2 rfl (by decide) v j _ rfl ((HN.out.row.alloc _).alloc _) ⟨wr.heap.size + 1, 0, none⟩ 1 1 [.pointer (some ⟨wr.heap.size, 0, none⟩)] rfl rfl (cell_one_new2 _ _ _ _) (ptr_oneCell _) (by decide) (by unfold maxLen; omega) (by omega) (by simp; omega) _ rfl ?_)
      intro g cp w1 hown' hgrow _ _
      obtain ⟨k1, k2, hN2⟩ := HN.out.step (zs := zs) rfl (by rw [← HZ.out]; rfl) hown' hgrow
      have HN2 := hid hN2
      clear hown' hgrow hN2 hcell hcj
      go_wp2
      go_roundw
      case rel => exact ⟨j + 1, by omega, by go_num, by rw [HZ.out]; rfl, _, _, HN2.out⟩
      case measure => simp [intOf]; omega
    · have : j = len := by omega
      subst this
      have hN' := hN
      have hB : Below w.heap.size w wr := ((Below.refl _ w).alloc (Nat.le_refl _) _).trans (hN.below.mono (by omega))
      obtain ⟨ao, cp, rfl⟩ : ∃ ao cp, v = .slice ao j cp := by
        rcases hN.row.2 with ⟨rfl, rfl⟩ | ⟨g, cp, cur, rfl, _⟩
        · exact ⟨_, _, rfl⟩
        · exact ⟨_, _, rfl⟩
      obtain ⟨g, hg⟩ : ∃ g, 0 < j → ao = some ⟨g, 0, none⟩ := by
        by_cases h0 : 0 < j
        · obtain ⟨g, cp', hv, _⟩ := hN.row.form h0
          simp at hv
          exact ⟨g, fun _ => hv.1⟩
        · exact ⟨0, fun h => absurd h h0⟩
      have hcon := host_pc (w.heap.size + 1) j cp ao g bs zs wr hm hN.cell hg (fun i hi => by
        have e := hg (by omega)
        subst e
        rw [hN.row.cellAt i (by omega)]
        simp [List.getElem?_eq_getElem (show i < bs.length by rw [hN.len]; exact hi)]) (fun i hi => (hN.node i hi).1.is)
      have HCON := hid hcon
      clear hN hN' hcon
      go_wp2_with (go_at_call 11; refine HCON.out.mono ?_; rintro e wz ⟨rfl, rfl⟩)
      go_ret
      exact ⟨rfl, hB⟩

set_option maxHeartbeats 400000 in
theorem bsum_long (a : Option Addr) (len cap : Nat) (w : World) (hm : 1024 < len) :
    Calls Yba.prog 4 #[.slice a len cap] w fun e w' => e = .returned (.bool true) ∧ Below w.heap.size w w' := by
  have h : (1024 : Int) < (len : Int) := by omega
  go_enter Yba.func4, Yba.ntmps4
  go_wp2
  go_ret
  exact ⟨rfl, Below.refl _ _⟩

end Go.Proofs.Ybulkkiq
