-- MINE
import Derived.Test.YbulkkiqFmtNode
namespace Go.Proofs.YbulkkiqFmt
open Go.RowKit Go.MuLone
open Go.Extern.Stop (cell)
set_option maxRecDepth 100000
set_option linter.unusedSimpArgs false
set_option linter.unusedVariables false

section
variable {w wr wp w1 : World} {x : UInt8} {r : Int} {hb : Nat} {st fi : Value} {j1 j2 : Nat} {l1 l2 : List Value}
theorem NN.spot (h : NN w wr x r hb st fi j1 j2 l1 l2) (hp : Below wr.heap.size wr wp) {o : Obj} {v : Value} (hg : (wp.alloc o).grownBy w1 v.ownBlock) (hv : ∀ k, v.ownBlock = some k → w.heap.size + 3 ≤ k) (p : Nat) (u : Value)
    (hu : (nodeF x r hb st (.int .i32 0) (.slice (some ⟨w.heap.size + 1, 0, none⟩) 1 1) fi (.slice none 0 0) 0).toArray[p]? = some u) :
    w1.cell? ⟨w.heap.size + 2, p, none⟩ = some u ∧ w1.frozen? ⟨w.heap.size + 2, p, none⟩ = false := by
  have hsz := hp.size
  have hroom := h.room
  have e : w1.heap[w.heap.size + 2]? = wr.heap[w.heap.size + 2]? := by
    rw [hg.block _ (by simp; omega) (fun e => by have := hv _ e.symm; omega), Below.heap_alloc _ _ _ (by omega), hp.block _ (by omega)]
  have hn := e.trans h.node
  exact ⟨by simp only [World.cell?, hn]; exact hu, by simp [World.frozen?, hn]⟩
theorem NN.arg1 (h : NN w wr x r hb st fi j1 j2 l1 l2) (hp : Below wr.heap.size wr wp) {o : Obj} {v : Value} (hg : (wp.alloc o).grownBy w1 v.ownBlock) (hv : ∀ k, v.ownBlock = some k → w.heap.size + 3 ≤ k) : w1.rangeAt w.heap.size 0 (peerC x) := by
  have hsz := hp.size
  have hroom := h.room
  refine row_range (t := 54) (fr := (0, 0)) ?_
  rw [hg.block _ (by simp; omega) (fun e => by have := hv _ e.symm; omega), Below.heap_alloc _ _ _ (by omega), hp.block _ (by omega)]
  exact h.arg
theorem NN.at_ (h : NN w wr x r hb st fi j1 j2 l1 l2) (p : Nat) (u : Value) (hu : (nodeF x r hb st (.int .i32 0) (.slice (some ⟨w.heap.size + 1, 0, none⟩) 1 1) fi (.slice none 0 0) 0).toArray[p]? = some u) : wr.cell? ⟨w.heap.size + 1 + 1, p, none⟩ = some u := by
  simp only [World.cell?, show wr.heap[w.heap.size + 1 + 1]? = _ from h.node]
  exact hu
theorem NN.alloc (h : NN w wr x r hb st fi j1 j2 l1 l2) (o : Obj) : NN w (wr.alloc o) x r hb st fi j1 j2 l1 l2 := by
  have hroom := h.room
  exact ⟨(Below.heap_alloc _ _ _ (by omega)).trans h.arg, (Below.heap_alloc _ _ _ (by omega)).trans h.succ, (Below.heap_alloc _ _ _ (by omega)).trans h.node, h.rs.alloc o, h.rf.alloc o, h.below.alloc (by omega) o, by simp; omega⟩
end

theorem step_bslice1 {P : Program} {ops : Array Oper} {o : Oper} {a : Act} {w w' : World} {K : Act → World → Prop} {Q : Exit → Act → World → Prop} {E : Prop}
    (hgd : o.guard = none) (t : TypeId) (n i : Nat) (x : Operand) (hop : o.op = Op.buildSlice t n #[(i, x)]) (vx : Value) (hx : a.eval x = vx) (v : Value)
    (hrun : (Instr.buildSlice t n #[(i, vx)]).run P w = .ok v w') (hK : K (a.put o.dst v) w') : if Region.wanted o (yielded ops a.tmps) = true then Oper.wp P o a w K Q else E := by
  have hw : Region.wanted o (yielded ops a.tmps) = true := by simp [Region.wanted, hgd]
  rw [if_pos hw]
  unfold Oper.wp execOp
  simp only [hop, List.map_toArray, List.map_cons, List.map_nil, hx, Sem.run_bind, hrun, Result.andThen_ok, Sem.run_pure]
  exact hK

set_option maxHeartbeats 12800000 in
theorem new9 (x : UInt8) (r : Int) (hb : Nat) (w : World) :
    Calls Ybaf.prog 9 #[.agg (peerC x).toArray, .int .i64 r, .pointer (some ⟨hb, 0, none⟩)] w fun e w' => e = .returned (.pointer (some ⟨w.heap.size + 2, 0, none⟩)) ∧
      (∃ st fi ru, w'.heap[w.heap.size + 2]? = some (.cells (nodeF x r hb st (.int .i32 0) (.slice (some ⟨w.heap.size + 1, 0, none⟩) 1 1) fi ru 0).toArray 60 (0, 0))) ∧
      w'.heap[w.heap.size + 1]? = some (.cells (peerC x).toArray 54 (0, 0)) ∧ Below w.heap.size w w' := by
  have HI25 := hide (show (Ybaf.prog.info? 25).map (·.size) = some (idC x).length by rw [info25, idC_len])
  have HI54 := hide (show (Ybaf.prog.info? 54).map (·.size) = some (peerC x).length by rw [info54, peerC_len])
  have HR0 := hide (range_new w (peerC x) 54)
  go_enter Ybaf.func9, Ybaf.ntmps9
  go_upto_region 2 with (first
    | (refine wpList_load_mid rfl 54 _ rfl w.heap.size 0 rfl (peerC x) _ HR0.out Ybaf.underlying54 rfl HI54.out ?_)
    | (refine wpList_bslice1 rfl 58 1 0 _ rfl (.agg (peerC x).toArray) rfl _ (bslice58 x _) ?_)
    | (refine wpList_built4 rfl 60 0 1 2 7 _ _ _ _ rfl (.agg (peerC x).toArray) (.int .i64 r) (.pointer (some ⟨hb, 0, none⟩)) (.slice (some ⟨w.heap.size + 1, 0, none⟩) 1 1) rfl rfl rfl (by simp; rfl) _ (build60 x r hb _ _) ?_))
  generalize hW3 : World.alloc (World.alloc (World.alloc w _) _) _ = W3
  have HNN0 : Hid (NN w W3 x r hb (.slice none 0 0) (.slice none 0 0) 0 0 [] []) := by
    rw [← hW3]
    refine ⟨?_, ?_, ?_, World.ownsRow_nil _ _ _ _, World.ownsRow_nil _ _ _ _, ?_, by simp⟩
    · rw [Below.heap_alloc _ _ _ (by simp; omega), Below.heap_alloc _ _ _ (by simp)]
      exact heap_alloc_new w _
    · rw [Below.heap_alloc _ _ _ (by simp)]
      have := heap_alloc_new (w.alloc (.cells (peerC x).toArray 54)) (.cells (peerC x).toArray 54)
      rw [World.size_alloc] at this
      exact this
    · have := heap_alloc_new ((w.alloc (.cells (peerC x).toArray 54)).alloc (.cells (peerC x).toArray 54)) (.cells (nodeF x r hb (.slice none 0 0) (.int .i32 0) (.slice (some ⟨w.heap.size + 1, 0, none⟩) 1 1) (.slice none 0 0) (.slice none 0 0) 0).toArray 60)
      rw [World.size_alloc, World.size_alloc] at this
      exact this
    · exact (((Below.refl _ _).alloc (Nat.le_refl _) _).alloc (by simp) _).alloc (by simp; omega) _
  clear hW3
  have HR1 := hide (row_range HNN0.out.arg)
  obtain ⟨i0, z0, hi, hz0, hz1, hz2, hzc⟩ := parts25
  obtain ⟨i4, z4, hi4, hz40, hz41, hz42, hz4c⟩ := parts54
  go_wp2_with (first
    | (refine wpList_load_mid rfl 25 _ rfl w.heap.size 0 rfl (idC x) _ (peer_id HR1.out) Ybaf.underlying25 rfl HI25.out ?_)
    | (go_at_call 7; refine (bits7 x _).mono ?_; rintro e wb ⟨rfl, rfl⟩))
  go_loopw [19] (fun i wr => ∃ (j : Nat) (st fi : Value) (l1 l2 : List Value), j ≤ 8 ∧ i = .int .i64 j ∧ NN w wr x r hb st fi j j l1 l2) (fun i _ => 8 - (intOf i).toNat)
  case atStart => exact ⟨0, _, _, _, _, by omega, rfl, HNN0.out.alloc _⟩
  case round =>
    obtain ⟨j, st, fi, l1, l2, hj, rfl, hnn⟩ := hrel
    have HNN := hide hnn
    by_cases hj8 : j < 8
    · have hlt : w.heap.size + 1 + 1 < wr.heap.size := by have := hnn.room; omega
      have hst : wr.cell? ⟨w.heap.size + 1 + 1, 26, none⟩ = some st := hnn.at_ 26 _ rfl
      have HR := hide (row_range hnn.arg)
      clear hnn
      go_upto_region 5 with fail
      (try simp only [Act.put])
      go_cut [] (fun wc => ∃ st' l1', NN w wc x r hb st' fi (j + 1) j l1' l2)
      case first =>
        refine wp_region_held_drew (S := fun wx => wx.rangeAt w.heap.size 0 (peerC x)) (by kernel_rfl) HR.out (fun hHeld => ?_)
        refine wpAnyH_take (i := 0) (oi := _) (v := ?_) rfl (by kernel_rfl) (by kernel_rfl) (by kernel_rfl) (fun _ _ _ h => h) (Or.inl ⟨by rfl, ?_⟩) (by assumption) ?_
        rotate_left
        · intro w hSw
          (try dsimp only at hSw)
          go_simp
          (try with_reducible rfl)
        (try simp only [List.getElem_toArray, List.getElem_cons_succ, List.getElem_cons_zero, Act.put, List.setIfInBounds_toArray, List.set_cons_zero, List.set_cons_succ])
        refine wpAnyH_take (i := 1) (oi := _) (v := ?_) rfl (by kernel_rfl) (by kernel_rfl) (by kernel_rfl) (fun _ _ _ h => h) (Or.inl ⟨by rfl, ?_⟩) (by assumption) ?_
        rotate_left
        · intro w hSw
          (try dsimp only at hSw)
          go_simp
          (try with_reducible rfl)
        (try simp only [List.getElem_toArray, List.getElem_cons_succ, List.getElem_cons_zero, Act.put, List.setIfInBounds_toArray, List.set_cons_zero, List.set_cons_succ])
        refine wpAnyH_take (i := 2) (oi := _) (v := ?_) rfl (by kernel_rfl) (by kernel_rfl) (by kernel_rfl) (fun _ _ _ h => h) (Or.inl ⟨by rfl, ?_⟩) (by assumption) ?_
        rotate_left
        · intro w hSw
          (try dsimp only at hSw)
          go_simp
          (try with_reducible rfl)
        (try simp only [List.getElem_toArray, List.getElem_cons_succ, List.getElem_cons_zero, Act.put, List.setIfInBounds_toArray, List.set_cons_zero, List.set_cons_succ])
        refine wpAnyH_take (i := 3) (oi := _) (v := ?_) rfl (by kernel_rfl) (by kernel_rfl) (by kernel_rfl) (fun _ _ _ h => h) (Or.inl ⟨by rfl, ?_⟩) (by assumption) ?_
        rotate_left
        · intro w hSw
          (try dsimp only at hSw)
          go_simp
          (try with_reducible rfl)
        (try simp only [List.getElem_toArray, List.getElem_cons_succ, List.getElem_cons_zero, Act.put, List.setIfInBounds_toArray, List.set_cons_zero, List.set_cons_succ])
        refine wpAnyH_take (i := 5) (oi := _) (v := ?_) rfl (by kernel_rfl) (by kernel_rfl) (by kernel_rfl) (fun _ _ _ h => h) (Or.inl ⟨by rfl, ?_⟩) (by assumption) ?_
        rotate_left
        · intro w hSw
          (try dsimp only at hSw)
          go_simp
          (try with_reducible rfl)
        (try simp only [List.getElem_toArray, List.getElem_cons_succ, List.getElem_cons_zero, Act.put, List.setIfInBounds_toArray, List.set_cons_zero, List.set_cons_succ])
        refine wpAnyH_take (i := 6) (oi := _) (v := .agg (idC x).toArray) rfl (by kernel_rfl) (by kernel_rfl) (by kernel_rfl) (fun _ _ _ h => h) (yieldsIf_load_mid (by rfl) 25 _ rfl w.heap.size 0 rfl (idC x) _ (fun w h => peer_id h) Ybaf.underlying25 rfl HI25.out) (by assumption) ?_
        (try simp only [List.getElem_toArray, List.getElem_cons_succ, List.getElem_cons_zero, Act.put, List.setIfInBounds_toArray, List.set_cons_zero, List.set_cons_succ])
        refine wpAnyH_take (i := 7) (oi := _) (v := ?_) rfl (by kernel_rfl) (by kernel_rfl) (by kernel_rfl) (fun _ _ _ h => h) (Or.inl ⟨by rfl, ?_⟩) (by assumption) ?_
        rotate_left
        · intro w hSw
          (try dsimp only at hSw)
          go_simp
          (try with_reducible rfl)
        (try simp only [List.getElem_toArray, List.getElem_cons_succ, List.getElem_cons_zero, Act.put, List.setIfInBounds_toArray, List.set_cons_zero, List.set_cons_succ])
        refine wpAnyH_ready (rs := [4, 8]) (by kernel_rfl) (by simp) ?_
        refine AllReadyH.cons rfl (fun K hK => ?_) (AllReadyH.cons rfl (fun K hK => ?_) AllReadyH.nil)
        · go_simp
          refine hK.out _ _ hHeld (fun hHeld => ?_)
          clear hK K
          refine wpAnyH_ready (rs := [8]) (by kernel_rfl) (by simp) ?_
          refine AllReadyH.cons rfl (fun K hK => ?_) AllReadyH.nil
          go_simp
          go_wp2_with (go_at_call 14; refine (powC x j _ hj8).mono ?_; rintro e wp ⟨⟨zs, hzs, rfl⟩, hp0⟩)
          have hp : Below wr.heap.size wr wp := ((Below.refl _ wr).drew).trans hp0
          have hst1 : wp.cell? ⟨w.heap.size + 1 + 1, 26, none⟩ = some st := (hp.cell (p := ⟨w.heap.size + 1 + 1, 26, none⟩) hlt).trans hst
          have hst2 : ∀ o, (wp.alloc o).cell? ⟨w.heap.size + 1 + 1, 26, none⟩ = some st := fun o => (World.cell?_alloc_past o (w.heap.size + 2) _ (by have := hp.size; omega)).trans hst1
          have HP := hide hp
          have HZS := hide hzs
          have hR1 := range_of_below HR.out hp (by omega)
          have hR2 : ∀ o, (wp.alloc o).rangeAt w.heap.size 0 (peerC x) := fun o => World.rangeAt_alloc hR1 o
          clear hp0 hp hzs
          refine hK.out _ _ hR1 (fun hHeld => ?_)
          clear hK K
          refine wpAnyH_ready (rs := [9]) (by kernel_rfl) (by simp) ?_
          refine AllReadyH.cons rfl (fun K hK => ?_) AllReadyH.nil
          refine step_bslice1 rfl 22 1 0 _ rfl (.agg (idZ zs).toArray) rfl _ (bslice22 (idZ zs) (idZ_len zs HZS.out) _) ?_
          refine hK.out _ _ (hR2 _) (fun hHeld => ?_)
          clear hK K
          refine wpAnyH_ready (rs := [10]) (by kernel_rfl) (by simp) ?_
          refine AllReadyH.cons rfl (fun K hK => ?_) AllReadyH.nil
          refine step_append_lies _ rfl (.tmp 26) (.tmp 31) 22 rfl (w.heap.size + 3) 25 i0 z0 21 21 Ybaf.underlying22 hi hz0 hz1 hz2 hzc (by decide) st j l1 (by rfl) (HNN.out.own25 HP.out _) ⟨wp.heap.size, 0, none⟩ 1 1 (idZ zs) (by rfl) (by rw [idZ_len zs HZS.out]) (cells_new wp _ rfl (idZ zs) 25) (idZ_one zs) (by decide) (by unfold maxLen; omega) (by omega) (by have := HP.out.size; have := HNN.out.room; rw [World.size_alloc]; omega) _ rfl ?_
          intro g cp w1 hown hgrow _ _
          have hN2 := HNN.out.starts HP.out hgrow hown
          have hfr1 : w1.cell? ⟨w.heap.size + 1 + 1, 26, none⟩ = some st ∧ w1.frozen? ⟨w.heap.size + 1 + 1, 26, none⟩ = false := HNN.out.spot HP.out hgrow (fun k hk => (HNN.out.rs.lt k hk).1) 26 _ rfl
          obtain ⟨hc1, hf1⟩ := hfr1
          have hR3 := HNN.out.arg1 HP.out hgrow (fun k hk => (HNN.out.rs.lt k hk).1)
          have HN2 := hide hN2
          clear hN2 hown hgrow
          refine hK.out _ _ hR3 (fun hHeld => ?_)
          clear hK K
          refine wpAnyH_take (i := 11) (oi := _) (v := ?_) rfl (by kernel_rfl) (by kernel_rfl) (by kernel_rfl) (fun _ _ _ h => h) (Or.inl ⟨by rfl, ?_⟩) (by assumption) ?_
          rotate_left
          · intro w hSw
            (try dsimp only at hSw)
            go_simp
            (try with_reducible rfl)
          (try simp only [List.getElem_toArray, List.getElem_cons_succ, List.getElem_cons_zero, Act.put, List.setIfInBounds_toArray, List.set_cons_zero, List.set_cons_succ])
          refine wpAnyH_take (i := 12) (oi := _) (v := ?_) rfl (by kernel_rfl) (by kernel_rfl) (by kernel_rfl) (fun _ _ _ h => h) (Or.inl ⟨by rfl, ?_⟩) (by assumption) ?_
          rotate_left
          · intro w hSw
            (try dsimp only at hSw)
            go_simp
            (try with_reducible rfl)
          (try simp only [List.getElem_toArray, List.getElem_cons_succ, List.getElem_cons_zero, Act.put, List.setIfInBounds_toArray, List.set_cons_zero, List.set_cons_succ])
          refine wpAnyH_ready (rs := [13]) (by kernel_rfl) (by simp) ?_
          refine AllReadyH.cons rfl (fun K hK => ?_) AllReadyH.nil
          go_simp
          refine hK.out _ _ (row_range HN2.out.arg) (fun hHeld => ?_)
          clear hK K
          refine wpAnyH_done (by kernel_rfl) ?_ _
          go_wp2_with fail
          go_meet
          exact ⟨_, _, HN2.out⟩
        · go_simp
          go_wp2_with (go_at_call 14; refine (powC x j _ hj8).mono ?_; rintro e wp ⟨⟨zs, hzs, rfl⟩, hp0⟩)
          have hp : Below wr.heap.size wr wp := ((Below.refl _ wr).drew).trans hp0
          have hst1 : wp.cell? ⟨w.heap.size + 1 + 1, 26, none⟩ = some st := (hp.cell (p := ⟨w.heap.size + 1 + 1, 26, none⟩) hlt).trans hst
          have hst2 : ∀ o, (wp.alloc o).cell? ⟨w.heap.size + 1 + 1, 26, none⟩ = some st := fun o => (World.cell?_alloc_past o (w.heap.size + 2) _ (by have := hp.size; omega)).trans hst1
          have HP := hide hp
          have HZS := hide hzs
          have hR1 := range_of_below HR.out hp (by omega)
          have hR2 : ∀ o, (wp.alloc o).rangeAt w.heap.size 0 (peerC x) := fun o => World.rangeAt_alloc hR1 o
          clear hp0 hp hzs
          refine hK.out _ _ hR1 (fun hHeld => ?_)
          clear hK K
          refine wpAnyH_ready (rs := [4, 9]) (by kernel_rfl) (by simp) ?_
          refine AllReadyH.cons rfl (fun K hK => ?_) (AllReadyH.cons rfl (fun K hK => ?_) AllReadyH.nil)
          · go_simp
            refine hK.out _ _ hHeld (fun hHeld => ?_)
            clear hK K
            refine wpAnyH_ready (rs := [9]) (by kernel_rfl) (by simp) ?_
            refine AllReadyH.cons rfl (fun K hK => ?_) AllReadyH.nil
            refine step_bslice1 rfl 22 1 0 _ rfl (.agg (idZ zs).toArray) rfl _ (bslice22 (idZ zs) (idZ_len zs HZS.out) _) ?_
            refine hK.out _ _ (hR2 _) (fun hHeld => ?_)
            clear hK K
            refine wpAnyH_ready (rs := [10]) (by kernel_rfl) (by simp) ?_
            refine AllReadyH.cons rfl (fun K hK => ?_) AllReadyH.nil
            refine step_append_lies _ rfl (.tmp 26) (.tmp 31) 22 rfl (w.heap.size + 3) 25 i0 z0 21 21 Ybaf.underlying22 hi hz0 hz1 hz2 hzc (by decide) st j l1 (by rfl) (HNN.out.own25 HP.out _) ⟨wp.heap.size, 0, none⟩ 1 1 (idZ zs) (by rfl) (by rw [idZ_len zs HZS.out]) (cells_new wp _ rfl (idZ zs) 25) (idZ_one zs) (by decide) (by unfold maxLen; omega) (by omega) (by have := HP.out.size; have := HNN.out.room; rw [World.size_alloc]; omega) _ rfl ?_
            intro g cp w1 hown hgrow _ _
            have hN2 := HNN.out.starts HP.out hgrow hown
            have hfr1 : w1.cell? ⟨w.heap.size + 1 + 1, 26, none⟩ = some st ∧ w1.frozen? ⟨w.heap.size + 1 + 1, 26, none⟩ = false := HNN.out.spot HP.out hgrow (fun k hk => (HNN.out.rs.lt k hk).1) 26 _ rfl
            obtain ⟨hc1, hf1⟩ := hfr1
            have hR3 := HNN.out.arg1 HP.out hgrow (fun k hk => (HNN.out.rs.lt k hk).1)
            have HN2 := hide hN2
            clear hN2 hown hgrow
            refine hK.out _ _ hR3 (fun hHeld => ?_)
            clear hK K
            refine wpAnyH_take (i := 11) (oi := _) (v := ?_) rfl (by kernel_rfl) (by kernel_rfl) (by kernel_rfl) (fun _ _ _ h => h) (Or.inl ⟨by rfl, ?_⟩) (by assumption) ?_
            rotate_left
            · intro w hSw
              (try dsimp only at hSw)
              go_simp
              (try with_reducible rfl)
            (try simp only [List.getElem_toArray, List.getElem_cons_succ, List.getElem_cons_zero, Act.put, List.setIfInBounds_toArray, List.set_cons_zero, List.set_cons_succ])
            refine wpAnyH_take (i := 12) (oi := _) (v := ?_) rfl (by kernel_rfl) (by kernel_rfl) (by kernel_rfl) (fun _ _ _ h => h) (Or.inl ⟨by rfl, ?_⟩) (by assumption) ?_
            rotate_left
            · intro w hSw
              (try dsimp only at hSw)
              go_simp
              (try with_reducible rfl)
            (try simp only [List.getElem_toArray, List.getElem_cons_succ, List.getElem_cons_zero, Act.put, List.setIfInBounds_toArray, List.set_cons_zero, List.set_cons_succ])
            refine wpAnyH_ready (rs := [13]) (by kernel_rfl) (by simp) ?_
            refine AllReadyH.cons rfl (fun K hK => ?_) AllReadyH.nil
            go_simp
            refine hK.out _ _ (row_range HN2.out.arg) (fun hHeld => ?_)
            clear hK K
            refine wpAnyH_done (by kernel_rfl) ?_ _
            go_wp2_with fail
            go_meet
            exact ⟨_, _, HN2.out⟩
          · refine step_bslice1 rfl 22 1 0 _ rfl (.agg (idZ zs).toArray) rfl _ (bslice22 (idZ zs) (idZ_len zs HZS.out) _) ?_
            refine hK.out _ _ (hR2 _) (fun hHeld => ?_)
            clear hK K
            refine wpAnyH_ready (rs := [4]) (by kernel_rfl) (by simp) ?_
            refine AllReadyH.cons rfl (fun K hK => ?_) AllReadyH.nil
            go_simp
            refine hK.out _ _ hHeld (fun hHeld => ?_)
            clear hK K
            refine wpAnyH_ready (rs := [10]) (by kernel_rfl) (by simp) ?_
            refine AllReadyH.cons rfl (fun K hK => ?_) AllReadyH.nil
            refine step_append_lies _ rfl (.tmp 26) (.tmp 31) 22 rfl (w.heap.size + 3) 25 i0 z0 21 21 Ybaf.underlying22 hi hz0 hz1 hz2 hzc (by decide) st j l1 (by rfl) (HNN.out.own25 HP.out _) ⟨wp.heap.size, 0, none⟩ 1 1 (idZ zs) (by rfl) (by rw [idZ_len zs HZS.out]) (cells_new wp _ rfl (idZ zs) 25) (idZ_one zs) (by decide) (by unfold maxLen; omega) (by omega) (by have := HP.out.size; have := HNN.out.room; rw [World.size_alloc]; omega) _ rfl ?_
            intro g cp w1 hown hgrow _ _
            have hN2 := HNN.out.starts HP.out hgrow hown
            have hfr1 : w1.cell? ⟨w.heap.size + 1 + 1, 26, none⟩ = some st ∧ w1.frozen? ⟨w.heap.size + 1 + 1, 26, none⟩ = false := HNN.out.spot HP.out hgrow (fun k hk => (HNN.out.rs.lt k hk).1) 26 _ rfl
            obtain ⟨hc1, hf1⟩ := hfr1
            have hR3 := HNN.out.arg1 HP.out hgrow (fun k hk => (HNN.out.rs.lt k hk).1)
            have HN2 := hide hN2
            clear hN2 hown hgrow
            refine hK.out _ _ hR3 (fun hHeld => ?_)
            clear hK K
            refine wpAnyH_take (i := 11) (oi := _) (v := ?_) rfl (by kernel_rfl) (by kernel_rfl) (by kernel_rfl) (fun _ _ _ h => h) (Or.inl ⟨by rfl, ?_⟩) (by assumption) ?_
            rotate_left
            · intro w hSw
              (try dsimp only at hSw)
              go_simp
              (try with_reducible rfl)
            (try simp only [List.getElem_toArray, List.getElem_cons_succ, List.getElem_cons_zero, Act.put, List.setIfInBounds_toArray, List.set_cons_zero, List.set_cons_succ])
            refine wpAnyH_take (i := 12) (oi := _) (v := ?_) rfl (by kernel_rfl) (by kernel_rfl) (by kernel_rfl) (fun _ _ _ h => h) (Or.inl ⟨by rfl, ?_⟩) (by assumption) ?_
            rotate_left
            · intro w hSw
              (try dsimp only at hSw)
              go_simp
              (try with_reducible rfl)
            (try simp only [List.getElem_toArray, List.getElem_cons_succ, List.getElem_cons_zero, Act.put, List.setIfInBounds_toArray, List.set_cons_zero, List.set_cons_succ])
            refine wpAnyH_ready (rs := [13]) (by kernel_rfl) (by simp) ?_
            refine AllReadyH.cons rfl (fun K hK => ?_) AllReadyH.nil
            go_simp
            refine hK.out _ _ (row_range HN2.out.arg) (fun hHeld => ?_)
            clear hK K
            refine wpAnyH_done (by kernel_rfl) ?_ _
            go_wp2_with fail
            go_meet
            exact ⟨_, _, HN2.out⟩
      case rest =>
        obtain ⟨st', l1', hnn⟩ := hcut
        clear HNN HR hst hlt
        have HNN := hide hnn
        have hlt : w.heap.size + 1 + 1 < wc.heap.size := by have := hnn.room; omega
        have hfi : wc.cell? ⟨w.heap.size + 1 + 1, 52, none⟩ = some fi := hnn.at_ 52 _ rfl
        have hfi2 : ∀ o, (wc.alloc o).cell? ⟨w.heap.size + 1 + 1, 52, none⟩ = some fi := fun o => (World.cell?_alloc_past o (w.heap.size + 1 + 1) _ hlt).trans hfi
        have HR := hide (row_range hnn.arg)
        clear hnn
        go_upto_region 6 with fail
        (try simp only [Act.put])
        refine wp_region_held_drew (S := fun wx => wx.rangeAt w.heap.size 0 (peerC x)) (by kernel_rfl) HR.out (fun hHeld => ?_)
        refine wpAnyH_take (i := 0) (oi := _) (v := ?_) rfl (by kernel_rfl) (by kernel_rfl) (by kernel_rfl) (fun _ _ _ h => h) (Or.inl ⟨by rfl, ?_⟩) (by assumption) ?_
        rotate_left
        · intro w hSw
          (try dsimp only at hSw)
          go_simp
          (try with_reducible rfl)
        (try simp only [List.getElem_toArray, List.getElem_cons_succ, List.getElem_cons_zero, Act.put, List.setIfInBounds_toArray, List.set_cons_zero, List.set_cons_succ])
        refine wpAnyH_take (i := 1) (oi := _) (v := ?_) rfl (by kernel_rfl) (by kernel_rfl) (by kernel_rfl) (fun _ _ _ h => h) (Or.inl ⟨by rfl, ?_⟩) (by assumption) ?_
        rotate_left
        · intro w hSw
          (try dsimp only at hSw)
          go_simp
          (try with_reducible rfl)
        (try simp only [List.getElem_toArray, List.getElem_cons_succ, List.getElem_cons_zero, Act.put, List.setIfInBounds_toArray, List.set_cons_zero, List.set_cons_succ])
        refine wpAnyH_take (i := 2) (oi := _) (v := ?_) rfl (by kernel_rfl) (by kernel_rfl) (by kernel_rfl) (fun _ _ _ h => h) (Or.inl ⟨by rfl, ?_⟩) (by assumption) ?_
        rotate_left
        · intro w hSw
          (try dsimp only at hSw)
          go_simp
          (try with_reducible rfl)
        (try simp only [List.getElem_toArray, List.getElem_cons_succ, List.getElem_cons_zero, Act.put, List.setIfInBounds_toArray, List.set_cons_zero, List.set_cons_succ])
        refine wpAnyH_take (i := 3) (oi := _) (v := ?_) rfl (by kernel_rfl) (by kernel_rfl) (by kernel_rfl) (fun _ _ _ h => h) (Or.inl ⟨by rfl, ?_⟩) (by assumption) ?_
        rotate_left
        · intro w hSw
          (try dsimp only at hSw)
          go_simp
          (try with_reducible rfl)
        (try simp only [List.getElem_toArray, List.getElem_cons_succ, List.getElem_cons_zero, Act.put, List.setIfInBounds_toArray, List.set_cons_zero, List.set_cons_succ])
        refine wpAnyH_take (i := 5) (oi := _) (v := .agg (peerC x).toArray) rfl (by kernel_rfl) (by kernel_rfl) (by kernel_rfl) (fun _ _ _ h => h) (yieldsIf_load_mid (by rfl) 54 _ rfl w.heap.size 0 rfl (peerC x) _ (fun w h => h) Ybaf.underlying54 rfl HI54.out) (by assumption) ?_
        (try simp only [List.getElem_toArray, List.getElem_cons_succ, List.getElem_cons_zero, Act.put, List.setIfInBounds_toArray, List.set_cons_zero, List.set_cons_succ])
        refine wpAnyH_ready (rs := [4, 6]) (by kernel_rfl) (by simp) ?_
        refine AllReadyH.cons rfl (fun K hK => ?_) (AllReadyH.cons rfl (fun K hK => ?_) AllReadyH.nil)
        · go_simp
          refine hK.out _ _ hHeld (fun hHeld => ?_)
          clear hK K
          refine wpAnyH_ready (rs := [6]) (by kernel_rfl) (by simp) ?_
          refine AllReadyH.cons rfl (fun K hK => ?_) AllReadyH.nil
          refine step_bslice1 rfl 58 1 0 _ rfl (.agg (peerC x).toArray) rfl _ (bslice58 x _) ?_
          refine hK.out _ _ (World.rangeAt_alloc HR.out _) (fun hHeld => ?_)
          clear hK K
          refine wpAnyH_ready (rs := [7]) (by kernel_rfl) (by simp) ?_
          refine AllReadyH.cons rfl (fun K hK => ?_) AllReadyH.nil
          refine step_append_lies _ rfl (.tmp 39) (.tmp 41) 58 rfl (w.heap.size + 3) 54 i4 z4 22 40 Ybaf.underlying58 hi4 hz40 hz41 hz42 hz4c (by decide) fi j l2 (by rfl) (HNN.out.own54 (Below.refl _ wc).drew _) ⟨wc.heap.size, 0, none⟩ 1 1 (peerC x) (by rfl) (by rw [peerC_len]) (cells_new wc.drew _ rfl (peerC x) 54) (peerC_one x) (by decide) (by unfold maxLen; omega) (by omega) (by have := HNN.out.room; show _ ≤ (World.alloc _ _).heap.size; rw [World.size_alloc]; show _ ≤ wc.heap.size + 1; omega) _ rfl ?_
          intro g cp w1 hown hgrow _ _
          have hN2 := HNN.out.fingers (Below.refl _ wc).drew hgrow hown
          have hfr1 : w1.cell? ⟨w.heap.size + 1 + 1, 52, none⟩ = some fi ∧ w1.frozen? ⟨w.heap.size + 1 + 1, 52, none⟩ = false := HNN.out.spot (Below.refl _ wc).drew hgrow (fun k hk => (HNN.out.rf.lt k hk).1) 52 _ rfl
          obtain ⟨hc1, hf1⟩ := hfr1
          have hR3 := HNN.out.arg1 (Below.refl _ wc).drew hgrow (fun k hk => (HNN.out.rf.lt k hk).1)
          have HN2 := hide hN2
          clear hN2 hown hgrow
          refine hK.out _ _ hR3 (fun hHeld => ?_)
          clear hK K
          refine wpAnyH_take (i := 8) (oi := _) (v := ?_) rfl (by kernel_rfl) (by kernel_rfl) (by kernel_rfl) (fun _ _ _ h => h) (Or.inl ⟨by rfl, ?_⟩) (by assumption) ?_
          rotate_left
          · intro w hSw
            (try dsimp only at hSw)
            go_simp
            (try with_reducible rfl)
          (try simp only [List.getElem_toArray, List.getElem_cons_succ, List.getElem_cons_zero, Act.put, List.setIfInBounds_toArray, List.set_cons_zero, List.set_cons_succ])
          refine wpAnyH_take (i := 9) (oi := _) (v := ?_) rfl (by kernel_rfl) (by kernel_rfl) (by kernel_rfl) (fun _ _ _ h => h) (Or.inl ⟨by rfl, ?_⟩) (by assumption) ?_
          rotate_left
          · intro w hSw
            (try dsimp only at hSw)
            go_simp
            (try with_reducible rfl)
          (try simp only [List.getElem_toArray, List.getElem_cons_succ, List.getElem_cons_zero, Act.put, List.setIfInBounds_toArray, List.set_cons_zero, List.set_cons_succ])
          refine wpAnyH_ready (rs := [10]) (by kernel_rfl) (by simp) ?_
          refine AllReadyH.cons rfl (fun K hK => ?_) AllReadyH.nil
          go_simp
          refine hK.out _ _ (row_range HN2.out.arg) (fun hHeld => ?_)
          clear hK K
          refine wpAnyH_done (by kernel_rfl) ?_ _
          clear hHeld hR3 hc1 hf1 hfi hfi2
          go_wp2
          go_roundw
          case rel => exact ⟨j + 1, _, _, _, _, by omega, by go_num, HN2.out⟩
          case measure => simp [intOf]; omega
        · refine step_bslice1 rfl 58 1 0 _ rfl (.agg (peerC x).toArray) rfl _ (bslice58 x _) ?_
          refine hK.out _ _ (World.rangeAt_alloc HR.out _) (fun hHeld => ?_)
          clear hK K
          refine wpAnyH_ready (rs := [4]) (by kernel_rfl) (by simp) ?_
          refine AllReadyH.cons rfl (fun K hK => ?_) AllReadyH.nil
          go_simp
          refine hK.out _ _ hHeld (fun hHeld => ?_)
          clear hK K
          refine wpAnyH_ready (rs := [7]) (by kernel_rfl) (by simp) ?_
          refine AllReadyH.cons rfl (fun K hK => ?_) AllReadyH.nil
          refine step_append_lies _ rfl (.tmp 39) (.tmp 41) 58 rfl (w.heap.size + 3) 54 i4 z4 22 40 Ybaf.underlying58 hi4 hz40 hz41 hz42 hz4c (by decide) fi j l2 (by rfl) (HNN.out.own54 (Below.refl _ wc).drew _) ⟨wc.heap.size, 0, none⟩ 1 1 (peerC x) (by rfl) (by rw [peerC_len]) (cells_new wc.drew _ rfl (peerC x) 54) (peerC_one x) (by decide) (by unfold maxLen; omega) (by omega) (by have := HNN.out.room; show _ ≤ (World.alloc _ _).heap.size; rw [World.size_alloc]; show _ ≤ wc.heap.size + 1; omega) _ rfl ?_
          intro g cp w1 hown hgrow _ _
          have hN2 := HNN.out.fingers (Below.refl _ wc).drew hgrow hown
          have hfr1 : w1.cell? ⟨w.heap.size + 1 + 1, 52, none⟩ = some fi ∧ w1.frozen? ⟨w.heap.size + 1 + 1, 52, none⟩ = false := HNN.out.spot (Below.refl _ wc).drew hgrow (fun k hk => (HNN.out.rf.lt k hk).1) 52 _ rfl
          obtain ⟨hc1, hf1⟩ := hfr1
          have hR3 := HNN.out.arg1 (Below.refl _ wc).drew hgrow (fun k hk => (HNN.out.rf.lt k hk).1)
          have HN2 := hide hN2
          clear hN2 hown hgrow
          refine hK.out _ _ hR3 (fun hHeld => ?_)
          clear hK K
          refine wpAnyH_take (i := 8) (oi := _) (v := ?_) rfl (by kernel_rfl) (by kernel_rfl) (by kernel_rfl) (fun _ _ _ h => h) (Or.inl ⟨by rfl, ?_⟩) (by assumption) ?_
          rotate_left
          · intro w hSw
            (try dsimp only at hSw)
            go_simp
            (try with_reducible rfl)
          (try simp only [List.getElem_toArray, List.getElem_cons_succ, List.getElem_cons_zero, Act.put, List.setIfInBounds_toArray, List.set_cons_zero, List.set_cons_succ])
          refine wpAnyH_take (i := 9) (oi := _) (v := ?_) rfl (by kernel_rfl) (by kernel_rfl) (by kernel_rfl) (fun _ _ _ h => h) (Or.inl ⟨by rfl, ?_⟩) (by assumption) ?_
          rotate_left
          · intro w hSw
            (try dsimp only at hSw)
            go_simp
            (try with_reducible rfl)
          (try simp only [List.getElem_toArray, List.getElem_cons_succ, List.getElem_cons_zero, Act.put, List.setIfInBounds_toArray, List.set_cons_zero, List.set_cons_succ])
          refine wpAnyH_ready (rs := [10]) (by kernel_rfl) (by simp) ?_
          refine AllReadyH.cons rfl (fun K hK => ?_) AllReadyH.nil
          go_simp
          refine hK.out _ _ (row_range HN2.out.arg) (fun hHeld => ?_)
          clear hK K
          refine wpAnyH_done (by kernel_rfl) ?_ _
          clear hHeld hR3 hc1 hf1 hfi hfi2
          go_wp2
          go_roundw
          case rel => exact ⟨j + 1, _, _, _, _, by omega, by go_num, HN2.out⟩
          case measure => simp [intOf]; omega
    · have : j = 8 := by omega
      subst this
      have HR := hide (row_range hnn.arg)
      have hN := hnn.node
      have hru : wr.cell? ⟨w.heap.size + 1 + 1, 53, none⟩ = some (.slice none 0 0) := hnn.at_ 53 _ rfl
      have hruf : ∀ p, wr.frozen? ⟨w.heap.size + 1 + 1, p, none⟩ = false := fun p => by simp [World.frozen?, show wr.heap[w.heap.size + 1 + 1]? = _ from hnn.node]
      have hru2 : ∀ o, (wr.alloc o).cell? ⟨w.heap.size + 1 + 1, 53, none⟩ = some (.slice none 0 0) := fun o => (World.cell?_alloc_past o (w.heap.size + 1 + 1) _ (by have := hnn.room; omega)).trans hru
      have hruf2 : ∀ o, (wr.alloc o).frozen? ⟨w.heap.size + 1 + 1, 53, none⟩ = false := fun o => (World.frozen?_of_block (Below.heap_alloc _ _ _ (by have := hnn.room; show w.heap.size + 1 + 1 < _; omega))).trans (hruf 53)
      clear hN hnn
      go_wp2_with (first
        | (refine wpList_load_mid rfl 54 _ rfl w.heap.size 0 rfl (peerC x) _ HR.out Ybaf.underlying54 rfl HI54.out ?_)
        | (refine wpList_bslice1 rfl 58 1 0 _ rfl (.agg (peerC x).toArray) rfl _ (bslice58 x _) ?_))
      go_ret
      have hroom := HNN.out.room
      refine ⟨rfl, ⟨st, fi, .slice (some ⟨wr.heap.size, 0, none⟩) 1 1, ?_⟩, ?_, ?_⟩
      · rw [setCell_row _ _ _ _ _ _ _ ((Below.heap_alloc _ _ _ (by omega)).trans HNN.out.node)]
        rfl
      · rw [setCell_other_block _ _ _ _ (by simp only; omega), Below.heap_alloc _ _ _ (by omega)]
        exact HNN.out.succ
      · exact (HNN.out.below.alloc (by omega) _).setCell (by simp only; omega) _
end Go.Proofs.YbulkkiqFmt
