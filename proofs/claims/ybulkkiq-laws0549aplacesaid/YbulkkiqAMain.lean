import Derived.Test.YbulkkiqAYield
import Derived.Laws.Concat
namespace Go.Proofs.Ybulkkiq
open Go.RowKit Go.MuLone
set_option maxRecDepth 100000
set_option linter.unusedSimpArgs false

theorem cells_new (w : World) (g : Nat) (hg : g = w.heap.size) (cs : List Value) (t : TypeId) : ∀ j u, cs[j]? = some u → (w.alloc (.cells cs.toArray t)).cell? ((⟨g, 0, none⟩ : Addr).add j) = some u := by
  subst hg
  intro j u hj
  have hadd : (⟨w.heap.size, 0, none⟩ : Addr).add j = ⟨w.heap.size, j, none⟩ := by unfold Addr.add; split <;> simp_all
  rw [hadd, World.cell?_alloc_new]
  simpa using hj
theorem range_new (w : World) (cs : List Value) (t : TypeId) : (w.alloc (.cells cs.toArray t)).rangeAt w.heap.size 0 cs := row_range (heap_alloc_last w _)

set_option maxHeartbeats 6400000 in
theorem aplace_any (m1 m2 : Mem) (ao : Option Addr) (bs os n c k : Nat) (M : Nat → Mem) (w : World) (hn : n ≤ 1024) (hk : k ≤ 1024) (hnone : ao = none → n = 0 ∧ c = 0) (hao : 0 < n → ao = some ⟨bs, os, none⟩ ∧ bs < w.heap.size)
    (hM : ∀ i, i < n → w.rangeAt bs (os + i * 22) (M i).cells) (haddr : 0 < n → (M 0).addr.size ≤ 4611686018427387904) :
    Calls Yba.prog 3 #[.agg m1.cells.toArray, .agg m2.cells.toArray, .slice ao n c, .int .u16 k] w fun e w' => e = .returned (.bool true) ∧ Below w.heap.size w w' := by
  have HNONE := hidA hnone
  have HAO := hidA hao
  have HM := hidA hM
  have HADDR := hidA haddr
  have t1 : ¬ (1024 : Int) < (n : Int) := by omega
  have t2 : ¬ (1024 : Int) < (k : Int) := by omega
  have e1 := neqNil25
  have e2 := neqNil25_nil
  clear hnone hao hM haddr
  go_enter Yba.func3, Yba.ntmps3
  go_upto_if 26 with fail
  obtain ⟨W2, hW2⟩ : ∃ W2, W2 = (w.alloc (.cells m1.cells.toArray 24)).alloc (.cells m2.cells.toArray 24) := ⟨_, rfl⟩
  have hz2 : W2.heap.size = w.heap.size + 2 := by rw [hW2]; simp
  have HB2 := hidA (show Below w.heap.size w W2 by rw [hW2]; exact ((Below.refl _ _).alloc (Nat.le_refl _) _).alloc (by simp) _)
  have HR4 := hidA (show W2.rangeAt w.heap.size 0 m1.cells by rw [hW2]; exact World.rangeAt_alloc (range_new w m1.cells 24) _)
  have HR5 := hidA (show W2.rangeAt (w.heap.size + 1) 0 m2.cells by
    rw [hW2]
    have := range_new (w.alloc (.cells m1.cells.toArray 24)) m2.cells 24
    rw [World.size_alloc] at this
    exact this)
  rw [← hW2]
  clear hW2
  go_cut [9] (fun s wc => ∃ sa scap, s = .slice sa n scap ∧ SuccR wc (w.heap.size + 2) n scap M sa ∧ Below (w.heap.size + 2) W2 wc)
  case first =>
    cases ao with
    | none =>
      obtain ⟨rfl, rfl⟩ := HNONE.out rfl
      go_wp2
      go_meet
      exact ⟨none, 0, rfl, .inl ⟨rfl, rfl, rfl⟩, Below.refl _ _⟩
    | some ad =>
      obtain ⟨i0, z, hi, hz, hs, hb, hzs⟩ := zero31
      have E1 := hidA e1
      go_upto_region 6 with (at_make; refine wpList_make_own _ rfl _ _ 27 rfl (w.heap.size + 2) 31 i0 _ 22 Yba.underlying27 hi hz hs .i64 .i64 _ n rfl rfl rfl (by rw [hb]; omega) (by unfold maxLen; omega) (by omega) ?_; intro w1 hown1 hgrow1)
      rw [hz2] at hown1
      have hb1 : Below (w.heap.size + 2) W2 w1 := (Below.refl _ _).grown hgrow1 (by omega) (fun j hj => by cases hj)
      have HB1 := hidA hb1
      have HOWN1 := hidA hown1
      have hs1 := (hown1.lt (w.heap.size + 2) rfl).2
      clear e1 e2 hb1 hown1 hgrow1
      go_wp2
      go_loopw [9, 32] (fun s i wr => ∃ j : Nat, j ≤ n ∧ i = .int .i64 j ∧ s = .slice (some ⟨w.heap.size + 2, 0, none⟩) j n ∧ wr.ownsRow (w.heap.size + 2) 31 22 (.slice (some ⟨w.heap.size + 2, 0, none⟩) j n) j (rowM M j) ∧ Below (w.heap.size + 2) W2 wr ∧ w.heap.size + 2 < wr.heap.size) (fun _ i _ => n - (RowKit.intOf i).toNat)
      case atStart => exact ⟨0, Nat.zero_le _, rfl, rfl, HOWN1.out, HB1.out, hs1⟩
      case round =>
        obtain ⟨j, hj, rfl, rfl, hown, hnx, hsz⟩ := hrel
        by_cases hlt : j < n
        · have t3 : (j : Int) < (n : Int) := by omega
          obtain ⟨ead, hbs⟩ := HAO.out (by omega)
          cases ead
          have hbw : Below w.heap.size w wr := HB2.out.trans (hnx.mono (by omega))
          have HRJ := hidA (range_of_below (HM.out j hlt) hbw hbs)
          obtain ⟨mj, hmj⟩ : ∃ mj, mj = M j := ⟨_, rfl⟩
          rw [← hmj] at HRJ
          have HI24 := hidA (show (Yba.prog.info? 24).map (·.size) = some mj.cells.length by rw [infoA24, mj.cells_len])
          have HNEWR := hidA (range_new wr mj.cells 24)
          have HOWN := hidA hown
          have HNX := hidA hnx
          have HMJ := hidA hmj
          clear hown hnx hmj hbw
          go_upto_region 10 with (first
            | (refine wpList_load_mid rfl 24 _ rfl bs (os + j * 22) rfl mj.cells _ HRJ.out Yba.underlying24 rfl HI24.out ?_)
            | (refine wpList_store_new rfl 24 _ _ rfl 24 _ _ _ (by simp) rfl rfl (by rw [List.size_toArray]; exact HI24.out) (by simp [mj.cells_len]) mj.oneA ?_)
            | (refine wpList_load_mid rfl 24 _ rfl wr.heap.size 0 rfl mj.cells _ HNEWR.out Yba.underlying24 rfl HI24.out ?_)
            | (go_at_call 6; refine (mj.peer _).mono ?_; rintro e wp ⟨rfl, hp⟩)
            | (refine wpList_bslice1 rfl 27 1 0 _ rfl (.agg mj.cells.toArray) rfl _ (bslice27 mj.cells mj.cells_len _) ?_)
            | (at_builtin; have HO2 := (((HOWN.out.alloc (.cells mj.cells.toArray 24)).kept (show World.grownBy _ wp none from ⟨hp.os, hp.tape, hp.output, hp.size, fun k hk _ => hp.block k hk⟩) (by simp [Value.ownBlock]))).alloc (.cells mj.cells.toArray 31); have HC2 := cells_new wp wp.heap.size rfl mj.cells 31; refine wpList_append_fits _ rfl _ _ 27 rfl (w.heap.size + 2) 31 i0 22 Yba.underlying27 hi hs (w.heap.size + 2) j n _ rfl HO2 ⟨wp.heap.size, 0, none⟩ 1 1 mj.cells rfl (by rw [mj.cells_len]) HC2 mj.one (by omega) ?_; intro w3 hown3 hgrow3))
          have hzr : (wr.alloc (.cells mj.cells.toArray 24)).heap.size = wr.heap.size + 1 := by simp
          have hzp := hp.size
          rw [hzr] at hzp
          have bA : Below (w.heap.size + 2) W2 wp := (HNX.out.alloc (by have := HNX.out.size; omega) (.cells mj.cells.toArray 24)).trans (hp.mono (by rw [hzr]; omega))
          have bB : Below (w.heap.size + 2) W2 w3 := (bA.alloc (by omega) (.cells mj.cells.toArray 31)).grown hgrow3 (by rw [World.size_alloc]; omega) (fun k hk => by cases hk; exact Nat.le_refl _)
          have hs3 : w.heap.size + 2 < w3.heap.size := by have := hgrow3.size; rw [World.size_alloc] at this; omega
          have e3 : rowM M (j + 1) = rowM M j ++ mj.cells := by rw [rowM, HMJ.out]
          rw [← e3] at hown3
          have HOWN3 := hidA hown3
          have HBB := hidA bB
          clear hown3 bA bB hgrow3 hp HO2 HC2 e3
          go_wp2
          go_roundw
          case rel => exact ⟨j + 1, by omega, by go_num, rfl, HOWN3.out, HBB.out, hs3⟩
          case measure => simp [RowKit.intOf]; omega
        · have : j = n := by omega
          subst this
          have HOWN := hidA hown
          have HNX := hidA hnx
          clear hown hnx
          go_wp2
          go_meet
          exact ⟨_, _, rfl, .inr ⟨w.heap.size + 2, rfl, Nat.le_refl _, hsz, fun p u hu => by
            have hp : p < (rowM M j).length := (List.getElem?_eq_some_iff.1 hu).1
            rw [rowM_len] at hp
            rw [HOWN.out.cellAt p hp]
            exact hu⟩, HNX.out⟩
  case rest =>
    obtain ⟨sa, scap, rfl, hS, hbc⟩ := hcut
    have HS := hidA hS
    have HBC := hidA hbc
    have hzc : w.heap.size + 2 ≤ wc.heap.size := by have := hbc.size; omega
    have hmm := makeMap33
    clear hS hbc e1 e2
    go_wp2
    go_loopw [13] (fun i wr => ∃ (j : Nat) (D : DataW Value), j ≤ k ∧ i = .int .i64 j ∧ Keys wr wc.heap.size j D ∧ Below wc.heap.size wc wr ∧ wc.heap.size < wr.heap.size) (fun i _ => k - (RowKit.intOf i).toNat)
    case atStart => exact ⟨0, _, Nat.zero_le _, rfl, Keys.made wc, (Below.refl _ _).alloc (Nat.le_refl _) _, by simp⟩
    case round =>
      obtain ⟨j, D, hj, rfl, hkeys, hnx, hsz⟩ := hrel
      by_cases hlt : j < k
      · have t3 : (j : Int) < (k : Int) := by omega
        have HKEYS := hidA hkeys
        have HNX := hidA hnx
        clear hkeys hnx hmm
        go_wp2_with (first
          | (go_at_call 7; refine (key_any j _ (by omega)).mono ?_; rintro e wk ⟨rfl, hwk⟩)
          | (refine wpList_put_key rfl _ _ _ rfl wc.heap.size j D rfl rfl (HKEYS.out.of_block (hwk.block _ hsz)) (by omega) ?_; intro w2 D2 hk2 hg2))
        have hs2 : wc.heap.size < w2.heap.size := by have h1 := hg2.size; have h2 := hwk.size; omega
        have b2 : Below wc.heap.size wc w2 := (HNX.out.trans (hwk.mono HNX.out.size)).grown hg2 (by have := HNX.out.size; have := hwk.size; omega) (fun k hk => by cases hk; exact Nat.le_refl _)
        have HK2 := hidA hk2
        have HBB := hidA b2
        clear hk2 b2 hg2 hwk
        go_wp2
        go_roundw
        case rel => exact ⟨j + 1, D2, by omega, by go_num, HK2.out, HBB.out, hs2⟩
        case measure => simp [RowKit.intOf]; omega
      · have : j = k := by omega
        subst this
        have HKEYS := hidA hkeys
        have HNX := hidA hnx
        clear hkeys hnx hmm
        go_upto_region 17 with fail
        obtain ⟨Wh, hWh⟩ : ∃ Wh, Wh = wr.alloc (.cells (hostC wc.heap.size).toArray 57) := ⟨_, rfl⟩
        have HBWr := hidA (show Below (w.heap.size + 2) W2 wr from HBC.out.trans (HNX.out.mono hzc))
        have hzh : Wh.heap.size = wr.heap.size + 1 := by rw [hWh]; simp
        have hbh : Below wr.heap.size wr Wh := by rw [hWh]; exact (Below.refl _ _).alloc (Nat.le_refl _) _
        have HBH := hidA hbh
        have HHOST := hidA (show Wh.heap[wr.heap.size]? = some (.cells (hostC wc.heap.size).toArray 57 (0, 0)) by rw [hWh]; exact heap_alloc_last wr _)
        have eWh : (wr.alloc (.cells #[.string ⟨#[]⟩, .slice none 0 0, .int .i64 0, .nilIface, .int .i64 0, .int .i32 0, .int .u32 0, .int .u32 0, .chan none, .int .i32 0, .int .u32 0, .map (some wc.heap.size), .int .u64 0] 57)) = Wh := hWh.symm
        rw [eWh]
        clear hWh eWh hbh
        have hzr0 : w.heap.size + 2 ≤ wr.heap.size := by have := HBWr.out.size; omega
        have HBWh := hidA (show Below (w.heap.size + 2) W2 Wh from HBWr.out.trans (HBH.out.mono hzr0))
        have HKEEP := hidA (fun (wx : World) (b : Below (w.heap.size + 2) W2 wx) => (show wx.rangeAt w.heap.size 0 m1.cells ∧ wx.rangeAt (w.heap.size + 1) 0 m2.cells from ⟨range_of_below HR4.out b (by omega), range_of_below HR5.out b (by omega)⟩))
        have HI1 := hidA (show (Yba.prog.info? 24).map (·.size) = some m1.cells.length by rw [infoA24, m1.cells_len])
        have HI2 := hidA (show (Yba.prog.info? 24).map (·.size) = some m2.cells.length by rw [infoA24, m2.cells_len])
        have HB61 := hidA (build61 m1.cells m2.cells m1.cells_len m2.cells_len sa n scap wr.heap.size)
        refine wp_region_held_drew (S := fun wx => wx.rangeAt w.heap.size 0 m1.cells ∧ wx.rangeAt (w.heap.size + 1) 0 m2.cells) (by kernel_rfl) ?_ (fun hHeld => ?_)
        · exact HKEEP.out _ HBWh.out.drew
        refine wpAnyH_take (i := 0) (oi := _) (v := .agg (m1.cells).toArray) rfl (by kernel_rfl) (by kernel_rfl) (by kernel_rfl) (fun _ _ _ h => h) (yieldsIf_load_mid (by rfl) 24 _ rfl w.heap.size 0 rfl (m1.cells) _ (fun w h => h.1) Yba.underlying24 rfl HI1.out) (by assumption) ?_
        (try simp only [List.getElem_toArray, List.getElem_cons_succ, List.getElem_cons_zero, Act.put, List.setIfInBounds_toArray, List.set_cons_zero, List.set_cons_succ])
        refine wpAnyH_take (i := 2) (oi := _) (v := .agg (m2.cells).toArray) rfl (by kernel_rfl) (by kernel_rfl) (by kernel_rfl) (fun _ _ _ h => h) (yieldsIf_load_mid (by rfl) 24 _ rfl (w.heap.size + 1) 0 rfl (m2.cells) _ (fun w h => h.2) Yba.underlying24 rfl HI2.out) (by assumption) ?_
        (try simp only [List.getElem_toArray, List.getElem_cons_succ, List.getElem_cons_zero, Act.put, List.setIfInBounds_toArray, List.set_cons_zero, List.set_cons_succ])
        refine wpAnyH_take (i := 4) (oi := _) (v := ?_) rfl (by kernel_rfl) (by kernel_rfl) (by kernel_rfl) (fun _ _ _ h => h) (Or.inl ⟨by rfl, ?_⟩) (by assumption) ?_
        rotate_left
        · intro w hSw
          (try dsimp only at hSw)
          go_simp
          (try with_reducible rfl)
        (try simp only [List.getElem_toArray, List.getElem_cons_succ, List.getElem_cons_zero, Act.put, List.setIfInBounds_toArray, List.set_cons_zero, List.set_cons_succ])
        refine wpAnyH_take (i := 5) (oi := _) (v := ?_) rfl (by kernel_rfl) (by kernel_rfl) (by kernel_rfl) (fun _ _ _ h => h) (Or.inl ⟨by rfl, ?_⟩) (by assumption) ?_
        rotate_left
        · intro w hSw
          (try dsimp only at hSw)
          go_simp
          (try with_reducible rfl)
        (try simp only [List.getElem_toArray, List.getElem_cons_succ, List.getElem_cons_zero, Act.put, List.setIfInBounds_toArray, List.set_cons_zero, List.set_cons_succ])
        refine wpAnyH_ready (rs := [1]) (by kernel_rfl) (by simp) ?_
        refine AllReadyH.cons rfl (fun K hK => ?_) AllReadyH.nil
        go_simp
        go_wp2_with (go_at_call 6; refine (m1.peer _).mono ?_; rintro e wp ⟨rfl, hp⟩)
        have bp : Below Wh.heap.size Wh wp := ((Below.refl _ Wh).drew).trans hp
        refine hK.out _ _ (HKEEP.out _ (HBWh.out.trans (bp.mono (by omega)))) (fun hHeld => ?_)
        clear hK K
        refine wpAnyH_ready (rs := [3]) (by kernel_rfl) (by simp) ?_
        refine AllReadyH.cons rfl (fun K hK => ?_) AllReadyH.nil
        go_simp
        go_wp2_with (go_at_call 6; refine (m2.peer _).mono ?_; rintro e wq ⟨rfl, hq⟩)
        have bq : Below Wh.heap.size Wh wq := bp.trans (hq.mono bp.size)
        refine hK.out _ _ (HKEEP.out _ (HBWh.out.trans (bq.mono (by omega)))) (fun hHeld => ?_)
        clear hK K
        refine wpAnyH_take (i := 6) (oi := _) (v := .agg (nodeC m1.cells m2.cells sa n scap wr.heap.size).toArray) rfl (by kernel_rfl) (by kernel_rfl) (by kernel_rfl) (fun _ _ _ h => h) (yieldsIf_built5 (by rfl) 61 0 6 7 2 10 (.tmp 59) (.tmp 61) (.tmp 62) (.tmp 63) (.const (.int .u64 7)) (by rfl) (.agg m1.cells.toArray) (.agg m2.cells.toArray) (.slice sa n scap) (.pointer (some ⟨wr.heap.size, 0, none⟩)) (.int .u64 7) (by rfl) (by rfl) (by rfl) (by rfl) (by rfl) (.agg (nodeC m1.cells m2.cells sa n scap wr.heap.size).toArray) HB61.out) (by assumption) ?_
        (try simp only [List.getElem_toArray, List.getElem_cons_succ, List.getElem_cons_zero, Act.put, List.setIfInBounds_toArray, List.set_cons_zero, List.set_cons_succ])
        refine wpAnyH_ready (rs := [7]) (by kernel_rfl) (by simp) ?_
        refine AllReadyH.cons rfl (fun K hK => ?_) AllReadyH.nil
        go_simp
        refine hK.out _ _ (HKEEP.out _ (HBWh.out.trans ((bq.mono (by omega)).alloc (by have := bq.size; omega) _))) (fun hHeld => ?_)
        clear hK K
        refine wpAnyH_take (i := 8) (oi := _) (v := ?_) rfl (by kernel_rfl) (by kernel_rfl) (by kernel_rfl) (fun _ _ _ h => h) (Or.inl ⟨by rfl, ?_⟩) (by assumption) ?_
        rotate_left
        · intro w hSw
          (try dsimp only at hSw)
          go_simp
          (try with_reducible rfl)
        (try simp only [List.getElem_toArray, List.getElem_cons_succ, List.getElem_cons_zero, Act.put, List.setIfInBounds_toArray, List.set_cons_zero, List.set_cons_succ])
        refine wpAnyH_done (by kernel_rfl) ?_ _
        have hzq : wr.heap.size < wq.heap.size := by have := bq.size; omega
        obtain ⟨wN, hwN⟩ : ∃ wN, wN = wq.alloc (.cells (nodeC m1.cells m2.cells sa n scap wr.heap.size).toArray 61) := ⟨_, rfl⟩
        have HN := hidA (show wN.heap[wq.heap.size]? = some (.cells (nodeC m1.cells m2.cells sa n scap wr.heap.size).toArray 61 (0, 0)) by rw [hwN]; exact heap_alloc_last wq _)
        have bN : Below Wh.heap.size Wh wN := by rw [hwN]; exact bq.alloc bq.size _
        have hzN : wN.heap.size = wq.heap.size + 1 := by rw [hwN]; simp
        rw [← hwN]
        clear hwN
        have HH := hidA (show wN.heap[wr.heap.size]? = some (.cells (hostC wc.heap.size).toArray 57 (0, 0)) from (bN.block _ (by omega)).trans HHOST.out)
        have HKN := hidA (HKEYS.out.of_block (w' := wN) ((bN.block _ (by omega)).trans (HBH.out.block _ (by omega))))
        have HSN := hidA (HS.out.kept (w' := wN) (by have := HNX.out.size; omega) (fun q hq => (bN.block q (by omega)).trans ((HBH.out.block q (by omega)).trans (HNX.out.block q hq))))
        have HBN := hidA (show Below (w.heap.size + 2) W2 wN from HBWh.out.trans (bN.mono (by omega)))
        have hst := stands_of HN.out HH.out m1.cells_len m2.cells_len hsz hzq
        have HPL := hidA (place8 wq.heap.size wr.heap.size wc.heap.size m1.cells m2.cells sa n scap (rowM M n) j wN hst m1.cells_len m2.cells_len m1.one m2.one (node_mid (row_range HN.out) m1.cells_len 5 (by omega) _ rfl) (by simp [World.frozen?, HN.out]) (by omega)
          (fun wx hx => (HKN.out.of_block hx).len)
          (fun wx hx hs => clone_R (SuccR.kept_but HSN.out hs (fun q hq hne => hx q hq hne) (HS.out.lt_of (by omega))) hn))
        clear hst bN hHeld bp bq hp hq
        go_upto_region 19 with (first
          | (go_at_call 8; refine HPL.out.mono ?_; rintro e wP ⟨⟨a', c', rfl, hC⟩, hP⟩)
          | (refine wpList_store_new rfl 64 _ _ rfl 64 _ _ _ (by simp) rfl rfl (by rw [List.size_toArray, stC_len _ _ _ _ m1.cells_len m2.cells_len]; exact infoA64) (by simp [stC_len _ _ _ _ m1.cells_len m2.cells_len]) (stC_one _ _ _ _ m1.one m2.one rfl) ?_))
        have hzP : wN.heap.size ≤ wP.heap.size := hP.size
        obtain ⟨wS, hwS⟩ : ∃ wS, wS = wP.alloc (.cells (stC m1.cells m2.cells (.slice a' n c') j).toArray 64) := ⟨_, rfl⟩
        have HST := hidA (show wS.heap[wP.heap.size]? = some (.cells (stC m1.cells m2.cells (.slice a' n c') j).toArray 64 (0, 0)) by rw [hwS]; exact heap_alloc_last wP _)
        have bS : Below wN.heap.size wN wS := by rw [hwS]; exact hP.alloc hzP _
        have hCS : CloneR wS (wN.heap.size + 1) 0 n (rowM M n) a' := by rw [hwS]; exact hC.kept (fun q h1 h2 h3 => ⟨Below.heap_alloc wP _ q h3, h1, h2⟩) (by simp)
        have hcg : ∀ g, 0 < n → a' = some ⟨g, 0, none⟩ → g ≠ wP.heap.size := fun g h0 hg => by
          obtain ⟨g', h1, _, _, h4, _⟩ := hC h0
          rw [hg] at h1
          cases h1
          omega
        have hzS : wS.heap.size = wP.heap.size + 1 := by rw [hwS]; simp
        rw [← hwS]
        clear hwS
        have HCG := hidA hcg
        have HCS := hidA hCS
        have HNs := hidA ((bS.block _ (by omega)).trans HN.out)
        have HHs := hidA ((bS.block _ (by omega)).trans HH.out)
        have HSs := hidA (HSN.out.kept (w' := wS) bS.size (fun q hq => bS.block q hq))
        have HBs := hidA (show Below (w.heap.size + 2) W2 wS from HBN.out.trans (bS.mono (by omega)))
        have HI3 := hidA (show (Yba.prog.info? 31).map (·.size) = some m1.cells.length by rw [infoA31, m1.cells_len])
        have HI4 := hidA (show (Yba.prog.info? 31).map (·.size) = some m2.cells.length by rw [infoA31, m2.cells_len])
        have HKEEP2 := hidA (fun (wx : World) (b : Below wS.heap.size wS wx) => (show (wx.rangeAt wP.heap.size 0 m1.cells ∧ wx.rangeAt wP.heap.size 22 m2.cells) ∧ wx.rangeAt w.heap.size 0 m1.cells ∧ wx.rangeAt (w.heap.size + 1) 0 m2.cells from
          ⟨⟨range_of_below (st_self (row_range HST.out)) b (by omega), range_of_below (st_pred (row_range HST.out) m1.cells_len) b (by omega)⟩, HKEEP.out wx (HBs.out.trans (b.mono (by omega)))⟩))
        clear hC hP bS hcg hCS
        (try simp only [Act.put])
        go_cut [79] (fun v wx => v = .bool false ∧ Below wS.heap.size wS wx)
        case first =>
          refine wp_region_held_drew (S := fun wx => (wx.rangeAt wP.heap.size 0 m1.cells ∧ wx.rangeAt wP.heap.size 22 m2.cells) ∧ wx.rangeAt w.heap.size 0 m1.cells ∧ wx.rangeAt (w.heap.size + 1) 0 m2.cells) (by kernel_rfl) ?_ (fun hHeld => ?_)
          · exact HKEEP2.out _ (Below.refl _ _).drew
          refine wpAnyH_take (i := 0) (oi := _) (v := ?_) rfl (by kernel_rfl) (by kernel_rfl) (by kernel_rfl) (fun _ _ _ h => h) (Or.inl ⟨by rfl, ?_⟩) (by assumption) ?_
          rotate_left
          · intro w hSw
            (try dsimp only at hSw)
            go_simp
            (try with_reducible rfl)
          (try simp only [List.getElem_toArray, List.getElem_cons_succ, List.getElem_cons_zero, Act.put, List.setIfInBounds_toArray, List.set_cons_zero, List.set_cons_succ])
          refine wpAnyH_take (i := 1) (oi := _) (v := .agg (m1.cells).toArray) rfl (by kernel_rfl) (by kernel_rfl) (by kernel_rfl) (fun _ _ _ h => h) (yieldsIf_load_mid (by rfl) 31 _ rfl wP.heap.size 0 rfl (m1.cells) _ (fun w h => h.1.1) Yba.underlying31 rfl HI3.out) (by assumption) ?_
          (try simp only [List.getElem_toArray, List.getElem_cons_succ, List.getElem_cons_zero, Act.put, List.setIfInBounds_toArray, List.set_cons_zero, List.set_cons_succ])
          refine wpAnyH_take (i := 2) (oi := _) (v := .agg (m1.cells).toArray) rfl (by kernel_rfl) (by kernel_rfl) (by kernel_rfl) (fun _ _ _ h => h) (yieldsIf_load_mid (by rfl) 24 _ rfl w.heap.size 0 rfl (m1.cells) _ (fun w h => h.2.1) Yba.underlying24 rfl HI1.out) (by assumption) ?_
          (try simp only [List.getElem_toArray, List.getElem_cons_succ, List.getElem_cons_zero, Act.put, List.setIfInBounds_toArray, List.set_cons_zero, List.set_cons_succ])
          refine wpAnyH_ready (rs := [3]) (by kernel_rfl) (by simp) ?_
          refine AllReadyH.cons rfl (fun K hK => ?_) AllReadyH.nil
          go_simp
          go_wp2_with (go_at_call 6; refine (m1.peer _).mono ?_; rintro e wp1 ⟨rfl, hp1⟩)
          have bp1 : Below wS.heap.size wS wp1 := ((Below.refl _ wS).drew).trans hp1
          refine hK.out _ _ (HKEEP2.out _ bp1) (fun hHeld => ?_)
          clear hK K
          refine wpAnyH_take (i := 4) (oi := _) (v := .bool false) rfl (by kernel_rfl) (by kernel_rfl) (by kernel_rfl) (fun _ _ _ h => h) (yieldsIf_neq m1 (by rfl) (.tmp 69) (.tmp 71) (by rfl) (by rfl) (by rfl)) (by assumption) ?_
          (try simp only [List.getElem_toArray, List.getElem_cons_succ, List.getElem_cons_zero, Act.put, List.setIfInBounds_toArray, List.set_cons_zero, List.set_cons_succ])
          refine wpAnyH_take (i := 5) (oi := _) (v := ?_) rfl (by kernel_rfl) (by kernel_rfl) (by kernel_rfl) (fun _ _ _ h => h) (Or.inl ⟨by rfl, ?_⟩) (by assumption) ?_
          rotate_left
          · intro w hSw
            (try dsimp only at hSw)
            go_simp
            (try with_reducible rfl)
          (try simp only [List.getElem_toArray, List.getElem_cons_succ, List.getElem_cons_zero, Act.put, List.setIfInBounds_toArray, List.set_cons_zero, List.set_cons_succ])
          refine wpAnyH_take (i := 6) (oi := _) (v := ?_) rfl (by kernel_rfl) (by kernel_rfl) (by kernel_rfl) (fun _ _ _ h => h) (Or.inl ⟨by rfl, ?_⟩) (by assumption) ?_
          rotate_left
          · intro w hSw
            (try dsimp only at hSw)
            go_simp
            (try with_reducible rfl)
          (try simp only [List.getElem_toArray, List.getElem_cons_succ, List.getElem_cons_zero, Act.put, List.setIfInBounds_toArray, List.set_cons_zero, List.set_cons_succ])
          refine wpAnyH_take (i := 7) (oi := _) (v := .agg (m2.cells).toArray) rfl (by kernel_rfl) (by kernel_rfl) (by kernel_rfl) (fun _ _ _ h => h) (yieldsIf_load_mid (by rfl) 31 _ rfl wP.heap.size 22 rfl (m2.cells) _ (fun w h => h.1.2) Yba.underlying31 rfl HI4.out) (by assumption) ?_
          (try simp only [List.getElem_toArray, List.getElem_cons_succ, List.getElem_cons_zero, Act.put, List.setIfInBounds_toArray, List.set_cons_zero, List.set_cons_succ])
          refine wpAnyH_take (i := 8) (oi := _) (v := .agg (m2.cells).toArray) rfl (by kernel_rfl) (by kernel_rfl) (by kernel_rfl) (fun _ _ _ h => h) (yieldsIf_load_mid (by rfl) 24 _ rfl (w.heap.size + 1) 0 rfl (m2.cells) _ (fun w h => h.2.2) Yba.underlying24 rfl HI2.out) (by assumption) ?_
          (try simp only [List.getElem_toArray, List.getElem_cons_succ, List.getElem_cons_zero, Act.put, List.setIfInBounds_toArray, List.set_cons_zero, List.set_cons_succ])
          refine wpAnyH_ready (rs := [9]) (by kernel_rfl) (by simp) ?_
          refine AllReadyH.cons rfl (fun K hK => ?_) AllReadyH.nil
          go_simp
          go_wp2_with (go_at_call 6; refine (m2.peer _).mono ?_; rintro e wp2 ⟨rfl, hp2⟩)
          have bp2 : Below wS.heap.size wS wp2 := bp1.trans (hp2.mono bp1.size)
          refine hK.out _ _ (HKEEP2.out _ bp2) (fun hHeld => ?_)
          clear hK K
          refine wpAnyH_take (i := 10) (oi := _) (v := .bool false) rfl (by kernel_rfl) (by kernel_rfl) (by kernel_rfl) (fun _ _ _ h => h) (yieldsIf_neq m2 (by rfl) (.tmp 75) (.tmp 77) (by rfl) (by rfl) (by rfl)) (by assumption) ?_
          (try simp only [List.getElem_toArray, List.getElem_cons_succ, List.getElem_cons_zero, Act.put, List.setIfInBounds_toArray, List.set_cons_zero, List.set_cons_succ])
          refine wpAnyH_take (i := 11) (oi := _) (v := ?_) rfl (by kernel_rfl) (by kernel_rfl) (by kernel_rfl) (fun _ _ _ h => h) (Or.inl ⟨by rfl, ?_⟩) (by assumption) ?_
          rotate_left
          · intro w hSw
            (try dsimp only at hSw)
            go_simp
            (try with_reducible rfl)
          (try simp only [List.getElem_toArray, List.getElem_cons_succ, List.getElem_cons_zero, Act.put, List.setIfInBounds_toArray, List.set_cons_zero, List.set_cons_succ])
          refine wpAnyH_done (by kernel_rfl) ?_ _
          go_wp2
          go_meet
          exact ⟨rfl, bp2⟩
        case rest =>
          obtain ⟨rfl, bX⟩ := hcut
          have hc44 := (bX.cell (p := ⟨wP.heap.size, 44, none⟩) (by simp only; omega)).trans (st_end (row_range HST.out) m1.cells_len m2.cells_len 0 _ rfl)
          have hc45 := (bX.cell (p := ⟨wP.heap.size, 45, none⟩) (by simp only; omega)).trans (st_end (row_range HST.out) m1.cells_len m2.cells_len 1 _ rfl)
          have hc46 := (bX.cell (p := ⟨wP.heap.size, 46, none⟩) (by simp only; omega)).trans (st_end (row_range HST.out) m1.cells_len m2.cells_len 2 _ rfl)
          have e62 := neqNil62
          obtain ⟨wrH, hwrH⟩ : ∃ wrH, wrH = wr.heap.size := ⟨_, rfl⟩
          rw [← hwrH] at HNs HHs ⊢
          have hlH : wrH < wq.heap.size := by omega
          clear hwrH
          have HBX := hidA bX
          clear bX
          go_wp2
          go_loopw [98] (fun i wr => ∃ q : Nat, q ≤ n ∧ i = .int .i64 q ∧ Below wS.heap.size wS wr) (fun i _ => n - (RowKit.intOf i).toNat)
          case atStart => exact ⟨0, Nat.zero_le _, rfl, HBX.out⟩
          case round =>
            obtain ⟨q, hq, rfl, hnx⟩ := hrel
            clear hc44 hc45 hc46
            have hs44 : ∀ wx, Below wS.heap.size wS wx → wx.cell? ⟨wP.heap.size, 44, none⟩ = some (.slice a' n c') := fun wx b => (b.cell (p := ⟨wP.heap.size, 44, none⟩) (by simp only; omega)).trans (st_end (row_range HST.out) m1.cells_len m2.cells_len 0 _ rfl)
            have HS44 := hidA hs44
            clear hs44
            by_cases hlt : q < n
            · have t3 : (q : Int) < (n : Int) := by omega
              obtain ⟨gc, rfl, hg1, hg2, hg3, hg4, hg5⟩ := HCS.out (by omega)
              obtain ⟨rfl, hbs⟩ := HAO.out (by omega)
              have hrS : wS.rangeAt gc (q * 22) (M q).cells := fun p v hv => hg4 (q * 22 + p) v (by rw [rowM_get M n q p hlt (by have := (List.getElem?_eq_some_iff.1 hv).1; rw [(M q).cells_len] at this; exact this)]; exact hv)
              have hrA : wS.rangeAt bs (os + q * 22) (M q).cells := range_of_below (range_of_below (HM.out q hlt) HB2.out hbs) (HBs.out.mono (by omega)) hbs
              obtain ⟨mq, hmq⟩ : ∃ mq, mq = M q := ⟨_, rfl⟩
              rw [← hmq] at hrS hrA
              have HKQ := hidA (fun (wx : World) (b : Below wS.heap.size wS wx) => (show wx.cell? ⟨wP.heap.size, 44, none⟩ = some (.slice (some ⟨gc, 0, none⟩) n c') ∧ wx.rangeAt gc (q * 22) mq.cells ∧ wx.rangeAt bs (os + q * 22) mq.cells from
                ⟨HS44.out wx b, range_of_below hrS b hg3, range_of_below hrA b (by have := HB2.out.size; have := HBs.out.size; omega)⟩))
              have HIQ1 := hidA (show (Yba.prog.info? 31).map (·.size) = some mq.cells.length by rw [infoA31, mq.cells_len])
              have HIQ2 := hidA (show (Yba.prog.info? 24).map (·.size) = some mq.cells.length by rw [infoA24, mq.cells_len])
              have HNX := hidA hnx
              clear hnx hrS hrA hmq hg4 hg5
              go_upto_region 28 with fail
              refine wp_region_held_drew (S := fun wx => wx.cell? ⟨wP.heap.size, 44, none⟩ = some (.slice (some ⟨gc, 0, none⟩) n c') ∧ wx.rangeAt gc (q * 22) mq.cells ∧ wx.rangeAt bs (os + q * 22) mq.cells) (by kernel_rfl) ?_ (fun hHeld => ?_)
              · exact HKQ.out _ HNX.out.drew
              refine wpAnyH_take (i := 0) (oi := _) (v := ?_) rfl (by kernel_rfl) (by kernel_rfl) (by kernel_rfl) (fun _ _ _ h => h) (Or.inl ⟨by rfl, ?_⟩) (by assumption) ?_
              rotate_left
              · intro w hSw
                (try dsimp only at hSw)
                go_simp
                (try with_reducible rfl)
              (try simp only [List.getElem_toArray, List.getElem_cons_succ, List.getElem_cons_zero, Act.put, List.setIfInBounds_toArray, List.set_cons_zero, List.set_cons_succ])
              refine wpAnyH_take (i := 1) (oi := _) (v := ?_) rfl (by kernel_rfl) (by kernel_rfl) (by kernel_rfl) (fun _ _ _ h => h) (Or.inl ⟨by rfl, ?_⟩) (by assumption) ?_
              rotate_left
              · intro w hSw
                (try dsimp only at hSw)
                go_simp
                (try with_reducible rfl)
              (try simp only [List.getElem_toArray, List.getElem_cons_succ, List.getElem_cons_zero, Act.put, List.setIfInBounds_toArray, List.set_cons_zero, List.set_cons_succ])
              refine wpAnyH_take (i := 2) (oi := _) (v := ?_) rfl (by kernel_rfl) (by kernel_rfl) (by kernel_rfl) (fun _ _ _ h => h) (Or.inl ⟨by rfl, ?_⟩) (by assumption) ?_
              rotate_left
              · intro w hSw
                (try dsimp only at hSw)
                go_simp
                (try with_reducible rfl)
              (try simp only [List.getElem_toArray, List.getElem_cons_succ, List.getElem_cons_zero, Act.put, List.setIfInBounds_toArray, List.set_cons_zero, List.set_cons_succ])
              refine wpAnyH_take (i := 3) (oi := _) (v := ?_) rfl (by kernel_rfl) (by kernel_rfl) (by kernel_rfl) (fun _ _ _ h => h) (Or.inl ⟨by rfl, ?_⟩) (by assumption) ?_
              rotate_left
              · intro w hSw
                (try dsimp only at hSw)
                go_simp
                (try with_reducible rfl)
              (try simp only [List.getElem_toArray, List.getElem_cons_succ, List.getElem_cons_zero, Act.put, List.setIfInBounds_toArray, List.set_cons_zero, List.set_cons_succ])
              refine wpAnyH_take (i := 4) (oi := _) (v := .agg (mq.cells).toArray) rfl (by kernel_rfl) (by kernel_rfl) (by kernel_rfl) (fun _ _ _ h => h) (yieldsIf_load_mid (by rfl) 31 _ rfl gc (q * 22) rfl (mq.cells) _ (fun w h => h.2.1) Yba.underlying31 rfl HIQ1.out) (by assumption) ?_
              (try simp only [List.getElem_toArray, List.getElem_cons_succ, List.getElem_cons_zero, Act.put, List.setIfInBounds_toArray, List.set_cons_zero, List.set_cons_succ])
              refine wpAnyH_take (i := 5) (oi := _) (v := ?_) rfl (by kernel_rfl) (by kernel_rfl) (by kernel_rfl) (fun _ _ _ h => h) (Or.inl ⟨by rfl, ?_⟩) (by assumption) ?_
              rotate_left
              · intro w hSw
                (try dsimp only at hSw)
                go_simp
                (try with_reducible rfl)
              (try simp only [List.getElem_toArray, List.getElem_cons_succ, List.getElem_cons_zero, Act.put, List.setIfInBounds_toArray, List.set_cons_zero, List.set_cons_succ])
              refine wpAnyH_take (i := 6) (oi := _) (v := ?_) rfl (by kernel_rfl) (by kernel_rfl) (by kernel_rfl) (fun _ _ _ h => h) (Or.inl ⟨by rfl, ?_⟩) (by assumption) ?_
              rotate_left
              · intro w hSw
                (try dsimp only at hSw)
                go_simp
                (try with_reducible rfl)
              (try simp only [List.getElem_toArray, List.getElem_cons_succ, List.getElem_cons_zero, Act.put, List.setIfInBounds_toArray, List.set_cons_zero, List.set_cons_succ])
              refine wpAnyH_take (i := 7) (oi := _) (v := ?_) rfl (by kernel_rfl) (by kernel_rfl) (by kernel_rfl) (fun _ _ _ h => h) (Or.inl ⟨by rfl, ?_⟩) (by assumption) ?_
              rotate_left
              · intro w hSw
                (try dsimp only at hSw)
                go_simp
                (try with_reducible rfl)
              (try simp only [List.getElem_toArray, List.getElem_cons_succ, List.getElem_cons_zero, Act.put, List.setIfInBounds_toArray, List.set_cons_zero, List.set_cons_succ])
              refine wpAnyH_take (i := 8) (oi := _) (v := .agg (mq.cells).toArray) rfl (by kernel_rfl) (by kernel_rfl) (by kernel_rfl) (fun _ _ _ h => h) (yieldsIf_load_mid (by rfl) 24 _ rfl bs (os + q * 22) rfl (mq.cells) _ (fun w h => h.2.2) Yba.underlying24 rfl HIQ2.out) (by assumption) ?_
              (try simp only [List.getElem_toArray, List.getElem_cons_succ, List.getElem_cons_zero, Act.put, List.setIfInBounds_toArray, List.set_cons_zero, List.set_cons_succ])
              refine wpAnyH_ready (rs := [9]) (by kernel_rfl) (by simp) ?_
              refine AllReadyH.cons rfl (fun K hK => ?_) AllReadyH.nil
              go_simp
              go_wp2_with (go_at_call 6; refine (mq.peer _).mono ?_; rintro e wp1 ⟨rfl, hp1⟩)
              have bp1 : Below wS.heap.size wS wp1 := HNX.out.drew.trans (hp1.mono HNX.out.size)
              refine hK.out _ _ (HKQ.out _ bp1) (fun hHeld => ?_)
              clear hK K
              refine wpAnyH_take (i := 10) (oi := _) (v := .bool false) rfl (by kernel_rfl) (by kernel_rfl) (by kernel_rfl) (fun _ _ _ h => h) (yieldsIf_neq mq (by rfl) (.tmp 105) (.tmp 110) (by rfl) (by rfl) (by rfl)) (by assumption) ?_
              (try simp only [List.getElem_toArray, List.getElem_cons_succ, List.getElem_cons_zero, Act.put, List.setIfInBounds_toArray, List.set_cons_zero, List.set_cons_succ])
              refine wpAnyH_done (by kernel_rfl) ?_ _
              have HBP1 := hidA bp1
              clear bp1 hp1 hHeld
              go_wp2
              go_roundw
              case rel => exact ⟨q + 1, by omega, by go_num, HBP1.out⟩
              case measure => simp [RowKit.intOf]; omega
            · have : q = n := by omega
              subst this
              have HNX := hidA hnx
              clear hnx
              have hNr := (HNX.out.block _ (by omega)).trans HNs.out
              have hHr := (HNX.out.block _ (by omega)).trans HHs.out
              have hmu := node_mid (row_range hNr) m1.cells_len 5 (by omega) _ rfl
              have hmf : wr.frozen? ⟨wq.heap.size, 27, none⟩ = false := by simp [World.frozen?, hNr]
              have hkv : wr.cell? ⟨wrH, 9, none⟩ = some (.int .i32 0) := row_range hHr 9 _ rfl
              have hkf : wr.frozen? ⟨wrH, 9, none⟩ = false := by simp [World.frozen?, hHr]
              have h51 := node_end (row_range hNr) m1.cells_len m2.cells_len 0 (by omega) _ rfl
              have h54 := node_end (row_range hNr) m1.cells_len m2.cells_len 3 (by omega) _ rfl
              have h44 := HS44.out wr HNX.out
              have HT1 := hidA (try_free wq.heap.size 27 wr hmu hmf)
              have HU1 := hidA (unlock_held Yba.muLib ⟨wq.heap.size, 27, none⟩ (wr.setCell ⟨wq.heap.size, 27, none⟩ (.int .i32 1)) (World.cell?_setCell_same _ _ _ hmu) (by simpa using hmf))
              have HT2 := hidA (try_free wrH 9 wr hkv hkf)
              have HU2 := hidA (unlock_held Yba.muLib ⟨wrH, 9, none⟩ (wr.setCell ⟨wrH, 9, none⟩ (.int .i32 1)) (World.cell?_setCell_same _ _ _ hkv) (by simpa using hkf))
              have HE1 := hidA (setCell_back wr wq.heap.size 27 (.int .i32 1) _ hmu)
              have HE2 := hidA (setCell_back wr wrH 9 (.int .i32 1) _ hkv)
              have HNR := hidA hNr
              clear hNr hHr hmu hmf hkv hkf
              go_upto_region 34 with (first
                | (go_at_call 9; refine HT1.out.mono ?_; rintro e w' ⟨rfl, rfl⟩)
                | (go_at_call 10; refine HU1.out.mono ?_; rintro e w' ⟨rfl, rfl⟩))
              rw [HE1.out]
              go_upto_region 37 with (first
                | (go_at_call 9; refine HT2.out.mono ?_; rintro e w' ⟨rfl, rfl⟩)
                | (go_at_call 10; refine HU2.out.mono ?_; rintro e w' ⟨rfl, rfl⟩))
              rw [HE2.out]
              by_cases h0 : 0 < q
              · have t4 : (0 : Int) < (q : Int) := by omega
                go_upto_region 40 with fail
                obtain ⟨gc, rfl, hg1, hg2, hg3, hg4, hg5⟩ := HCS.out h0
                have hgne := HCG.out gc h0 rfl
                obtain ⟨rfl, hbs⟩ := HAO.out h0
                have hltN : ∀ g, sa = some ⟨g, 0, none⟩ → g < wN.heap.size := fun g hg => by
                  rcases HSN.out with ⟨h, _⟩ | ⟨g', h1, _, h3, _⟩
                  · rw [hg] at h; cases h
                  · rw [hg] at h1; cases h1; exact h3
                rcases HSs.out with ⟨_, h, _⟩ | ⟨gs, rfl, hs1, hs2, hs3⟩
                · omega
                have hgs := hltN gs rfl
                clear hltN
                obtain ⟨m0, hm0⟩ : ∃ m0, m0 = M 0 := ⟨_, rfl⟩
                have hr0 : ∀ p v, m0.cells[p]? = some v → (rowM M q)[p]? = some v := fun p v hv => by
                  have hp := (List.getElem?_eq_some_iff.1 hv).1
                  rw [m0.cells_len] at hp
                  have := rowM_get M q 0 p h0 hp
                  rw [Nat.zero_mul, Nat.zero_add] at this
                  rw [this, ← hm0]
                  exact hv
                have h21 : m0.cells[21]? = some (.string m0.addr) := pcells_21 _ _ _ m0.len
                have hgs0 : wS.rangeAt gs 0 m0.cells := fun p v hv => by rw [Nat.zero_add]; exact hs3 p v (hr0 p v hv)
                have hgsA : wS.cell? ⟨gs, 21, none⟩ = some (.string m0.addr) := hs3 21 _ (hr0 21 _ h21)
                have hgcA : wS.cell? ⟨gc, 21, none⟩ = some (.string m0.addr) := hg4 21 _ (hr0 21 _ h21)
                have hsz0 := HADDR.out h0
                rw [← hm0] at hsz0
                have hrA : wS.rangeAt bs os m0.cells := by
                  have := HM.out 0 h0
                  rw [Nat.zero_mul, Nat.add_zero, ← hm0] at this
                  exact range_of_below (range_of_below this HB2.out hbs) (HBs.out.mono (by omega)) hbs
                have hnb51 : wS.cell? ⟨wq.heap.size, 51, none⟩ = some (.slice (some ⟨gs, 0, none⟩) q scap) := node_end (row_range HNs.out) m1.cells_len m2.cells_len 0 (by omega) _ rfl
                have hgcw : wr.cell? ⟨gc, 21, none⟩ = some (.string m0.addr) := (HNX.out.cell (p := ⟨gc, 21, none⟩) hg3).trans hgcA
                have hgcf : wr.frozen? ⟨gc, 21, none⟩ = false := (HNX.out.frozen (p := ⟨gc, 21, none⟩) hg3).trans (hg5 21)
                have hgsw : wr.cell? ⟨gs, 21, none⟩ = some (.string m0.addr) := (HNX.out.cell (p := ⟨gs, 21, none⟩) hs2).trans hgsA
                have HK41 := hidA (fun (wx : World) (b : Below gc wS wx) => (show wx.cell? ⟨wq.heap.size, 51, none⟩ = some (.slice (some ⟨gs, 0, none⟩) q scap) ∧ wx.rangeAt gs 0 m0.cells ∧ wx.rangeAt bs os m0.cells from
                  ⟨(b.cell (p := ⟨wq.heap.size, 51, none⟩) (by simp only; omega)).trans hnb51, range_of_below hgs0 b (by omega), range_of_below hrA b (by have := HB2.out.size; omega)⟩))
                have HIQ1 := hidA (show (Yba.prog.info? 31).map (·.size) = some m0.cells.length by rw [infoA31, m0.cells_len])
                have HIQ2 := hidA (show (Yba.prog.info? 24).map (·.size) = some m0.cells.length by rw [infoA24, m0.cells_len])
                have hcat : ∀ wx : World, (Op.stringOp .add m0.addr ⟨#[120]⟩).run Yba.prog wx = .ok (.string (m0.addr ++ ⟨#[120]⟩)) wx := fun wx => run_string_add_sum wx m0.addr ⟨#[120]⟩ (by have e : (⟨#[120]⟩ : ByteArray).size = 1 := rfl; rw [e]; omega)
                clear hg4 hg5 hs3 hgs0 hgsA hgcA hrA hm0 hr0 h21 hsz0
                refine wp_region_held_drew (S := fun wx => wx.cell? ⟨wP.heap.size, 44, none⟩ = some (.slice (some ⟨gc, 0, none⟩) q c') ∧ wx.cell? ⟨wq.heap.size, 51, none⟩ = some (.slice (some ⟨gs, 0, none⟩) q scap) ∧ wx.cell? ⟨gs, 21, none⟩ = some (.string m0.addr)) (by kernel_rfl) ?_ (fun hHeld => ?_)
                · exact ⟨h44, h51, hgsw⟩
                refine wpAnyH_take (i := 0) (oi := _) (v := ?_) rfl (by kernel_rfl) (by kernel_rfl) (by kernel_rfl) (fun _ _ _ h => h) (Or.inl ⟨by rfl, ?_⟩) (by assumption) ?_
                rotate_left
                · intro w hSw
                  (try dsimp only at hSw)
                  go_simp
                  (try with_reducible rfl)
                (try simp only [List.getElem_toArray, List.getElem_cons_succ, List.getElem_cons_zero, Act.put, List.setIfInBounds_toArray, List.set_cons_zero, List.set_cons_succ])
                refine wpAnyH_take (i := 1) (oi := _) (v := ?_) rfl (by kernel_rfl) (by kernel_rfl) (by kernel_rfl) (fun _ _ _ h => h) (Or.inl ⟨by rfl, ?_⟩) (by assumption) ?_
                rotate_left
                · intro w hSw
                  (try dsimp only at hSw)
                  go_simp
                  (try with_reducible rfl)
                (try simp only [List.getElem_toArray, List.getElem_cons_succ, List.getElem_cons_zero, Act.put, List.setIfInBounds_toArray, List.set_cons_zero, List.set_cons_succ])
                refine wpAnyH_take (i := 2) (oi := _) (v := ?_) rfl (by kernel_rfl) (by kernel_rfl) (by kernel_rfl) (fun _ _ _ h => h) (Or.inl ⟨by rfl, ?_⟩) (by assumption) ?_
                rotate_left
                · intro w hSw
                  (try dsimp only at hSw)
                  go_simp
                  (try with_reducible rfl)
                (try simp only [List.getElem_toArray, List.getElem_cons_succ, List.getElem_cons_zero, Act.put, List.setIfInBounds_toArray, List.set_cons_zero, List.set_cons_succ])
                refine wpAnyH_take (i := 3) (oi := _) (v := ?_) rfl (by kernel_rfl) (by kernel_rfl) (by kernel_rfl) (fun _ _ _ h => h) (Or.inl ⟨by rfl, ?_⟩) (by assumption) ?_
                rotate_left
                · intro w hSw
                  (try dsimp only at hSw)
                  go_simp
                  (try with_reducible rfl)
                (try simp only [List.getElem_toArray, List.getElem_cons_succ, List.getElem_cons_zero, Act.put, List.setIfInBounds_toArray, List.set_cons_zero, List.set_cons_succ])
                refine wpAnyH_take (i := 4) (oi := _) (v := ?_) rfl (by kernel_rfl) (by kernel_rfl) (by kernel_rfl) (fun _ _ _ h => h) (Or.inl ⟨by rfl, ?_⟩) (by assumption) ?_
                rotate_left
                · intro w hSw
                  (try dsimp only at hSw)
                  go_simp
                  (try with_reducible rfl)
                (try simp only [List.getElem_toArray, List.getElem_cons_succ, List.getElem_cons_zero, Act.put, List.setIfInBounds_toArray, List.set_cons_zero, List.set_cons_succ])
                refine wpAnyH_take (i := 5) (oi := _) (v := ?_) rfl (by kernel_rfl) (by kernel_rfl) (by kernel_rfl) (fun _ _ _ h => h) (Or.inl ⟨by rfl, ?_⟩) (by assumption) ?_
                rotate_left
                · intro w hSw
                  (try dsimp only at hSw)
                  go_simp
                  (try with_reducible rfl)
                (try simp only [List.getElem_toArray, List.getElem_cons_succ, List.getElem_cons_zero, Act.put, List.setIfInBounds_toArray, List.set_cons_zero, List.set_cons_succ])
                refine wpAnyH_take (i := 6) (oi := _) (v := ?_) rfl (by kernel_rfl) (by kernel_rfl) (by kernel_rfl) (fun _ _ _ h => h) (Or.inl ⟨by rfl, ?_⟩) (by assumption) ?_
                rotate_left
                · intro w hSw
                  (try dsimp only at hSw)
                  go_simp
                  (try with_reducible rfl)
                (try simp only [List.getElem_toArray, List.getElem_cons_succ, List.getElem_cons_zero, Act.put, List.setIfInBounds_toArray, List.set_cons_zero, List.set_cons_succ])
                refine wpAnyH_take (i := 7) (oi := _) (v := ?_) rfl (by kernel_rfl) (by kernel_rfl) (by kernel_rfl) (fun _ _ _ h => h) (Or.inl ⟨by rfl, ?_⟩) (by assumption) ?_
                rotate_left
                · intro w hSw
                  (try dsimp only at hSw)
                  go_simp
                  (try with_reducible rfl)
                (try simp only [List.getElem_toArray, List.getElem_cons_succ, List.getElem_cons_zero, Act.put, List.setIfInBounds_toArray, List.set_cons_zero, List.set_cons_succ])
                refine wpAnyH_take (i := 8) (oi := _) (v := ?_) rfl (by kernel_rfl) (by kernel_rfl) (by kernel_rfl) (fun _ _ _ h => h) (Or.inl ⟨by rfl, ?_⟩) (by assumption) ?_
                rotate_left
                · intro w hSw
                  (try dsimp only at hSw)
                  go_simp
                  (try with_reducible rfl)
                (try simp only [List.getElem_toArray, List.getElem_cons_succ, List.getElem_cons_zero, Act.put, List.setIfInBounds_toArray, List.set_cons_zero, List.set_cons_succ])
                refine wpAnyH_take (i := 9) (oi := _) (v := ?_) rfl (by kernel_rfl) (by kernel_rfl) (by kernel_rfl) (fun _ _ _ h => h) (Or.inl ⟨by rfl, ?_⟩) (by assumption) ?_
                rotate_left
                · intro w hSw
                  (try dsimp only at hSw)
                  go_simp
                  (try with_reducible rfl)
                (try simp only [List.getElem_toArray, List.getElem_cons_succ, List.getElem_cons_zero, Act.put, List.setIfInBounds_toArray, List.set_cons_zero, List.set_cons_succ])
                refine wpAnyH_take (i := 10) (oi := _) (v := ?_) rfl (by kernel_rfl) (by kernel_rfl) (by kernel_rfl) (fun _ _ _ h => h) (Or.inl ⟨by rfl, ?_⟩) (by assumption) ?_
                rotate_left
                · intro w hSw
                  (try dsimp only at hSw)
                  go_simp
                  (try with_reducible rfl)
                (try simp only [List.getElem_toArray, List.getElem_cons_succ, List.getElem_cons_zero, Act.put, List.setIfInBounds_toArray, List.set_cons_zero, List.set_cons_succ])
                refine wpAnyH_take (i := 11) (oi := _) (v := ?_) rfl (by kernel_rfl) (by kernel_rfl) (by kernel_rfl) (fun _ _ _ h => h) (Or.inl ⟨by rfl, ?_⟩) (by assumption) ?_
                rotate_left
                · intro w hSw
                  (try dsimp only at hSw)
                  go_simp
                  (try with_reducible rfl)
                (try simp only [List.getElem_toArray, List.getElem_cons_succ, List.getElem_cons_zero, Act.put, List.setIfInBounds_toArray, List.set_cons_zero, List.set_cons_succ])
                refine wpAnyH_ready (rs := [12]) (by kernel_rfl) (by simp) ?_
                refine AllReadyH.cons rfl (fun K hK => ?_) AllReadyH.nil
                go_simp
                have bZ : Below gc wS (wr.setCell ⟨gc, 21, none⟩ (.string (m0.addr ++ ⟨#[120]⟩))).drew := ⟨HNX.out.os, HNX.out.tape, HNX.out.output, by show _ ≤ (wr.setCell _ _).heap.size; rw [World.size_setCell]; exact HNX.out.size, fun p hp => (setCell_other_block wr ⟨gc, 21, none⟩ _ p (by simp only; omega)).trans (HNX.out.block p (by omega))⟩
                refine hK.out _ _ ⟨?_, ?_, ?_⟩ (fun hHeld => ?_)
                · show (wr.setCell _ _).cell? _ = _
                  rw [World.cell?_setCell_far _ _ _ _ (by simp only; omega)]
                  exact h44
                · show (wr.setCell _ _).cell? _ = _
                  rw [World.cell?_setCell_far _ _ _ _ (by simp only; omega)]
                  exact h51
                · show (wr.setCell _ _).cell? _ = _
                  rw [World.cell?_setCell_far _ _ _ _ (by simp only; omega)]
                  exact hgsw
                clear hK K
                refine wpAnyH_done (by kernel_rfl) ?_ _
                obtain ⟨wZ, hwZ⟩ : ∃ wZ, wZ = (wr.setCell ⟨gc, 21, none⟩ (.string (m0.addr ++ ⟨#[120]⟩))).drew := ⟨_, rfl⟩
                rw [← hwZ] at bZ ⊢
                clear hwZ hHeld h44 h51 hgsw hgcw hgcf hcat
                have HBZ := hidA bZ
                clear bZ
                go_upto_region 41 with fail
                refine wp_region_held_drew (S := fun wx => wx.cell? ⟨wq.heap.size, 51, none⟩ = some (.slice (some ⟨gs, 0, none⟩) q scap) ∧ wx.rangeAt gs 0 m0.cells ∧ wx.rangeAt bs os m0.cells) (by kernel_rfl) ?_ (fun hHeld => ?_)
                · exact HK41.out _ HBZ.out.drew
                refine wpAnyH_take (i := 0) (oi := _) (v := ?_) rfl (by kernel_rfl) (by kernel_rfl) (by kernel_rfl) (fun _ _ _ h => h) (Or.inl ⟨by rfl, ?_⟩) (by assumption) ?_
                rotate_left
                · intro w hSw
                  (try dsimp only at hSw)
                  go_simp
                  (try with_reducible rfl)
                (try simp only [List.getElem_toArray, List.getElem_cons_succ, List.getElem_cons_zero, Act.put, List.setIfInBounds_toArray, List.set_cons_zero, List.set_cons_succ])
                refine wpAnyH_take (i := 1) (oi := _) (v := ?_) rfl (by kernel_rfl) (by kernel_rfl) (by kernel_rfl) (fun _ _ _ h => h) (Or.inl ⟨by rfl, ?_⟩) (by assumption) ?_
                rotate_left
                · intro w hSw
                  (try dsimp only at hSw)
                  go_simp
                  (try with_reducible rfl)
                (try simp only [List.getElem_toArray, List.getElem_cons_succ, List.getElem_cons_zero, Act.put, List.setIfInBounds_toArray, List.set_cons_zero, List.set_cons_succ])
                refine wpAnyH_take (i := 2) (oi := _) (v := ?_) rfl (by kernel_rfl) (by kernel_rfl) (by kernel_rfl) (fun _ _ _ h => h) (Or.inl ⟨by rfl, ?_⟩) (by assumption) ?_
                rotate_left
                · intro w hSw
                  (try dsimp only at hSw)
                  go_simp
                  (try with_reducible rfl)
                (try simp only [List.getElem_toArray, List.getElem_cons_succ, List.getElem_cons_zero, Act.put, List.setIfInBounds_toArray, List.set_cons_zero, List.set_cons_succ])
                refine wpAnyH_take (i := 3) (oi := _) (v := ?_) rfl (by kernel_rfl) (by kernel_rfl) (by kernel_rfl) (fun _ _ _ h => h) (Or.inl ⟨by rfl, ?_⟩) (by assumption) ?_
                rotate_left
                · intro w hSw
                  (try dsimp only at hSw)
                  go_simp
                  (try with_reducible rfl)
                (try simp only [List.getElem_toArray, List.getElem_cons_succ, List.getElem_cons_zero, Act.put, List.setIfInBounds_toArray, List.set_cons_zero, List.set_cons_succ])
                refine wpAnyH_take (i := 4) (oi := _) (v := ?_) rfl (by kernel_rfl) (by kernel_rfl) (by kernel_rfl) (fun _ _ _ h => h) (Or.inl ⟨by rfl, ?_⟩) (by assumption) ?_
                rotate_left
                · intro w hSw
                  (try dsimp only at hSw)
                  go_simp
                  (try with_reducible rfl)
                (try simp only [List.getElem_toArray, List.getElem_cons_succ, List.getElem_cons_zero, Act.put, List.setIfInBounds_toArray, List.set_cons_zero, List.set_cons_succ])
                refine wpAnyH_take (i := 5) (oi := _) (v := .agg (m0.cells).toArray) rfl (by kernel_rfl) (by kernel_rfl) (by kernel_rfl) (fun _ _ _ h => h) (yieldsIf_load_mid (by rfl) 31 _ rfl gs 0 rfl (m0.cells) _ (fun w h => h.2.1) Yba.underlying31 rfl HIQ1.out) (by assumption) ?_
                (try simp only [List.getElem_toArray, List.getElem_cons_succ, List.getElem_cons_zero, Act.put, List.setIfInBounds_toArray, List.set_cons_zero, List.set_cons_succ])
                refine wpAnyH_take (i := 6) (oi := _) (v := ?_) rfl (by kernel_rfl) (by kernel_rfl) (by kernel_rfl) (fun _ _ _ h => h) (Or.inl ⟨by rfl, ?_⟩) (by assumption) ?_
                rotate_left
                · intro w hSw
                  (try dsimp only at hSw)
                  go_simp
                  (try with_reducible rfl)
                (try simp only [List.getElem_toArray, List.getElem_cons_succ, List.getElem_cons_zero, Act.put, List.setIfInBounds_toArray, List.set_cons_zero, List.set_cons_succ])
                refine wpAnyH_take (i := 7) (oi := _) (v := ?_) rfl (by kernel_rfl) (by kernel_rfl) (by kernel_rfl) (fun _ _ _ h => h) (Or.inl ⟨by rfl, ?_⟩) (by assumption) ?_
                rotate_left
                · intro w hSw
                  (try dsimp only at hSw)
                  go_simp
                  (try with_reducible rfl)
                (try simp only [List.getElem_toArray, List.getElem_cons_succ, List.getElem_cons_zero, Act.put, List.setIfInBounds_toArray, List.set_cons_zero, List.set_cons_succ])
                refine wpAnyH_take (i := 8) (oi := _) (v := .agg (m0.cells).toArray) rfl (by kernel_rfl) (by kernel_rfl) (by kernel_rfl) (fun _ _ _ h => h) (yieldsIf_load_mid (by rfl) 24 _ rfl bs os rfl (m0.cells) _ (fun w h => h.2.2) Yba.underlying24 rfl HIQ2.out) (by assumption) ?_
                (try simp only [List.getElem_toArray, List.getElem_cons_succ, List.getElem_cons_zero, Act.put, List.setIfInBounds_toArray, List.set_cons_zero, List.set_cons_succ])
                refine wpAnyH_ready (rs := [9]) (by kernel_rfl) (by simp) ?_
                refine AllReadyH.cons rfl (fun K hK => ?_) AllReadyH.nil
                go_simp
                go_wp2_with (go_at_call 6; refine (m0.peer _).mono ?_; rintro e wp1 ⟨rfl, hp1⟩)
                have hgz : gc ≤ wZ.heap.size := by have := HBZ.out.size; omega
                have bp1 : Below gc wS wp1 := HBZ.out.drew.trans (hp1.mono hgz)
                refine hK.out _ _ (HK41.out _ bp1) (fun hHeld => ?_)
                clear hK K
                refine wpAnyH_take (i := 10) (oi := _) (v := .bool false) rfl (by kernel_rfl) (by kernel_rfl) (by kernel_rfl) (fun _ _ _ h => h) (yieldsIf_neq m0 (by rfl) (.tmp 167) (.tmp 171) (by rfl) (by rfl) (by rfl)) (by assumption) ?_
                (try simp only [List.getElem_toArray, List.getElem_cons_succ, List.getElem_cons_zero, Act.put, List.setIfInBounds_toArray, List.set_cons_zero, List.set_cons_succ])
                refine wpAnyH_done (by kernel_rfl) ?_ _
                have HBP1 := hidA bp1
                clear bp1 hp1 hHeld
                go_wp2
                go_ret
                exact ⟨rfl, HB2.out.trans ((HBs.out.mono (by omega)).trans (HBP1.out.mono (by have := HB2.out.size; omega)))⟩
              · have t4 : ¬ (0 : Int) < (q : Int) := by omega
                go_wp2
                go_ret
                exact ⟨rfl, HB2.out.trans ((HBs.out.mono (by omega)).trans (HNX.out.mono (by have := HBs.out.size; omega)))⟩

end Go.Proofs.Ybulkkiq
