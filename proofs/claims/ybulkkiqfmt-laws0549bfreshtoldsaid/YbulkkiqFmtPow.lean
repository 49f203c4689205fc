-- MINE
import Derived.Test.YbulkkiqFmtKit
namespace Go.Proofs.YbulkkiqFmt
open Go.RowKit Go.MuLone
open Go.Extern.Stop (cell)
set_option maxRecDepth 100000
set_option linter.unusedSimpArgs false

set_option maxHeartbeats 1600000 in
theorem bits7 (x : UInt8) (w : World) :
    Calls Ybaf.prog 7 #[.agg (idC x).toArray] w fun e w' => e = .returned (.int .i64 8) ∧ w' = w.alloc (.cells (idC x).toArray 25) := by
  simp only [idC, bytesL, List.map_cons, List.map_nil, List.cons_append, List.nil_append]
  go_enter Ybaf.func7, Ybaf.ntmps7
  go_wp2
  go_ret
  exact ⟨rfl, rfl⟩

/-- An ID's cells, whatever its bytes. -/
def idZ (zs : List Int) : List Value := zs.map (Value.int .u8) ++ [.int .u8 8]
theorem idZ_len (zs : List Int) (h : zs.length = 20) : (idZ zs).length = 21 := by simp [idZ, h]
theorem idZ_one (zs : List Int) : ∀ u ∈ idZ zs, u.oneCell' = true := by
  intro u hu
  simp [idZ] at hu
  rcases hu with ⟨a, _, rfl⟩ | rfl <;> rfl
theorem idC_idZ (x : UInt8) : idC x = idZ ((bytesL x).map fun b => Int.ofNat b.toNat) := rfl

/-- What stands in memory while plusPow2 runs. -/
structure PW (w wr : World) (cs : List Value) (zs : List Int) : Prop where
  arg : wr.heap[w.heap.size]? = some (.cells cs.toArray 25 (0, 0))
  res : ∃ r : Array Value, r.size = 21 ∧ wr.heap[w.heap.size + 1]? = some (.cells r 25 (0, 0))
  sum : wr.heap[w.heap.size + 2]? = some (.cells (idZ zs).toArray 25 (0, 0))
  below : Below w.heap.size w wr

theorem PW.at_ {w wr : World} {cs : List Value} {zs : List Int} (h : PW w wr cs zs) (m : Nat) (hm : m < zs.length) : wr.cell? ⟨w.heap.size + 2, m, none⟩ = some (.int .u8 (zs.getD m 0)) := by
  rw [World.cell?]
  simp only [h.sum]
  simp [idZ, List.getElem?_append_left, hm]
theorem PW.free {w wr : World} {cs : List Value} {zs : List Int} (h : PW w wr cs zs) (m : Nat) : wr.frozen? ⟨w.heap.size + 2, m, none⟩ = false := by
  simp [World.frozen?, h.sum]
theorem PW.set {w wr : World} {cs : List Value} {zs : List Int} (h : PW w wr cs zs) (m : Nat) (hm : m < zs.length) (v : Int) : PW w (wr.setCell ⟨w.heap.size + 2, m, none⟩ (.int .u8 v)) cs (zs.set m v) where
  arg := by rw [setCell_other_block _ _ _ _ (by simp only; omega)]; exact h.arg
  res := by
    obtain ⟨r, hr, e⟩ := h.res
    exact ⟨r, hr, by rw [setCell_other_block _ _ _ _ (by simp only; omega)]; exact e⟩
  sum := by
    rw [setCell_row _ _ _ _ _ _ _ h.sum]
    congr 2
    rw [List.setIfInBounds_toArray, idZ, List.set_append_left _ _ (by simpa using hm), idZ, List.map_set]
  below := h.below.setCell (by simp only; omega) _

theorem PW.drew {w wr : World} {cs : List Value} {zs : List Int} (h : PW w wr cs zs) : PW w wr.drew cs zs := ⟨h.arg, h.res, h.sum, h.below.drew⟩

set_option maxHeartbeats 6400000 in
theorem pow14 (zs0 : List Int) (hz0 : zs0.length = 20) (k : Nat) (w : World) (hk : k < 8) :
    Calls Ybaf.prog 14 #[.agg (idZ zs0).toArray, .int .i64 k] w fun e w' => (∃ zs : List Int, zs.length = 20 ∧ e = .returned (.agg (idZ zs).toArray)) ∧ Below w.heap.size w w' := by
  obtain ⟨cs, hcs⟩ : ∃ cs, cs = idZ zs0 := ⟨_, rfl⟩
  have hl : cs.length = 21 := by rw [hcs, idZ_len zs0 hz0]
  have h1 : ∀ u ∈ cs, u.oneCell' = true := by rw [hcs]; exact idZ_one zs0
  rw [← hcs]
  have HI := hide (show (Ybaf.prog.info? 25).map (·.size) = some cs.length by rw [info25, hl])
  have HR := hide (World.rangeAt_alloc (range_new w cs 25) (.cells #[.int .u8 0, .int .u8 0, .int .u8 0, .int .u8 0, .int .u8 0, .int .u8 0, .int .u8 0, .int .u8 0, .int .u8 0, .int .u8 0, .int .u8 0, .int .u8 0, .int .u8 0, .int .u8 0, .int .u8 0, .int .u8 0, .int .u8 0, .int .u8 0, .int .u8 0, .int .u8 0, .int .u8 0] 25))
  have HO := hide (all_oneCell_toArray h1)
  have HL := hide hl
  have HCS := hide hcs
  have HZ := hide hz0
  clear hl h1 hcs hz0
  go_enter Ybaf.func14, Ybaf.ntmps14
  go_upto_region 2 with (first
    | (refine wpList_load_mid rfl 25 _ rfl w.heap.size 0 rfl cs _ HR.out Ybaf.underlying25 rfl HI.out ?_)
    | (refine wpList_store_new rfl 25 _ _ rfl 25 _ _ _ (by simp) rfl rfl (by rw [List.size_toArray]; exact HI.out) (by simp [HL.out]) HO.out ?_))
  generalize hW3 : World.alloc (World.alloc (World.alloc w _) _) _ = W3
  have HPW : Hid (PW w W3 cs zs0) := by
    rw [← hW3]
    refine ⟨?_, ⟨#[.int .u8 0, .int .u8 0, .int .u8 0, .int .u8 0, .int .u8 0, .int .u8 0, .int .u8 0, .int .u8 0, .int .u8 0, .int .u8 0, .int .u8 0, .int .u8 0, .int .u8 0, .int .u8 0, .int .u8 0, .int .u8 0, .int .u8 0, .int .u8 0, .int .u8 0, .int .u8 0, .int .u8 0], rfl, ?_⟩, ?_, ?_⟩
    · rw [Below.heap_alloc _ _ _ (by simp; omega), Below.heap_alloc _ _ _ (by simp)]
      exact heap_alloc_new w _
    · rw [Below.heap_alloc _ _ _ (by simp)]
      have := heap_alloc_new (w.alloc (.cells cs.toArray 25)) (.cells #[.int .u8 0, .int .u8 0, .int .u8 0, .int .u8 0, .int .u8 0, .int .u8 0, .int .u8 0, .int .u8 0, .int .u8 0, .int .u8 0, .int .u8 0, .int .u8 0, .int .u8 0, .int .u8 0, .int .u8 0, .int .u8 0, .int .u8 0, .int .u8 0, .int .u8 0, .int .u8 0, .int .u8 0] 25)
      rw [World.size_alloc] at this
      exact this
    · rw [HCS.out]
      have := heap_alloc_new ((w.alloc (.cells (idZ zs0).toArray 25)).alloc (.cells #[.int .u8 0, .int .u8 0, .int .u8 0, .int .u8 0, .int .u8 0, .int .u8 0, .int .u8 0, .int .u8 0, .int .u8 0, .int .u8 0, .int .u8 0, .int .u8 0, .int .u8 0, .int .u8 0, .int .u8 0, .int .u8 0, .int .u8 0, .int .u8 0, .int .u8 0, .int .u8 0, .int .u8 0] 25)) (.cells (idZ zs0).toArray 25)
      rw [World.size_alloc, World.size_alloc] at this
      exact this
    · exact (((Below.refl _ _).alloc (Nat.le_refl _) _).alloc (by simp) _).alloc (by simp; omega) _
  have HW3 := hide hW3
  clear hW3
  simp only [Act.put]
  have hk1 : (0 : Int) ≤ k := by omega
  have hk2 : (k : Int) < 8 := by omega
  have hkm : (k : Int).tmod 8 = k := Int.tmod_eq_of_lt hk1 hk2
  have hkd : (k : Int).tdiv 8 = 0 := Int.tdiv_eq_zero_of_lt hk1 hk2
  go_upto_region 3 with fail
  generalize IntKind.u64.wrap (2 ^ k) = c0
  clear hkm
  go_wp2
  clear hkd hk1 hk2
  go_loopw [6, 7] (fun s i wr => ∃ (c : Int) (zs : List Int), s = .int .u64 c ∧ ((∃ m : Nat, m < 20 ∧ i = .int .i64 m) ∨ i = .int .i64 (-1)) ∧ zs.length = 20 ∧ PW w wr cs zs) (fun _ i _ => (intOf i + 1).toNat)
  case atStart => exact ⟨c0, zs0, rfl, .inl ⟨19, by omega, rfl⟩, HZ.out, HPW.out⟩
  case round =>
    obtain ⟨c, zs, rfl, hi, hzl, hpw⟩ := hrel
    have HP := hide hpw
    have HZL := hide hzl
    clear hpw hzl
    by_cases hgo : (∃ m : Nat, m < 20 ∧ u7 = .int .i64 m) ∧ 0 < c
    · obtain ⟨⟨m, hm, rfl⟩, hc⟩ := hgo
      clear hi
      have hm1 : (m : Int) < 20 := by omega
      have hm0 : (0 : Int) ≤ m := by omega
      have hcell : wr.cell? ⟨w.heap.size + 1 + 1, m, none⟩ = _ := HP.out.at_ m (by rw [HZL.out]; exact hm)
      have hfr : wr.frozen? ⟨w.heap.size + 1 + 1, m, none⟩ = false := HP.out.free m
      generalize zs.getD m 0 = z at hcell
      go_wp2
      go_roundw
      case rel => exact ⟨_, _, rfl, by
          by_cases h0 : m = 0
          · subst h0
            exact .inr rfl
          · exact .inl ⟨m - 1, by omega, by go_num⟩, by simp [HZL.out], HP.out.set m (by rw [HZL.out]; exact hm) _⟩
      case measure => simp [intOf]
    · have hA : wr.cell? ⟨w.heap.size, 20, none⟩ = some (.int .u8 8) := by
        have := HP.out.arg
        rw [HCS.out] at this
        simp [World.cell?, this, idZ, HZ.out]
      have hcell : wr.cell? ⟨w.heap.size + 1 + 1, 18, none⟩ = _ := HP.out.at_ 18 (by rw [HZL.out]; omega)
      have hfr : wr.frozen? ⟨w.heap.size + 1 + 1, 18, none⟩ = false := HP.out.free 18
      generalize zs.getD 18 0 = z at hcell
      have hne : (∃ m : Nat, m < 20 ∧ u7 = .int .i64 m ∧ ¬ 0 < c) ∨ u7 = .int .i64 (-1) := by
        rcases hi with ⟨m, hm, e⟩ | e
        · exact .inl ⟨m, hm, e, fun h => hgo ⟨⟨m, hm, e⟩, h⟩⟩
        · exact .inr e
      clear hi hgo
      rcases hne with ⟨m, hm, rfl, hc⟩ | rfl
      · have hm0 : (0 : Int) ≤ m := by omega
        go_upto_region 11 with fail
        go_region
        have hp2 := (HP.out.set 18 (by rw [HZL.out]; omega) (bits .andNot .u8 z 1)).drew
        have hl2 : (zs.set 18 (bits .andNot .u8 z 1)).length = 20 := by simp [HZL.out]
        clear HP HZL hcell hfr hA
        generalize zs.set 18 (bits .andNot .u8 z 1) = zs2 at hp2 hl2
        change PW w (World.setCell wr ⟨w.heap.size + 1 + 1, 18, none⟩ (.int .u8 (bits .andNot .u8 z 1))).drew cs zs2 at hp2
        generalize (World.setCell wr ⟨w.heap.size + 1 + 1, 18, none⟩ (.int .u8 (bits .andNot .u8 z 1))).drew = W4 at hp2 ⊢
        obtain ⟨r, hr, hres⟩ := hp2.res
        have HRES : Hid (W4.heap[w.heap.size + 1]? = some (.cells r 25 (0, 0))) := hres
        have HSUM : Hid (W4.rangeAt (w.heap.size + 1 + 1) 0 (idZ zs2)) := row_range hp2.sum
        have HI2 := hide (show (Ybaf.prog.info? 25).map (·.size) = some (idZ zs2).length by rw [info25, idZ_len zs2 hl2])
        have HRS := hide (show r.size = (idZ zs2).toArray.size by rw [hr, List.size_toArray, idZ_len zs2 hl2])
        have HBEL := hide hp2.below
        clear hr hres hp2
        go_wp2_with (first
          | (refine wpList_load_mid rfl 25 _ rfl (w.heap.size + 1 + 1) 0 rfl (idZ zs2) _ HSUM.out Ybaf.underlying25 rfl HI2.out ?_)
          | (refine wpList_store_row rfl 25 _ _ rfl 25 r (idZ zs2).toArray (w.heap.size + 1) HRES.out rfl rfl (by rw [List.size_toArray]; exact HI2.out) HRS.out (all_oneCell_toArray (idZ_one zs2)) ?_))
        refine bodyPost_ret (results_cell_row (by rfl) _ _ (w.heap.size + 1) 25 (idZ zs2).toArray (0, 0) _ rfl (setRow_heap _ _ _ _ _ _ HRES.out) Ybaf.underlying25 rfl (by rw [List.size_toArray]; exact HI2.out)) rfl ⟨⟨zs2, hl2, rfl⟩, ?_⟩
        exact HBEL.out.trans ⟨rfl, rfl, rfl, by simp [World.setRow], fun j hj => setRow_other _ _ _ _ (by omega)⟩
      · go_upto_region 11 with fail
        go_region
        have hp2 := (HP.out.set 18 (by rw [HZL.out]; omega) (bits .andNot .u8 z 1)).drew
        have hl2 : (zs.set 18 (bits .andNot .u8 z 1)).length = 20 := by simp [HZL.out]
        clear HP HZL hcell hfr hA
        generalize zs.set 18 (bits .andNot .u8 z 1) = zs2 at hp2 hl2
        change PW w (World.setCell wr ⟨w.heap.size + 1 + 1, 18, none⟩ (.int .u8 (bits .andNot .u8 z 1))).drew cs zs2 at hp2
        generalize (World.setCell wr ⟨w.heap.size + 1 + 1, 18, none⟩ (.int .u8 (bits .andNot .u8 z 1))).drew = W4 at hp2 ⊢
        obtain ⟨r, hr, hres⟩ := hp2.res
        have HRES : Hid (W4.heap[w.heap.size + 1]? = some (.cells r 25 (0, 0))) := hres
        have HSUM : Hid (W4.rangeAt (w.heap.size + 1 + 1) 0 (idZ zs2)) := row_range hp2.sum
        have HI2 := hide (show (Ybaf.prog.info? 25).map (·.size) = some (idZ zs2).length by rw [info25, idZ_len zs2 hl2])
        have HRS := hide (show r.size = (idZ zs2).toArray.size by rw [hr, List.size_toArray, idZ_len zs2 hl2])
        have HBEL := hide hp2.below
        clear hr hres hp2
        go_wp2_with (first
          | (refine wpList_load_mid rfl 25 _ rfl (w.heap.size + 1 + 1) 0 rfl (idZ zs2) _ HSUM.out Ybaf.underlying25 rfl HI2.out ?_)
          | (refine wpList_store_row rfl 25 _ _ rfl 25 r (idZ zs2).toArray (w.heap.size + 1) HRES.out rfl rfl (by rw [List.size_toArray]; exact HI2.out) HRS.out (all_oneCell_toArray (idZ_one zs2)) ?_))
        refine bodyPost_ret (results_cell_row (by rfl) _ _ (w.heap.size + 1) 25 (idZ zs2).toArray (0, 0) _ rfl (setRow_heap _ _ _ _ _ _ HRES.out) Ybaf.underlying25 rfl (by rw [List.size_toArray]; exact HI2.out)) rfl ⟨⟨zs2, hl2, rfl⟩, ?_⟩
        exact HBEL.out.trans ⟨rfl, rfl, rfl, by simp [World.setRow], fun j hj => setRow_other _ _ _ _ (by omega)⟩
end Go.Proofs.YbulkkiqFmt
