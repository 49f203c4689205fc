-- MINE
import Derived.Test.YbulkkiqFmtHost
namespace Go.Proofs.YbulkkiqFmt
open Go.RowKit Go.MuLone Go.Shelf
open Go.Extern.Stop (cell)
set_option maxRecDepth 100000
set_option linter.unusedSimpArgs false
set_option linter.unusedVariables false

/-- What NewHost leaves. -/
def HostDone (w w' : World) (n : Nat) (e : Ending) : Prop :=
  ∃ hb g cap, ∃ bs : Nat → Nat, e = .returned (.pointer (some ⟨hb, 0, none⟩)) ∧ w'.cell? ⟨hb, 1, none⟩ = some (.slice (some ⟨g, 0, none⟩) n cap) ∧
    (∀ j, j < n → w'.cell? ⟨g, j, none⟩ = some (.pointer (some ⟨bs j, 0, none⟩))) ∧ (∀ j, j < n → IsNode w' (bs j) (if 1 < n then 1 else 0)) ∧ Below w.heap.size w w'
theorem bits7b (x : UInt8) (w : World) : Calls Ybaf.prog 7 #[.agg (idC x).toArray] w fun e w' => e = .returned (.int .i64 8) ∧ Below w.heap.size w w' :=
  (bits7 x w).mono fun e w' ⟨he, hw⟩ => ⟨he, by rw [hw]; exact (Below.refl _ _).alloc (Nat.le_refl _) _⟩
theorem bslice36 (a : Option Addr) (w : World) : (Instr.buildSlice 36 1 #[(0, .pointer a)]).run Ybaf.prog w = .ok (.slice (some ⟨w.heap.size, 0, none⟩) 1 1) (w.alloc (.cells [Value.pointer a].toArray 51)) := by kernel_rfl
theorem ptr_one (a : Option Addr) : ∀ u ∈ [Value.pointer a], u.oneCell' = true := by
  intro u hu
  simp at hu
  subst hu
  rfl
theorem clone11 (n g c : Nat) (bs : Nat → Nat) (w : World) (hn : n ≤ 16) (hc : ∀ j, j < n → w.cell? ⟨g, j, none⟩ = some (.pointer (some ⟨bs j, 0, none⟩))) :
    Calls Ybaf.prog 11 #[.slice (some ⟨g, 0, none⟩) n c] w fun e w' => ∃ v', e = .returned v' ∧ w'.ownsRow w.heap.size 51 1 v' n (ptrs bs n) ∧ Below w.heap.size w w' := by
  obtain ⟨i1, e1, e2, e3, e4⟩ := info_parts (show (Ybaf.prog.info? 51).map (fun i => (i.zero, i.size, i.bytes)) = some (some (.pointer none), 1, 8) by kernel_rfl)
  have hcon := AnyE.slices_Clone Ybaf.cloneN i1 (.pointer none) 1 8 e1 e2 e3 e4 rfl (by decide) Ybaf.sizeOf51 g 0 n c (ptrs bs n) w (by rw [ptrs_len]; omega) (by unfold maxLen; omega) (by omega) (fun j u hu => by
    have hj : j < n := by have := (List.getElem?_eq_some_iff.1 hu).1; rw [ptrs_len] at this; exact this
    rw [ptrs_get bs n j hj] at hu
    rw [Nat.zero_add, hc j hj]
    exact hu) (fun u hu => by
    simp [ptrs] at hu
    obtain ⟨a, _, rfl⟩ := hu
    rfl)
  change Calls Ybaf.prog 11 _ _ _ at hcon
  exact hcon.mono fun e w' ⟨v', he, ho, _, hb⟩ => ⟨v', he, ho, hb⟩
theorem mk0 (w : World) : (Instr.makeChan 34 (.int .i64 0)).run Ybaf.prog w = .ok (.chan (some w.heap.size)) (w.alloc (.chan 0 #[] false 0 0 false)) := by kernel_rfl

set_option maxHeartbeats 12800000 in
theorem host4 (n : Nat) (hn : 1 ≤ n) (hn16 : n ≤ 16) (ib icap : Nat) (r : Int) (hr : 1 ≤ r) (w : World) (hib : ib < w.heap.size) (hcap : n ≤ icap) (hids : ∀ i, i < n → w.rangeAt ib (i * 21) (idC (X i))) :
    Calls Ybaf.prog 4 #[.string addrT, .slice (some ⟨ib, 0, none⟩) n icap, .int .i64 r, .int .i64 1, .nilIface] w fun e w' => HostDone w w' n e := by
  have HIDS := hide hids
  have hr1 : ¬ r < 1 := by omega
  have hr2 : decide (r < 1) = false := decide_eq_false hr1
  have hn0 : ¬ n = 0 := by omega
  have hn1 : (n : Int) ≠ 0 := by omega
  have hn2 : ((n : Int) == 0) = false := by simpa using hn1
  have hmm := @run_makeMap Ybaf.prog
  have hmk := mk0
  clear hids
  go_enter Ybaf.func4, Ybaf.ntmps4
  go_upto_region 6 with fail
  have hHS : HSt ((w.alloc (.chan 0 #[] false 0 0 false)).alloc (.map #[] 0)) (((w.alloc (.chan 0 #[] false 0 0 false)).alloc (.map #[] 0)).alloc (.cells (hostF (.slice none 0 0) (.chan (some w.heap.size)) (.map (some (w.heap.size + 1)))).toArray 48)) (w.heap.size + 1 + 1) 0 (.slice none 0 0) (.chan (some w.heap.size)) (.map (some (w.heap.size + 1))) (fun _ => 0) (fun _ => 0) (fun _ => undef) (fun _ => undef) (fun _ => undef) r := by
    refine ⟨?_, World.ownsRow_nil _ _ _ _, ⟨fun i hi => by omega, fun i hi => by omega, fun i j hi => by omega, fun i j hi => by omega⟩, fun i hi => by omega, ?_⟩
    · have := heap_alloc_new ((w.alloc (.chan 0 #[] false 0 0 false)).alloc (.map #[] 0)) (.cells (hostF (.slice none 0 0) (.chan (some w.heap.size)) (.map (some (w.heap.size + 1)))).toArray 48)
      rw [World.size_alloc, World.size_alloc] at this
      exact this
    · exact (Below.refl _ _).alloc (by simp) _
  change Code.wp _ _ _ _ (((w.alloc (.chan 0 #[] false 0 0 false)).alloc (.map #[] 0)).alloc (.cells (hostF (.slice none 0 0) (.chan (some w.heap.size)) (.map (some (w.heap.size + 1)))).toArray 48))
  generalize World.alloc (World.alloc (World.alloc w _) _) (.cells (hostF _ _ _).toArray 48) = W1 at hHS ⊢
  obtain ⟨W0, hW0⟩ : ∃ W0, W0 = (w.alloc (.chan 0 #[] false 0 0 false)).alloc (.map #[] 0) := ⟨_, rfl⟩
  rw [← hW0] at hHS
  have HB0 : Hid (Below w.heap.size w W0) := by rw [hW0]; exact ((Below.refl _ _).alloc (Nat.le_refl _) _).alloc (by simp) _
  have HHS := hide hHS
  clear hHS hW0 hmm hmk
  obtain ⟨hb, hhb⟩ : ∃ hb, hb = w.heap.size + 1 + 1 := ⟨_, rfl⟩
  rw [← hhb] at HHS ⊢
  have HHB := hide hhb
  clear hhb
  generalize Value.chan (some w.heap.size) = cv at HHS ⊢
  generalize Value.map (some (w.heap.size + 1)) = mv at HHS ⊢
  have HI25 := hide (fun z : UInt8 => (show (Ybaf.prog.info? 25).map (·.size) = some (idC z).length by rw [info25, idC_len]))
  obtain ⟨i1, e1, e2, e3, e4⟩ := info_parts (show (Ybaf.prog.info? 51).map (fun i => (i.zero, i.size, i.bytes)) = some (some (.pointer none), 1, 8) by kernel_rfl)
  go_wp2
  go_loopw [40] (fun i wr => ∃ (k : Nat) (v : Value) (bs gs : Nat → Nat) (st fi ru : Nat → Value), k ≤ n ∧ i = .int .i64 k ∧ HSt W0 wr hb k v cv mv bs gs st fi ru r) (fun i _ => n - (intOf i).toNat)
  case atStart => exact ⟨0, _, _, _, _, _, _, Nat.zero_le _, rfl, HHS.out⟩
  case round =>
    obtain ⟨k, v, bs, gs, st, fi, ru, hk, rfl, hst⟩ := hrel
    have HST := hide hst
    have hroom := hst.room
    have hBW : Below w.heap.size w wr := HB0.out.trans (hst.below.mono (by have := HHB.out; omega))
    have HBW := hide hBW
    clear hst
    by_cases hlt : k < n
    · have t1 : (k : Int) < (n : Int) := by omega
      have t4 : (0 : Int) < (n : Int) := by omega
      have t5 : 0 < n := by omega
      have hki : k ≤ icap := by omega
      obtain ⟨x, hx⟩ : ∃ x, x = X k := ⟨_, rfl⟩
      have HX := hide hx
      have HRK : Hid (wr.rangeAt ib (k * 21) (idC x)) := by rw [hx]; exact range_of_below (HIDS.out k hlt) hBW hib
      clear hx hBW
      go_upto_region 9 with (first
        | (refine wpList_load_mid rfl 25 _ rfl ib (k * 21) rfl (idC x) _ HRK.out Ybaf.underlying25 rfl (HI25.out x) ?_)
        | (refine wpList_store_new rfl 25 _ _ rfl 25 _ _ _ (by simp) rfl rfl (by rw [List.size_toArray]; exact HI25.out x) (by simp [idC_len]) (all_oneCell_toArray (idC_one x)) ?_))
      (try simp only [Act.put, List.setIfInBounds_toArray, List.set_cons_zero, List.set_cons_succ])
      obtain ⟨wb, hwb⟩ : ∃ wb, wb = wr.alloc (.cells (idC x).toArray 25) := ⟨_, rfl⟩
      rw [← hwb]
      have hbb : Below wr.heap.size wr wb := by rw [hwb]; exact (Below.refl _ _).alloc (Nat.le_refl _) _
      have hzb : wb.heap.size = wr.heap.size + 1 := by rw [hwb]; simp
      have HPB : Hid (wb.rangeAt wr.heap.size 0 (idC x)) := by rw [hwb]; exact range_new wr (idC x) 25
      have HBB := hide hbb
      have hzw : w.heap.size ≤ wr.heap.size := HBW.out.size
      have HIDB : Hid (∀ i, i < n → wb.rangeAt ib (i * 21) (idC (X i))) := fun i hi => range_of_below (HIDS.out i hi) (HBW.out.trans (hbb.mono hzw)) hib
      have HKEEP : Hid (∀ wx, Below wb.heap.size wb wx → wx.rangeAt wr.heap.size 0 (idC x) ∧ wx.rangeAt ib 0 (idC (X 0))) := fun wx hx => ⟨range_of_below HPB.out hx (by omega), by
        have := range_of_below (HIDB.out 0 (by omega)) hx (by omega)
        rw [Nat.zero_mul] at this
        exact this⟩
      have HCON : Hid (∀ wx, Below wb.heap.size wb wx → Calls Ybaf.prog 8 #[.slice (some ⟨ib, 0, none⟩) k icap, .agg (idC x).toArray] wx fun e w' => e = .returned (.bool false) ∧ Below wx.heap.size wx w') := fun wx hx => by
        rw [HX.out]
        exact contains8 n k ib icap hlt hn16 wx (fun i hi => range_of_below (HIDB.out i hi) hx (by omega))
      clear hwb hbb
      go_cut [58] (fun s wc => s = .bool false ∧ Below wb.heap.size wb wc)
      case first =>
        refine wp_region_held_drew (S := fun wx => wx.rangeAt wr.heap.size 0 (idC x) ∧ wx.rangeAt ib 0 (idC (X 0))) (by kernel_rfl) (HKEEP.out _ (Below.refl _ _).drew) (fun hHeld => ?_)
        refine wpAnyH_take (i := 0) (oi := _) (v := .agg (idC x).toArray) rfl (by kernel_rfl) (by kernel_rfl) (by kernel_rfl) (fun _ _ _ h => h) (yieldsIf_load_mid (by rfl) 25 _ rfl wr.heap.size 0 rfl (idC x) _ (fun w h => h.1) Ybaf.underlying25 rfl (HI25.out x)) (by assumption) ?_
        (try simp only [List.getElem_toArray, List.getElem_cons_succ, List.getElem_cons_zero, Act.put, List.setIfInBounds_toArray, List.set_cons_zero, List.set_cons_succ])
        refine wpAnyH_take (i := 2) (oi := _) (v := ?_) rfl (by kernel_rfl) (by kernel_rfl) (by kernel_rfl) (fun _ _ _ h => h) (Or.inl ⟨by rfl, ?_⟩) (by assumption) ?_
        rotate_left
        · intro w hSw
          (try dsimp only at hSw)
          go_simp
          (try with_reducible rfl)
        (try simp only [List.getElem_toArray, List.getElem_cons_succ, List.getElem_cons_zero, Act.put, List.setIfInBounds_toArray, List.set_cons_zero, List.set_cons_succ])
        refine wpAnyH_take (i := 3) (oi := _) (v := ?_) rfl (by kernel_rfl) (by kernel_rfl) (by kernel_rfl) (fun _ _ _ h => h) (Or.inl ⟨by rfl, ?_⟩) (by assumption) ?_
        rotate_left
        · intro w hSw
          (try dsimp only at hSw)
          go_simp
          (try with_reducible rfl)
        (try simp only [List.getElem_toArray, List.getElem_cons_succ, List.getElem_cons_zero, Act.put, List.setIfInBounds_toArray, List.set_cons_zero, List.set_cons_succ])
        refine wpAnyH_take (i := 4) (oi := _) (v := .agg (idC (X 0)).toArray) rfl (by kernel_rfl) (by kernel_rfl) (by kernel_rfl) (fun _ _ _ h => h) (yieldsIf_load_mid (by rfl) 25 _ rfl ib 0 rfl (idC (X 0)) _ (fun w h => h.2) Ybaf.underlying25 rfl (HI25.out (X 0))) (by assumption) ?_
        (try simp only [List.getElem_toArray, List.getElem_cons_succ, List.getElem_cons_zero, Act.put, List.setIfInBounds_toArray, List.set_cons_zero, List.set_cons_succ])
        refine wpAnyH_ready (rs := [1]) (by kernel_rfl) (by simp) ?_
        refine AllReadyH.cons rfl (fun K hK => ?_) AllReadyH.nil
        go_simp
        go_wp2_with (go_at_call 7; refine (bits7b x _).mono ?_; rintro e wa ⟨rfl, hba0⟩)
        have hba : Below wb.heap.size wb wa := ((Below.refl _ _).drew).trans hba0
        refine hK.out _ _ (HKEEP.out _ hba) (fun hHeld => ?_)
        clear hK K hba0
        refine wpAnyH_ready (rs := [5]) (by kernel_rfl) (by simp) ?_
        refine AllReadyH.cons rfl (fun K hK => ?_) AllReadyH.nil
        go_simp
        go_wp2_with (go_at_call 7; refine (bits7b (X 0) _).mono ?_; rintro e wc2 ⟨rfl, hbc0⟩)
        have hbc : Below wb.heap.size wb wc2 := hba.trans (hbc0.mono hba.size)
        refine hK.out _ _ (HKEEP.out _ hbc) (fun hHeld => ?_)
        clear hK K hbc0
        refine wpAnyH_take (i := 6) (oi := _) (v := ?_) rfl (by kernel_rfl) (by kernel_rfl) (by kernel_rfl) (fun _ _ _ h => h) (Or.inl ⟨by rfl, ?_⟩) (by assumption) ?_
        rotate_left
        · intro w hSw
          (try dsimp only at hSw)
          go_simp
          (try with_reducible rfl)
        (try simp only [List.getElem_toArray, List.getElem_cons_succ, List.getElem_cons_zero, Act.put, List.setIfInBounds_toArray, List.set_cons_zero, List.set_cons_succ])
        refine wpAnyH_take (i := 7) (oi := _) (v := ?_) rfl (by kernel_rfl) (by kernel_rfl) (by kernel_rfl) (fun _ _ _ h => h) (Or.inl ⟨by rfl, ?_⟩) (by assumption) ?_
        rotate_left
        · intro w hSw
          (try dsimp only at hSw)
          go_simp
          (try with_reducible rfl)
        (try simp only [List.getElem_toArray, List.getElem_cons_succ, List.getElem_cons_zero, Act.put, List.setIfInBounds_toArray, List.set_cons_zero, List.set_cons_succ])
        refine wpAnyH_take (i := 8) (oi := _) (v := ?_) rfl (by kernel_rfl) (by kernel_rfl) (by kernel_rfl) (fun _ _ _ h => h) (Or.inl ⟨by rfl, ?_⟩) (by assumption) ?_
        rotate_left
        · intro w hSw
          (try dsimp only at hSw)
          go_simp
          (try with_reducible rfl)
        (try simp only [List.getElem_toArray, List.getElem_cons_succ, List.getElem_cons_zero, Act.put, List.setIfInBounds_toArray, List.set_cons_zero, List.set_cons_succ])
        refine wpAnyH_take (i := 9) (oi := _) (v := ?_) rfl (by kernel_rfl) (by kernel_rfl) (by kernel_rfl) (fun _ _ _ h => h) (Or.inl ⟨by rfl, ?_⟩) (by assumption) ?_
        rotate_left
        · intro w hSw
          (try dsimp only at hSw)
          go_simp
          (try with_reducible rfl)
        (try simp only [List.getElem_toArray, List.getElem_cons_succ, List.getElem_cons_zero, Act.put, List.setIfInBounds_toArray, List.set_cons_zero, List.set_cons_succ])
        refine wpAnyH_take (i := 10) (oi := _) (v := ?_) rfl (by kernel_rfl) (by kernel_rfl) (by kernel_rfl) (fun _ _ _ h => h) (Or.inl ⟨by rfl, ?_⟩) (by assumption) ?_
        rotate_left
        · intro w hSw
          (try dsimp only at hSw)
          go_simp
          (try with_reducible rfl)
        (try simp only [List.getElem_toArray, List.getElem_cons_succ, List.getElem_cons_zero, Act.put, List.setIfInBounds_toArray, List.set_cons_zero, List.set_cons_succ])
        refine wpAnyH_take (i := 11) (oi := _) (v := .agg (idC x).toArray) rfl (by kernel_rfl) (by kernel_rfl) (by kernel_rfl) (fun _ _ _ h => h) (yieldsIf_load_mid (by rfl) 25 _ rfl wr.heap.size 0 rfl (idC x) _ (fun w h => h.1) Ybaf.underlying25 rfl (HI25.out x)) (by assumption) ?_
        (try simp only [List.getElem_toArray, List.getElem_cons_succ, List.getElem_cons_zero, Act.put, List.setIfInBounds_toArray, List.set_cons_zero, List.set_cons_succ])
        refine wpAnyH_ready (rs := [12]) (by kernel_rfl) (by simp) ?_
        refine AllReadyH.cons rfl (fun K hK => ?_) AllReadyH.nil
        go_simp
        go_wp2_with (go_at_call 8; refine (HCON.out _ hbc).mono ?_; rintro e wd ⟨rfl, hbd⟩)
        have hbd2 : Below wb.heap.size wb wd := hbc.trans (hbd.mono hbc.size)
        refine hK.out _ _ (HKEEP.out _ hbd2) (fun hHeld => ?_)
        clear hK K
        refine wpAnyH_take (i := 13) (oi := _) (v := ?_) rfl (by kernel_rfl) (by kernel_rfl) (by kernel_rfl) (fun _ _ _ h => h) (Or.inl ⟨by rfl, ?_⟩) (by assumption) ?_
        rotate_left
        · intro w hSw
          (try dsimp only at hSw)
          go_simp
          (try with_reducible rfl)
        (try simp only [List.getElem_toArray, List.getElem_cons_succ, List.getElem_cons_zero, Act.put, List.setIfInBounds_toArray, List.set_cons_zero, List.set_cons_succ])
        refine wpAnyH_done (by kernel_rfl) ?_ _
        clear hHeld hbd hbc hba
        go_wp2_with fail
        go_meet
        exact ⟨rfl, hbd2⟩
      case rest =>
        obtain ⟨rfl, hbc⟩ := hcut
        have hzc2 : wr.heap.size < wc.heap.size := by have := hbc.size; omega
        have hzc : wr.heap.size ≤ wc.heap.size := by omega
        have HBC2 : Hid (Below wr.heap.size wr wc) := HBB.out.trans (hbc.mono (by omega))
        have HKP : Hid (∀ wx, Below wc.heap.size wc wx → wx.rangeAt wr.heap.size 0 (idC x)) := fun wx hx => range_of_below (HKEEP.out wc hbc).1 hx (by have := hbc.size; omega)
        have hvc : wc.cell? ⟨hb, 1, none⟩ = some v := (HBC2.out.cell (p := ⟨hb, 1, none⟩) hroom).trans (by simp only [World.cell?, HST.out.host]; rfl)
        have HROWN : Hid (∀ wx, Below wc.heap.size wc wx → ∀ o, (wx.alloc o).ownsRow (hb + 1) 51 1 v k (ptrs bs k)) := fun wx hx o => by
          have hx2 : Below wr.heap.size wr wx := HBC2.out.trans (hx.mono hzc)
          exact (HST.out.row.kept (show World.grownBy wr wx none from ⟨hx2.os, hx2.tape, hx2.output, hx2.size, fun q hq _ => hx2.block q hq⟩) (Classical.em _)).alloc o
        clear hbc HKEEP HCON HIDB
        go_upto_region 11 with fail
        refine wp_region_held_drew (S := fun wx => wx.rangeAt wr.heap.size 0 (idC x)) (by kernel_rfl) (HKP.out _ (Below.refl _ _).drew) (fun hHeld => ?_)
        refine wpAnyH_take (i := 0) (oi := _) (v := ?_) rfl (by kernel_rfl) (by kernel_rfl) (by kernel_rfl) (fun _ _ _ h => h) (Or.inl ⟨by rfl, ?_⟩) (by assumption) ?_
        rotate_left
        · intro w hSw
          (try dsimp only at hSw)
          go_simp
          (try with_reducible rfl)
        (try simp only [List.getElem_toArray, List.getElem_cons_succ, List.getElem_cons_zero, Act.put, List.setIfInBounds_toArray, List.set_cons_zero, List.set_cons_succ])
        refine wpAnyH_take (i := 1) (oi := _) (v := ?_) rfl (by kernel_rfl) (by kernel_rfl) (by kernel_rfl) (fun _ _ _ h => h) (Or.inl ⟨by rfl, ?_⟩) (by assumption) ?_
        rotate_left
        · intro w hSw
          (try dsimp only at hSw)
          go_simp
          (try with_reducible rfl)
        (try simp only [List.getElem_toArray, List.getElem_cons_succ, List.getElem_cons_zero, Act.put, List.setIfInBounds_toArray, List.set_cons_zero, List.set_cons_succ])
        refine wpAnyH_take (i := 2) (oi := _) (v := ?_) rfl (by kernel_rfl) (by kernel_rfl) (by kernel_rfl) (fun _ _ _ h => h) (Or.inl ⟨by rfl, ?_⟩) (by assumption) ?_
        rotate_left
        · intro w hSw
          (try dsimp only at hSw)
          go_simp
          (try with_reducible rfl)
        (try simp only [List.getElem_toArray, List.getElem_cons_succ, List.getElem_cons_zero, Act.put, List.setIfInBounds_toArray, List.set_cons_zero, List.set_cons_succ])
        refine wpAnyH_take (i := 3) (oi := _) (v := ?_) rfl (by kernel_rfl) (by kernel_rfl) (by kernel_rfl) (fun _ _ _ h => h) (Or.inl ⟨by rfl, ?_⟩) (by assumption) ?_
        rotate_left
        · intro w hSw
          (try dsimp only at hSw)
          go_simp
          (try with_reducible rfl)
        (try simp only [List.getElem_toArray, List.getElem_cons_succ, List.getElem_cons_zero, Act.put, List.setIfInBounds_toArray, List.set_cons_zero, List.set_cons_succ])
        refine wpAnyH_take (i := 5) (oi := _) (v := .agg (idC x).toArray) rfl (by kernel_rfl) (by kernel_rfl) (by kernel_rfl) (fun _ _ _ h => h) (yieldsIf_load_mid (by rfl) 25 _ rfl wr.heap.size 0 rfl (idC x) _ (fun w h => h) Ybaf.underlying25 rfl (HI25.out x)) (by assumption) ?_
        (try simp only [List.getElem_toArray, List.getElem_cons_succ, List.getElem_cons_zero, Act.put, List.setIfInBounds_toArray, List.set_cons_zero, List.set_cons_succ])
        refine wpAnyH_take (i := 6) (oi := _) (v := ?_) rfl (by kernel_rfl) (by kernel_rfl) (by kernel_rfl) (fun _ _ _ h => h) (Or.inl ⟨by rfl, ?_⟩) (by assumption) ?_
        rotate_left
        · intro w hSw
          (try dsimp only at hSw)
          go_simp
          (try with_reducible rfl)
        (try simp only [List.getElem_toArray, List.getElem_cons_succ, List.getElem_cons_zero, Act.put, List.setIfInBounds_toArray, List.set_cons_zero, List.set_cons_succ])
        refine wpAnyH_take (i := 7) (oi := _) (v := .agg (peerC x).toArray) rfl (by kernel_rfl) (by kernel_rfl) (by kernel_rfl) (fun _ _ _ h => h) (yieldsIf_built2 (by rfl) 54 0 1 (.tmp 69) (.tmp 70) (by rfl) (.agg (idC x).toArray) (.string addrT) rfl rfl _ (build54 x)) (by assumption) ?_
        (try simp only [List.getElem_toArray, List.getElem_cons_succ, List.getElem_cons_zero, Act.put, List.setIfInBounds_toArray, List.set_cons_zero, List.set_cons_succ])
        refine wpAnyH_take (i := 8) (oi := _) (v := ?_) rfl (by kernel_rfl) (by kernel_rfl) (by kernel_rfl) (fun _ _ _ h => h) (Or.inl ⟨by rfl, ?_⟩) (by assumption) ?_
        rotate_left
        · intro w hSw
          (try dsimp only at hSw)
          go_simp
          (try with_reducible rfl)
        (try simp only [List.getElem_toArray, List.getElem_cons_succ, List.getElem_cons_zero, Act.put, List.setIfInBounds_toArray, List.set_cons_zero, List.set_cons_succ])
        refine wpAnyH_take (i := 9) (oi := _) (v := ?_) rfl (by kernel_rfl) (by kernel_rfl) (by kernel_rfl) (fun _ _ _ h => h) (Or.inl ⟨by rfl, ?_⟩) (by assumption) ?_
        rotate_left
        · intro w hSw
          (try dsimp only at hSw)
          go_simp
          (try with_reducible rfl)
        (try simp only [List.getElem_toArray, List.getElem_cons_succ, List.getElem_cons_zero, Act.put, List.setIfInBounds_toArray, List.set_cons_zero, List.set_cons_succ])
        refine wpAnyH_ready (rs := [4, 10]) (by kernel_rfl) (by simp) ?_
        refine AllReadyH.cons rfl (fun K hK => ?_) (AllReadyH.cons rfl (fun K hK => ?_) AllReadyH.nil)
        · go_simp
          refine hK.out _ _ hHeld (fun hHeld => ?_)
          clear hK K
          refine wpAnyH_ready (rs := [10]) (by kernel_rfl) (by simp) ?_
          refine AllReadyH.cons rfl (fun K hK => ?_) AllReadyH.nil
          go_simp
          go_wp2_with (go_at_call 9; refine (new9 x r hb _).mono ?_; rintro e wn ⟨rfl, ⟨st1, fi1, ru1, hN1⟩, hG1, hbn0⟩)
          have hbn : Below wc.heap.size wc wn := ((Below.refl _ wc).drew).trans hbn0
          have hvn : wn.cell? ⟨hb, 1, none⟩ = some v := (hbn.cell (p := ⟨hb, 1, none⟩) (by show hb < _; omega)).trans hvc
          have hvn2 : ∀ o, (wn.alloc o).cell? ⟨hb, 1, none⟩ = some v := fun o => (World.cell?_alloc_past o hb _ (by have := hbn.size; omega)).trans hvn
          have HBN := hide hbn
          have HN1 := hide hN1
          have HG1 := hide hG1
          clear hbn0 hN1 hG1 hbn
          refine hK.out _ _ (HKP.out _ HBN.out) (fun hHeld => ?_)
          clear hK K
          refine wpAnyH_ready (rs := [11]) (by kernel_rfl) (by simp) ?_
          refine AllReadyH.cons rfl (fun K hK => ?_) AllReadyH.nil
          refine step_bslice1 rfl 36 1 0 _ rfl (.pointer (some ⟨wc.heap.size + 2, 0, none⟩)) rfl _ (bslice36 _ _) ?_
          refine hK.out _ _ (World.rangeAt_alloc (HKP.out _ HBN.out) _) (fun hHeld => ?_)
          clear hK K
          refine wpAnyH_ready (rs := [12]) (by kernel_rfl) (by simp) ?_
          refine AllReadyH.cons rfl (fun K hK => ?_) AllReadyH.nil
          refine step_append_lies _ rfl (.tmp 68) (.tmp 75) 36 rfl (hb + 1) 51 i1 (.pointer none) 1 8 Ybaf.underlying36 e1 e2 e3 e4 rfl (by decide) v k (ptrs bs k) (by rfl) (HROWN.out wn HBN.out _) ⟨wn.heap.size, 0, none⟩ 1 1 [.pointer (some ⟨wc.heap.size + 2, 0, none⟩)] (by rfl) rfl (cells_new wn _ rfl [.pointer (some ⟨wc.heap.size + 2, 0, none⟩)] 51) (ptr_one _) (by decide) (by unfold maxLen; omega) (by omega) (by have := HBN.out.size; rw [World.size_alloc]; omega) _ rfl ?_
          intro g6 cp6 w2 hown6 hgrow6 _ _
          have hBN2 : Below wr.heap.size wr wn := HBC2.out.trans (HBN.out.mono hzc)
          have hN2 := HN1.out
          have hG2 := HG1.out
          rw [HX.out] at hN2 hG2
          have hzd : wc.drew.heap.size = wc.heap.size := rfl
          obtain ⟨hc2, hf2, hst2⟩ := HST.out.step (by omega) hBN2 (by omega) (by omega) hN2 hG2 hgrow6 hown6
          have HST2 := hide hst2
          have hR3 : w2.rangeAt wr.heap.size 0 (idC x) := fun p u hu => (hgrow6.cell_far ⟨wr.heap.size, 0 + p, none⟩ (by rw [World.size_alloc]; have := HBN.out.size; show wr.heap.size < _; omega) (fun e => absurd (HST.out.row.lt _ e.symm).2 (Nat.lt_irrefl _))).trans (World.rangeAt_alloc (HKP.out _ HBN.out) _ p u hu)
          have HR4 : Hid (∀ u, (w2.setCell ⟨hb, 1, none⟩ u).rangeAt wr.heap.size 0 (idC x)) := fun u p y hy => (World.cell?_setCell_far _ _ _ _ (by show hb ≠ wr.heap.size; omega)).trans (hR3 p y hy)
          clear hst2 hN2 hG2 hown6 hgrow6 hBN2
          refine hK.out _ _ hR3 (fun hHeld => ?_)
          clear hK K
          refine wpAnyH_take (i := 13) (oi := _) (v := ?_) rfl (by kernel_rfl) (by kernel_rfl) (by kernel_rfl) (fun _ _ _ h => h) (Or.inl ⟨by rfl, ?_⟩) (by assumption) ?_
          rotate_left
          · intro w hSw
            (try dsimp only at hSw)
            go_simp
            (try with_reducible rfl)
          (try simp only [List.getElem_toArray, List.getElem_cons_succ, List.getElem_cons_zero, Act.put, List.setIfInBounds_toArray, List.set_cons_zero, List.set_cons_succ])
          refine wpAnyH_take (i := 14) (oi := _) (v := ?_) rfl (by kernel_rfl) (by kernel_rfl) (by kernel_rfl) (fun _ _ _ h => h) (Or.inl ⟨by rfl, ?_⟩) (by assumption) ?_
          rotate_left
          · intro w hSw
            (try dsimp only at hSw)
            go_simp
            (try with_reducible rfl)
          (try simp only [List.getElem_toArray, List.getElem_cons_succ, List.getElem_cons_zero, Act.put, List.setIfInBounds_toArray, List.set_cons_zero, List.set_cons_succ])
          refine wpAnyH_ready (rs := [15]) (by kernel_rfl) (by simp) ?_
          refine AllReadyH.cons rfl (fun K hK => ?_) AllReadyH.nil
          go_simp
          refine hK.out _ _ (HR4.out _) (fun hHeld => ?_)
          clear hK K
          refine wpAnyH_done (by kernel_rfl) ?_ _
          clear hHeld hc2 hf2 hR3 hvn hvn2
          go_wp2
          go_roundw
          case rel => exact ⟨k + 1, _, _, _, _, _, _, by omega, by go_num, HST2.out⟩
          case measure => simp [intOf]; omega
        · go_simp
          go_wp2_with (go_at_call 9; refine (new9 x r hb _).mono ?_; rintro e wn ⟨rfl, ⟨st1, fi1, ru1, hN1⟩, hG1, hbn0⟩)
          have hbn : Below wc.heap.size wc wn := ((Below.refl _ wc).drew).trans hbn0
          have hvn : wn.cell? ⟨hb, 1, none⟩ = some v := (hbn.cell (p := ⟨hb, 1, none⟩) (by show hb < _; omega)).trans hvc
          have hvn2 : ∀ o, (wn.alloc o).cell? ⟨hb, 1, none⟩ = some v := fun o => (World.cell?_alloc_past o hb _ (by have := hbn.size; omega)).trans hvn
          have HBN := hide hbn
          have HN1 := hide hN1
          have HG1 := hide hG1
          clear hbn0 hN1 hG1 hbn
          refine hK.out _ _ (HKP.out _ HBN.out) (fun hHeld => ?_)
          clear hK K
          refine wpAnyH_ready (rs := [4, 11]) (by kernel_rfl) (by simp) ?_
          refine AllReadyH.cons rfl (fun K hK => ?_) (AllReadyH.cons rfl (fun K hK => ?_) AllReadyH.nil)
          · go_simp
            refine hK.out _ _ hHeld (fun hHeld => ?_)
            clear hK K
            refine wpAnyH_ready (rs := [11]) (by kernel_rfl) (by simp) ?_
            refine AllReadyH.cons rfl (fun K hK => ?_) AllReadyH.nil
            refine step_bslice1 rfl 36 1 0 _ rfl (.pointer (some ⟨wc.heap.size + 2, 0, none⟩)) rfl _ (bslice36 _ _) ?_
            refine hK.out _ _ (World.rangeAt_alloc (HKP.out _ HBN.out) _) (fun hHeld => ?_)
            clear hK K
            refine wpAnyH_ready (rs := [12]) (by kernel_rfl) (by simp) ?_
            refine AllReadyH.cons rfl (fun K hK => ?_) AllReadyH.nil
            refine step_append_lies _ rfl (.tmp 68) (.tmp 75) 36 rfl (hb + 1) 51 i1 (.pointer none) 1 8 Ybaf.underlying36 e1 e2 e3 e4 rfl (by decide) v k (ptrs bs k) (by rfl) (HROWN.out wn HBN.out _) ⟨wn.heap.size, 0, none⟩ 1 1 [.pointer (some ⟨wc.heap.size + 2, 0, none⟩)] (by rfl) rfl (cells_new wn _ rfl [.pointer (some ⟨wc.heap.size + 2, 0, none⟩)] 51) (ptr_one _) (by decide) (by unfold maxLen; omega) (by omega) (by have := HBN.out.size; rw [World.size_alloc]; omega) _ rfl ?_
            intro g6 cp6 w2 hown6 hgrow6 _ _
            have hBN2 : Below wr.heap.size wr wn := HBC2.out.trans (HBN.out.mono hzc)
            have hN2 := HN1.out
            have hG2 := HG1.out
            rw [HX.out] at hN2 hG2
            have hzd : wc.drew.heap.size = wc.heap.size := rfl
            obtain ⟨hc2, hf2, hst2⟩ := HST.out.step (by omega) hBN2 (by omega) (by omega) hN2 hG2 hgrow6 hown6
            have HST2 := hide hst2
            have hR3 : w2.rangeAt wr.heap.size 0 (idC x) := fun p u hu => (hgrow6.cell_far ⟨wr.heap.size, 0 + p, none⟩ (by rw [World.size_alloc]; have := HBN.out.size; show wr.heap.size < _; omega) (fun e => absurd (HST.out.row.lt _ e.symm).2 (Nat.lt_irrefl _))).trans (World.rangeAt_alloc (HKP.out _ HBN.out) _ p u hu)
            have HR4 : Hid (∀ u, (w2.setCell ⟨hb, 1, none⟩ u).rangeAt wr.heap.size 0 (idC x)) := fun u p y hy => (World.cell?_setCell_far _ _ _ _ (by show hb ≠ wr.heap.size; omega)).trans (hR3 p y hy)
            clear hst2 hN2 hG2 hown6 hgrow6 hBN2
            refine hK.out _ _ hR3 (fun hHeld => ?_)
            clear hK K
            refine wpAnyH_take (i := 13) (oi := _) (v := ?_) rfl (by kernel_rfl) (by kernel_rfl) (by kernel_rfl) (fun _ _ _ h => h) (Or.inl ⟨by rfl, ?_⟩) (by assumption) ?_
            rotate_left
            · intro w hSw
              (try dsimp only at hSw)
              go_simp
              (try with_reducible rfl)
            (try simp only [List.getElem_toArray, List.getElem_cons_succ, List.getElem_cons_zero, Act.put, List.setIfInBounds_toArray, List.set_cons_zero, List.set_cons_succ])
            refine wpAnyH_take (i := 14) (oi := _) (v := ?_) rfl (by kernel_rfl) (by kernel_rfl) (by kernel_rfl) (fun _ _ _ h => h) (Or.inl ⟨by rfl, ?_⟩) (by assumption) ?_
            rotate_left
            · intro w hSw
              (try dsimp only at hSw)
              go_simp
              (try with_reducible rfl)
            (try simp only [List.getElem_toArray, List.getElem_cons_succ, List.getElem_cons_zero, Act.put, List.setIfInBounds_toArray, List.set_cons_zero, List.set_cons_succ])
            refine wpAnyH_ready (rs := [15]) (by kernel_rfl) (by simp) ?_
            refine AllReadyH.cons rfl (fun K hK => ?_) AllReadyH.nil
            go_simp
            refine hK.out _ _ (HR4.out _) (fun hHeld => ?_)
            clear hK K
            refine wpAnyH_done (by kernel_rfl) ?_ _
            clear hHeld hc2 hf2 hR3 hvn hvn2
            go_wp2
            go_roundw
            case rel => exact ⟨k + 1, _, _, _, _, _, _, by omega, by go_num, HST2.out⟩
            case measure => simp [intOf]; omega
          · refine step_bslice1 rfl 36 1 0 _ rfl (.pointer (some ⟨wc.heap.size + 2, 0, none⟩)) rfl _ (bslice36 _ _) ?_
            refine hK.out _ _ (World.rangeAt_alloc (HKP.out _ HBN.out) _) (fun hHeld => ?_)
            clear hK K
            refine wpAnyH_ready (rs := [4]) (by kernel_rfl) (by simp) ?_
            refine AllReadyH.cons rfl (fun K hK => ?_) AllReadyH.nil
            go_simp
            refine hK.out _ _ hHeld (fun hHeld => ?_)
            clear hK K
            refine wpAnyH_ready (rs := [12]) (by kernel_rfl) (by simp) ?_
            refine AllReadyH.cons rfl (fun K hK => ?_) AllReadyH.nil
            refine step_append_lies _ rfl (.tmp 68) (.tmp 75) 36 rfl (hb + 1) 51 i1 (.pointer none) 1 8 Ybaf.underlying36 e1 e2 e3 e4 rfl (by decide) v k (ptrs bs k) (by rfl) (HROWN.out wn HBN.out _) ⟨wn.heap.size, 0, none⟩ 1 1 [.pointer (some ⟨wc.heap.size + 2, 0, none⟩)] (by rfl) rfl (cells_new wn _ rfl [.pointer (some ⟨wc.heap.size + 2, 0, none⟩)] 51) (ptr_one _) (by decide) (by unfold maxLen; omega) (by omega) (by have := HBN.out.size; rw [World.size_alloc]; omega) _ rfl ?_
            intro g6 cp6 w2 hown6 hgrow6 _ _
            have hBN2 : Below wr.heap.size wr wn := HBC2.out.trans (HBN.out.mono hzc)
            have hN2 := HN1.out
            have hG2 := HG1.out
            rw [HX.out] at hN2 hG2
            have hzd : wc.drew.heap.size = wc.heap.size := rfl
            obtain ⟨hc2, hf2, hst2⟩ := HST.out.step (by omega) hBN2 (by omega) (by omega) hN2 hG2 hgrow6 hown6
            have HST2 := hide hst2
            have hR3 : w2.rangeAt wr.heap.size 0 (idC x) := fun p u hu => (hgrow6.cell_far ⟨wr.heap.size, 0 + p, none⟩ (by rw [World.size_alloc]; have := HBN.out.size; show wr.heap.size < _; omega) (fun e => absurd (HST.out.row.lt _ e.symm).2 (Nat.lt_irrefl _))).trans (World.rangeAt_alloc (HKP.out _ HBN.out) _ p u hu)
            have HR4 : Hid (∀ u, (w2.setCell ⟨hb, 1, none⟩ u).rangeAt wr.heap.size 0 (idC x)) := fun u p y hy => (World.cell?_setCell_far _ _ _ _ (by show hb ≠ wr.heap.size; omega)).trans (hR3 p y hy)
            clear hst2 hN2 hG2 hown6 hgrow6 hBN2
            refine hK.out _ _ hR3 (fun hHeld => ?_)
            clear hK K
            refine wpAnyH_take (i := 13) (oi := _) (v := ?_) rfl (by kernel_rfl) (by kernel_rfl) (by kernel_rfl) (fun _ _ _ h => h) (Or.inl ⟨by rfl, ?_⟩) (by assumption) ?_
            rotate_left
            · intro w hSw
              (try dsimp only at hSw)
              go_simp
              (try with_reducible rfl)
            (try simp only [List.getElem_toArray, List.getElem_cons_succ, List.getElem_cons_zero, Act.put, List.setIfInBounds_toArray, List.set_cons_zero, List.set_cons_succ])
            refine wpAnyH_take (i := 14) (oi := _) (v := ?_) rfl (by kernel_rfl) (by kernel_rfl) (by kernel_rfl) (fun _ _ _ h => h) (Or.inl ⟨by rfl, ?_⟩) (by assumption) ?_
            rotate_left
            · intro w hSw
              (try dsimp only at hSw)
              go_simp
              (try with_reducible rfl)
            (try simp only [List.getElem_toArray, List.getElem_cons_succ, List.getElem_cons_zero, Act.put, List.setIfInBounds_toArray, List.set_cons_zero, List.set_cons_succ])
            refine wpAnyH_ready (rs := [15]) (by kernel_rfl) (by simp) ?_
            refine AllReadyH.cons rfl (fun K hK => ?_) AllReadyH.nil
            go_simp
            refine hK.out _ _ (HR4.out _) (fun hHeld => ?_)
            clear hK K
            refine wpAnyH_done (by kernel_rfl) ?_ _
            clear hHeld hc2 hf2 hR3 hvn hvn2
            go_wp2
            go_roundw
            case rel => exact ⟨k + 1, _, _, _, _, _, _, by omega, by go_num, HST2.out⟩
            case measure => simp [intOf]; omega
    · have t1 : ¬ (k : Int) < (n : Int) := by omega
      have : k = n := by omega
      subst this
      obtain ⟨g, cp, rfl, hg1, hg2⟩ := HST.out.row.form (by omega)
      have hv : wr.cell? ⟨hb, 1, none⟩ = some (.slice (some ⟨g, 0, none⟩) k cp) := by simp only [World.cell?, HST.out.host]; rfl
      have HCELLS : Hid (∀ j, j < k → wr.cell? ⟨g, j, none⟩ = some (.pointer (some ⟨bs j, 0, none⟩))) := fun j hj => by
        rw [HST.out.row.cellAt j (by omega)]
        exact ptrs_get bs k j hj
      by_cases h1 : 1 < k
      · have t2 : (1 : Int) < (k : Int) := by omega
        have HCL := hide (clone11 k g cp bs wr hn16 HCELLS.out)
        have HFORM : Hid (∀ wx v', Below wr.heap.size wr wx → wx.ownsRow wr.heap.size 51 1 v' k (ptrs bs k) → Calls Ybaf.prog 10 #[v'] wx fun e w' => e = .returned (.tuple #[]) ∧ (∀ i, i < k → IsNode w' (bs i) 1) ∧ (∀ b, b < wr.heap.size → (∀ i, i < k → b ≠ bs i) → w'.heap[b]? = wr.heap[b]?) ∧ w'.os = wr.os ∧ w'.tape = wr.tape ∧ w'.output = wr.output ∧ wr.heap.size ≤ w'.heap.size) := fun wx v' hx ho => by
          rcases ho.2 with ⟨_, h0⟩ | ⟨mg, mcap, cur, hv', hmg, hcur, _, _, hsz, htake⟩
          · omega
          · subst hv'
            have hR : Ring wx k bs gs X st fi ru r hb := ⟨fun i hi => (hx.block _ (HST.out.ring.blt i hi)).trans (HST.out.ring.node i hi), fun i hi => (hx.block _ (HST.out.ring.glt i hi)).trans (HST.out.ring.succ i hi), HST.out.ring.injb, HST.out.ring.injx⟩
            refine (form10 k h1 hn16 bs gs X st fi ru r hb mg mcap cur wx hR hcur (fun j hj => ?_)).mono fun e w' ⟨he, hnd, hbl, ho1, ho2, ho3, hs⟩ => ⟨he, hnd, fun b hb' hne => ?_, ho1.trans hx.os, ho2.trans hx.tape, ho3.trans hx.output, Nat.le_trans hx.size hs⟩
            · have h2 := ho.cellAt (g := mg) j (by omega)
              rw [cell_of_row wx mg j cur 51 (0, 0) hcur] at h2
              rw [h2]
              exact ptrs_get bs k j hj
            · have := hx.size
              rw [hbl b (by omega) (by omega) hne]
              exact hx.block b hb'
        go_wp2_with (first
          | (go_at_call 11; refine HCL.out.mono ?_; rintro e wx ⟨v', rfl, ho, hx⟩)
          | (go_at_call 10; refine (HFORM.out wx v' hx ho).mono ?_; rintro e w2 ⟨rfl, hnd, hbl, ho1, ho2, ho3, hs2⟩))
        go_ret
        have hhn : ∀ i, i < k → hb ≠ bs i := fun i hi e => by have := (HST.out.lo i hi).1; omega
        have hgn : ∀ i, i < k → g ≠ bs i := fun i hi e => by
          have hnode := HST.out.ring.node i hi
          rcases HST.out.row.2 with ⟨hv2, _⟩ | ⟨g', cp', cur', hv2, _, hg', _⟩
          · simp at hv2
          · simp at hv2
            rw [← e, hv2.1, hg'] at hnode
            simp at hnode
        refine ⟨hb, g, cp, bs, rfl, ?_, fun j hj => ?_, fun j hj => ?_, ?_⟩
        · rw [World.cell?_of_block (w := wr) (a := ⟨hb, 1, none⟩) (hbl hb hroom hhn)]
          exact hv
        · rw [World.cell?_of_block (w := wr) (a := ⟨g, j, none⟩) (hbl g hg2 hgn)]
          exact HCELLS.out j hj
        · rw [if_pos h1]
          exact hnd j hj
        · have hbw := HBW.out
          refine ⟨ho1.trans hbw.os, ho2.trans hbw.tape, ho3.trans hbw.output, Nat.le_trans hbw.size hs2, fun b hb' => ?_⟩
          have := HHB.out
          have := hbw.size
          rw [hbl b (by omega) (fun i hi e => by have := (HST.out.lo i hi).1; omega)]
          exact hbw.block b hb'
      · have t2 : ¬ (1 : Int) < (k : Int) := by omega
        go_wp2
        go_ret
        refine ⟨hb, g, cp, bs, rfl, hv, HCELLS.out, fun j hj => ?_, HBW.out⟩
        rw [if_neg h1]
        exact isNode_of (HST.out.ring.node j hj)
end Go.Proofs.YbulkkiqFmt
