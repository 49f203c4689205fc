-- MINE
import Derived.Test.YbulkkiqFmtSet
namespace Go.Proofs.YbulkkiqFmt
open Go.RowKit Go.MuLone Go.Shelf Go.Sort
open Go.Extern.Stop (cell)
set_option maxRecDepth 100000
set_option linter.unusedSimpArgs false
set_option linter.unusedVariables false

theorem cmpB_lt (x y : UInt8) : decide (cmpB x y < 0) = decide (x < y) := by
  unfold cmpB
  by_cases h : x = y
  · subst h
    simp
  · by_cases h2 : x < y
    · simp [h, h2]
    · simp [h, h2]

theorem swoB {α : Type} (f : α → UInt8) : SWO (ltOf (fun i j : α => cmpB (f i) (f j))) where
  irrefl x := by simp only [ltOf, cmpB_lt]; simp
  trans x y z h1 h2 := by
    simp only [ltOf, cmpB_lt, decide_eq_true_eq, UInt8.lt_iff_toNat_lt] at *
    omega
  ntrans x y z h1 h2 := by
    simp only [ltOf, cmpB_lt, decide_eq_false_iff_not, UInt8.lt_iff_toNat_lt] at *
    omega

theorem heap_sortWorld {α : Type} [Inhabited α] (enc : α → Value) (w : World) (blk off m : Nat) (dk : Array α) (os : Array Obj) (k : Nat) (hk : k < w.heap.size) (hne : k ≠ blk) : (sortWorld enc w blk off m dk os).heap[k]? = w.heap[k]? := by
  unfold sortWorld
  rw [heap_grow_old _ _ (by simpa using hk)]
  simp only [putRow, mapBlock, Array.getElem?_modify, heap_ahead]
  rw [if_neg (fun e => hne e.symm)]

set_option maxHeartbeats 1600000 in
theorem sort15 (n : Nat) (hn : 0 < n) (hn16 : n ≤ 16) (bs : Nat → Nat) (xs : Nat → UInt8) (mg cap : Nat) (cur : Array Value) (w : World) (hM : w.heap[mg]? = some (.cells cur 51 (0, 0))) (hc : ∀ j, j < n → cur[j]? = some (.pointer (some ⟨bs j, 0, none⟩)))
    (hne : ∀ j, j < n → bs j ≠ mg) (hr : ∀ j, j < n → w.rangeAt (bs j) 0 (peerC (xs j))) :
    Calls Ybaf.prog 15 #[.slice (some ⟨mg, 0, none⟩) n cap, .func (.func 16) #[] #[]] w fun e w' => e = .returned (.tuple #[]) ∧
      ∃ σ : Nat → Nat, (∀ j, j < n → σ j < n) ∧ (∀ i j, i < n → j < n → σ i = σ j → i = j) ∧ (∀ i, i < n → ∃ j, j < n ∧ σ j = i) ∧
        (∀ j, j < n → w'.cell? ⟨mg, j, none⟩ = some (.pointer (some ⟨bs (σ j), 0, none⟩))) ∧ w.grownBy w' (some mg) := by
  haveI : Inhabited (Fin n) := ⟨⟨0, hn⟩⟩
  have hmg : mg < w.heap.size := (Array.getElem?_eq_some_iff.1 hM).1
  let enc : Fin n → Value := fun i => .pointer (some ⟨bs i.val, 0, none⟩)
  let d : Array (Fin n) := Array.ofFn (fun i : Fin n => i)
  have hds : d.size = n := by simp [d]
  have hdg : ∀ j (hj : j < n), d[j]! = ⟨j, hj⟩ := fun j hj => by
    rw [getElem!_pos d j (by rw [hds]; exact hj)]
    simp [d]
  have hH : Holds enc w mg 0 d := fun j hj => by
    rw [hds] at hj
    rw [hdg j hj]
    exact ⟨by simp only [World.cell?, hM, Nat.zero_add]; exact hc j hj, by simp [World.frozen?, hM]⟩
  have hblt : ∀ j, j < n → bs j < w.heap.size := fun j hj => World.block_lt_of_cell? w _ (hr j hj 0 (cell 0) rfl)
  have hcmp : CmpReads Ybaf.prog 16 #[] enc (fun i j : Fin n => cmpB (xs i.val) (xs j.val)) mg 0 d.size w := fun m os dk hs i j => by
    have hrw : ∀ i : Fin n, (sortWorld enc w mg 0 m dk os).rangeAt (bs i.val) 0 ((bytesL (xs i.val)).map cell) := fun i p v hv => by
      rw [World.cell?_of_block (w := w) (heap_sortWorld enc w mg 0 m dk os _ (hblt i.val i.isLt) (hne i.val i.isLt))]
      exact id_bytes (peer_id (hr i.val i.isLt)) p v hv
    exact closure16 (bs i.val) (bs j.val) (xs i.val) (xs j.val) _ (hrw i) (hrw j)
  have hcon := Any.slices_SortFunc Ybaf.sortN enc (fun _ => rfl) (fun i j : Fin n => cmpB (xs i.val) (xs j.val)) (swoB fun i : Fin n => xs i.val) 16 #[] mg 0 cap d w (enters_of Ybaf.func16 (by kernel_rfl) rfl) hcmp.lays hH hmg (by omega)
  change Calls Ybaf.prog 15 _ _ _ at hcon
  rw [hds] at hcon
  refine hcon.mono fun e w' ⟨he, d', nn, os, hp, _, hw⟩ => ⟨he, ?_⟩
  obtain ⟨hps, _, hperm⟩ := hp
  rw [hds] at hps
  have hde : d.extract 0 n = d := by
    apply Array.extract_eq_self_of_le
    omega
  have hde' : d'.extract 0 n = d' := by
    apply Array.extract_eq_self_of_le
    omega
  rw [hde, hde'] at hperm
  have hdn : d.toList.Nodup := by
    rw [List.nodup_iff_pairwise_ne, List.pairwise_iff_getElem]
    intro i j hi hj hij
    simp [d]
    omega
  have hdn' : d'.toList.Nodup := hperm.nodup_iff.2 hdn
  have hget : ∀ j (hj : j < n), d'[j]! = d'.toList[j]'(by simpa [hps] using hj) := fun j hj => by
    rw [getElem!_pos d' j (by omega)]
    simp
  refine ⟨fun j => (d'[j]!).val, fun j hj => (d'[j]!).isLt, fun i j hi hj e => ?_, fun i hi => ?_, fun j hj => ?_, ?_⟩
  · have e' : d'[i]! = d'[j]! := Fin.ext e
    rw [hget i hi, hget j hj] at e'
    rw [List.nodup_iff_pairwise_ne, List.pairwise_iff_getElem] at hdn'
    rcases Nat.lt_trichotomy i j with h | h | h
    · exact absurd e' (hdn' i j _ _ h)
    · exact h
    · exact absurd e'.symm (hdn' j i _ _ h)
  · have hm : (⟨i, hi⟩ : Fin n) ∈ d'.toList := hperm.mem_iff.2 (by simp [d])
    obtain ⟨j, hj, e⟩ := List.getElem_of_mem hm
    have hj' : j < n := by simpa [hps] using hj
    refine ⟨j, hj', ?_⟩
    show (d'[j]!).val = i
    rw [hget j hj', e]
  · rw [hw]
    unfold sortWorld
    rw [cell?_grow _ _ _ (by simpa using hmg)]
    have := cell?_putRow enc (Sort.ahead w nn) mg 0 d d' (holds_ahead _ _ _ _ _ _ hH) (by omega) j (by omega)
    rw [Nat.zero_add] at this
    exact this
  · rw [hw]
    refine ⟨rfl, rfl, rfl, ?_, fun k hk hne' => heap_sortWorld enc w mg 0 nn d' os k hk (fun e => hne' (by rw [e]))⟩
    unfold sortWorld
    simp

end Go.Proofs.YbulkkiqFmt
