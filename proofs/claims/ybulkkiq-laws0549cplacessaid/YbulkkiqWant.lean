import Derived.Test.YbulkkiqFirst
import Derived.OwnWalk
namespace Go.Proofs.Ybulkkiq
open Go.RowKit

theorem Yba.info9 : (Yba.prog.info? 9).map (fun i => (i.zero, i.size, i.bytes)) = some (some (.string ByteArray.empty), 1, 16) := by kernel_rfl

/-- The values paired with key k among the first n pairs, in order. -/
def wantL (ks vs : List ByteArray) (n : Nat) (k : ByteArray) : List ByteArray :=
  ((List.range n).filter fun j => (ks.getD j ByteArray.empty).toList == k.toList).map fun j => vs.getD j ByteArray.empty

theorem wantL_succ_yes (ks vs : List ByteArray) (n : Nat) (k : ByteArray) (h : ((ks.getD n ByteArray.empty).toList == k.toList) = true) : wantL ks vs (n + 1) k = wantL ks vs n k ++ [vs.getD n ByteArray.empty] := by
  unfold wantL
  rw [List.range_succ, List.filter_append, List.map_append, List.filter_cons_of_pos (by exact h)]
  rfl
theorem wantL_succ_no (ks vs : List ByteArray) (n : Nat) (k : ByteArray) (h : ((ks.getD n ByteArray.empty).toList == k.toList) = false) : wantL ks vs (n + 1) k = wantL ks vs n k := by
  unfold wantL
  rw [List.range_succ, List.filter_append, List.map_append, List.filter_cons_of_neg (by rw [h]; simp)]
  simp
theorem wantL_le (ks vs : List ByteArray) (n : Nat) (k : ByteArray) : (wantL ks vs n k).length ≤ n := by
  unfold wantL
  rw [List.length_map]
  exact Nat.le_trans (List.length_filter_le _ _) (by simp)

theorem str_oneCell (s : ByteArray) : ∀ u ∈ [Value.string s], u.oneCell' = true := by
  intro u hu
  simp at hu
  subst hu
  rfl

set_option maxRecDepth 100000 in
set_option maxHeartbeats 400000 in
theorem want_any (b off len cap b' off' len' cap' n : Nat) (ks vs : List ByteArray) (k : ByteArray) (w : World) (hn : n ≤ len) (hn' : n ≤ len') (hl : len ≤ ks.length) (hl' : len' ≤ vs.length) (hm : n ≤ 1024)
    (hc : ∀ j, j < ks.length → w.cell? ⟨b, off + j, none⟩ = some (.string (ks.getD j ByteArray.empty)))
    (hc' : ∀ j, j < vs.length → w.cell? ⟨b', off' + j, none⟩ = some (.string (vs.getD j ByteArray.empty)))
    (hb : b < w.heap.size) (hb' : b' < w.heap.size) :
    Calls Yba.prog 15 #[.slice (some ⟨b, off, none⟩) len cap, .slice (some ⟨b', off', none⟩) len' cap', .int .i64 n, .string k] w fun e w' =>
      ∃ v, e = .returned v ∧ w'.ownsRow w.heap.size 9 1 v (wantL ks vs n k).length ((wantL ks vs n k).map Value.string) ∧ Below w.heap.size w w' := by
  obtain ⟨i0, hi, hz0, hz1, hz2⟩ := info_parts Yba.info9
  go_enter Yba.func15, Yba.ntmps15
  go_wp2
  go_loopw [9, 10] (fun v i wr => ∃ j : Nat, j ≤ n ∧ i = .int .i64 j ∧ wr.ownsRow w.heap.size 9 1 v (wantL ks vs j k).length ((wantL ks vs j k).map Value.string) ∧ Below w.heap.size w wr) (fun _ i _ => n - (intOf i).toNat)
  case atStart => exact ⟨0, Nat.zero_le _, rfl, World.ownsRow_nil _ _ _ _, Below.refl _ _⟩
  case round =>
    obtain ⟨j, hj, rfl, hown, hnx⟩ := hrel
    by_cases hlt : j < n
    · have hcj := (hnx.cell (p := ⟨b, off + j, none⟩) hb).trans (hc j (by omega))
      have hcj' := (hnx.cell (p := ⟨b', off' + j, none⟩) hb').trans (hc' j (by omega))
      have hjl : (j : Int) < (len : Int) := by omega
      have hjl' : (j : Int) < (len' : Int) := by omega
      have hle := wantL_le ks vs j k
      have hsz := hnx.size
      obtain ⟨x, hx⟩ : ∃ x, x = ks.getD j ByteArray.empty := ⟨_, rfl⟩
      obtain ⟨y, hy⟩ : ∃ y, y = vs.getD j ByteArray.empty := ⟨_, rfl⟩
      rw [← hx] at hcj
      rw [← hy] at hcj'
      have HX : Hid (x = ks.getD j ByteArray.empty) := hx
      have HY : Hid (y = vs.getD j ByteArray.empty) := hy
      clear hx hy
      go_wp2_with (at_builtin; refine wpList_append_own _ rfl _ _ 71 rfl w.heap.size 9 i0 (.string ByteArray.empty) 1 16 Yba.underlying71 hi hz0 hz1 hz2 rfl (by decide) _ _ _ rfl (hown.alloc _) ⟨wr.heap.size, 0, none⟩ 1 1 [.string y] rfl rfl (cell_one_new _ _ _) (str_oneCell y) (by unfold maxLen; omega) (by omega) (by simp; omega) ?_; intro v' w1 hown' hgrow _)
      · have hxk : (x.toList == k.toList) = true := by assumption
        rw [HX.out] at hxk
        have e1 := wantL_succ_yes ks vs j k hxk
        rw [← HY.out] at e1
        have hg2 := (World.grownBy_alloc wr (.cells #[.string y] 9) _).trans hgrow
        have hb1 := hnx.grown hg2 hsz (fun i hi => (hown.lt i hi).1)
        go_roundw
        case rel =>
          refine ⟨j + 1, by omega, by go_num, ?_, hb1⟩
          rw [e1, List.length_append, List.map_append]
          exact hown'
        case measure => simp [intOf]; omega
      · have hxk : (x.toList == k.toList) = false := by assumption
        rw [HX.out] at hxk
        have e1 := wantL_succ_no ks vs j k hxk
        go_roundw
        case rel => exact ⟨j + 1, by omega, by go_num, by rw [e1]; exact hown, hnx⟩
        case measure => simp [intOf]; omega
    · go_wp2
      have : j = n := by omega
      subst this
      go_ret
      exact ⟨_, rfl, hown, hnx⟩

end Go.Proofs.Ybulkkiq
