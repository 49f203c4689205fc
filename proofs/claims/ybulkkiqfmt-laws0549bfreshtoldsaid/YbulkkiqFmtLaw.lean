-- MINE
import Derived.Test.YbulkkiqFmtPlaces
namespace Go.Proofs.YbulkkiqFmt
open Go.RowKit Go.MuLone
open Go.Extern.Stop (cell)
set_option maxRecDepth 100000
set_option linter.unusedSimpArgs false
set_option linter.unusedVariables false

/-- The cells of the first j identifiers. -/
def rowI (j : Nat) : List Value := (List.range j).flatMap fun i => idC (X i)
theorem rowI_succ (j : Nat) : rowI (j + 1) = rowI j ++ idC (X j) := by simp [rowI, List.range_succ]
theorem rowI_len : ∀ j, (rowI j).length = j * 21
  | 0 => rfl
  | j + 1 => by rw [rowI_succ, List.length_append, rowI_len j, idC_len]; omega
theorem rowI_get : ∀ j i p, i < j → p < 21 → (rowI j)[i * 21 + p]? = (idC (X i))[p]?
  | 0, i, p, h, _ => by omega
  | j + 1, i, p, h, hp => by
    rw [rowI_succ]
    by_cases e : i = j
    · subst e
      rw [List.getElem?_append_right (by rw [rowI_len]; omega), rowI_len]
      congr 1
      omega
    · rw [List.getElem?_append_left (by rw [rowI_len]; omega)]
      exact rowI_get j i p (by omega) hp
theorem wrap7 (j : Nat) (h : j < 16) : IntKind.u8.wrap ((j : Int) * 7) = ((X j).toNat : Int) := by
  rw [X_toNat j h]
  simp [IntKind.wrap, IntKind.bits, IntKind.signed]
  omega

set_option maxHeartbeats 12800000 in
theorem law3 (k r : Int) (hk0 : 0 ≤ k) (hk1 : k < 256) (hr0 : 0 ≤ r) (hr1 : r < 256) (w : World) :
    Calls Ybaf.prog 3 #[.int .u8 k, .int .u8 r] w fun e w' => e = .returned (.bool true) ∧ Below w.heap.size w w' := by
  obtain ⟨n, hn⟩ : ∃ n : Nat, (n : Int) = k % 16 + 1 := ⟨(k % 16 + 1).toNat, by omega⟩
  have hn1 : 1 ≤ n := by omega
  have hn16 : n ≤ 16 := by omega
  obtain ⟨rr, hrr⟩ : ∃ rr : Int, rr = r % 4 + 1 := ⟨_, rfl⟩
  have hrr1 : 1 ≤ rr := by omega
  have hkn : k % 16 + 1 = (n : Int) := hn.symm
  have hrn : r % 4 + 1 = rr := hrr.symm
  have HRR := hide hrr
  have HN := hide hn
  clear hn hrr
  go_enter Ybaf.func3, Ybaf.ntmps3
  go_upto_region 3 with fail
  clear hkn hrn
  obtain ⟨i0, z0, hi, hz0, hz1, hz2, hzc⟩ := parts25
  go_upto_region 4 with (at_make; refine wpList_make_own _ rfl _ _ 22 rfl w.heap.size 25 i0 _ 21 Ybaf.underlying22 hi hz0 hz1 .i64 .i64 _ n rfl rfl rfl (by rw [hz2]; omega) (by unfold maxLen; omega) (by omega) ?_; intro w1 hown1 hgrow1)
  have hb1 : Below w.heap.size w w1 := (Below.refl _ _).grown hgrow1 (Nat.le_refl _) (fun j hj => by cases hj)
  have HB1 := hide hb1
  have HOWN1 := hide hown1
  clear hb1 hown1 hgrow1
  go_wp2
  go_loopw [7, 8] (fun s i wr => ∃ j : Nat, j ≤ n ∧ i = .int .i64 j ∧ s = .slice (some ⟨w.heap.size, 0, none⟩) j n ∧ wr.ownsRow w.heap.size 25 21 (.slice (some ⟨w.heap.size, 0, none⟩) j n) j (rowI j) ∧ Below w.heap.size w wr ∧ w.heap.size < wr.heap.size) (fun _ i _ => n - (intOf i).toNat)
  case atStart => exact ⟨0, Nat.zero_le _, rfl, rfl, HOWN1.out, HB1.out, (HOWN1.out.lt w.heap.size rfl).2⟩
  case round =>
    obtain ⟨j, hj, rfl, rfl, hown, hbel, hsz⟩ := hrel
    have HOWN := hide hown
    have HBEL := hide hbel
    clear hown hbel
    by_cases hlt : j < n
    · have t1 : (j : Int) < (n : Int) := by omega
      have hw7 := wrap7 j (by omega)
      go_upto_region 10 with fail
      change Code.wp _ _ _ _ (wr.alloc (.cells (idC (X j)).toArray 25))
      obtain ⟨x, hx⟩ : ∃ x, x = X j := ⟨_, rfl⟩
      have HX := hide hx
      rw [← hx]
      clear hx hw7
      have HNEW := hide (range_new wr (idC x) 25)
      have HI25 := hide (show (Ybaf.prog.info? 25).map (·.size) = some (idC x).length by rw [info25, idC_len])
      go_wp2_with (first
        | (refine wpList_load_mid rfl 25 _ rfl wr.heap.size 0 rfl (idC x) _ HNEW.out Ybaf.underlying25 rfl HI25.out ?_)
        | (refine wpList_bslice1 rfl 22 1 0 _ rfl (.agg (idC x).toArray) rfl _ (bslice22 (idC x) (idC_len x) _) ?_)
        | (at_builtin; refine wpList_append_fits _ rfl _ _ 22 rfl w.heap.size 25 i0 21 Ybaf.underlying22 hi hz1 w.heap.size j n _ rfl ((HOWN.out.alloc (.cells (idC x).toArray 25)).alloc _) ⟨(wr.alloc (.cells (idC x).toArray 25)).heap.size, 0, none⟩ 1 1 (idC x) rfl (by rw [idC_len]) (cells_new (wr.alloc (.cells (idC x).toArray 25)) _ rfl (idC x) 25) (idC_one x) (by omega) ?_; intro w3 hown3 hgrow3))
      have hb3 : Below w.heap.size w w3 := ((HBEL.out.alloc (by omega) (.cells (idC x).toArray 25)).alloc (by simp; omega) _).grown hgrow3 (by simp; omega) (fun q hq => by
        have : w.heap.size = q := by simpa [Value.ownBlock] using hq
        omega)
      have hs3 : w.heap.size < w3.heap.size := by have := hgrow3.size; simp at this; omega
      have HOW3 : Hid (w3.ownsRow w.heap.size 25 21 (.slice (some ⟨w.heap.size, 0, none⟩) (j + 1) n) (j + 1) (rowI (j + 1))) := by
        rw [rowI_succ, ← HX.out]
        exact hown3
      have HB3 := hide hb3
      clear hown3 hgrow3 hb3
      go_wp2
      go_roundw
      case rel => exact ⟨j + 1, by omega, by go_num, rfl, HOW3.out, HB3.out, hs3⟩
      case measure => simp [intOf]; omega
    · have t1 : ¬ (j : Int) < (n : Int) := by omega
      have : j = n := by omega
      subst this
      have HHOST := hide (host4 j hn1 hn16 w.heap.size j rr hrr1 wr hsz (Nat.le_refl _) (fun i hi' p v hv => by
        have hp : p < 21 := by have := (List.getElem?_eq_some_iff.1 hv).1; rw [idC_len] at this; exact this
        rw [HOWN.out.cellAt (i * 21 + p) (by omega), rowI_get j i p hi' hp]
        exact hv))
      go_upto_region 12 with (go_at_call 4; refine HHOST.out.mono ?_; rintro e wh ⟨hb, g, cap, bs, rfl, hv, hcs, hnd, hbh⟩)
      have hbw : Below w.heap.size w wh := HBEL.out.trans (hbh.mono HBEL.out.size)
      have hlen : ((List.range j).map bs).length = j := by simp
      have hbget : ∀ i, i < j → ((List.range j).map bs).getD i 0 = bs i := fun i hi' => by simp [List.getD, hi']
      have hzget : ∀ (c : Int) i, i < j → (List.replicate j c).getD i 0 = c := fun c i hi' => by
        rw [List.getD, List.getElem?_replicate, if_pos hi']
        rfl
      have HBW := hide hbw
      by_cases h1 : 1 < j
      · have t2 : (1 : Int) < (j : Int) := by omega
        have hwr : IntKind.u64.wrap (j : Int) = (j : Int) := by
          simp [IntKind.wrap, IntKind.bits, IntKind.signed]
          omega
        have HPC := hide (host_pc hb j cap (some ⟨g, 0, none⟩) g ((List.range j).map bs) (List.replicate j 1) wh (by omega) hv (fun _ => rfl) (fun i hi' => by rw [hbget i hi']; exact hcs i hi') (fun i hi' => by
          rw [hbget i hi', hzget 1 i hi']
          have := hnd i hi'
          rwa [if_pos h1] at this))
        rw [sum_const 1 (by omega) (by omega) j hn16 j (Nat.le_refl _), Int.one_mul] at HPC
        clear hv hcs hnd hbh hbw hlen hbget hzget HHOST
        go_wp2_with (go_at_call 5; refine HPC.out.mono ?_; rintro e wz ⟨rfl, rfl⟩)
        go_ret
        exact ⟨by simp, HBW.out⟩
      · have t2 : ¬ (1 : Int) < (j : Int) := by omega
        have HPC := hide (host_pc hb j cap (some ⟨g, 0, none⟩) g ((List.range j).map bs) (List.replicate j 0) wh (by omega) hv (fun _ => rfl) (fun i hi' => by rw [hbget i hi']; exact hcs i hi') (fun i hi' => by
          rw [hbget i hi', hzget 0 i hi']
          have := hnd i hi'
          rwa [if_neg h1] at this))
        rw [sum_const 0 (by omega) (by omega) j hn16 j (Nat.le_refl _), Int.zero_mul] at HPC
        clear hv hcs hnd hbh hbw hlen hbget hzget HHOST
        go_wp2_with (go_at_call 5; refine HPC.out.mono ?_; rintro e wz ⟨rfl, rfl⟩)
        go_ret
        exact ⟨rfl, HBW.out⟩
end Go.Proofs.YbulkkiqFmt
