import Derived.Test.YbulkkkgTile
namespace Go.Proofs.Ybulkkkg
open Go.RowKit

/-- How long the first j pieces are together. -/
def tot (bs : Nat → List Int) : Nat → Nat
  | 0 => 0
  | j + 1 => tot bs j + (bs j).length
/-- The first j pieces, laid end to end. -/
def cat (bs : Nat → List Int) : Nat → List Int
  | 0 => []
  | j + 1 => cat bs j ++ bs j
theorem cat_len (bs : Nat → List Int) : ∀ j, (cat bs j).length = tot bs j
  | 0 => rfl
  | j + 1 => by rw [cat, List.length_append, cat_len bs j]; rfl
theorem tot_mono (bs : Nat → List Int) (i : Nat) : ∀ j, i ≤ j → tot bs i ≤ tot bs j
  | 0, h => by
    have : i = 0 := by omega
    subst this
    exact Nat.le_refl _
  | j + 1, h => by
    by_cases e : i = j + 1
    · subst e; exact Nat.le_refl _
    · exact Nat.le_trans (tot_mono bs i j (by omega)) (Nat.le_add_right _ _)
theorem cat_part (bs : Nat → List Int) (i : Nat) : ∀ n, i < n → ((cat bs n).drop (tot bs i)).take (tot bs (i + 1) - tot bs i) = bs i
  | 0, h => by omega
  | n + 1, h => by
    have e : tot bs (i + 1) - tot bs i = (bs i).length := by show tot bs i + (bs i).length - tot bs i = _; omega
    by_cases hn : i = n
    · subst hn
      rw [cat, List.drop_append_of_le_length (by rw [cat_len]; exact Nat.le_refl _), List.drop_of_length_le (by rw [cat_len]; exact Nat.le_refl _), e]
      simp
    · have ih := cat_part bs i n (by omega)
      have hm := tot_mono bs (i + 1) n (by omega)
      have e2 : tot bs i + (bs i).length ≤ tot bs n := hm
      rw [cat, List.drop_append_of_le_length (by rw [cat_len]; omega), List.take_append_of_le_length (by rw [List.length_drop, cat_len]; omega)]
      exact ih
theorem tot_le (bs : Nat → List Int) (n : Nat) (h : ∀ r, r < n → (bs r).length ≤ 1024) : ∀ j, j ≤ n → tot bs j ≤ j * 1024
  | 0, _ => Nat.le_refl _
  | j + 1, hj => by
    have := tot_le bs n h j (by omega)
    have := h j (by omega)
    show tot bs j + (bs j).length ≤ _
    omega

theorem piece_below {w w' : World} {v : Value} {xs : List Int} {B : Nat} (h : Piece w v xs) (hb : Below B w w') (hB : w.heap.size ≤ B) : Piece w' v xs := by
  obtain ⟨ad, c, hv, hn, hc⟩ := h
  refine ⟨ad, c, hv, hn, fun h0 => ?_⟩
  obtain ⟨b, o, e, hlt, hcell⟩ := hc h0
  exact ⟨b, o, e, Nat.lt_of_lt_of_le hlt hb.size, fun j hj => (hb.cell (p := ⟨b, o + j, none⟩) (by show b < B; omega)).trans (hcell j hj)⟩

/-- A piece's cells, behind what was done to another row. -/
theorem src_kept {w wr w3 : World} {ad : Option Addr} {xs : List Int} {o : Obj} {g : Nat} (hc : 0 < xs.length → ∃ b o, ad = some ⟨b, o, none⟩ ∧ b < w.heap.size ∧ ∀ j, j < xs.length → w.cell? ⟨b, o + j, none⟩ = some (.int .u8 (xs.getD j 0)))
    (hnx : Below w.heap.size w wr) (hg : (wr.alloc o).grownBy w3 (some g)) (hgw : w.heap.size < g) : ∀ x, ad = some x → ∀ i u, (xs.map (Value.int .u8))[i]? = some u → w3.cell? (x.add i) = some u := by
  intro x hx i u hu
  have hi : i < xs.length := by
    have := (List.getElem?_eq_some_iff.1 hu).1
    simpa using this
  obtain ⟨b, o', e, hlt, hcell⟩ := hc (by omega)
  rw [hx] at e
  cases e
  have hadd : (⟨b, o', none⟩ : Addr).add i = ⟨b, o' + i, none⟩ := by unfold Addr.add; split <;> simp_all
  have hsz := hnx.size
  have hblk : w3.heap[b]? = w.heap[b]? := by
    rw [hg.block b (by simp; omega) (by simp; omega), Below.heap_alloc _ _ _ (by omega), hnx.block b hlt]
  rw [hadd, World.cell?_of_block (a := ⟨b, o' + i, none⟩) hblk, hcell i hi, ← hu, List.getElem?_map, List.getElem?_eq_getElem hi, List.getD_eq_getElem?_getD, List.getElem?_eq_getElem hi]
  rfl

set_option maxRecDepth 100000 in
set_option maxHeartbeats 1000000 in
theorem pieces_any (a : Option Addr) (b off n cap : Nat) (V : Nat → Value) (bs : Nat → List Int) (w : World) (hn : n ≤ 256) (ha : 0 < n → a = some ⟨b, off, none⟩) (hb : 0 < n → b < w.heap.size)
    (hc : ∀ r, r < n → w.cell? ⟨b, off + r, none⟩ = some (V r)) (hp : ∀ r, r < n → Piece w (V r) (bs r)) :
    Calls Yba.prog 3 #[.slice a n cap] w fun e w' => e = .returned (.bool true) ∧ Below w.heap.size w w' := by
  obtain ⟨i0, hi, hz0, hz1, hz2⟩ := info_parts Yba.info26
  obtain ⟨i5, hi5, hz50, hz51, hz52⟩ := info_parts Yba.info5
  have HC := hide hc
  have HP := hide hp
  have HA := hide ha
  have HB := hide hb
  have hd1 : decide ((256 : Int) < (n : Int)) = false := by simp; omega
  clear hc hp ha hb
  go_enter Yba.func3, Yba.ntmps3
  go_upto_region 5 with fail
  go_loop [3, 18] (fun s i => ∃ j : Nat, j ≤ n ∧ i = .int .i64 j ∧ s = .int .i64 (tot bs j) ∧ ∀ r, r < j → (bs r).length ≤ 1024) (fun _ i => n - (intOf i).toNat)
  case atStart => exact ⟨0, Nat.zero_le _, rfl, rfl, fun r hr => by omega⟩
  case round =>
    obtain ⟨j, hj, rfl, rfl, hsm⟩ := hrel
    by_cases hlt : j < n
    · have e1 := HA.out (by omega)
      subst e1
      have hcj := HC.out j hlt
      obtain ⟨ad, c, hv, _, _⟩ := HP.out j hlt
      rw [hv] at hcj
      have htl := tot_le bs j hsm j (Nat.le_refl _)
      have HV := hide hv
      have HSM := hide hsm
      clear hv hsm
      by_cases hbig : (1024 : Int) < ((bs j).length : Int)
      · go_wp2
        go_ret
        exact ⟨rfl, Below.refl _ _⟩
      · go_wp2
        go_round
        case rel =>
          refine ⟨j + 1, by omega, by go_num, ?_, fun r hr => ?_⟩
          · show _ = Value.int .i64 ((tot bs j + (bs j).length : Nat) : Int)
            go_num
          · by_cases e : r = j
            · subst e; omega
            · exact HSM.out r (by omega)
        case measure => simp [intOf]; omega
    · have hjn : j = n := by omega
      subst hjn
      have htl := tot_le bs j hsm j (Nat.le_refl _)
      have HSM := hide hsm
      clear hsm
      go_upto_region 14 with (first
        | (at_make; refine wpList_make_own _ rfl _ _ 23 rfl w.heap.size 5 i5 _ 1 Yba.underlying23 hi5 hz50 hz51 .i64 .i64 _ (tot bs j) rfl rfl rfl (by rw [hz52]; omega) (by unfold maxLen; omega) (by simp) ?_; intro w1 hown1 hgrow1)
        | (at_make; refine wpList_make_own _ rfl _ _ 24 rfl (w.heap.size + 1) 26 i0 _ 5 Yba.underlying24 hi hz0 hz1 .i64 .i64 _ j rfl rfl rfl (by rw [hz2]; omega) (by unfold maxLen; omega) ?hb ?_; rotate_right; intro w2 hown2 hgrow2))
      case hb => exact (hown1.lt w.heap.size rfl).2
      have hb1 : Below w.heap.size w w1 := (Below.refl _ _).grown hgrow1 (Nat.le_refl _) (fun k hk => by cases hk)
      have hb2 : Below w.heap.size w w2 := hb1.grown hgrow2 hb1.size (fun k hk => by cases hk)
      have hdr2 := hown1.kept hgrow2 (by simp [Value.ownBlock])
      have hwe : w.heap.size < w1.heap.size := (hown1.lt w.heap.size rfl).2
      have hes : w1.heap.size < w2.heap.size := (hown2.lt w1.heap.size rfl).2
      obtain ⟨eb, heb⟩ : ∃ eb, eb = w1.heap.size := ⟨_, rfl⟩
      rw [← heb] at hwe hes hown2 ⊢
      have HO1 := hide hdr2
      have HO2 := hide hown2
      have HB2 := hide hb2
      clear heb hown1 hgrow1 hown2 hgrow2 hb1 hb2 hdr2
      go_loopw [6, 7, 37] (fun d e i wx => ∃ k : Nat, k ≤ j ∧ i = .int .i64 k ∧ d = .slice (some ⟨w.heap.size, 0, none⟩) (tot bs k) (tot bs j) ∧ e = .slice (some ⟨eb, 0, none⟩) k j ∧
          wx.ownsRow w.heap.size 5 1 (.slice (some ⟨w.heap.size, 0, none⟩) (tot bs k) (tot bs j)) (tot bs k) ((cat bs k).map (Value.int .u8)) ∧
          wx.ownsRow (w.heap.size + 1) 26 5 (.slice (some ⟨eb, 0, none⟩) k j) k (flat (tot bs) k) ∧ Below w.heap.size w wx) (fun _ _ i _ => j - (intOf i).toNat)
      case atStart => exact ⟨0, Nat.zero_le _, rfl, rfl, rfl, HO1.out, HO2.out, HB2.out⟩
      case round =>
        obtain ⟨k, hk, rfl, rfl, rfl, hd, he, hnx⟩ := hrel
        by_cases hlt : k < j
        · have e1 := HA.out (by omega)
          subst e1
          have hcj := (hnx.cell (p := ⟨b, off + k, none⟩) (HB.out (by omega))).trans (HC.out k hlt)
          obtain ⟨ad, c, hv, hnone, hcell⟩ := HP.out k hlt
          rw [hv] at hcj
          have hlk := HSM.out k hlt
          have htk : tot bs k ≤ tot bs j := tot_mono bs k j (by omega)
          have htk1 : tot bs k + (bs k).length ≤ tot bs j := tot_mono bs (k + 1) j (by omega)
          have hszx := hnx.size
          have hebx : eb < wr.heap.size := (he.lt eb rfl).2
          have HCL := hide (cat_len bs k)
          have HD := hide hd
          have HE := hide he
          have HNX := hide hnx
          have HV := hide hv
          have HCELL := hide hcell
          clear hv hd he hnx hcell
          go_wp2_with (first
            | (at_builtin; refine wpList_append_fits _ rfl (.tmp 41) (.tmp 45) 24 rfl (w.heap.size + 1) 26 i0 5 Yba.underlying24 hi hz1 eb k j _ rfl (HE.out.alloc _) ⟨wr.heap.size, 0, none⟩ 1 1 (ent _) rfl rfl (ent_new _ _ _) (ent_one _) (by omega) ?_; intro w3 he3 hgrow3; have hd3 := (HD.out.alloc (.cells #[.int .i64 (tot bs k), .int .i64 0, .int .i64 0, .bool false, .bool false] 26)).kept hgrow3 (by simp [Value.ownBlock]; omega); have hsrc3 := src_kept HCELL.out HNX.out hgrow3 hwe)
            | (at_builtin; refine wpList_append_fits_any _ rfl (.tmp 47) (.tmp 48) 23 rfl w.heap.size 5 i5 1 Yba.underlying23 hi5 hz51 w.heap.size (tot bs k) (tot bs j) _ rfl hd3 ad (bs k).length c ((bs k).map (Value.int .u8)) rfl (by simp) hnone hsrc3 (ints_oneCell .u8 _) (by omega) ?_; intro w4 hd4 hgrow4))
          have hb3 : Below w.heap.size w w3 := (HNX.out.alloc hszx _).grown hgrow3 (by simp; omega) (fun k hk => by cases hk; omega)
          have hb4 : Below w.heap.size w w4 := hb3.grown hgrow4 hb3.size (fun k hk => by cases hk; exact Nat.le_refl _)
          have he4 := he3.kept hgrow4 (by simp [Value.ownBlock]; omega)
          clear hgrow3 hgrow4 he3 hd3 hsrc3
          go_roundw
          case rel =>
            refine ⟨k + 1, by omega, by go_num, rfl, rfl, ?_, he4, hb4⟩
            rw [cat, List.map_append]
            exact hd4
          case measure => simp [intOf]; omega
        · have hkj : k = j := by omega
          subst hkj
          have hebx : eb < wr.heap.size := (he.lt eb rfl).2
          have hszx := hnx.size
          go_upto_region 21 with fail
          have hp0 : (wr.alloc (.cells #[.slice (some ⟨w.heap.size, 0, none⟩) (tot bs k) (tot bs k), .slice (some ⟨eb, 0, none⟩) k k] 29)).cell? ⟨wr.heap.size, 0, none⟩ = some (.slice (some ⟨w.heap.size, 0, none⟩) (tot bs k) (tot bs k)) := by rw [World.cell?_alloc_new]; rfl
          have hp1 : (wr.alloc (.cells #[.slice (some ⟨w.heap.size, 0, none⟩) (tot bs k) (tot bs k), .slice (some ⟨eb, 0, none⟩) k k] 29)).cell? ⟨wr.heap.size, 1, none⟩ = some (.slice (some ⟨eb, 0, none⟩) k k) := by rw [World.cell?_alloc_new]; rfl
          obtain ⟨W, hW⟩ : ∃ W, W = wr.alloc (.cells #[.slice (some ⟨w.heap.size, 0, none⟩) (tot bs k) (tot bs k), .slice (some ⟨eb, 0, none⟩) k k] 29) := ⟨_, rfl⟩
          have hbW : Below w.heap.size w W := by rw [hW]; exact hnx.alloc hszx _
          have hdW := hd.alloc (.cells #[.slice (some ⟨w.heap.size, 0, none⟩) (tot bs k) (tot bs k), .slice (some ⟨eb, 0, none⟩) k k] 29)
          have heW := he.alloc (.cells #[.slice (some ⟨w.heap.size, 0, none⟩) (tot bs k) (tot bs k), .slice (some ⟨eb, 0, none⟩) k k] 29)
          rw [← hW] at hp0 hp1 hdW heW ⊢
          obtain ⟨pg, hpg⟩ : ∃ pg, pg = wr.heap.size := ⟨_, rfl⟩
          rw [← hpg] at hp0 hp1 ⊢
          have hdata : DataAt W (some ⟨w.heap.size, 0, none⟩) (tot bs k) (tot bs k) (cat bs k) := by
            refine ⟨cat_len bs k, Nat.le_refl _, by omega, .inr ⟨w.heap.size, 0, rfl, fun i hi => ?_⟩⟩
            have hil : i < (cat bs k).length := by rw [cat_len]; exact hi
            rw [Nat.zero_add, hdW.cellAt i (by omega), List.getElem?_map, List.getElem?_eq_getElem hil, List.getD_eq_getElem?_getD, List.getElem?_eq_getElem hil]
            rfl
          have HDT := hide hdata
          have HEW := hide heW
          have HP0 := hide hp0
          have HP1 := hide hp1
          have HBW := hide hbW
          clear hW hpg hd he hnx hdW heW hp0 hp1 hbW hdata
          go_loopw [57] (fun i wx => ∃ m : Nat, m ≤ k ∧ i = .int .i64 m ∧ ∃ q, wx = W.drewN q) (fun i _ => k - (intOf i).toNat)
          case atStart => exact ⟨0, Nat.zero_le _, rfl, 0, rfl⟩
          case round =>
            obtain ⟨m, hm, rfl, q, rfl⟩ := hrel
            by_cases hlt : m < k
            · have e1 := HA.out (by omega)
              subst e1
              have hcj := (HBW.out.cell (p := ⟨b, off + m, none⟩) (HB.out (by omega))).trans (HC.out m hlt)
              have hPm := piece_below (HP.out m hlt) HBW.out (Nat.le_refl _)
              obtain ⟨ad, c, hv, hnone, hcell⟩ := hPm
              rw [hv] at hcj
              have hm1 : tot bs m ≤ tot bs (m + 1) := tot_mono bs m (m + 1) (by omega)
              have hm2 : tot bs (m + 1) ≤ tot bs k := tot_mono bs (m + 1) k (by omega)
              have HENT := hide (entry_any (some ⟨w.heap.size, 0, none⟩) pg (tot bs k) (tot bs k) eb k k m (tot bs m) (tot bs (m + 1)) (cat bs k) (W.drewN q) (by exact HDT.out) (by exact HP0.out) (by exact HP1.out) hlt (by omega) hm1 hm2 (by exact row_cell HEW.out m hlt) (fun h => by exact row_cell HEW.out (m + 1) h) (fun h => by rw [h]))
              rw [cat_part bs m k hlt] at HENT
              have HB2 := hide (show Lib.BytesIn W ad (bs m).length (bs m) from fun h => by obtain ⟨b', o', e, _, hh⟩ := hcell h; exact ⟨b', o', e, hh⟩)
              have HV := hide hv
              clear hv hnone hcell
              go_upto_if 67 with (first
                | (go_at_call 6; refine HENT.out.mono ?_; rintro e wq ⟨⟨v, rfl, hP⟩, q2, rfl⟩; obtain ⟨ad2, c2, rfl, hn2, hc2⟩ := hP; have HB3 := hide (show Lib.BytesIn W ad2 (bs m).length (bs m) from fun h => by obtain ⟨b', o', e, _, hh⟩ := hc2 h; exact ⟨b', o', e, hh⟩); clear hn2 hc2)
                | (go_at_call 5; refine (Yba.bytes_Equal_all ad2 ad (bs m).length c2 (bs m).length c (bs m) (bs m) _ rfl rfl (by exact HB3.out) (by exact HB2.out)).mono ?_; rintro e wz ⟨rfl, rfl⟩))
              go_wp2
              go_roundw
              case rel => exact ⟨m + 1, by omega, by go_num, _, rfl⟩
              case measure => simp [intOf]; omega
            · go_wp2
              go_ret
              exact ⟨rfl, below_drewN HBW.out q⟩

set_option maxHeartbeats 400000 in
theorem pieces_long (a : Option Addr) (n cap : Nat) (w : World) (h : 256 < n) :
    Calls Yba.prog 3 #[.slice a n cap] w fun e w' => e = .returned (.bool true) ∧ Below w.heap.size w w' := by
  have hk' : (256 : Int) < (n : Int) := by omega
  go_enter Yba.func3, Yba.ntmps3
  go_wp2
  go_ret
  exact ⟨rfl, Below.refl _ _⟩

end Go.Proofs.Ybulkkkg
