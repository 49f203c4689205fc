import Derived.Test.YbulkkkgFlat
import Derived.Deep.DeepCutAuto
namespace Go.Proofs.Ybulkkkg
open Go.RowKit

/-- The offset behind j gaps. -/
def offT (gs : List Int) (dl : Nat) : Nat → Nat
  | 0 => 0
  | j + 1 => min (offT gs dl j + (gs.getD j 0).toNat % 8) dl
theorem offT_le (gs : List Int) (dl : Nat) : ∀ j, offT gs dl j ≤ dl
  | 0 => Nat.zero_le _
  | _ + 1 => Nat.min_le_right _ _
theorem offT_mono (gs : List Int) (dl j : Nat) : offT gs dl j ≤ offT gs dl (j + 1) := by
  have := offT_le gs dl j
  show _ ≤ min _ _
  omega

/-- Where entry i begins; behind the last: the data's end. -/
def endT (gs : List Int) (dl n i : Nat) : Nat := if i < n then offT gs dl (i + 1) else dl
theorem endT_le (gs : List Int) (dl n i : Nat) : endT gs dl n i ≤ dl := by
  unfold endT
  split
  · exact offT_le _ _ _
  · exact Nat.le_refl _
theorem endT_mono (gs : List Int) (dl n i : Nat) : endT gs dl n i ≤ endT gs dl n (i + 1) := by
  unfold endT
  by_cases h : i + 1 < n
  · rw [if_pos h, if_pos (by omega)]
    exact offT_mono _ _ _
  · rw [if_neg h]
    exact endT_le gs dl n i
theorem endT_zero_le (gs : List Int) (dl n : Nat) : ∀ i, endT gs dl n 0 ≤ endT gs dl n i
  | 0 => Nat.le_refl _
  | i + 1 => Nat.le_trans (endT_zero_le gs dl n i) (endT_mono gs dl n i)

theorem ret_bool {a b : Bool} (h : a = b) : Ending.returned (.bool a) = .returned (.bool b) := by rw [h]
theorem take_join (zs : List Int) (e0 a z : Nat) (h1 : e0 ≤ a) (h2 : a ≤ z) : (zs.drop e0).take (z - e0) = (zs.drop e0).take (a - e0) ++ (zs.drop a).take (z - a) := by
  have e1 : z - e0 = (a - e0) + (z - a) := by omega
  rw [e1, List.take_add, List.drop_drop, show e0 + (a - e0) = a by omega]

theorem dataAt_below {w w' : World} {ad : Option Addr} {dl dc B : Nat} {zs : List Int} (h : DataAt w ad dl dc zs) (hb : Below B w w') (hlt : ∀ b o, ad = some ⟨b, o, none⟩ → 0 < dl → b < B) : DataAt w' ad dl dc zs := by
  obtain ⟨q1, q2, q3, q4⟩ := h
  refine ⟨q1, q2, q3, ?_⟩
  rcases q4 with q4 | ⟨b, off, rfl, hc⟩
  · exact .inl q4
  · by_cases h0 : 0 < dl
    · exact .inr ⟨b, off, rfl, fun i hi => (hb.cell (p := ⟨b, off + i, none⟩) (hlt b off rfl h0)).trans (hc i hi)⟩
    · exact .inr ⟨b, off, rfl, fun i hi => by omega⟩
theorem rowx {w w' : World} {base e size g n cap B : Nat} {xs : List Value} (h : w.ownsRow base e size (.slice (some ⟨g, 0, none⟩) n cap) n xs) (hb : Below B w w') (hg : g < B) : w'.ownsRow base e size (.slice (some ⟨g, 0, none⟩) n cap) n xs := by
  obtain ⟨hl, hr⟩ := h
  refine ⟨hl, ?_⟩
  rcases hr with hr | ⟨g', c', cur, hv, hbs, hh, r⟩
  · exact .inl hr
  · have e : g = g' := by simp at hv; exact hv.1
    subst e
    exact .inr ⟨g, c', cur, hv, hbs, (hb.block g hg).trans hh, r⟩

set_option maxRecDepth 100000 in
set_option maxHeartbeats 1000000 in
theorem tile_any (ad ag : Option Addr) (dl dc gl gc bg og : Nat) (zs gs : List Int) (w : World) (hd : DataAt w ad dl dc zs) (hdl : dl ≤ 1024) (hgl : gl ≤ 256) (hg0 : 0 < gl) (hag : ag = some ⟨bg, og, none⟩) (hbg : bg < w.heap.size) (hlg : gl ≤ gs.length)
    (hbd : ∀ b o, ad = some ⟨b, o, none⟩ → 0 < dl → b < w.heap.size)
    (hcg : ∀ j, j < gl → w.cell? ⟨bg, og + j, none⟩ = some (.int .u8 (gs.getD j 0))) (hrg : ∀ j, j < gl → 0 ≤ gs.getD j 0 ∧ gs.getD j 0 < 256) :
    Calls Yba.prog 4 #[.slice ad dl dc, .slice ag gl gc] w fun e w' => e = .returned (.bool true) ∧ Below w.heap.size w w' := by
  subst hag
  obtain ⟨i0, hi, hz0, hz1, hz2⟩ := info_parts Yba.info26
  obtain ⟨i5, hi5, hz50, hz51, hz52⟩ := info_parts Yba.info5
  have HD := hide hd
  have HCG := hide hcg
  have HRG := hide hrg
  have HBD := hide hbd
  have hd1 : decide ((1024 : Int) < (dl : Int)) = false := by simp; omega
  have hd2 : decide ((256 : Int) < (gl : Int)) = false := by simp; omega
  have hg1 : ((gl : Int) == 0) = false := by rw [beq_eq_false_iff_ne]; omega
  clear hd hcg hrg hbd
  go_enter Yba.func4, Yba.ntmps4
  go_upto_region 6 with (at_make; refine wpList_make_own _ rfl _ _ 24 rfl w.heap.size 26 i0 _ 5 Yba.underlying24 hi hz0 hz1 .i64 .i64 _ gl rfl rfl rfl (by rw [hz2]; omega) (by unfold maxLen; omega) (by simp) ?_; intro w1 hown1 hgrow1)
  go_loopw [5, 6, 27] (fun v s i wr => ∃ j : Nat, j ≤ gl ∧ i = .int .i64 j ∧ s = .int .i64 (offT gs dl j) ∧ v = .slice (some ⟨w.heap.size, 0, none⟩) j gl ∧
      wr.ownsRow w.heap.size 26 5 (.slice (some ⟨w.heap.size, 0, none⟩) j gl) j (flat (fun i => offT gs dl (i + 1)) j) ∧ Below w.heap.size w wr ∧ w.heap.size < wr.heap.size) (fun _ _ i _ => gl - (intOf i).toNat)
  case atStart =>
    refine ⟨0, Nat.zero_le _, rfl, rfl, rfl, hown1, (Below.refl _ _).grown hgrow1 (Nat.le_refl _) (fun k hk => by cases hk), ?_⟩
    exact (hown1.lt w.heap.size rfl).2
  case round =>
    obtain ⟨j, hj, rfl, rfl, rfl, hown, hnx, hlt0⟩ := hrel
    by_cases hlt : j < gl
    · have hcj := (hnx.cell (p := ⟨bg, og + j, none⟩) hbg).trans (HCG.out j hlt)
      have hrj := HRG.out j hlt
      obtain ⟨g, hg⟩ : ∃ g, g = gs.getD j 0 := ⟨_, rfl⟩
      have hol := offT_le gs dl j
      have HST := hide (show offT gs dl (j + 1) = min (offT gs dl j + g.toNat % 8) dl by rw [hg]; rfl)
      rw [← hg] at hcj hrj
      clear hg
      obtain ⟨hg0', hg1'⟩ := hrj
      by_cases hbig : (dl : Int) < (offT gs dl j : Int) + g % 8
      · have e1 : offT gs dl (j + 1) = dl := by rw [HST.out]; omega
        go_wp2_with (at_builtin; refine wpList_append_fits _ rfl _ _ 24 rfl w.heap.size 26 i0 5 Yba.underlying24 hi hz1 w.heap.size j gl _ rfl (hown.alloc _) ⟨wr.heap.size, 0, none⟩ 1 1 (ent dl) rfl rfl (ent_new _ _ _) (ent_one _) (by omega) ?_; intro w2 hown2 hgrow2)
        have hb2 := hnx.grown ((World.grownBy_alloc wr _ _).trans hgrow2) hnx.size (fun k hk => by cases hk; exact Nat.le_refl _)
        have hl2 : w.heap.size < w2.heap.size := by have := hgrow2.size; simp at this; omega
        go_roundw
        case rel =>
          refine ⟨j + 1, by omega, by go_num, by rw [e1], rfl, ?_, hb2, hl2⟩
          rw [flat, e1]
          exact hown2
        case measure => simp [intOf]; omega
      · have e1 : offT gs dl (j + 1) = offT gs dl j + g.toNat % 8 := by rw [HST.out]; omega
        have E2 := hide (show (offT gs dl j : Int) + g % 8 = ((offT gs dl j + g.toNat % 8 : Nat) : Int) by omega)
        have E1 := hide e1
        clear e1
        go_wp2_with (at_builtin; refine wpList_append_fits _ rfl _ _ 24 rfl w.heap.size 26 i0 5 Yba.underlying24 hi hz1 w.heap.size j gl _ rfl (hown.alloc _) ⟨wr.heap.size, 0, none⟩ 1 1 (ent _) rfl rfl (ent_new _ _ _) (ent_one _) (by omega) ?_; intro w2 hown2 hgrow2)
        have hb2 := hnx.grown ((World.grownBy_alloc wr _ _).trans hgrow2) hnx.size (fun k hk => by cases hk; exact Nat.le_refl _)
        have hl2 : w.heap.size < w2.heap.size := by have := hgrow2.size; simp at this; omega
        go_roundw
        case rel =>
          refine ⟨j + 1, by omega, by go_num, by rw [E1.out, E2.out], rfl, ?_, hb2, hl2⟩
          rw [flat, E1.out, ← E2.out]
          exact hown2
        case measure => simp [intOf]; omega
    · have : j = gl := by omega
      subst this
      have hsz := hnx.size
      go_upto_region 18 with (at_make; refine wpList_make_own _ rfl _ _ 23 rfl (wr.heap.size + 1) 5 i5 _ 1 Yba.underlying23 hi5 hz50 hz51 .i64 .i64 _ dl rfl rfl rfl (by rw [hz52]; omega) (by unfold maxLen; omega) (by simp) ?_; intro w3 hown3 hgrow3)
      have hW3 : Below (wr.heap.size + 1) (wr.alloc (.cells #[.slice ad dl dc, .slice (some ⟨w.heap.size, 0, none⟩) j j] 29)) w3 := (Below.refl _ _).grown hgrow3 (by simp) (fun k hk => by cases hk)
      have hrow3 : w3.ownsRow w.heap.size 26 5 (.slice (some ⟨w.heap.size, 0, none⟩) j j) j (flat (fun i => offT gs dl (i + 1)) j) := (hown.alloc _).kept hgrow3 (by simp [Value.ownBlock])
      have hp0 : w3.cell? ⟨wr.heap.size, 0, none⟩ = some (.slice ad dl dc) := (hW3.cell (p := ⟨wr.heap.size, 0, none⟩) (by simp)).trans (by rw [World.cell?_alloc_new]; rfl)
      have hp1 : w3.cell? ⟨wr.heap.size, 1, none⟩ = some (.slice (some ⟨w.heap.size, 0, none⟩) j j) := (hW3.cell (p := ⟨wr.heap.size, 1, none⟩) (by simp)).trans (by rw [World.cell?_alloc_new]; rfl)
      have hb3 : Below w.heap.size w w3 := (hnx.alloc hnx.size _).trans (hW3.mono (by omega))
      have hs3 : wr.heap.size + 1 < w3.heap.size := by have := (hown3.lt (wr.heap.size + 1) (by simp [Value.ownBlock])).2; exact this
      have hD3 : DataAt w3 ad dl dc zs := by
        obtain ⟨q1, q2, q3, q4⟩ := HD.out
        refine ⟨q1, q2, q3, ?_⟩
        rcases q4 with q4 | ⟨b, off, rfl, hc⟩
        · exact .inl q4
        · by_cases h0 : 0 < dl
          · exact .inr ⟨b, off, rfl, fun i hi => (hb3.cell (p := ⟨b, off + i, none⟩) (HBD.out b off rfl h0)).trans (hc i hi)⟩
          · exact .inr ⟨b, off, rfl, fun i hi => by omega⟩
      have HP0 := hide hp0
      have HP1 := hide hp1
      have HB3 := hide hb3
      have HD3 := hide hD3
      have HROW3 := hide hrow3
      rw [World.size_alloc] at hown3
      have HOWN3 := hide hown3
      clear hW3 hrow3 hp0 hp1 hb3 hD3 hown hown3 hgrow3 hown1 hgrow1 hnx
      obtain ⟨pg, hpg⟩ : ∃ pg, pg = wr.heap.size := ⟨_, rfl⟩
      rw [← hpg] at HP0 HP1 HOWN3 hs3 hlt0 hsz ⊢
      clear hpg
      go_loopw [10, 11] (fun v i wx => ∃ k : Nat, k ≤ j ∧ i = .int .i64 k ∧ v = .slice (some ⟨pg + 1, 0, none⟩) (endT gs dl j k - endT gs dl j 0) dl ∧
          wx.ownsRow (pg + 1) 5 1 (.slice (some ⟨pg + 1, 0, none⟩) (endT gs dl j k - endT gs dl j 0) dl) (endT gs dl j k - endT gs dl j 0) (((zs.drop (endT gs dl j 0)).take (endT gs dl j k - endT gs dl j 0)).map (Value.int .u8)) ∧
          Below (pg + 1) w3 wx) (fun _ i _ => j - (intOf i).toNat)
      case atStart =>
        refine ⟨0, Nat.zero_le _, rfl, ?_, ?_, Below.refl _ _⟩
        · rw [Nat.sub_self]
        · rw [Nat.sub_self]
          exact HOWN3.out
      case round =>
        obtain ⟨k, hk, rfl, rfl, hown, hnx⟩ := hrel
        by_cases hlt : k < j
        · have hm0 := endT_mono gs dl j k
          have hm1 := endT_zero_le gs dl j k
          have hm2 := endT_le gs dl j (k + 1)
          have hzl : zs.length = dl := HD3.out.1
          have hDx : DataAt wr ad dl dc zs := dataAt_below HD3.out hnx (fun b o e h0 => by have := HBD.out b o e h0; omega)
          have hx0 := (hnx.cell (p := ⟨pg, 0, none⟩) (by simp)).trans HP0.out
          have hx1 := (hnx.cell (p := ⟨pg, 1, none⟩) (by simp)).trans HP1.out
          have hrowr : wr.ownsRow w.heap.size 26 5 (.slice (some ⟨w.heap.size, 0, none⟩) j j) j (flat (fun i => offT gs dl (i + 1)) j) := rowx HROW3.out hnx (by omega)
          have hcE : ∀ i, i < j → wr.cell? ⟨w.heap.size, i * 5, none⟩ = some (.int .i64 (endT gs dl j i)) := fun i hi => by
            rw [row_cell hrowr i hi]
            unfold endT
            rw [if_pos hi]
          have hlast : k + 1 = j → endT gs dl j (k + 1) = dl := fun h => by unfold endT; rw [if_neg (by omega)]
          obtain ⟨a, ha⟩ : ∃ a, a = endT gs dl j k := ⟨_, rfl⟩
          obtain ⟨z, hz⟩ : ∃ z, z = endT gs dl j (k + 1) := ⟨_, rfl⟩
          obtain ⟨e0, he0⟩ : ∃ e0, e0 = endT gs dl j 0 := ⟨_, rfl⟩
          have hca : wr.cell? ⟨w.heap.size, k * 5, none⟩ = some (.int .i64 a) := by rw [ha]; exact hcE k hlt
          have hcz : k + 1 < j → wr.cell? ⟨w.heap.size, (k + 1) * 5, none⟩ = some (.int .i64 z) := fun h => by rw [hz]; exact hcE (k + 1) h
          rw [← ha] at hm0 hm1 hown
          rw [← hz] at hm0 hm2 hlast
          rw [← he0] at hm1 hown
          have HENT := hide (entry_any ad pg dl dc w.heap.size j j k a z zs wr hDx hx0 hx1 hlt (by omega) hm0 hm2 hca hcz hlast)
          have HA := hide ha
          have HZ := hide hz
          have HE0 := hide he0
          have HOWN := hide hown
          have HNX := hide hnx
          have HX0 := hide hx0
          have HPL := hide (len_part zs a z (by omega))
          have hkj : (k : Int) < (j : Int) := by omega
          clear hDx hrowr hcE ha hz he0 hx0 hx1 hown hnx
          rw [← HA.out, ← HE0.out]
          go_upto_region 21 with (go_at_call 6; refine HENT.out.mono ?_; rintro e wq ⟨⟨v, rfl, hP⟩, q, rfl⟩)
          obtain ⟨ad', c', hv, hnone, hcell⟩ := hP
          rw [HPL.out] at hv hnone hcell
          subst hv
          have HSRC := hide (show ∀ x, ad' = some x → ∀ i u, (((zs.drop a).take (z - a)).map (Value.int .u8))[i]? = some u → (wr.drewN q).cell? (x.add i) = some u from fun x hx i u hu => by
            have hi' : i < z - a := by
              have := (List.getElem?_eq_some_iff.1 hu).1
              rw [List.length_map, HPL.out] at this
              exact this
            obtain ⟨b, o, e, _, hc⟩ := hcell (by omega)
            rw [hx] at e
            cases e
            have hadd : (⟨b, o, none⟩ : Addr).add i = ⟨b, o + i, none⟩ := by unfold Addr.add; split <;> simp_all
            rw [hadd]
            refine (hc i hi').trans ?_
            rw [← hu, List.getElem?_map, List.getElem?_eq_getElem (by rw [HPL.out]; exact hi'), List.getD_eq_getElem?_getD, List.getElem?_eq_getElem (by rw [HPL.out]; exact hi')]
            rfl)
          have hsub : (z : Int) - (a : Int) = ((z - a : Nat) : Int) := by omega
          by_cases hl2 : k + 1 < j
          · have hcz' := hcz hl2
            have hkl : (k : Int) + 1 < (j : Int) := by omega
            have htest : (((z - a : Nat) : Int) != (z : Int) - (a : Int)) = false := by rw [hsub]; simp
            clear hcz hlast hcell hsub
            go_wp2_with (at_builtin; refine wpList_append_fits_any _ rfl _ _ 23 rfl (pg + 1) 5 i5 1 Yba.underlying23 hi5 hz51 (pg + 1) (a - e0) dl _ rfl (by exact HOWN.out) ad' (z - a) c' (((zs.drop a).take (z - a)).map (Value.int .u8)) rfl (by rw [List.length_map, HPL.out]; omega) hnone HSRC.out (ints_oneCell .u8 _) (by omega) ?_; intro w4 hown4 hgrow4)
            have E3 : a - e0 + (z - a) = z - e0 := by omega
            rw [E3] at hown4
            have hb4 : Below (pg + 1) w3 w4 := (below_drewN HNX.out q).grown hgrow4 (by have := HNX.out.size; exact Nat.le_trans (Nat.le_of_lt hs3) this) (fun k hk => by cases hk; exact Nat.le_refl _)
            have HJ := hide (take_join zs e0 a z hm1 hm0)
            have H4 := hide hown4
            clear hown4 hgrow4
            go_wp2
            go_roundw
            case rel =>
              refine ⟨k + 1, by omega, by go_num, ?_, ?_, hb4⟩
              · rw [← HZ.out, E3]
              · rw [← HZ.out, HJ.out, List.map_append]
                exact H4.out
            case measure => simp [intOf]; omega
          · have hkl : ¬ ((k : Int) + 1 < (j : Int)) := by omega
            have ez := hlast (by omega)
            subst ez
            have htest : (((z - a : Nat) : Int) != (z : Int) - (a : Int)) = false := by rw [hsub]; simp
            clear hcz hlast hcell hsub
            go_wp2_with (at_builtin; refine wpList_append_fits_any _ rfl _ _ 23 rfl (pg + 1) 5 i5 1 Yba.underlying23 hi5 hz51 (pg + 1) (a - e0) z _ rfl (by exact HOWN.out) ad' (z - a) c' (((zs.drop a).take (z - a)).map (Value.int .u8)) rfl (by rw [List.length_map, HPL.out]; omega) hnone HSRC.out (ints_oneCell .u8 _) (by omega) ?_; intro w4 hown4 hgrow4)
            have E3 : a - e0 + (z - a) = z - e0 := by omega
            rw [E3] at hown4
            have hb4 : Below (pg + 1) w3 w4 := (below_drewN HNX.out q).grown hgrow4 (by have := HNX.out.size; exact Nat.le_trans (Nat.le_of_lt hs3) this) (fun k hk => by cases hk; exact Nat.le_refl _)
            have HJ := hide (take_join zs e0 a z hm1 hm0)
            have H4 := hide hown4
            clear hown4 hgrow4
            go_wp2
            go_roundw
            case rel =>
              refine ⟨k + 1, by omega, by go_num, ?_, ?_, hb4⟩
              · rw [← HZ.out, E3]
              · rw [← HZ.out, HJ.out, List.map_append]
                exact H4.out
            case measure => simp [intOf]; omega
        · have hkj : k = j := by omega
          subst hkj
          have hEl : endT gs dl k k = dl := by unfold endT; rw [if_neg (by omega)]
          have hE0 := endT_le gs dl k 0
          rw [hEl] at hown ⊢
          have hzl : zs.length = dl := HD3.out.1
          have hDx : DataAt wr ad dl dc zs := dataAt_below HD3.out hnx (fun b o e h0 => by have := HBD.out b o e h0; omega)
          have hrowx : wr.ownsRow w.heap.size 26 5 (.slice (some ⟨w.heap.size, 0, none⟩) k k) k (flat (fun i => offT gs dl (i + 1)) k) := rowx HROW3.out hnx (by omega)
          have hc0 : wr.cell? ⟨w.heap.size, 0, none⟩ = some (.int .i64 (endT gs dl k 0)) := by
            have := row_cell hrowx 0 hg0
            rw [Nat.zero_mul] at this
            rw [this]
            unfold endT
            rw [if_pos hg0]
          obtain ⟨e0, he0⟩ : ∃ e0, e0 = endT gs dl k 0 := ⟨_, rfl⟩
          rw [← he0] at hown hc0 hE0 ⊢
          have hpl : ((zs.drop e0).take (dl - e0)).length = dl - e0 := len_part zs e0 dl (by omega)
          have hB1 : Lib.BytesIn wr (some ⟨pg + 1, 0, none⟩) (dl - e0) ((zs.drop e0).take (dl - e0)) := fun hp => ⟨pg + 1, 0, rfl, fun i hi => by
            rw [Nat.zero_add, hown.cellAt i (by omega), List.getElem?_map, List.getElem?_eq_getElem (by rw [hpl]; exact hi), List.getD_eq_getElem?_getD, List.getElem?_eq_getElem (by rw [hpl]; exact hi)]
            rfl⟩
          have HB1 := hide hB1
          have HPL := hide hpl
          have HFIN := hide (HB3.out.trans (hnx.mono (by omega)))
          have hk0 : (0 : Int) < (k : Int) := by omega
          clear he0 hown hnx hrowx hEl hB1 hpl
          obtain ⟨_, hdc, hm, hdat⟩ := hDx
          rcases hdat with ⟨rfl, rfl⟩ | ⟨b, off, rfl, hcell⟩
          · have ez : e0 = 0 := by omega
            subst ez
            cases ad
            all_goals
              go_wp2_with (go_at_call 5; refine (Yba.bytes_Equal_all _ _ _ _ _ _ _ _ _ HPL.out HPL.out HB1.out (Lib.BytesIn.nil _ _ _)).mono ?_; rintro e wz ⟨rfl, rfl⟩)
              go_ret
              exact ⟨by simp, HFIN.out⟩
          · have hB2 : ∀ o', (0 < dl - e0 → o' = off + e0) → Lib.BytesIn wr (some ⟨b, o', none⟩) (dl - e0) ((zs.drop e0).take (dl - e0)) := fun o' ho hp => ⟨b, o', rfl, fun i hi => by
              rw [ho hp, getD_part zs e0 (dl - e0) i hi, Nat.add_assoc]
              exact hcell (e0 + i) (by omega)⟩
            have HB2 := hide hB2
            have h01 : (e0 : Int) ≤ (dl : Int) := by omega
            have h02 : (dl : Int) ≤ (dc : Int) := by omega
            clear hB2 hcell
            go_wp2_with fail
            · have hce : dc = e0 := by assumption
              refine (Yba.bytes_Equal_all (some ⟨pg + 1, 0, none⟩) (some ⟨b, off, none⟩) (dl - e0) dl (dl - e0) 0 _ _ wr HPL.out HPL.out HB1.out (HB2.out off (fun h => by omega))).mono ?_
              rintro e wz ⟨rfl, rfl⟩
              go_wp2
              go_ret
              exact ⟨ret_bool (by simp), HFIN.out⟩
            · refine (Yba.bytes_Equal_all (some ⟨pg + 1, 0, none⟩) (some ⟨b, off + e0, none⟩) (dl - e0) dl (dl - e0) (dc - e0) _ _ wr HPL.out HPL.out HB1.out (HB2.out (off + e0) (fun _ => rfl))).mono ?_
              rintro e wz ⟨rfl, rfl⟩
              go_wp2
              go_ret
              exact ⟨ret_bool (by simp), HFIN.out⟩

set_option maxRecDepth 100000 in
set_option maxHeartbeats 400000 in
theorem tile_long (ad ag : Option Addr) (dl dc gl gc : Nat) (w : World) (h : 1024 < dl ∨ 256 < gl) :
    Calls Yba.prog 4 #[.slice ad dl dc, .slice ag gl gc] w fun e w' => e = .returned (.bool true) ∧ Below w.heap.size w w' := by
  by_cases hk : 1024 < dl
  · have hk' : (1024 : Int) < (dl : Int) := by omega
    go_enter Yba.func4, Yba.ntmps4
    go_wp2
    go_ret
    exact ⟨rfl, Below.refl _ _⟩
  · have hv' : (256 : Int) < (gl : Int) := by omega
    go_enter Yba.func4, Yba.ntmps4
    go_wp2
    go_ret
    exact ⟨rfl, Below.refl _ _⟩

set_option maxRecDepth 100000 in
set_option maxHeartbeats 400000 in
theorem tile_zero (ad ag : Option Addr) (dl dc gc : Nat) (w : World) (hdl : dl ≤ 1024) :
    Calls Yba.prog 4 #[.slice ad dl dc, .slice ag 0 gc] w fun e w' => e = .returned (.bool true) ∧ Below w.heap.size w w' := by
  obtain ⟨i0, hi, hz0, hz1, hz2⟩ := info_parts Yba.info26
  have hd1 : decide ((1024 : Int) < (dl : Int)) = false := by simp; omega
  go_enter Yba.func4, Yba.ntmps4
  go_upto_region 6 with (at_make; refine wpList_make_own _ rfl _ _ 24 rfl w.heap.size 26 i0 _ 5 Yba.underlying24 hi hz0 hz1 .i64 .i64 _ 0 rfl rfl rfl (by rw [hz2]; omega) (by unfold maxLen; omega) (by simp) ?_; intro w1 hown1 hgrow1)
  refine wp_loop_rounds 1 ?_
  rw [rounds_succ]
  go_wp2
  go_ret
  exact ⟨rfl, (Below.refl _ _).grown hgrow1 (Nat.le_refl _) (fun k hk => by cases hk)⟩

end Go.Proofs.Ybulkkkg
