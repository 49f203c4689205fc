import Derived.Test.YbulkkiqCRel
import Derived.Test.YbulkkiqCWalk
import Derived.Deep.RegionHeldLaw
namespace Go.Proofs.Ybulkkiq
open Go.RowKit Go.Lib Go.Maps Go.WideMaps

theorem size_getD {ks : List ByteArray} (h : ∀ s ∈ ks, s.size ≤ maxLen) (j : Nat) : (ks.getD j ByteArray.empty).size ≤ maxLen := by
  by_cases hj : j < ks.length
  · rw [List.getD_eq_getElem?_getD, List.getElem?_eq_getElem hj]
    exact h _ (List.getElem_mem hj)
  · rw [List.getD_eq_getElem?_getD, List.getElem?_eq_none (by omega)]
    exact Nat.zero_le _

theorem cell_w0 {w wx : World} {ob : Obj} {b o : Nat} {v : Value} (h : Below (w.heap.size + 1) (w.alloc ob) wx) (hb : b < w.heap.size) (hc : w.cell? ⟨b, o, none⟩ = some v) : wx.cell? ⟨b, o, none⟩ = some v := by
  rw [h.cell (p := ⟨b, o, none⟩) (by show b < _; omega), World.cell?_alloc_past _ _ _ hb, hc]

theorem row_below {w w' : World} {base e size n b : Nat} {v : Value} {xs : List Value} (h : w.ownsRow base e size v n xs) (hb : Below b w w') (hs : w.heap.size ≤ b) : w'.ownsRow base e size v n xs :=
  h.kept (row := none) ⟨hb.os, hb.tape, hb.output, hb.size, fun k hk _ => hb.block k (by omega)⟩ (by cases v.ownBlock <;> simp)

theorem wantK_pos (ks vs : List ByteArray) (n j : Nat) (x : ByteArray) (hx : x = ks.getD j ByteArray.empty) (hj : j < n) : 0 < (wantK ks vs n x.data.toList).length := by
  unfold wantK
  rw [List.length_map, List.length_pos_iff_exists_mem]
  refine ⟨j, List.mem_filter.2 ⟨List.mem_range.2 hj, ?_⟩⟩
  rw [← hx, toList_data]
  simp

set_option maxRecDepth 100000 in
set_option maxHeartbeats 4000000 in
theorem cp_zero (xs : List Int) (bits : Nat) (addr : ByteArray) (ak av : Option Addr) (bk ok bv ov lk ck lv cv n : Nat) (ks vs : List ByteArray) (w : World) (hx : xs.length = 20) (hb : bits < 256) (h0 : bits % 161 = 0) (hk : lk ≤ 1024) (hv : lv ≤ 1024)
    (hn : n = if lv < lk then lv else lk) (hak : 0 < n → ak = some ⟨bk, ok, none⟩) (hav : 0 < n → av = some ⟨bv, ov, none⟩) (hlk : lk ≤ ks.length) (hlv : lv ≤ vs.length) (hbk : 0 < n → bk < w.heap.size) (hbv : 0 < n → bv < w.heap.size)
    (hck : 0 < n → ∀ j, j < ks.length → w.cell? ⟨bk, ok + j, none⟩ = some (.string (ks.getD j ByteArray.empty)))
    (hcv : 0 < n → ∀ j, j < vs.length → w.cell? ⟨bv, ov + j, none⟩ = some (.string (vs.getD j ByteArray.empty)))
    (hsz : ∀ s ∈ ks, s.size ≤ maxLen) :
    Calls Yba.prog 5 #[.agg (xs.map (Value.int .u8)).toArray, .int .u8 bits, .string addr, .slice ak lk ck, .slice av lv cv, .bool false] w fun e w' => e = .returned (.bool true) ∧ Below w.heap.size w w' := by
  have HR := hide (arr_range xs w 22)
  have HL := hide (show (Yba.prog.info? 22).map (·.size) = some (xs.map (Value.int .u8)).length by rw [info22, List.length_map, hx])
  have HX := hide hx
  have HM := hide (show (xs.map (Value.int .u8)).length = 20 by rw [List.length_map, hx])
  have HI := hide (idCells_len xs 0 hx)
  have HL31 := hide (show (Yba.prog.info? 31).map (·.size) = some (peerCells xs 0 addr).length by rw [info31, peerCells_len xs 0 addr hx])
  have hb0 : ((bits : Int) % 161) = 0 := by omega
  have hnk : n ≤ lk := by rw [hn]; split <;> omega
  have hnv : n ≤ lv := by rw [hn]; split <;> omega
  have HN := hide hn
  have HAK := hide hak
  have HAV := hide hav
  have HCK := hide hck
  have HCV := hide hcv
  have HSZ := hide hsz
  have HBK := hide hbk
  have HBV := hide hbv
  clear hx hn hak hav hck hcv hsz hbk hbv
  have hmm := @run_makeMap Yba.prog
  obtain ⟨i0, hi, hz0, hz1, hz2⟩ := info_parts Yba.info9
  go_enter Yba.func5, Yba.ntmps5
  go_upto_if 40 with fail
  go_cut [13, 14] (fun c s wc => c = .int .i64 0 ∧ s = .int .i64 n ∧ wc = w.alloc (.cells (xs.map (Value.int .u8)).toArray 22))
  case first =>
    by_cases hlt : lv < lk
    · have e : n = lv := by rw [HN.out, if_pos hlt]
      go_wp2
      go_meet
      exact ⟨by rw [hb0], by rw [e], rfl⟩
    · have e : n = lk := by rw [HN.out, if_neg hlt]
      go_wp2
      go_meet
      exact ⟨by rw [hb0], by rw [e], rfl⟩
  case rest =>
    obtain ⟨rfl, rfl, rfl⟩ := hcut
    clear hb0
    go_upto_if 44 with fail
    go_cut [15, 16] (fun q _ wc => q = .map (some (w.heap.size + 1)) ∧ ∃ D V, Filled ks vs (w.heap.size + 2) (w.heap.size + 1) (w.alloc (.cells (xs.map (Value.int .u8)).toArray 22)) wc n D V)
    case first =>
      go_wp2
      go_loopw [16] (fun i wr => ∃ j : Nat, j ≤ n ∧ i = .int .i64 j ∧ ∃ D V, Filled ks vs (w.heap.size + 2) (w.heap.size + 1) (w.alloc (.cells (xs.map (Value.int .u8)).toArray 22)) wr j D V) (fun i _ => n - (RowKit.intOf i).toNat)
      case atStart =>
        have hF := Filled.made ks vs (w.alloc (.cells (xs.map (Value.int .u8)).toArray 22))
        rw [World.size_alloc] at hF
        exact ⟨0, Nat.zero_le _, rfl, _, _, hF⟩
      case round =>
        obtain ⟨j, hj, rfl, D, V, hF⟩ := hrel
        by_cases hlt : j < n
        · have e1 := HAK.out (by omega)
          have e2 := HAV.out (by omega)
          subst e1 e2
          obtain ⟨x, hx⟩ : ∃ x, x = ks.getD j ByteArray.empty := ⟨_, rfl⟩
          obtain ⟨y, hy⟩ : ∃ y, y = vs.getD j ByteArray.empty := ⟨_, rfl⟩
          obtain ⟨v, hv⟩ : ∃ v, v = V x.data.toList := ⟨_, rfl⟩
          obtain ⟨l, hl⟩ : ∃ l, l = wantK ks vs j x.data.toList := ⟨_, rfl⟩
          have hxs : x.size ≤ maxLen := by rw [hx]; exact size_getD HSZ.out j
          have HC1 := hide (show w.cell? ⟨bk, ok + j, none⟩ = some (.string x) by rw [HCK.out (by omega) j (by omega), hx])
          have HC2 := hide (show w.cell? ⟨bv, ov + j, none⟩ = some (.string y) by rw [HCV.out (by omega) j (by omega), hy])
          have hbkB : bk < w.heap.size := HBK.out (by omega)
          have hbvB : bv < w.heap.size := HBV.out (by omega)
          have hc1 := cell_w0 hF.below hbkB HC1.out
          have hc2 := cell_w0 hF.below hbvB HC2.out
          have hll : l.length ≤ 1024 := by rw [hl]; have := wantK_le ks vs j x.data.toList; omega
          have hlook1 : (Instr.lookup 73 (.map (some (w.heap.size + 1))) (.string x) false).run Yba.prog wr.drew = .ok v wr.drew := by
            rw [hv]; exact (hF.grp.kept (w' := wr.drew) ⟨rfl, rfl, rfl, Nat.le_refl _, fun _ _ _ => rfl⟩).look x hxs
          have hlook2 : ∀ o, (Instr.lookup 73 (.map (some (w.heap.size + 1))) (.string x) false).run Yba.prog (wr.alloc o).drew = .ok v (wr.alloc o).drew := fun o => by
            rw [hv]; exact (hF.grp.kept (w' := (wr.alloc o).drew) ⟨rfl, rfl, rfl, by simp, fun k hk _ => Below.heap_alloc wr o k hk⟩).look x hxs
          have hrow := hF.grp.row x.data.toList
          rw [← hv, ← hl] at hrow
          have HF := hide hF
          have HXX := hide hx
          have HYY := hide hy
          have HVV := hide hv
          have HLL := hide hl
          have HROW := hide hrow
          have hjk : (j : Int) < (lk : Int) := by omega
          have hjv : (j : Int) < (lv : Int) := by omega
          have hrm := hF.room
          clear hF hx hy hv hl hrow
          go_wp2
          have hbkr : bk < wr.heap.size := by omega
          have hbvr : bv < wr.heap.size := by omega
          have hca1 : ∀ o, (wr.alloc o).drew.cell? ⟨bk, ok + j, none⟩ = some (.string x) := fun o => (World.cell?_alloc_past o bk _ hbkr).trans hc1
          have hca2 : ∀ o, (wr.alloc o).drew.cell? ⟨bv, ov + j, none⟩ = some (.string y) := fun o => (World.cell?_alloc_past o bv _ hbvr).trans hc2
          have HCA1 := hide hca1
          have HCA2 := hide hca2
          clear hca1 hca2
          go_region_held_law (fun w' => w'.cell? ⟨bk, ok + j, none⟩ = some (.string x) ∧ w'.cell? ⟨bv, ov + j, none⟩ = some (.string y))
            (first | exact ⟨hc1, hc2⟩ | exact ⟨HCA1.out _, HCA2.out _⟩ | exact ⟨hd1, hd2⟩ | exact ⟨he1, he2⟩)
            ((refine step_append_lies (wr.alloc (.cells #[.string y] 9)).drew (by rfl) (.tmp 61) (.tmp 66) 71 (by rfl) (w.heap.size + 2) 9 i0 (.string ByteArray.empty) 1 16 Yba.underlying71 hi hz0 hz1 hz2 rfl (by decide) v l.length (l.map Value.string) (by rfl) (by exact HROW.out.alloc _) ⟨wr.heap.size, 0, none⟩ 1 1 [.string y] (by rfl) rfl (by exact cell_one_new _ _ _) (str_oneCell y) (by decide) (by unfold maxLen; omega) (by omega) (by show _ ≤ (wr.alloc _).heap.size; simp; omega) _ rfl ?_
              intro g cap w1 hown' hgrow hat hlt1
              obtain ⟨w2, D', V', hrun2, hF2, hbel1⟩ := HF.out.step (o := .cells #[.string y] 9) rfl (by omega) HXX.out HYY.out hxs (by omega) (by rw [← HLL.out]; exact hown') (by rw [← HVV.out]; exact hgrow) (by rw [← HVV.out]; exact hat)
              rw [← HLL.out] at hrun2
              have hd1 := cell_w0 hbel1 hbkB HC1.out
              have hd2 := cell_w0 hbel1 hbvB HC2.out
              have he1 := cell_w0 hF2.below hbkB HC1.out
              have he2 := cell_w0 hF2.below hbvB HC2.out
              have HF2 := hide hF2
              clear hown' hgrow hat hlt1 hbel1 hF2))
          all_goals
            clear hc1 hc2 hlook1 hlook2 hrun2 hd1 hd2 he1 he2
            go_wp2
            go_roundw
            case rel => exact ⟨j + 1, by omega, by go_num, _, _, HF2.out⟩
            case measure => simp [RowKit.intOf]; omega
        · have : j = n := by omega
          subst this
          go_wp2
          go_meet
          exact ⟨rfl, D, V, hF⟩
    case rest =>
      obtain ⟨rfl, D, V, hF⟩ := hcut
      have HF := hide hF
      have hroom := hF.room
      have HR1 := hide (range_below HR.out hF.below (by omega))
      have HW : Hid ((wc.alloc (.cells (peerCells xs 0 addr).toArray 31)).rangeAt wc.heap.size 0 (peerCells xs 0 addr)) := peer_whole xs 0 addr wc 31
      clear hF hmm
      go_upto_region 15 with (first
        | (refine wpList_load_mid rfl 22 _ rfl w.heap.size 0 rfl (xs.map (Value.int .u8)) _ HR1.out Yba.underlying22 rfl HL.out ?_)
        | (refine wpList_built2 rfl 29 0 1 _ _ rfl (.agg (xs.map (Value.int .u8)).toArray) (.int .u8 0) rfl rfl (.agg (idCells xs 0).toArray) (build29 _ HM.out _ _) ?_)
        | (refine wpList_built2 rfl 31 0 1 _ _ rfl (.agg (idCells xs 0).toArray) (.string addr) rfl rfl (.agg (peerCells xs 0 addr).toArray) (build31 _ HI.out _ _) ?_)
        | (refine wpList_store_new rfl 31 _ _ rfl 31 _ _ _ (by simp) rfl rfl (by rw [List.size_toArray]; exact HL31.out) (by simp [peerCells_len xs 0 addr HX.out]) (peerCells_one xs 0 addr) ?_))
      go_upto_region 16 with (first
        | (refine wpList_load_mid rfl 31 _ rfl wc.heap.size 0 rfl (peerCells xs 0 addr) _ HW.out Yba.underlying31 rfl HL31.out ?_)
        | (go_at_call 12; refine (pq_zero xs addr _ _ HX.out).mono ?_; rintro e w1 ⟨rfl, hb1⟩))
      have b1 : Below wc.heap.size wc w1 := ((Below.refl _ wc).alloc (Nat.le_refl _) _).trans (hb1.mono (by simp))
      have HG := hide (HF.out.grp.below b1 (Nat.le_refl _))
      have HB1 := hide b1
      clear hb1 b1
      have he := eql73
      have hne := neq73
      go_upto_region 23 with fail
      clear he hne
      go_loopw [19, 20] (fun d i wr => ∃ j : Nat, j ≤ n ∧ i = .int .i64 j ∧ d = .int .i64 (cnt ks j) ∧ Below w1.heap.size w1 wr) (fun _ i _ => n - (RowKit.intOf i).toNat)
      case atStart => exact ⟨0, Nat.zero_le _, rfl, rfl, Below.refl _ _⟩
      case round =>
        obtain ⟨j, hj, rfl, rfl, hbr⟩ := hrel
        by_cases hlt : j < n
        · have e1 := HAK.out (by omega)
          have e2 := HAV.out (by omega)
          subst e1 e2
          obtain ⟨x, hx⟩ : ∃ x, x = ks.getD j ByteArray.empty := ⟨_, rfl⟩
          have hxs : x.size ≤ maxLen := by rw [hx]; exact size_getD HSZ.out j
          have hbkB : bk < w.heap.size := HBK.out (by omega)
          have hbvB : bv < w.heap.size := HBV.out (by omega)
          have hs1 := HB1.out.size
          have hbw : Below (w.heap.size + 1) (w.alloc (.cells (xs.map (Value.int .u8)).toArray 22)) wr := (HF.out.below.trans (HB1.out.mono (by omega))).trans (hbr.mono (by omega))
          have HCKr := hide (fun i hi => cell_w0 hbw hbkB (HCK.out (by omega) i hi))
          have HCVr := hide (fun i hi => cell_w0 hbw hbvB (HCV.out (by omega) i hi))
          have HGr := hide (HG.out.below hbr (Nat.le_refl _))
          have hcnt := cnt_le ks j
          have HCN := hide (cnt_succ ks j)
          have hjk : (j : Int) < (lk : Int) := by omega
          have hjv : (j : Int) < (lv : Int) := by omega
          have hszr : w.heap.size < wr.heap.size := by have := hbr.size; omega
          have HBR := hide hbr
          have HXX := hide hx
          clear hx hbr hbw
          go_upto_if 93 with (go_at_call 13; refine (first_any bk ok lk ck j ks _ (by omega) hlk hk HCKr.out).mono ?_; rintro e wq ⟨rfl, q, rfl⟩)
          go_cut [19] (fun d wx => d = .int .i64 (cnt ks (j + 1)) ∧ wx = wr.drewN q)
          case first =>
            cases hf : fstB ks j
            · have e : cnt ks (j + 1) = cnt ks j := by rw [HCN.out, hf]; simp
              go_wp2
              go_meet
              exact ⟨by rw [e], rfl⟩
            · have e : cnt ks (j + 1) = cnt ks j + 1 := by rw [HCN.out, hf]; simp
              go_wp2
              go_meet
              exact ⟨by rw [e]; go_num, rfl⟩
          case rest =>
            obtain ⟨rfl, rfl⟩ := hcut
            obtain ⟨v, hv⟩ : ∃ v, v = V x.data.toList := ⟨_, rfl⟩
            obtain ⟨l, hl⟩ : ∃ l, l = wantK ks vs n x.data.toList := ⟨_, rfl⟩
            have hlook1 : ∀ m, (Instr.lookup 73 (.map (some (w.heap.size + 1))) (.string x) false).run Yba.prog (wr.drewN m) = .ok v (wr.drewN m) := fun m => by
              rw [hv]; exact (HGr.out.kept (w' := wr.drewN m) ⟨rfl, rfl, rfl, Nat.le_refl _, fun _ _ _ => rfl⟩).look x hxs
            have hrow := HGr.out.row x.data.toList
            rw [← hv, ← hl] at hrow
            have HROW := hide hrow
            have hl0 : 0 < l.length := by rw [hl]; exact wantK_pos ks vs n j x HXX.out hlt
            have hl1 : l.length ≤ n := by rw [hl]; exact wantK_le _ _ _ _
            have HLL := hide (show wantL ks vs n x = l by rw [hl, wantK_eq])
            have hc1 : wr.cell? ⟨bk, ok + j, none⟩ = some (.string x) := by rw [HCKr.out j (by omega), HXX.out]
            have HVV := hide hv
            clear hv hl hrow
            have hbkr : bk < wr.heap.size := by omega
            have hbvr : bv < wr.heap.size := by omega
            go_wp2
            go_region_held_law (fun w' => w'.cell? ⟨bk, ok + j, none⟩ = some (.string x))
              (first | exact hc1 | exact hd1 | exact he1)
              ((first
                 | (go_at_call 15
                    refine (want_any bk ok lk ck bv ov lv cv n ks vs x _ hnk hnv hlk hlv (by omega) (by exact HCKr.out) (by exact HCVr.out) (by exact hbkr) (by exact hbvr)).mono ?_
                    rintro e w2 ⟨v2, rfl, hown2, hbel0⟩
                    have hbel2 : Below wr.heap.size wr w2 := ⟨hbel0.os, hbel0.tape, hbel0.output, hbel0.size, hbel0.block⟩
                    clear hbel0
                    have hd1 := (hbel2.cell (p := ⟨bk, ok + j, none⟩) hbkr).trans hc1
                    have hlook2 : (Instr.lookup 73 (.map (some (w.heap.size + 1))) (.string x) false).run Yba.prog w2 = .ok v w2 := by rw [HVV.out]; exact (HGr.out.below hbel2 (Nat.le_refl _)).look x hxs
                    have HROW2 := hide (row_below HROW.out hbel2 (Nat.le_refl _))
                    have HOWN2 := hide (show w2.ownsRow wr.heap.size 9 1 v2 l.length (l.map Value.string) by rw [← HLL.out]; exact hown2)
                    have HBEL2 := hide hbel2
                    clear hown2 hbel2)
                 | (go_at_call 14
                    go_must (refine (eq_own HROW2.out HOWN2.out hl0 (by omega)).mono ?_)
                    rintro e w3 ⟨rfl, q3, rfl⟩
                    have he1 := hd1)))
            all_goals
              have HB3 := hide (HBR.out.trans (HBEL2.out.mono HBR.out.size))
              clear hc1 hd1 he1 hlook1 hlook2
              go_wp2
              go_roundw
              case rel => exact ⟨j + 1, by omega, by go_num, rfl, below_drewN HB3.out _⟩
              case measure => simp [RowKit.intOf]; omega
        · have : j = n := by omega
          subst this
          have HL2 := hide (HG.out.below hbr (Nat.le_refl _)).own
          have hsz := HF.out.size
          have hfin : ((Maps.size D : Int) == (cnt ks j : Int)) = true := by rw [hsz]; simp
          clear hsz
          have HBF := hide (((((Below.refl _ w).alloc (Nat.le_refl _) _).trans (HF.out.below.mono (by omega))).trans (HB1.out.mono (by omega))).trans (hbr.mono (by have := HB1.out.size; omega)))
          clear hbr
          go_wp2_with (at_len; refine wpList_len_own _ rfl _ 73 rfl 9 71 Yba.underlying73 tokR (w.heap.size + 1) _ _ rfl HL2.out ?_)
          go_ret
          exact ⟨rfl, HBF.out⟩

end Go.Proofs.Ybulkkiq
