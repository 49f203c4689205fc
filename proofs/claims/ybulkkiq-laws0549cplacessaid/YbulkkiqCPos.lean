import Derived.Test.YbulkkiqCZero
namespace Go.Proofs.Ybulkkiq
open Go.RowKit Go.Lib Go.Maps Go.WideMaps

theorem vnode_list : vnode.toList = [118, 110, 111, 100, 101] := by rw [toList_data]; rfl

/-- How many different keys other than "vnode" there are among the first n. -/
def oth (ks : List ByteArray) (n : Nat) : Nat := ((List.range n).filter fun i => fstB ks i && !((ks.getD i ByteArray.empty).toList == vnode.toList)).length
theorem oth_succ (ks : List ByteArray) (n : Nat) (x : ByteArray) (hx : x = ks.getD n ByteArray.empty) : oth ks (n + 1) = oth ks n + if fstB ks n && !(x.toList == vnode.toList) then 1 else 0 := by
  unfold oth
  rw [List.range_succ, List.filter_append, List.length_append, hx]
  cases h : (fstB ks n && !((ks.getD n ByteArray.empty).toList == vnode.toList))
  · rw [List.filter_cons_of_neg (by rw [h]; simp)]
    simp
  · rw [List.filter_cons_of_pos (by exact h)]
    simp
theorem oth_le (ks : List ByteArray) (n : Nat) : oth ks n ≤ n := by
  unfold oth
  exact Nat.le_trans (List.length_filter_le _ _) (by simp)
theorem cnt_oth (ks : List ByteArray) : ∀ n, n ≤ ks.length → cnt ks n = oth ks n + if (ks.take n).any (fun s => s.toList == vnode.toList) then 1 else 0
  | 0, _ => by simp [cnt, oth]
  | n + 1, h => by
    have ih := cnt_oth ks n (by omega)
    rw [cnt_succ, oth_succ ks n _ rfl, any_snoc ks _ n (by omega), ih]
    cases hv : ((ks.getD n ByteArray.empty).toList == vnode.toList)
    · simp
      omega
    · have e : (ks.getD n ByteArray.empty).toList = vnode.toList := by simpa using hv
      unfold fstB
      rw [e]
      cases (ks.take n).any (fun s => s.toList == vnode.toList) <;> simp

set_option maxRecDepth 100000 in
set_option maxHeartbeats 4000000 in
theorem cp_pos (xs : List Int) (bits c : Nat) (addr : ByteArray) (ak av : Option Addr) (bk ok bv ov lk ck lv cv n : Nat) (ks vs : List ByteArray) (w : World) (hx : xs.length = 20) (hr : ∀ i, i < 20 → 0 ≤ xs.getD i 0 ∧ xs.getD i 0 < 256) (hb : bits < 256) (hc : bits % 161 = c) (h0 : 0 < c) (hk : lk ≤ 1024) (hv : lv ≤ 1024)
    (hn : n = if lv < lk then lv else lk) (hak : 0 < n → ak = some ⟨bk, ok, none⟩) (hav : 0 < n → av = some ⟨bv, ov, none⟩) (hlk : lk ≤ ks.length) (hlv : lv ≤ vs.length) (hbk : 0 < n → bk < w.heap.size) (hbv : 0 < n → bv < w.heap.size)
    (hck : 0 < n → ∀ j, j < ks.length → w.cell? ⟨bk, ok + j, none⟩ = some (.string (ks.getD j ByteArray.empty)))
    (hcv : 0 < n → ∀ j, j < vs.length → w.cell? ⟨bv, ov + j, none⟩ = some (.string (vs.getD j ByteArray.empty)))
    (hsz : ∀ s ∈ ks, s.size ≤ maxLen) :
    Calls Yba.prog 5 #[.agg (xs.map (Value.int .u8)).toArray, .int .u8 bits, .string addr, .slice ak lk ck, .slice av lv cv, .bool false] w fun e w' => e = .returned (.bool true) ∧ Below w.heap.size w w' := by
  have HR := hide (arr_range xs w 22)
  have HL := hide (show (Yba.prog.info? 22).map (·.size) = some (xs.map (Value.int .u8)).length by rw [info22, List.length_map, hx])
  have HX := hide hx
  have HM := hide (show (xs.map (Value.int .u8)).length = 20 by rw [List.length_map, hx])
  have HI := hide (idCells_len xs c hx)
  have HL31 := hide (show (Yba.prog.info? 31).map (·.size) = some (peerCells xs c addr).length by rw [info31, peerCells_len xs c addr hx])
  have hb0 : ((bits : Int) % 161) = (c : Int) := by omega
  have hc160 : c ≤ 160 := by omega
  have hcz : ((c : Int) == 0) = false := by rw [beq_eq_false_iff_ne]; omega
  have HB := hide hr
  have hnk : n ≤ lk := by rw [hn]; split <;> omega
  have hnv : n ≤ lv := by rw [hn]; split <;> omega
  have HN := hide hn
  have HAK := hide hak
  have HAV := hide hav
  have HCK := hide hck
  have HCV := hide hcv
  have HSZ := hide hsz
  have HBK := hide hbk
  have HBV := hide hbv
  clear hx hr hc hn hak hav hck hcv hsz hbk hbv
  have hmm := @run_makeMap Yba.prog
  obtain ⟨i0, hi, hz0, hz1, hz2⟩ := info_parts Yba.info9
  go_enter Yba.func5, Yba.ntmps5
  go_upto_if 40 with fail
  go_cut [13, 14] (fun cc s wc => cc = .int .i64 c ∧ s = .int .i64 n ∧ wc = w.alloc (.cells (xs.map (Value.int .u8)).toArray 22))
  case first =>
    by_cases hlt : lv < lk
    · have e : n = lv := by rw [HN.out, if_pos hlt]
      go_wp2
      go_meet
      exact ⟨by rw [hb0], by rw [e], rfl⟩
    · have e : n = lk := by rw [HN.out, if_neg hlt]
      go_wp2
      go_meet
      exact ⟨by rw [hb0], by rw [e], rfl⟩
  case rest =>
    obtain ⟨rfl, rfl, rfl⟩ := hcut
    clear hb0
    go_upto_if 44 with fail
    go_cut [15, 16] (fun q _ wc => q = .map (some (w.heap.size + 1)) ∧ ∃ D V, Filled ks vs (w.heap.size + 2) (w.heap.size + 1) (w.alloc (.cells (xs.map (Value.int .u8)).toArray 22)) wc n D V)
    case first =>
      go_wp2
      go_loopw [16] (fun i wr => ∃ j : Nat, j ≤ n ∧ i = .int .i64 j ∧ ∃ D V, Filled ks vs (w.heap.size + 2) (w.heap.size + 1) (w.alloc (.cells (xs.map (Value.int .u8)).toArray 22)) wr j D V) (fun i _ => n - (RowKit.intOf i).toNat)
      case atStart =>
        have hF := Filled.made ks vs (w.alloc (.cells (xs.map (Value.int .u8)).toArray 22))
        rw [World.size_alloc] at hF
        exact ⟨0, Nat.zero_le _, rfl, _, _, hF⟩
      case round =>
        obtain ⟨j, hj, rfl, D, V, hF⟩ := hrel
        by_cases hlt : j < n
        · have e1 := HAK.out (by omega)
          have e2 := HAV.out (by omega)
          subst e1 e2
          obtain ⟨x, hx⟩ : ∃ x, x = ks.getD j ByteArray.empty := ⟨_, rfl⟩
          obtain ⟨y, hy⟩ : ∃ y, y = vs.getD j ByteArray.empty := ⟨_, rfl⟩
          obtain ⟨v, hv⟩ : ∃ v, v = V x.data.toList := ⟨_, rfl⟩
          obtain ⟨l, hl⟩ : ∃ l, l = wantK ks vs j x.data.toList := ⟨_, rfl⟩
          have hxs : x.size ≤ maxLen := by rw [hx]; exact size_getD HSZ.out j
          have HC1 := hide (show w.cell? ⟨bk, ok + j, none⟩ = some (.string x) by rw [HCK.out (by omega) j (by omega), hx])
          have HC2 := hide (show w.cell? ⟨bv, ov + j, none⟩ = some (.string y) by rw [HCV.out (by omega) j (by omega), hy])
          have hbkB : bk < w.heap.size := HBK.out (by omega)
          have hbvB : bv < w.heap.size := HBV.out (by omega)
          have hc1 := cell_w0 hF.below hbkB HC1.out
          have hc2 := cell_w0 hF.below hbvB HC2.out
          have hll : l.length ≤ 1024 := by rw [hl]; have := wantK_le ks vs j x.data.toList; omega
          have hlook1 : (Instr.lookup 73 (.map (some (w.heap.size + 1))) (.string x) false).run Yba.prog wr.drew = .ok v wr.drew := by
            rw [hv]; exact (hF.grp.kept (w' := wr.drew) ⟨rfl, rfl, rfl, Nat.le_refl _, fun _ _ _ => rfl⟩).look x hxs
          have hlook2 : ∀ o, (Instr.lookup 73 (.map (some (w.heap.size + 1))) (.string x) false).run Yba.prog (wr.alloc o).drew = .ok v (wr.alloc o).drew := fun o => by
            rw [hv]; exact (hF.grp.kept (w' := (wr.alloc o).drew) ⟨rfl, rfl, rfl, by simp, fun k hk _ => Below.heap_alloc wr o k hk⟩).look x hxs
          have hrow := hF.grp.row x.data.toList
          rw [← hv, ← hl] at hrow
          have HF := hide hF
          have HXX := hide hx
          have HYY := hide hy
          have HVV := hide hv
          have HLL := hide hl
          have HROW := hide hrow
          have hjk : (j : Int) < (lk : Int) := by omega
          have hjv : (j : Int) < (lv : Int) := by omega
          have hrm := hF.room
          clear hF hx hy hv hl hrow
          go_wp2
          have hbkr : bk < wr.heap.size := by omega
          have hbvr : bv < wr.heap.size := by omega
          have hca1 : ∀ o, (wr.alloc o).drew.cell? ⟨bk, ok + j, none⟩ = some (.string x) := fun o => (World.cell?_alloc_past o bk _ hbkr).trans hc1
          have hca2 : ∀ o, (wr.alloc o).drew.cell? ⟨bv, ov + j, none⟩ = some (.string y) := fun o => (World.cell?_alloc_past o bv _ hbvr).trans hc2
          have HCA1 := hide hca1
          have HCA2 := hide hca2
          clear hca1 hca2
          go_region_held_law (fun w' => w'.cell? ⟨bk, ok + j, none⟩ = some (.string x) ∧ w'.cell? ⟨bv, ov + j, none⟩ = some (.string y))
            (first | exact ⟨hc1, hc2⟩ | exact ⟨HCA1.out _, HCA2.out _⟩ | exact ⟨hd1, hd2⟩ | exact ⟨he1, he2⟩)
            ((refine step_append_lies (wr.alloc (.cells #[.string y] 9)).drew (by rfl) (.tmp 61) (.tmp 66) 71 (by rfl) (w.heap.size + 2) 9 i0 (.string ByteArray.empty) 1 16 Yba.underlying71 hi hz0 hz1 hz2 rfl (by decide) v l.length (l.map Value.string) (by rfl) (by exact HROW.out.alloc _) ⟨wr.heap.size, 0, none⟩ 1 1 [.string y] (by rfl) rfl (by exact cell_one_new _ _ _) (str_oneCell y) (by decide) (by unfold maxLen; omega) (by omega) (by show _ ≤ (wr.alloc _).heap.size; simp; omega) _ rfl ?_
              intro g cap w1 hown' hgrow hat hlt1
              obtain ⟨w2, D', V', hrun2, hF2, hbel1⟩ := HF.out.step (o := .cells #[.string y] 9) rfl (by omega) HXX.out HYY.out hxs (by omega) (by rw [← HLL.out]; exact hown') (by rw [← HVV.out]; exact hgrow) (by rw [← HVV.out]; exact hat)
              rw [← HLL.out] at hrun2
              have hd1 := cell_w0 hbel1 hbkB HC1.out
              have hd2 := cell_w0 hbel1 hbvB HC2.out
              have he1 := cell_w0 hF2.below hbkB HC1.out
              have he2 := cell_w0 hF2.below hbvB HC2.out
              have HF2 := hide hF2
              clear hown' hgrow hat hlt1 hbel1 hF2))
          all_goals
            clear hc1 hc2 hlook1 hlook2 hrun2 hd1 hd2 he1 he2
            go_wp2
            go_roundw
            case rel => exact ⟨j + 1, by omega, by go_num, _, _, HF2.out⟩
            case measure => simp [RowKit.intOf]; omega
        · have : j = n := by omega
          subst this
          go_wp2
          go_meet
          exact ⟨rfl, D, V, hF⟩
    case rest =>
      obtain ⟨rfl, D, V, hF⟩ := hcut
      have HF := hide hF
      have hroom := hF.room
      have HR1 := hide (range_below HR.out hF.below (by omega))
      have HW : Hid ((wc.alloc (.cells (peerCells xs c addr).toArray 31)).rangeAt wc.heap.size 0 (peerCells xs c addr)) := peer_whole xs c addr wc 31
      clear hF hmm
      go_upto_region 15 with (first
        | (refine wpList_load_mid rfl 22 _ rfl w.heap.size 0 rfl (xs.map (Value.int .u8)) _ HR1.out Yba.underlying22 rfl HL.out ?_)
        | (refine wpList_built2 rfl 29 0 1 _ _ rfl (.agg (xs.map (Value.int .u8)).toArray) (.int .u8 c) rfl rfl (.agg (idCells xs c).toArray) (build29 _ HM.out _ _) ?_)
        | (refine wpList_built2 rfl 31 0 1 _ _ rfl (.agg (idCells xs c).toArray) (.string addr) rfl rfl (.agg (peerCells xs c addr).toArray) (build31 _ HI.out _ _) ?_)
        | (refine wpList_store_new rfl 31 _ _ rfl 31 _ _ _ (by simp) rfl rfl (by rw [List.size_toArray]; exact HL31.out) (by simp [peerCells_len xs c addr HX.out]) (peerCells_one xs c addr) ?_))
      go_upto_region 16 with (first
        | (refine wpList_load_mid rfl 31 _ rfl wc.heap.size 0 rfl (peerCells xs c addr) _ HW.out Yba.underlying31 rfl HL31.out ?_)
        | (go_at_call 12; refine (pq_some (HF.out.grp.kept (World.grownBy_alloc wc _ _)) xs c addr HX.out HB.out (by omega) h0 (by unfold maxLen; omega) (by simp; omega)).mono ?_; rintro e w1 ⟨rfl, ⟨v', hG⟩, hg1⟩))
      have b1 : Below (w.heap.size + 1) (w.alloc (.cells (xs.map (Value.int .u8)).toArray 22)) w1 := (HF.out.below.alloc (by omega) _).grown hg1 (by simp; omega) (fun k hk => by cases hk; exact Nat.le_refl _)
      have hs1 : w.heap.size + 2 ≤ w1.heap.size := by have := hg1.size; simp at this; omega
      have HG := hide hG
      have HB1 := hide b1
      have HR2 := hide (range_below HR.out b1 (by omega))
      clear hg1 hG b1
      have he := eql73
      have hne := neq73
      go_upto_region 33 with (first
        | (refine wpList_load_mid rfl 22 _ rfl w.heap.size 0 rfl (xs.map (Value.int .u8)) _ HR2.out Yba.underlying22 rfl HL.out ?_)
        | (go_at_call 16; refine (hex_any xs c _ HX.out HB.out (by omega)).mono ?_; rintro e w2 ⟨rfl, hb2⟩))
      have G2 := HG.out.below hb2 (Nat.le_refl _)
      have hrow := G2.row vnode.data.toList
      rw [upd_same, upd_same] at hrow
      have hlook : ∀ o m, (Instr.lookup 73 (.map (some (w.heap.size + 1))) (.string ⟨#[118, 110, 111, 100, 101]⟩) false).run Yba.prog ((World.alloc w2 o).drewN m) = .ok v' ((w2.alloc o).drewN m) := fun o m => by
        have := (G2.kept (w' := (w2.alloc o).drewN m) ⟨rfl, rfl, rfl, by simp, fun k hk _ => Below.heap_alloc w2 o k hk⟩).look vnode vnode_size
        rw [upd_same] at this
        exact this
      have hlook0 : (Instr.lookup 73 (.map (some (w.heap.size + 1))) (.string ⟨#[118, 110, 111, 100, 101]⟩) false).run Yba.prog w2 = .ok v' w2 := by
        have := G2.look vnode vnode_size
        rw [upd_same] at this
        exact this
      have HG2 := hide G2
      have HROW := hide hrow
      have HB2 := hide hb2
      clear G2 hrow hb2
      go_upto_region 35 with (first
        | (go_at_call 14; refine (eq_own (HROW.out.alloc _) (World.ownsRow_lit w2 #[.string _] 1 (Nat.le_refl _) (by decide) rfl) (by simp) (by simp)).mono ?_; rintro e w3 ⟨rfl, q, rfl⟩))
      have HR3 : Hid (∀ o1 o2 m, (((w2.alloc o1).alloc o2).drewN m).ownsRow (w.heap.size + 2) 9 1 v' ([(⟨(hexL xs c).toArray⟩ : ByteArray)]).length ([(⟨(hexL xs c).toArray⟩ : ByteArray)].map Value.string)) := fun o1 o2 m => (HROW.out.alloc o1).alloc o2
      have HR4 : Hid (∀ o1 m, (((w2.alloc o1).alloc (.cells #[.string ⟨(hexL xs c).toArray⟩] 9)).drewN m).ownsRow 0 9 1 (.slice (some ⟨w2.heap.size + 1, 0, none⟩) 1 1) ([(⟨(hexL xs c).toArray⟩ : ByteArray)]).length ([(⟨(hexL xs c).toArray⟩ : ByteArray)].map Value.string)) := fun o1 m => by
        have := World.ownsRow_lit (base := 0) (e := 9) (size := 1) (w2.alloc o1) #[.string ⟨(hexL xs c).toArray⟩] 1 (Nat.zero_le _) (by decide) rfl
        rw [World.size_alloc] at this
        exact this
      go_upto_region 37 with (first
        | (go_at_call 14; go_must (refine (eq_own (HR3.out _ _ _) (HR4.out _ _) (by simp) (by simp)).mono ?_); rintro e w3 ⟨rfl, q2, rfl⟩))
      go_upto_region 41 with fail
      clear he hne hlook hlook0
      go_loopw [22, 23] (fun d i wr => ∃ j : Nat, j ≤ n ∧ i = .int .i64 j ∧ d = .int .i64 (oth ks j) ∧ Below w2.heap.size w2 wr) (fun _ i _ => n - (RowKit.intOf i).toNat)
      case atStart => exact ⟨0, Nat.zero_le _, rfl, rfl, below_drewN (((Below.refl _ _).alloc (Nat.le_refl _) _).alloc (by simp) _) _⟩
      case round =>
        obtain ⟨j, hj, rfl, rfl, hbr⟩ := hrel
        by_cases hlt : j < n
        · have e1 := HAK.out (by omega)
          have e2 := HAV.out (by omega)
          subst e1 e2
          obtain ⟨x, hx⟩ : ∃ x, x = ks.getD j ByteArray.empty := ⟨_, rfl⟩
          have hxs : x.size ≤ maxLen := by rw [hx]; exact size_getD HSZ.out j
          have hbkB : bk < w.heap.size := HBK.out (by omega)
          have hbvB : bv < w.heap.size := HBV.out (by omega)
          have hs2 := HB2.out.size
          have hbw : Below (w.heap.size + 1) (w.alloc (.cells (xs.map (Value.int .u8)).toArray 22)) wr := (HB1.out.trans (HB2.out.mono (by omega))).trans (hbr.mono (by omega))
          have HCKr := hide (fun i hi => cell_w0 hbw hbkB (HCK.out (by omega) i hi))
          have HCVr := hide (fun i hi => cell_w0 hbw hbvB (HCV.out (by omega) i hi))
          have HGr := hide (HG2.out.below hbr (Nat.le_refl _))
          have hcnt := oth_le ks j
          have HCN := hide (oth_succ ks j x hx)
          have hjk : (j : Int) < (lk : Int) := by omega
          have hjv : (j : Int) < (lv : Int) := by omega
          have hszr : w.heap.size < wr.heap.size := by have := hbr.size; omega
          have hc1 : wr.cell? ⟨bk, ok + j, none⟩ = some (.string x) := by rw [HCKr.out j (by omega), hx]
          have HBR := hide hbr
          have HXX := hide hx
          clear hx hbr hbw
          cases hxv : (x.toList == [118, 110, 111, 100, 101])
          · have hxn : x.data.toList ≠ vnode.data.toList := by
              rw [beq_eq_false_iff_ne, toList_data] at hxv
              exact hxv
            have HCN2 : Hid (oth ks (j + 1) = oth ks j + if fstB ks j then 1 else 0) := by
              rw [HCN.out, vnode_list, hxv]
              cases fstB ks j <;> rfl
            go_upto_if 154 with (go_at_call 13; refine (first_any bk ok lk ck j ks _ (by omega) hlk hk HCKr.out).mono ?_; rintro e wq ⟨rfl, q5, rfl⟩)
            go_cut [22] (fun d wx => d = .int .i64 (oth ks (j + 1)) ∧ wx = wr.drewN q5)
            case first =>
              cases hf : fstB ks j
              · have e : oth ks (j + 1) = oth ks j := by rw [HCN2.out, hf]; simp
                go_wp2
                go_meet
                exact ⟨by rw [e], rfl⟩
              · have e : oth ks (j + 1) = oth ks j + 1 := by rw [HCN2.out, hf]; simp
                go_wp2
                go_meet
                exact ⟨by rw [e]; go_num, rfl⟩
            case rest =>
              obtain ⟨rfl, rfl⟩ := hcut
              obtain ⟨v, hv⟩ : ∃ v, v = upd V vnode.data.toList v' x.data.toList := ⟨_, rfl⟩
              obtain ⟨l, hl⟩ : ∃ l, l = wantK ks vs n x.data.toList := ⟨_, rfl⟩
              have hlook1 : ∀ m, (Instr.lookup 73 (.map (some (w.heap.size + 1))) (.string x) false).run Yba.prog (wr.drewN m) = .ok v (wr.drewN m) := fun m => by
                rw [hv]; exact (HGr.out.kept (w' := wr.drewN m) ⟨rfl, rfl, rfl, Nat.le_refl _, fun _ _ _ => rfl⟩).look x hxs
              have hrow := HGr.out.row x.data.toList
              rw [← hv, upd_other _ _ hxn, ← hl] at hrow
              have HROW := hide hrow
              have hl0 : 0 < l.length := by rw [hl]; exact wantK_pos ks vs n j x HXX.out hlt
              have hl1 : l.length ≤ n := by rw [hl]; exact wantK_le _ _ _ _
              have HLL := hide (show wantL ks vs n x = l by rw [hl, wantK_eq])
              have HVV := hide hv
              clear hv hl hrow
              have hbkr : bk < wr.heap.size := by omega
              have hbvr : bv < wr.heap.size := by omega
              go_wp2
              go_region_held_law (fun w' => w'.cell? ⟨bk, ok + j, none⟩ = some (.string x))
                (first | exact hc1 | exact hd1 | exact he1)
                ((first
                   | (go_at_call 15
                      refine (want_any bk ok lk ck bv ov lv cv n ks vs x _ hnk hnv hlk hlv (by omega) (by exact HCKr.out) (by exact HCVr.out) (by exact hbkr) (by exact hbvr)).mono ?_
                      rintro e w2 ⟨v2, rfl, hown2, hbel0⟩
                      have hbel2 : Below wr.heap.size wr w2 := ⟨hbel0.os, hbel0.tape, hbel0.output, hbel0.size, hbel0.block⟩
                      clear hbel0
                      have hd1 := (hbel2.cell (p := ⟨bk, ok + j, none⟩) hbkr).trans hc1
                      have hlook2 : (Instr.lookup 73 (.map (some (w.heap.size + 1))) (.string x) false).run Yba.prog w2 = .ok v w2 := by rw [HVV.out]; exact (HGr.out.below hbel2 (Nat.le_refl _)).look x hxs
                      have HROW2 := hide (row_below HROW.out hbel2 (Nat.le_refl _))
                      have HOWN2 := hide (show w2.ownsRow wr.heap.size 9 1 v2 l.length (l.map Value.string) by rw [← HLL.out]; exact hown2)
                      have HBEL2 := hide hbel2
                      clear hown2 hbel2)
                   | (go_at_call 14
                      go_must (refine (eq_own HROW2.out HOWN2.out hl0 (by omega)).mono ?_)
                      rintro e w3 ⟨rfl, q3, rfl⟩
                      have he1 := hd1)))
              all_goals
                have HB3 := hide (HBR.out.trans (HBEL2.out.mono HBR.out.size))
                clear hc1 hd1 he1 hlook1 hlook2
                go_wp2
                go_roundw
                case rel => exact ⟨j + 1, by omega, by go_num, rfl, below_drewN HB3.out _⟩
                case measure => simp [RowKit.intOf]; omega
          · have e : oth ks (j + 1) = oth ks j := by rw [HCN.out, vnode_list, hxv]; simp
            go_wp2
            go_roundw
            case rel => exact ⟨j + 1, by omega, by go_num, by rw [e], HBR.out⟩
            case measure => simp [RowKit.intOf]; omega
        · have : j = n := by omega
          subst this
          have HL2 := hide (HG2.out.below hbr (Nat.le_refl _)).own
          have hfin : ((Maps.size (D.put (.string vnode.data.toList) (.held v')) : Int) == ((oth ks j : Int) + 1)) = true := by
            rw [size_put (HF.out.grp.own.tidy law9), HF.out.has, HF.out.size, cnt_oth ks j (by omega), toList_data vnode]
            cases (ks.take j).any (fun s => s.toList == vnode.data.toList) <;> simp
          have ho := oth_le ks j
          have HBF := hide ((((((Below.refl _ w).alloc (Nat.le_refl _) _).trans (HB1.out.mono (by omega))).trans (HB2.out.mono (by omega))).trans (hbr.mono (by have := HB2.out.size; omega))))
          clear hbr
          go_wp2_with (at_len; refine wpList_len_own _ rfl _ 73 rfl 9 71 Yba.underlying73 tokR (w.heap.size + 1) _ _ rfl HL2.out ?_)
          go_ret
          exact ⟨rfl, HBF.out⟩

end Go.Proofs.Ybulkkiq
