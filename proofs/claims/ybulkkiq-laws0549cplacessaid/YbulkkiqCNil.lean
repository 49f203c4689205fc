import Derived.Test.YbulkkiqCWalk
import Derived.Test.YbulkkiqEq
namespace Go.Proofs.Ybulkkiq
open Go.RowKit Go.Lib Go.Maps Go.WideMaps

theorem size_one (k : List UInt8) (v : Value) : Maps.size ((DataW.map []).put (.string k) (.held v)) = 1 := rfl

theorem ownsMap_drewN {H : Type} {w : World} {P : Program} {k : TypeId} {R : Value → Option (DataW H × List MemPlace)} {b n : Nat} {D : DataW H} (h : w.ownsMap P k R b n D) (q : Nat) : (w.drewN q).ownsMap P k R b n D := h

set_option maxRecDepth 100000 in
set_option maxHeartbeats 2000000 in
theorem cp_nil_pos (xs : List Int) (bits c : Nat) (addr : ByteArray) (ak av : Option Addr) (lk ck lv cv : Nat) (w : World) (hx : xs.length = 20) (hr : ∀ i, i < 20 → 0 ≤ xs.getD i 0 ∧ xs.getD i 0 < 256) (hb : bits < 256) (hc : bits % 161 = c) (h0 : 0 < c) (hk : lk ≤ 1024) (hv : lv ≤ 1024) :
    Calls Yba.prog 5 #[.agg (xs.map (Value.int .u8)).toArray, .int .u8 bits, .string addr, .slice ak lk ck, .slice av lv cv, .bool true] w fun e w' => e = .returned (.bool true) ∧ Below w.heap.size w w' := by
  have HR := hide (arr_range xs w 22)
  have HL := hide (show (Yba.prog.info? 22).map (·.size) = some (xs.map (Value.int .u8)).length by rw [info22, List.length_map, hx])
  have HX := hide hx
  have HB := hide hr
  have HM := hide (show (xs.map (Value.int .u8)).length = 20 by rw [List.length_map, hx])
  have HI := hide (idCells_len xs c hx)
  have HL31 := hide (show (Yba.prog.info? 31).map (·.size) = some (peerCells xs c addr).length by rw [info31, peerCells_len xs c addr hx])
  have HW : Hid (((w.alloc (.cells (xs.map (Value.int .u8)).toArray 22)).alloc (.cells (peerCells xs c addr).toArray 31)).rangeAt (w.heap.size + 1) 0 (peerCells xs c addr)) := by
    have := peer_whole xs c addr (w.alloc (.cells (xs.map (Value.int .u8)).toArray 22)) 31
    rw [World.size_alloc] at this
    exact this
  have hc160 : c ≤ 160 := by omega
  have hb0 : ((bits : Int) % 161) = (c : Int) := by omega
  have hcz : ((c : Int) == 0) = false := by rw [beq_eq_false_iff_ne]; omega
  clear hx hr hc
  go_enter Yba.func5, Yba.ntmps5
  go_upto_if 40 with fail
  go_cut [14] (fun s wc => ∃ n : Nat, n ≤ lk ∧ n ≤ lv ∧ s = .int .i64 n ∧ wc = w.alloc (.cells (xs.map (Value.int .u8)).toArray 22))
  case first =>
    by_cases hlt : lv < lk
    · go_wp2
      go_meet
      exact ⟨lv, by omega, by omega, rfl, rfl⟩
    · go_wp2
      go_meet
      exact ⟨lk, by omega, by omega, rfl, rfl⟩
  case rest =>
    obtain ⟨n, hnk, hnv, rfl, rfl⟩ := hcut
    go_upto_region 15 with (first
      | (refine wpList_load_mid rfl 22 _ rfl w.heap.size 0 rfl (xs.map (Value.int .u8)) _ HR.out Yba.underlying22 rfl HL.out ?_)
      | (refine wpList_built2 rfl 29 0 1 _ _ rfl (.agg (xs.map (Value.int .u8)).toArray) (.int .u8 c) rfl rfl (.agg (idCells xs c).toArray) (build29 _ HM.out _ _) ?_)
      | (refine wpList_built2 rfl 31 0 1 _ _ rfl (.agg (idCells xs c).toArray) (.string addr) rfl rfl (.agg (peerCells xs c addr).toArray) (build31 _ HI.out _ _) ?_)
      | (refine wpList_store_new rfl 31 _ _ rfl 31 _ _ _ (by simp) rfl rfl (by rw [List.size_toArray]; exact HL31.out) (by simp [peerCells_len xs c addr HX.out]) (peerCells_one xs c addr) ?_))
    go_upto_region 16 with (first
      | (refine wpList_load_mid rfl 31 _ rfl (w.heap.size + 1) 0 rfl (peerCells xs c addr) _ HW.out Yba.underlying31 rfl HL31.out ?_)
      | (go_at_call 12; refine (pq_nil _ xs c addr HX.out HB.out (by omega) (by omega)).mono ?_; rintro e w1 ⟨B, rfl, ⟨v', hG⟩, hb1⟩))
    have b1 : Below (w.heap.size + 1) (w.alloc (.cells (xs.map (Value.int .u8)).toArray 22)) w1 := ((Below.refl _ _).alloc (by simp) _).trans (hb1.mono (by simp))
    have HR1 := hide (range_below HR.out b1 (by omega))
    have HG := hide hG
    clear hb1 hG
    have he := eql73
    have hne := neq73
    go_upto_region 33 with (first
      | (refine wpList_load_mid rfl 22 _ rfl w.heap.size 0 rfl (xs.map (Value.int .u8)) _ HR1.out Yba.underlying22 rfl HL.out ?_)
      | (go_at_call 16; refine (hex_any xs c _ HX.out HB.out (by omega)).mono ?_; rintro e w2 ⟨rfl, hb2⟩))
    have G2 := HG.out.below hb2 (Nat.le_refl _)
    have hlook := G2.look vnode vnode_size
    rw [upd_same] at hlook
    have hrow := G2.row vnode.data.toList
    rw [upd_same, upd_same] at hrow
    have hlen := G2.own
    have HG2 := hide G2
    have HROW := hide hrow
    have HB2 := hide hb2
    have HLEN := hide hlen
    have hlook' : (Instr.lookup 73 (.map (some B)) (.string ⟨#[118, 110, 111, 100, 101]⟩) false).run Yba.prog w2 = .ok v' w2 := hlook
    clear G2 hrow hb2 hlen hlook
    go_upto_region 35 with (first
      | (go_at_call 14; refine (eq_own (HROW.out.alloc _) (World.ownsRow_lit w2 #[.string _] 1 (Nat.le_refl _) (by decide) rfl) (by simp) (by simp)).mono ?_; rintro e w3 ⟨rfl, q, rfl⟩))
    have hs1 := size_one vnode.data.toList v'
    go_wp2_with (at_len; refine wpList_len_own _ rfl _ 73 rfl 9 71 Yba.underlying73 tokR B _ _ rfl (ownsMap_drewN (HLEN.out.alloc _) _) ?_)
    go_ret
    have b2 : Below w.heap.size w w2 := (((Below.refl _ w).alloc (Nat.le_refl _) _).trans (b1.mono (by omega))).trans (HB2.out.mono (by have := b1.size; simp at this; omega))
    exact ⟨rfl, below_drewN (b2.alloc b2.size _) _⟩

end Go.Proofs.Ybulkkiq
