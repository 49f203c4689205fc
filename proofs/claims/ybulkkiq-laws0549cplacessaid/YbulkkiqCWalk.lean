import Derived.Test.YbulkkiqQuery
import Derived.Test.YbulkkiqBuild
import Derived.Deep.DeepCutAuto
namespace Go.Proofs.Ybulkkiq
open Go.RowKit Go.Lib Go.Maps Go.WideMaps

theorem arr_range (xs : List Int) (w : World) (t : TypeId) : (w.alloc (.cells (xs.map (Value.int .u8)).toArray t)).rangeAt w.heap.size 0 (xs.map (Value.int .u8)) := fun j v hv => by
  rw [Nat.zero_add, World.cell?_alloc_new]
  simpa using hv
theorem info22 : (Yba.prog.info? 22).map (·.size) = some 20 := by kernel_rfl
theorem info31 : (Yba.prog.info? 31).map (·.size) = some 22 := by kernel_rfl
theorem peerCells_len (xs : List Int) (bits : Nat) (addr : ByteArray) (hx : xs.length = 20) : (peerCells xs bits addr).length = 22 := by simp [peerCells, idCells, hx]
theorem peerCells_one (xs : List Int) (bits : Nat) (addr : ByteArray) : (peerCells xs bits addr).toArray.all (·.oneCell') = true := by
  rw [Array.all_eq_true_iff_forall_mem]
  intro v hv
  simp [peerCells, idCells] at hv
  rcases hv with ⟨_, _, rfl⟩ | rfl | rfl <;> rfl
theorem peer_whole (xs : List Int) (bits : Nat) (addr : ByteArray) (w : World) (t : TypeId) : (w.alloc (.cells (peerCells xs bits addr).toArray t)).rangeAt w.heap.size 0 (peerCells xs bits addr) := fun j v hv => by
  rw [Nat.zero_add, World.cell?_alloc_new]
  simpa using hv

set_option maxRecDepth 100000 in
set_option maxHeartbeats 1000000 in
theorem cp_nil_zero (xs : List Int) (bits : Nat) (addr : ByteArray) (ak av : Option Addr) (lk ck lv cv : Nat) (w : World) (hx : xs.length = 20) (hb : bits < 256) (h0 : bits % 161 = 0) (hk : lk ≤ 1024) (hv : lv ≤ 1024) :
    Calls Yba.prog 5 #[.agg (xs.map (Value.int .u8)).toArray, .int .u8 bits, .string addr, .slice ak lk ck, .slice av lv cv, .bool true] w fun e w' => e = .returned (.bool true) ∧ Below w.heap.size w w' := by
  have HR := hide (arr_range xs w 22)
  have HL := hide (show (Yba.prog.info? 22).map (·.size) = some (xs.map (Value.int .u8)).length by rw [info22, List.length_map, hx])
  have HX := hide hx
  have HM := hide (show (xs.map (Value.int .u8)).length = 20 by rw [List.length_map, hx])
  have HI := hide (idCells_len xs 0 hx)
  have HL31 := hide (show (Yba.prog.info? 31).map (·.size) = some (peerCells xs 0 addr).length by rw [info31, peerCells_len xs 0 addr hx])
  have HW : Hid (((w.alloc (.cells (xs.map (Value.int .u8)).toArray 22)).alloc (.cells (peerCells xs 0 addr).toArray 31)).rangeAt (w.heap.size + 1) 0 (peerCells xs 0 addr)) := by
    have := peer_whole xs 0 addr (w.alloc (.cells (xs.map (Value.int .u8)).toArray 22)) 31
    rw [World.size_alloc] at this
    exact this
  have hb0 : ((bits : Int) % 161) = 0 := by omega
  clear hx
  go_enter Yba.func5, Yba.ntmps5
  go_upto_if 40 with fail
  go_cut [14] (fun s wc => ∃ n : Nat, n ≤ lk ∧ n ≤ lv ∧ s = .int .i64 n ∧ wc = w.alloc (.cells (xs.map (Value.int .u8)).toArray 22))
  case first =>
    by_cases hlt : lv < lk
    · go_wp2
      go_meet
      exact ⟨lv, by omega, by omega, rfl, rfl⟩
    · go_wp2
      go_meet
      exact ⟨lk, by omega, by omega, rfl, rfl⟩
  case rest =>
    obtain ⟨n, hnk, hnv, rfl, rfl⟩ := hcut
    go_upto_region 15 with (first
      | (refine wpList_load_mid rfl 22 _ rfl w.heap.size 0 rfl (xs.map (Value.int .u8)) _ HR.out Yba.underlying22 rfl HL.out ?_)
      | (refine wpList_built2 rfl 29 0 1 _ _ rfl (.agg (xs.map (Value.int .u8)).toArray) (.int .u8 0) rfl rfl (.agg (idCells xs 0).toArray) (build29 _ HM.out _ _) ?_)
      | (refine wpList_built2 rfl 31 0 1 _ _ rfl (.agg (idCells xs 0).toArray) (.string addr) rfl rfl (.agg (peerCells xs 0 addr).toArray) (build31 _ HI.out _ _) ?_)
      | (refine wpList_store_new rfl 31 _ _ rfl 31 _ _ _ (by simp) rfl rfl (by rw [List.size_toArray]; exact HL31.out) (by simp [peerCells_len xs 0 addr HX.out]) (peerCells_one xs 0 addr) ?_))
    go_upto_region 16 with (first
      | (refine wpList_load_mid rfl 31 _ rfl (w.heap.size + 1) 0 rfl (peerCells xs 0 addr) _ HW.out Yba.underlying31 rfl HL31.out ?_)
      | (go_at_call 12; refine (pq_zero xs addr none _ HX.out).mono ?_; rintro e w1 ⟨rfl, hb1⟩))
    have he := eql73
    have hne := neq73
    go_wp2
    go_ret
    exact ⟨rfl, (((Below.refl _ w).alloc (Nat.le_refl _) _).alloc (by simp) _).trans (hb1.mono (by simp; omega))⟩

end Go.Proofs.Ybulkkiq
