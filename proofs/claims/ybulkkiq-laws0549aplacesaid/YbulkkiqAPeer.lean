import Derived.Test.YbulkkiqBuild
import Derived.Deep.MidRow
import Derived.Below
namespace Go.Proofs.Ybulkkiq
open Go.RowKit

theorem hidA {p : Prop} (h : p) : Hid p := h
theorem infoA22 : (Yba.prog.info? 22).map (·.size) = some 20 := by kernel_rfl
theorem infoA31 : (Yba.prog.info? 31).map (·.size) = some 22 := by kernel_rfl

/-- A member's cells: twenty bytes, the width, the address. -/
def pcells (xs : List Int) (bits : Int) (addr : ByteArray) : List Value := xs.map (Value.int .u8) ++ [.int .u8 bits] ++ [.string addr]
theorem pcells_len (xs : List Int) (bits : Int) (addr : ByteArray) (hx : xs.length = 20) : (pcells xs bits addr).length = 22 := by simp [pcells, hx]
theorem pcells_one (xs : List Int) (bits : Int) (addr : ByteArray) : (pcells xs bits addr).toArray.all (·.oneCell') = true := by
  rw [Array.all_eq_true_iff_forall_mem]
  intro v hv
  simp [pcells] at hv
  rcases hv with ⟨_, _, rfl⟩ | rfl | rfl <;> rfl
theorem pcells_range (xs : List Int) (bits : Int) (addr : ByteArray) (w : World) (t : TypeId) (o : Obj) : ((w.alloc (.cells (pcells xs bits addr).toArray t)).alloc o).rangeAt w.heap.size 0 (xs.map (Value.int .u8)) := World.rangeAt_alloc (fun j v hv => by
  rw [Nat.zero_add, World.cell?_alloc_new]
  simp only [pcells, List.getElem?_toArray, List.append_assoc]
  rw [List.getElem?_append_left (List.getElem?_eq_some_iff.1 hv).1]
  exact hv) o
theorem pcells_20 (xs : List Int) (bits : Int) (addr : ByteArray) (hx : xs.length = 20) : (pcells xs bits addr)[20]? = some (.int .u8 bits) := by simp [pcells, hx]
theorem pcells_21 (xs : List Int) (bits : Int) (addr : ByteArray) (hx : xs.length = 20) : (pcells xs bits addr)[21]? = some (.string addr) := by simp [pcells, hx]

set_option maxRecDepth 100000 in
set_option maxHeartbeats 400000 in
theorem peer_any (xs : List Int) (bits : Int) (addr : ByteArray) (w : World) (hx : xs.length = 20) :
    Calls Yba.prog 6 #[.agg (pcells xs bits addr).toArray] w fun e w' => e = .returned (.agg (pcells xs bits addr).toArray) ∧ Below w.heap.size w w' := by
  have HR := hidA (pcells_range xs bits addr w 24)
  have HL := hidA (show (Yba.prog.info? 22).map (·.size) = some (xs.map (Value.int .u8)).length by rw [infoA22, List.length_map, hx])
  have HM := hidA (show (xs.map (Value.int .u8)).length = 20 by rw [List.length_map, hx])
  have HI := hidA (show (xs.map (Value.int .u8) ++ [Value.int .u8 bits]).length = 21 by simp [hx])
  have HL31 := hidA (show (Yba.prog.info? 31).map (·.size) = some (pcells xs bits addr).length by rw [infoA31, pcells_len xs bits addr hx])
  have h20 := pcells_20 xs bits addr hx
  have h21 := pcells_21 xs bits addr hx
  have HX := hidA hx
  clear hx
  go_enter Yba.func6, Yba.ntmps6
  go_wp2_with (first
      | (refine wpList_load_mid rfl 22 _ rfl w.heap.size 0 rfl (xs.map (Value.int .u8)) _ (HR.out _) Yba.underlying22 rfl HL.out ?_)
      | (refine wpList_built2 rfl 29 0 1 _ _ rfl (.agg (xs.map (Value.int .u8)).toArray) (.int .u8 bits) rfl rfl (.agg (xs.map (Value.int .u8) ++ [Value.int .u8 bits]).toArray) (build29 _ HM.out _ _) ?_)
      | (refine wpList_built2 rfl 31 0 1 _ _ rfl (.agg (xs.map (Value.int .u8) ++ [Value.int .u8 bits]).toArray) (.string addr) rfl rfl (.agg (pcells xs bits addr).toArray) (build31 _ HI.out _ _) ?_)
      | (refine wpList_store_new rfl 31 _ _ rfl 31 _ _ _ (by simp) rfl rfl (by rw [List.size_toArray]; exact HL31.out) (by simp [pcells_len xs bits addr HX.out]) (pcells_one xs bits addr) ?_))
  refine bodyPost_ret (results_cell_row (by rfl) _ _ (w.heap.size + 1) 31 (pcells xs bits addr).toArray (0, 0) _ rfl ?_ Yba.underlying31 rfl (by rw [List.size_toArray]; exact HL31.out)) rfl ⟨rfl, ?_⟩
  · have := heap_alloc_new (w.alloc (.cells (pcells xs bits addr).toArray 24)) (.cells (pcells xs bits addr).toArray 31)
    rw [World.size_alloc] at this
    exact this
  · exact ((Below.refl _ w).alloc (Nat.le_refl _) _).alloc (by simp) _

end Go.Proofs.Ybulkkiq
