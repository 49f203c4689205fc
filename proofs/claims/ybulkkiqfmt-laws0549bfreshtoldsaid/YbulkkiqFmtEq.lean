-- MINE
import Derived.Test.YbulkkiqFmtProg
import Derived.Stop.BytesEq
import Derived.Laws.StructEq
import Derived.Shelf.SlicesE.Kit
import Derived.Shelf.SlicesE.Equal
import Derived.WalkKit
namespace Go.Proofs.YbulkkiqFmt
open Go.RowKit Go.Shelf
open Go.Extern.Stop (cell)

/-- The address's text. -/
def addrT : ByteArray := ⟨#[97, 100, 100, 114]⟩
/-- The bytes of an identifier whose last byte is x. -/
def bytesL (x : UInt8) : List UInt8 := [0, 0, 0, 0, 0, 0, 0, 0, 0, 0, 0, 0, 0, 0, 0, 0, 0, 0, 0, x]
/-- An ID's cells. -/
def idC (x : UInt8) : List Value := (bytesL x).map cell ++ [.int .u8 8]
/-- A Peer's cells. -/
def peerC (x : UInt8) : List Value := (bytesL x).map cell ++ [.int .u8 8, .string addrT]
theorem idC_len (x : UInt8) : (idC x).length = 21 := rfl
theorem peerC_len (x : UInt8) : (peerC x).length = 22 := rfl

theorem bytes_beq (x y : UInt8) : (bytesL x == bytesL y) = (x == y) := by
  rw [Bool.eq_iff_iff]
  simp [bytesL]

theorem equal23 (d : Nat) (x y : UInt8) (w : World) : (Op.equalIn (d + 2) 23 (.agg ((bytesL x).map cell).toArray) (.agg ((bytesL y).map cell).toArray)).run Ybaf.prog w = .ok (x == y) w := by
  rw [run_equalIn_bytes w d 23 5 20 Ybaf.underlying23 Ybaf.underlying5 Ybaf.sizeOf5 (bytesL x) (bytesL y) rfl rfl, bytes_beq]

set_option maxRecDepth 100000 in
set_option maxHeartbeats 1600000 in
theorem equal25 (d : Nat) (x y : UInt8) (w : World) : (Op.equalIn (d + 3) 25 (.agg (idC x).toArray) (.agg (idC y).toArray)).run Ybaf.prog w = .ok (x == y) w := by
  have h := fun w => equal23 d x y w
  have hS : Ybaf.prog.underlying 25 = some (.struct (Ybaf.prog.fieldsOf 25)) := by kernel_rfl
  have hp : Ybaf.prog.stoodInHeld 25 = false := by kernel_rfl
  rw [run_equalIn_agg w (d + 2) 25 _ _ hS hp]
  simp only [Program.fieldsOf, Ybaf.underlying25]
  have p1 : ∀ (z : UInt8) (w : World), (part 23 (idC z).toArray 0).run Ybaf.prog w = .ok (.agg ((bytesL z).map cell).toArray) w := fun z w => by kernel_rfl
  have p2 : ∀ (z : UInt8) (w : World), (part 5 (idC z).toArray 20).run Ybaf.prog w = .ok (.int .u8 8) w := fun z w => by kernel_rfl
  have p3 : ∀ w, (Op.equalIn (d + 2) 5 (.int .u8 8) (.int .u8 8)).run Ybaf.prog w = .ok true w := fun w => by
    rw [run_equalIn_int w (d + 1) 5 .u8 .u8 8 8 Ybaf.underlying5]
    rfl
  simp only [Op.eqFields, ne_eq, String.reduceEq, not_false_eq_true, if_true, Sem.run_bind, p1, p2, h, p3, Result.andThen_ok, Sem.run_ite, Sem.run_pure]
  cases x == y <;> simp

set_option maxRecDepth 100000 in
set_option maxHeartbeats 1600000 in
theorem equal54 (d : Nat) (x y : UInt8) (w : World) : (Op.equalIn (d + 4) 54 (.agg (peerC x).toArray) (.agg (peerC y).toArray)).run Ybaf.prog w = .ok (x == y) w := by
  have h := fun w => equal25 d x y w
  have hS : Ybaf.prog.underlying 54 = some (.struct (Ybaf.prog.fieldsOf 54)) := by kernel_rfl
  have hp : Ybaf.prog.stoodInHeld 54 = false := by kernel_rfl
  rw [run_equalIn_agg w (d + 3) 54 _ _ hS hp]
  simp only [Program.fieldsOf, Ybaf.underlying54]
  have p1 : ∀ (z : UInt8) (w : World), (part 25 (peerC z).toArray 0).run Ybaf.prog w = .ok (.agg (idC z).toArray) w := fun z w => by kernel_rfl
  have p2 : ∀ (z : UInt8) (w : World), (part 9 (peerC z).toArray 21).run Ybaf.prog w = .ok (.string addrT) w := fun z w => by kernel_rfl
  have p3 : ∀ w, (Op.equalIn (d + 3) 9 (.string addrT) (.string addrT)).run Ybaf.prog w = .ok true w := fun w => by
    rw [run_equalIn_string w (d + 2) 9 addrT addrT Ybaf.underlying9, beq_self_eq_true]
  simp only [Op.eqFields, ne_eq, String.reduceEq, not_false_eq_true, if_true, Sem.run_bind, p1, p2, h, p3, Result.andThen_ok, Sem.run_ite, Sem.run_pure]
  cases x == y <;> simp

theorem eqID : EqlAt Ybaf.prog 25 (fun x => .agg (idC x).toArray) (fun x y : UInt8 => x == y) := by
  refine ⟨fun x y w => ?_, GuardAt.agg _ (by kernel_rfl)⟩
  rw [run_eql_struct, show (10000 : Nat) = 9997 + 3 from rfl, equal25]
  rfl
theorem neqPeer : NeqAt Ybaf.prog 54 (fun x => .agg (peerC x).toArray) (fun x y : UInt8 => x == y) := by
  refine ⟨fun x y w => ?_, GuardAt.agg _ (by kernel_rfl)⟩
  rw [run_neq_struct, show (10000 : Nat) = 9996 + 4 from rfl, equal54]
  rfl
end Go.Proofs.YbulkkiqFmt
