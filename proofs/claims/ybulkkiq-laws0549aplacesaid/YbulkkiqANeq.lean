import Derived.Test.YbulkkiqAPeer
import Derived.Laws.StructEq
import Derived.WalkKit
namespace Go.Proofs.Ybulkkiq
open Go.RowKit

theorem equal22 (d : Nat) (xs : List Int) (w : World) (hx : xs.length = 20) :
    (Op.equalIn (d + 2) 22 (.agg (xs.map (Value.int .u8)).toArray) (.agg (xs.map (Value.int .u8)).toArray)).run Yba.prog w = .ok true w := by
  have hsz : ∀ w, (sizeOf 5).run Yba.prog w = .ok 1 w := Yba.sizeOf5
  rw [Op.equalIn]
  simp only [Sem.run_bind, run_underlying Yba.underlying22, Result.andThen_ok, hsz, Std.Legacy.Range.forIn_eq_forIn_range', Std.Legacy.Range.size, Nat.sub_zero, Nat.add_sub_cancel, Nat.div_one]
  have hl : ∀ i ∈ List.range' 0 20 1, i < 20 := fun i hi => by simpa using (List.mem_range'_1.1 hi).2
  generalize List.range' 0 20 1 = l at hl ⊢
  induction l with
  | nil => simp
  | cons i l ih =>
    have hi : i < 20 := hl i (by simp)
    have px : (part 5 (xs.map (Value.int .u8)).toArray (i * 1)).run Yba.prog w = .ok (.int .u8 (xs.getD i 0)) w := by
      simp [part, isAgg, run_underlying Yba.underlying5, List.getD, List.getElem?_eq_getElem (show i < xs.length by omega)]
    have pe : (Op.equalIn (d + 1) 5 (.int .u8 (xs.getD i 0)) (.int .u8 (xs.getD i 0))).run Yba.prog w = .ok true w := by
      rw [run_equalIn_int w d 5 .u8 .u8 _ _ Yba.underlying5]
      simp
    simp only [List.forIn_cons, Sem.run_bind, px, pe, Result.andThen_ok, Bool.not_true, Bool.false_eq_true, if_false, Sem.run_pure]
    exact ih fun j hj => hl j (by simp [hj])

set_option maxRecDepth 100000 in
set_option maxHeartbeats 1600000 in
theorem equal31 (xs : List Int) (bits : Int) (addr : ByteArray) (w : World) (hx : xs.length = 20) :
    (Op.equalIn 10000 31 (.agg (pcells xs bits addr).toArray) (.agg (pcells xs bits addr).toArray)).run Yba.prog w = .ok true w := by
  match xs, hx with
  | [x0, x1, x2, x3, x4, x5, x6, x7, x8, x9, x10, x11, x12, x13, x14, x15, x16, x17, x18, x19], _ =>
    have h := fun w => equal22 9996 [x0, x1, x2, x3, x4, x5, x6, x7, x8, x9, x10, x11, x12, x13, x14, x15, x16, x17, x18, x19] w rfl
    simp only [List.map_cons, List.map_nil] at h
    simp only [pcells, List.map_cons, List.map_nil, List.cons_append, List.nil_append]
    go_simp

/-- '!=' at one and the same member: false. -/
theorem neq31 (xs : List Int) (bits : Int) (addr : ByteArray) (w : World) (hx : xs.length = 20) :
    (binOp .neq 31 (.agg (pcells xs bits addr).toArray) (.agg (pcells xs bits addr).toArray)).run Yba.prog w = .ok (.bool false) w := by
  rw [run_neq_struct, equal31 xs bits addr w hx]
  rfl
end Go.Proofs.Ybulkkiq
