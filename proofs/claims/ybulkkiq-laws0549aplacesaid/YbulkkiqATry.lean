import Derived.Test.YbulkkiqLocks
import Derived.WalkKit
import Derived.WalkSpells
import Derived.WalkLawsBesides
namespace Go.Proofs.Ybulkkiq
open Go.RowKit Go.MuLone

/-- The conversion of a lock's address to an untyped pointer, written out. -/
theorem conv_open (a : Addr) (w : World) : (convert 86 90 (.pointer (some a))).run Yba.prog w =
    (do
      let s ← Conv.seenAt a
      let nothing := match ← cellsIn s.block with
        | some cells => s.off ≥ cells && s.spot.isNone
        | none => false
      if (← Go.sizeOf 49) = 0 || nothing then pure (.pointer (some ⟨← newObj (.view s 49), 0, none⟩)) else pure (.pointer (some s)) : Sem Value).run Yba.prog w := by kernel_rfl

theorem conv_any {a : Addr} {v : Value} {w : World} (hc : w.cell? a = some v) : (convert 86 90 (.pointer (some a))).run Yba.prog w = .ok (.pointer (some a)) w := by
  rw [conv_open]
  obtain ⟨e, n, hsh, hlt, hsp⟩ := World.shape?_of_cell? hc
  obtain ⟨i, hi, hz0⟩ := Option.map_eq_some_iff.1 Yba.muLib.room_tIMutex
  have hz : i.size ≠ 0 := by simpa using hz0
  have hge : ¬ (n ≤ a.off) := by omega
  have hs : (Go.sizeOf 49).run Yba.prog w = .ok 2 w := Yba.sizeOf49 w
  simp [Conv.seenAt, viewAt, cellsIn, hs, hsh, hge, Result.andThen]

set_option maxRecDepth 100000 in
set_option maxHeartbeats 800000 in
/-- (*internal/sync.Mutex).TryLock at a free lock: it is taken. -/
theorem itry_free (b o : Nat) (w : World) (hc : w.cell? ⟨b, o, none⟩ = some (.int .i32 0)) (hz : w.frozen? ⟨b, o, none⟩ = false) :
    Calls Yba.prog 19 #[.pointer (some ⟨b, o, none⟩)] w fun e w' => e = .returned (.bool true) ∧ w' = w.setCell ⟨b, o, none⟩ (.int .i32 1) := by
  have hd : ∀ w, (callFunc 27 #[]).run Yba.prog w = .ok (.value (.tuple #[])) w := disable Yba.muLib
  have he : ∀ w, (callFunc 28 #[]).run Yba.prog w = .ok (.value (.tuple #[])) w := enable Yba.muLib
  have hq : ∀ a w, (callFunc 30 #[.pointer (some a)]).run Yba.prog w = .ok (.value (.tuple #[])) w := acquire Yba.muLib
  have hc' : (w.setCell ⟨b, o, none⟩ (.int .i32 1)).cell? ⟨b, o, none⟩ = some (.int .i32 1) := World.cell?_setCell_same _ _ _ hc
  have hcv := conv_any hc'
  have hcas := run_call_cas_hit (P := Yba.prog) Yba.func29 (by kernel_rfl) (by kernel_rfl) (by kernel_rfl) .i32 (by kernel_rfl) (y := 1) hc hz
  go_enter Yba.func19, Yba.ntmps19
  go_wp2
  go_ret
  exact ⟨rfl, rfl⟩

set_option maxHeartbeats 800000 in
/-- (*sync.Mutex).TryLock at a free lock. -/
theorem try_free (b o : Nat) (w : World) (hc : w.cell? ⟨b, o, none⟩ = some (.int .i32 0)) (hz : w.frozen? ⟨b, o, none⟩ = false) :
    Calls Yba.prog 9 #[.pointer (some ⟨b, o, none⟩)] w fun e w' => e = .returned (.bool true) ∧ w' = w.setCell ⟨b, o, none⟩ (.int .i32 1) := by
  go_enter Yba.func9, Yba.ntmps9
  go_wp2_with (go_at_call 19; refine (itry_free b o _ hc hz).mono ?_; rintro e w' ⟨rfl, rfl⟩)
  go_ret
  exact ⟨rfl, rfl⟩

end Go.Proofs.Ybulkkiq
