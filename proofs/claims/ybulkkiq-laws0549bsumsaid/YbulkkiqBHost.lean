import Derived.Test.YbulkkiqBNode
namespace Go.Proofs.Ybulkkiq
open Go.RowKit Go.MuLone

/-- A node in memory: its lock is free, its count is c. -/
def IsNode (w : World) (b : Nat) (c : Int) : Prop :=
  w.cell? ⟨b, 27, none⟩ = some (.int .i32 0) ∧ w.frozen? ⟨b, 27, none⟩ = false ∧ w.cell? ⟨b, 54, none⟩ = some (.int .u64 c)

/-- The sum of the first j counts, wrapping. -/
def sumTo (zs : List Int) : Nat → Int
  | 0 => 0
  | j + 1 => IntKind.u64.wrap (sumTo zs j + zs.getD j 0)

set_option maxHeartbeats 400000 in
theorem host_pc (hb n cap : Nat) (ao : Option Addr) (g : Nat) (bs : List Nat) (zs : List Int) (w : World) (hn : n ≤ 1024) (h1 : w.cell? ⟨hb, 1, none⟩ = some (.slice ao n cap)) (hao : 0 < n → ao = some ⟨g, 0, none⟩)
    (hc : ∀ j, j < n → w.cell? ⟨g, j, none⟩ = some (.pointer (some ⟨bs.getD j 0, 0, none⟩))) (hnd : ∀ j, j < n → IsNode w (bs.getD j 0) (zs.getD j 0)) :
    Calls Yba.prog 11 #[.pointer (some ⟨hb, 0, none⟩)] w fun e w' => e = .returned (.int .u64 (sumTo zs n)) ∧ w' = w := by
  have HA := hid hao
  have HC := hid hc
  have HN := hid hnd
  clear hao hc hnd
  go_enter Yba.func11, Yba.ntmps11
  go_wp2
  go_loop [3, 11] (fun s i => ∃ j : Nat, j ≤ n ∧ i = .int .i64 j ∧ s = .int .u64 (sumTo zs j)) (fun _ i => n - (intOf i).toNat)
  case atStart => exact ⟨0, Nat.zero_le _, rfl, rfl⟩
  case round =>
    obtain ⟨j, hj, rfl, rfl⟩ := hrel
    by_cases hlt : j < n
    · have e1 := HA.out (by omega)
      subst e1
      have hcj := HC.out j hlt
      have hnj := HN.out j hlt
      go_wp2_with (go_at_call 21; refine (node_pc _ _ _ hnj.1 hnj.2.1 hnj.2.2).mono ?_; rintro e w' ⟨rfl, rfl⟩)
      go_round
      case rel => exact ⟨j + 1, by omega, by go_num, by simp [sumTo]⟩
      case measure => simp [intOf]; omega
    · have : j = n := by omega
      subst this
      go_wp2
      go_ret
      exact ⟨rfl, rfl⟩

end Go.Proofs.Ybulkkiq
