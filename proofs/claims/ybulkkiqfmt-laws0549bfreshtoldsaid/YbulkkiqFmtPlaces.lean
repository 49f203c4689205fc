-- MINE
import Derived.Test.YbulkkiqFmtNewHost
namespace Go.Proofs.YbulkkiqFmt
open Go.RowKit Go.MuLone

set_option maxHeartbeats 400000 in
/-- (*Node).PlaceChanges at a node whose lock is free. -/
theorem node_pc (b : Nat) (c : Int) (w : World) (h27 : w.cell? ⟨b, 27, none⟩ = some (.int .i32 0)) (f27 : w.frozen? ⟨b, 27, none⟩ = false) (h54 : w.cell? ⟨b, 54, none⟩ = some (.int .u64 c)) :
    Calls Ybaf.prog 12 #[.pointer (some ⟨b, 0, none⟩)] w fun e w' => e = .returned (.int .u64 c) ∧ w' = w := by
  go_enter_defers Ybaf.func12, Ybaf.ntmps12
  go_wp2_with (go_at_call 19; refine (lock_free Ybaf.muLib ⟨b, 27, none⟩ _ h27 f27).mono ?_; rintro e w' ⟨rfl, rfl⟩)
  refine leaves_cons (f := 20) (args := #[.pointer (some ⟨b, 27, none⟩)]) (by simp) (by simp [go_sem]) ?_
  refine (unlock_deferred Ybaf.muLib ⟨b, 27, none⟩ .returning _ ?_ ?_).mono ?_
  · exact World.cell?_setCell_same w ⟨b, 27, none⟩ (.int .i32 1) h27
  · simp [f27]
  rintro e u' w'' ⟨rfl, rfl, rfl⟩
  exact ⟨_, results_tmp rfl _ _ _, rfl, setCell_back w b 27 _ _ h27⟩

/-- The sum of the first j counts, wrapping. -/
def sumTo (zs : List Int) : Nat → Int
  | 0 => 0
  | j + 1 => IntKind.u64.wrap (sumTo zs j + zs.getD j 0)

set_option maxHeartbeats 400000 in
theorem host_pc (hb n cap : Nat) (ao : Option Addr) (g : Nat) (bs : List Nat) (zs : List Int) (w : World) (hn : n ≤ 1024) (h1 : w.cell? ⟨hb, 1, none⟩ = some (.slice ao n cap)) (hao : 0 < n → ao = some ⟨g, 0, none⟩)
    (hc : ∀ j, j < n → w.cell? ⟨g, j, none⟩ = some (.pointer (some ⟨bs.getD j 0, 0, none⟩))) (hnd : ∀ j, j < n → IsNode w (bs.getD j 0) (zs.getD j 0)) :
    Calls Ybaf.prog 5 #[.pointer (some ⟨hb, 0, none⟩)] w fun e w' => e = .returned (.int .u64 (sumTo zs n)) ∧ w' = w := by
  have HA := hide hao
  have HC := hide hc
  have HN := hide hnd
  clear hao hc hnd
  go_enter Ybaf.func5, Ybaf.ntmps5
  go_wp2
  go_loop [3, 11] (fun s i => ∃ j : Nat, j ≤ n ∧ i = .int .i64 j ∧ s = .int .u64 (sumTo zs j)) (fun _ i => n - (intOf i).toNat)
  case atStart => exact ⟨0, Nat.zero_le _, rfl, rfl⟩
  case round =>
    obtain ⟨j, hj, rfl, rfl⟩ := hrel
    by_cases hlt : j < n
    · have e1 := HA.out (by omega)
      subst e1
      have hcj := HC.out j hlt
      have hnj := HN.out j hlt
      go_wp2_with (go_at_call 12; refine (node_pc _ _ _ hnj.1 hnj.2.1 hnj.2.2).mono ?_; rintro e w' ⟨rfl, rfl⟩)
      go_round
      case rel => exact ⟨j + 1, by omega, by go_num, by simp [sumTo]⟩
      case measure => simp [intOf]; omega
    · have : j = n := by omega
      subst this
      go_wp2
      go_ret
      exact ⟨rfl, rfl⟩


theorem sum_const (c : Int) (h0 : 0 ≤ c) (h1 : c ≤ 1) (n : Nat) (hn : n ≤ 16) : ∀ j, j ≤ n → sumTo (List.replicate n c) j = c * j
  | 0, _ => by simp [sumTo]
  | j + 1, h => by
    have e : (List.replicate n c).getD j 0 = c := by
      rw [List.getD, List.getElem?_replicate, if_pos (by omega)]
      rfl
    rw [sumTo, sum_const c h0 h1 n hn j (by omega), e]
    have hc : c = 0 ∨ c = 1 := by omega
    rcases hc with rfl | rfl
    · simp [IntKind.wrap, IntKind.bits, IntKind.signed]
    · simp [IntKind.wrap, IntKind.bits, IntKind.signed]
      omega
end Go.Proofs.YbulkkiqFmt
