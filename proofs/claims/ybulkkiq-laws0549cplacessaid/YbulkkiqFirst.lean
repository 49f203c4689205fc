import Derived.Test.YbulkkiqProg
import Derived.WalkKit
import Derived.WalkSpells
import Derived.WalkLawsBesides
import Derived.Deep.QuietTactic
import Derived.BigQuiet
namespace Go.Proofs.Ybulkkiq
open Go.RowKit

/-- Is the key at place i met for the first time there? -/
def fstB (ss : List ByteArray) (i : Nat) : Bool := !((ss.take i).any fun s => s.toList == (ss.getD i ByteArray.empty).toList)

theorem any_snoc (ss : List ByteArray) (p : ByteArray → Bool) (j : Nat) (h : j < ss.length) : (ss.take (j + 1)).any p = ((ss.take j).any p || p (ss.getD j ByteArray.empty)) := by
  rw [List.take_succ_eq_append_getElem h, List.any_append]
  simp [List.getD, List.getElem?_eq_getElem h]

theorem any_of_get (ss : List ByteArray) (p : ByteArray → Bool) (j i : Nat) (hj : j < ss.length) (h : j < i) (hp : p (ss.getD j ByteArray.empty) = true) : (ss.take i).any p = true := by
  rw [List.any_eq_true]
  refine ⟨ss[j], ?_, ?_⟩
  · rw [List.mem_take_iff_getElem]
    exact ⟨j, by omega, rfl⟩
  · simpa [List.getD, List.getElem?_eq_getElem hj] using hp

theorem ret_bool {a b : Bool} (h : a = b) : Ending.returned (.bool a) = .returned (.bool b) := by rw [h]
theorem fst_no (ss : List ByteArray) (j i : Nat) (hj : j < ss.length) (h : j < i) (hp : ((ss.getD j ByteArray.empty).toList == (ss.getD i ByteArray.empty).toList) = true) : fstB ss i = false := by
  unfold fstB
  rw [any_of_get ss (fun s => s.toList == (ss.getD i ByteArray.empty).toList) j i hj h hp]
  rfl
theorem fst_yes (ss : List ByteArray) (i : Nat) (h : (ss.take i).any (fun s => s.toList == (ss.getD i ByteArray.empty).toList) = false) : fstB ss i = true := by
  unfold fstB
  rw [h]
  rfl

set_option maxHeartbeats 400000 in
theorem first_any (b off len cap i : Nat) (ss : List ByteArray) (w : World) (hi : i < len) (hl : len ≤ ss.length) (hm : len ≤ 1024)
    (hc : ∀ j, j < ss.length → w.cell? ⟨b, off + j, none⟩ = some (.string (ss.getD j ByteArray.empty))) :
    Calls Yba.prog 13 #[.slice (some ⟨b, off, none⟩) len cap, .int .i64 i] w fun e w' => e = .returned (.bool (fstB ss i)) ∧ ∃ n, w' = w.drewN n := by
  go_enter Yba.func13, Yba.ntmps13
  go_wp2
  go_loopw [5] (fun j wr => ∃ k : Nat, k ≤ i ∧ j = .int .i64 k ∧ (ss.take k).any (fun s => s.toList == (ss.getD i ByteArray.empty).toList) = false ∧ ∃ n, wr = w.drewN n) (fun j _ => i - (intOf j).toNat)
  case atStart => exact ⟨0, Nat.zero_le _, rfl, by simp, 0, rfl⟩
  case round =>
    obtain ⟨k, hk, rfl, hno, n, rfl⟩ := hrel
    by_cases hlt : k < i
    · have hck := hc k (by omega)
      have hci := hc i (by omega)
      have hkl : (k : Int) < (len : Int) := by omega
      have hil : (i : Int) < (len : Int) := by omega
      obtain ⟨x, hx⟩ : ∃ x, x = ss.getD k ByteArray.empty := ⟨_, rfl⟩
      obtain ⟨y, hy⟩ : ∃ y, y = ss.getD i ByteArray.empty := ⟨_, rfl⟩
      rw [← hx] at hck
      rw [← hy] at hci
      have HX : Hid (x = ss.getD k ByteArray.empty) := hx
      have HY : Hid (y = ss.getD i ByteArray.empty) := hy
      have HN : Hid (_ = _) := hno
      clear hx hy hno
      go_wp2
      go_quiet (fail)
      go_wp2
      · have hxy : (x.toList == y.toList) = true := by assumption
        go_ret
        rw [HX.out, HY.out] at hxy
        exact ⟨ret_bool (fst_no ss k i (by omega) hlt hxy).symm, _, World.drewN_drewN ..⟩
      · have hxy : (x.toList == y.toList) = false := by assumption
        go_roundw
        case rel =>
          refine ⟨k + 1, by omega, by go_num, ?_, _, rfl⟩
          rw [HX.out, HY.out] at hxy
          rw [any_snoc ss _ k (by omega), HN.out, hxy]
          rfl
        case measure => simp [intOf]; omega
    · go_wp2
      have : k = i := by omega
      subst this
      go_ret
      exact ⟨ret_bool (fst_yes ss k hno).symm, _, rfl⟩

end Go.Proofs.Ybulkkiq
