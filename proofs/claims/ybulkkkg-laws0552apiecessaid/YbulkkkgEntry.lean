import Derived.Test.YbulkkkgProg
import Derived.Test.YbulkkkgShelf
import Derived.WalkKit
import Derived.WalkSpells
import Derived.WalkLawsBesides
import Derived.Deep.QuietTactic
import Derived.BigQuiet
namespace Go.Proofs.Ybulkkkg
open Go.RowKit

theorem hide {p : Prop} (h : p) : Hid p := h

set_option maxRecDepth 100000 in
set_option maxHeartbeats 400000 in
theorem entry_last (pb b off dl dc ge n ec i a : Nat) (w : World) (h0 : w.cell? ⟨pb, 0, none⟩ = some (.slice (some ⟨b, off, none⟩) dl dc)) (h1 : w.cell? ⟨pb, 1, none⟩ = some (.slice (some ⟨ge, 0, none⟩) n ec))
    (hi : i + 1 = n) (hn : n ≤ 2000) (hd : dl ≤ dc) (hdc : dc ≤ 9223372036854775807) (ha : a ≤ dl) (hc : w.cell? ⟨ge, i * 5, none⟩ = some (.int .i64 a)) :
    Calls Yba.prog 6 #[.pointer (some ⟨pb, 0, none⟩), .int .i64 i] w fun e w' => (∃ o' c', e = .returned (.slice (some ⟨b, o', none⟩) (dl - a) c') ∧ (0 < dl - a → o' = off + a)) ∧ ∃ q, w' = w.drewN q := by
  have hin : (i : Int) < (n : Int) := by omega
  have hnl : ¬ ((i : Int) + 1 < (n : Int)) := by omega
  have h00 : (0 : Int) ≤ (a : Int) := by omega
  have h01 : (a : Int) ≤ (dl : Int) := by omega
  have h02 : (dl : Int) ≤ (dc : Int) := by omega
  clear hi
  go_enter Yba.func6, Yba.ntmps6
  go_wp2
  go_quiet (fail)
  go_wp2
  · have h : dc = a := by assumption
    go_ret
    exact ⟨⟨off, ⟨_, rfl⟩, fun hp => by omega⟩, _, rfl⟩
  · go_ret
    exact ⟨⟨_, ⟨_, rfl⟩, fun _ => rfl⟩, _, rfl⟩

set_option maxRecDepth 100000 in
set_option maxHeartbeats 400000 in
theorem entry_mid (pb b off dl dc ge n ec i a z : Nat) (w : World) (h0 : w.cell? ⟨pb, 0, none⟩ = some (.slice (some ⟨b, off, none⟩) dl dc)) (h1 : w.cell? ⟨pb, 1, none⟩ = some (.slice (some ⟨ge, 0, none⟩) n ec))
    (hi : i + 1 < n) (hn : n ≤ 2000) (hd : dl ≤ dc) (hdc : dc ≤ 9223372036854775807) (ha : a ≤ z) (he : z ≤ dl) (hc : w.cell? ⟨ge, i * 5, none⟩ = some (.int .i64 a)) (hc2 : w.cell? ⟨ge, (i + 1) * 5, none⟩ = some (.int .i64 z)) :
    Calls Yba.prog 6 #[.pointer (some ⟨pb, 0, none⟩), .int .i64 i] w fun e w' => (∃ o' c', e = .returned (.slice (some ⟨b, o', none⟩) (z - a) c') ∧ (0 < z - a → o' = off + a)) ∧ ∃ q, w' = w.drewN q := by
  have hin : (i : Int) < (n : Int) := by omega
  have hnl : (i : Int) + 1 < (n : Int) := by omega
  have h00 : (0 : Int) ≤ (a : Int) := by omega
  have h01 : (a : Int) ≤ (z : Int) := by omega
  have h02 : (z : Int) ≤ (dc : Int) := by omega
  go_enter Yba.func6, Yba.ntmps6
  go_wp2
  go_quiet (fail)
  go_wp2
  · have h : dc = a := by assumption
    go_ret
    exact ⟨⟨off, ⟨_, rfl⟩, fun hp => by omega⟩, _, rfl⟩
  · go_ret
    exact ⟨⟨_, ⟨_, rfl⟩, fun _ => rfl⟩, _, rfl⟩

set_option maxRecDepth 100000 in
set_option maxHeartbeats 800000 in
theorem entry_nil (ad : Option Addr) (pb ge n ec i : Nat) (w : World) (h0 : w.cell? ⟨pb, 0, none⟩ = some (.slice ad 0 0)) (h1 : w.cell? ⟨pb, 1, none⟩ = some (.slice (some ⟨ge, 0, none⟩) n ec))
    (hi : i < n) (hn : n ≤ 2000) (hc : w.cell? ⟨ge, i * 5, none⟩ = some (.int .i64 0)) (hc2 : i + 1 < n → w.cell? ⟨ge, (i + 1) * 5, none⟩ = some (.int .i64 0)) :
    Calls Yba.prog 6 #[.pointer (some ⟨pb, 0, none⟩), .int .i64 i] w fun e w' => e = .returned (.slice ad 0 0) ∧ ∃ q, w' = w.drewN q := by
  have hin : (i : Int) < (n : Int) := by omega
  by_cases hl : i + 1 < n
  · have hnl : (i : Int) + 1 < (n : Int) := by omega
    have hc3 := hc2 hl
    clear hc2
    cases ad
    all_goals
      go_enter Yba.func6, Yba.ntmps6
      go_wp2
      go_quiet (fail)
      go_wp2
      go_ret
      exact ⟨rfl, _, rfl⟩
  · have hnl : ¬ ((i : Int) + 1 < (n : Int)) := by omega
    clear hc2
    cases ad
    all_goals
      go_enter Yba.func6, Yba.ntmps6
      go_wp2
      go_quiet (fail)
      go_wp2
      go_ret
      exact ⟨rfl, _, rfl⟩

/-- The bytes of a slice: none at whatever address; or a row of no spot. -/
def DataAt (w : World) (ad : Option Addr) (dl dc : Nat) (zs : List Int) : Prop :=
  zs.length = dl ∧ dl ≤ dc ∧ dc ≤ 9223372036854775807 ∧ ((dl = 0 ∧ dc = 0) ∨ ∃ b off, ad = some ⟨b, off, none⟩ ∧ ∀ j, j < dl → w.cell? ⟨b, off + j, none⟩ = some (.int .u8 (zs.getD j 0)))

/-- What a piece of it is. -/
def Piece (w : World) (v : Value) (xs : List Int) : Prop :=
  ∃ ad c, v = .slice ad xs.length c ∧ (ad = none → xs.length = 0 ∧ c = 0) ∧ (0 < xs.length → ∃ b o, ad = some ⟨b, o, none⟩ ∧ b < w.heap.size ∧ ∀ j, j < xs.length → w.cell? ⟨b, o + j, none⟩ = some (.int .u8 (xs.getD j 0)))

theorem getD_part (zs : List Int) (a m j : Nat) (h : j < m) : ((zs.drop a).take m).getD j 0 = zs.getD (a + j) 0 := by
  simp only [List.getD_eq_getElem?_getD]
  rw [List.getElem?_take_of_lt h, List.getElem?_drop]

theorem len_part (zs : List Int) (a z : Nat) (hz : z ≤ zs.length) : ((zs.drop a).take (z - a)).length = z - a := by
  rw [List.length_take, List.length_drop]
  omega

/-- (*snapshotPage).entry -/
theorem entry_any (ad : Option Addr) (pb dl dc ge n ec i a z : Nat) (zs : List Int) (w : World) (hd : DataAt w ad dl dc zs) (h0 : w.cell? ⟨pb, 0, none⟩ = some (.slice ad dl dc)) (h1 : w.cell? ⟨pb, 1, none⟩ = some (.slice (some ⟨ge, 0, none⟩) n ec))
    (hi : i < n) (hn : n ≤ 2000) (ha : a ≤ z) (hz : z ≤ dl) (hc : w.cell? ⟨ge, i * 5, none⟩ = some (.int .i64 a)) (hc2 : i + 1 < n → w.cell? ⟨ge, (i + 1) * 5, none⟩ = some (.int .i64 z)) (hlast : i + 1 = n → z = dl) :
    Calls Yba.prog 6 #[.pointer (some ⟨pb, 0, none⟩), .int .i64 i] w fun e w' => (∃ v, e = .returned v ∧ Piece w v ((zs.drop a).take (z - a))) ∧ ∃ q, w' = w.drewN q := by
  obtain ⟨hl, hdc, hm, hdat⟩ := hd
  have hpl := len_part zs a z (by omega)
  rcases hdat with ⟨rfl, rfl⟩ | ⟨b, off, rfl, hcell⟩
  · have ea : a = 0 := by omega
    have ez : z = 0 := by omega
    subst ea ez
    refine (entry_nil ad pb ge n ec i w h0 h1 hi hn hc hc2).mono fun e w' ⟨he, hq⟩ => ⟨⟨_, he, ad, 0, ?_, ?_, ?_⟩, hq⟩
    · rw [hpl]
    · intro _
      exact ⟨hpl, rfl⟩
    · intro h
      rw [hpl] at h
      omega
  · have fin : ∀ e w', ((∃ o' c', e = Ending.returned (.slice (some ⟨b, o', none⟩) (z - a) c') ∧ (0 < z - a → o' = off + a)) ∧ ∃ q, w' = w.drewN q) → ((∃ v, e = .returned v ∧ Piece w v ((zs.drop a).take (z - a))) ∧ ∃ q, w' = w.drewN q) := by
      rintro e w' ⟨⟨o', c', rfl, ho⟩, hq⟩
      refine ⟨⟨_, rfl, some ⟨b, o', none⟩, c', by rw [hpl], fun h => by simp at h, fun hp => ?_⟩, hq⟩
      rw [hpl] at hp
      refine ⟨b, o', rfl, World.block_lt_of_cell? w _ (hcell 0 (by omega)), fun j hj => ?_⟩
      rw [hpl] at hj
      rw [ho hp, getD_part zs a (z - a) j hj, Nat.add_assoc]
      exact hcell (a + j) (by omega)
    by_cases hlst : i + 1 = n
    · have ez := hlast hlst
      subst ez
      exact (entry_last pb b off z dc ge n ec i a w h0 h1 hlst hn hdc hm ha hc).mono fin
    · exact (entry_mid pb b off dl dc ge n ec i a z w h0 h1 (by omega) hn hdc hm ha hz hc (hc2 (by omega))).mono fin

end Go.Proofs.Ybulkkkg
