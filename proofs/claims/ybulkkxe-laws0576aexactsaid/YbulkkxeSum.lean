import Derived.Test.YbulkkxeProg
import Derived.Test.YbulkkxeShelf
import Derived.WalkKit
import Derived.WalkSpells
import Derived.WalkLawsBesides
import Derived.Deep.QuietTactic
import Derived.BigQuiet
import Derived.OwnWalk
import Derived.Deep.DeepCutAuto
namespace Go.Proofs.Ybulkkxe
open Go.RowKit

theorem hide {p : Prop} (h : p) : Hid p := h

/-- A slice's length. -/
def slen : Value → Nat
  | .slice _ n _ => n
  | _ => 0

/-- The running sum behind j bytes. -/
def md (s : Int) (zs : List Int) : Nat → Int
  | 0 => s
  | j + 1 => if j % 2 = 0 then (md s zs j + zs.getD j 0 * 256) % 4294967296 else (md s zs j + zs.getD j 0) % 4294967296
theorem md_bounds (s : Int) (zs : List Int) (h : 0 ≤ s ∧ s < 4294967296) : ∀ j, 0 ≤ md s zs j ∧ md s zs j < 4294967296
  | 0 => h
  | j + 1 => by
    unfold md
    split <;> omega
theorem md_two (s : Int) (zs : List Int) (k : Nat) : md s zs (2 * k + 2) = (md s zs (2 * k) + (zs.getD (2 * k) 0 * 256 + zs.getD (2 * k + 1) 0)) % 4294967296 := by
  show md s zs ((2 * k + 1) + 1) = _
  rw [md, if_neg (by omega), md, if_pos (by omega)]
  omega
theorem md_one (s : Int) (zs : List Int) (k : Nat) : md s zs (2 * k + 1) = (md s zs (2 * k) + zs.getD (2 * k) 0 * 256) % 4294967296 := by
  rw [md, if_pos (by omega)]

set_option maxRecDepth 100000 in
set_option maxHeartbeats 400000 in
theorem model_any (a : Option Addr) (b o n c : Nat) (s : Int) (zs : List Int) (w : World) (hs : 0 ≤ s ∧ s < 4294967296) (ha : 0 < n → a = some ⟨b, o, none⟩) (hn : n ≤ 4096) 
    (hc : ∀ j, j < n → w.cell? ⟨b, o + j, none⟩ = some (.int .u8 (zs.getD j 0))) (hr : ∀ j, j < n → 0 ≤ zs.getD j 0 ∧ zs.getD j 0 < 256) :
    Calls Yba.prog 7 #[.int .u32 s, .slice a n c] w fun e w' => e = .returned (.int .u32 (md s zs n)) ∧ w' = w := by
  have HC := hide hc
  have HR := hide hr
  have HA := hide ha
  clear hc hr ha
  go_enter Yba.func7, Yba.ntmps7
  go_wp2
  go_loopw [0, 5] (fun v i wr => ∃ j : Nat, j ≤ n ∧ i = .int .i64 j ∧ v = .int .u32 (md s zs j) ∧ wr = w) (fun _ i _ => n - (intOf i).toNat)
  case atStart => exact ⟨0, Nat.zero_le _, rfl, rfl, rfl⟩
  case round =>
    obtain ⟨j, hj, rfl, rfl, rfl⟩ := hrel
    by_cases hlt : j < n
    · have hcj := HC.out j hlt
      obtain ⟨g, hg⟩ : ∃ g, g = zs.getD j 0 := ⟨_, rfl⟩
      have hrj := HR.out j hlt
      have hmb := md_bounds s zs hs j
      have hstep : md s zs (j + 1) = if j % 2 = 0 then (md s zs j + g * 256) % 4294967296 else (md s zs j + g) % 4294967296 := by rw [md, hg]
      rw [← hg] at hcj hrj
      clear hg
      obtain ⟨m, hm⟩ : ∃ m, m = md s zs j := ⟨_, rfl⟩
      rw [← hm] at hmb hstep ⊢
      clear hm
      have haj := HA.out (by omega)
      subst haj
      by_cases hpar : j % 2 = 0
      · rw [if_pos hpar] at hstep
        have hp1 : (j : Int) % 2 = 0 := by omega
        have HS := hide hstep
        clear hstep hpar
        go_wp2
        go_roundw
        case rel => exact ⟨j + 1, by omega, by go_num, by rw [HS.out], trivial⟩
        case measure => simp [intOf]; omega
      · rw [if_neg hpar] at hstep
        have hp1 : (j : Int) % 2 = 1 := by omega
        have HS := hide hstep
        clear hstep hpar
        go_wp2
        go_roundw
        case rel => exact ⟨j + 1, by omega, by go_num, by rw [HS.out], trivial⟩
        case measure => simp [intOf]; omega
    · have : j = n := by omega
      subst this
      go_wp2
      go_ret
      exact ⟨rfl, rfl⟩


theorem cell_two {w : World} {b o k : Nat} {x y : Int} (h0 : w.cell? ⟨b, o + 2 * k, none⟩ = some (.int .u8 x)) (h1 : w.cell? ⟨b, o + (2 * k + 1), none⟩ = some (.int .u8 y)) : ∀ i, i < [x, y].length → w.cell? ((⟨b, o + 2 * k, none⟩ : Addr).add i) = some (.int .u8 ([x, y].getD i 0)) := by
  intro i hi
  have hadd : ∀ j, (⟨b, o + 2 * k, none⟩ : Addr).add j = ⟨b, o + 2 * k + j, none⟩ := fun j => by unfold Addr.add; split <;> simp_all
  rw [hadd]
  match i, hi with
  | 0, _ => exact h0
  | 1, _ => exact h1
theorem wf_two {x y : Int} (hx : 0 ≤ x ∧ x < 256) (hy : 0 ≤ y ∧ y < 256) : ∀ z ∈ [x, y], (Lit.int .u8 z).wf = true := by
  intro z hz
  simp at hz
  rcases hz with rfl | rfl <;> simp [Lit.wf, IntKind.min, IntKind.max, IntKind.signed, IntKind.bits] <;> omega
theorem beZ_two (x y : Int) : Lib.beZ (List.take 2 [x, y]) = x * 256 + y := by
  simp [Lib.beZ, Lib.beFromZ]

set_option maxRecDepth 100000 in
set_option maxHeartbeats 400000 in
theorem sum_any (a : Option Addr) (b o n c : Nat) (s : Int) (zs : List Int) (w : World) (hs : 0 ≤ s ∧ s < 4294967296) (ha : 0 < n → a = some ⟨b, o, none⟩) (hnc : n ≤ c) (hcm : c ≤ 9223372036854775807) (hb : 0 < n → b < w.heap.size)
    (hc : ∀ j, j < n → w.cell? ⟨b, o + j, none⟩ = some (.int .u8 (zs.getD j 0))) (hr : ∀ j, j < n → 0 ≤ zs.getD j 0 ∧ zs.getD j 0 < 256) :
    Calls Yba.prog 6 #[.int .u32 s, .slice a n c] w fun e w' => e = .returned (.int .u32 (md s zs n)) ∧ Below w.heap.size w w' := by
  have HC := hide hc
  have HR := hide hr
  have HA := hide ha
  have HB := hide hb
  clear hc hr ha hb
  go_enter Yba.func6, Yba.ntmps6
  go_wp2
  go_loopw [0, 1] (fun v i wr => ∃ (k : Nat) (a' : Option Addr), 2 * k ≤ n ∧ i = .slice a' (n - 2 * k) (c - 2 * k) ∧ v = .int .u32 (md s zs (2 * k)) ∧ (0 < n - 2 * k → a' = some ⟨b, o + 2 * k, none⟩) ∧ Below w.heap.size w wr) (fun _ i _ => slen i)
  case atStart => exact ⟨0, a, Nat.zero_le _, rfl, rfl, HA.out, Below.refl _ _⟩
  case round =>
    obtain ⟨k, a', hk, rfl, rfl, ha', hnx⟩ := hrel
    by_cases hlt : 2 * k + 2 ≤ n
    · have hbw := HB.out (by omega)
      have hc0 := (hnx.cell (p := ⟨b, o + 2 * k, none⟩) hbw).trans (HC.out (2 * k) (by omega))
      have hc1 := (hnx.cell (p := ⟨b, o + (2 * k + 1), none⟩) hbw).trans (HC.out (2 * k + 1) (by omega))
      have hr0 := HR.out (2 * k) (by omega)
      have hr1 := HR.out (2 * k + 1) (by omega)
      have hstep := md_two s zs k
      have hmb := md_bounds s zs hs (2 * k)
      have HU := hide (fun (wx : World) (hx : Below w.heap.size w wx) => Yba.binary_BE_Uint16_z ⟨b, o + 2 * k, none⟩ (n - 2 * k) (c - 2 * k) [zs.getD (2 * k) 0, zs.getD (2 * k + 1) 0] wx (by omega) (by simp) (cell_two ((hx.cell hbw).trans (HC.out (2 * k) (by omega))) ((hx.cell hbw).trans (HC.out (2 * k + 1) (by omega)))) (wf_two (HR.out (2 * k) (by omega)) (HR.out (2 * k + 1) (by omega))))
      obtain ⟨g0, hg0⟩ : ∃ g, g = zs.getD (2 * k) 0 := ⟨_, rfl⟩
      obtain ⟨g1, hg1⟩ : ∃ g, g = zs.getD (2 * k + 1) 0 := ⟨_, rfl⟩
      rw [← hg0] at hc0 hr0 hstep HU
      rw [← hg1] at hc1 hr1 hstep HU
      clear hg0 hg1
      obtain ⟨m, hm⟩ : ∃ m, m = md s zs (2 * k) := ⟨_, rfl⟩
      rw [← hm] at hmb hstep ⊢
      clear hm
      have haj := ha' (by omega)
      subst haj
      have HS := hide hstep
      have HNX := hide hnx
      obtain ⟨n', hn'⟩ : ∃ n', n' = n - 2 * k := ⟨_, rfl⟩
      obtain ⟨c', hc'⟩ : ∃ n', n' = c - 2 * k := ⟨_, rfl⟩
      have hn2 : 2 ≤ n' := by omega
      have hc2 : n' ≤ c' := by omega
      have hc3 : c' ≤ 9223372036854775807 := by omega
      rw [← hn', ← hc'] at HU ⊢
      have HN' := hide hn'
      have HC' := hide hc'
      clear hn' hc'
      clear hstep hnx hc0 hc1 ha'
      have t1 : (2 : Int) ≤ (n' : Int) := by omega
      go_wp2_with (go_at_call 8; refine (HU.out _ HNX.out).mono ?_; rintro e wq ⟨rfl, hq⟩)
      have HN := HN'.out
      have HC2 := HC'.out
      refine ⟨⟨k + 1, if c' = 2 then some ⟨b, o + 2 * k, none⟩ else some ⟨b, o + 2 * k + 2, none⟩, by omega, ?_, ?_, ?_, HNX.out.trans (hq.mono HNX.out.size)⟩, ?_⟩
      · rw [show n - 2 * (k + 1) = n' - 2 by omega, show c - 2 * (k + 1) = c' - 2 by omega]
      · rw [show 2 * (k + 1) = 2 * k + 2 by omega, HS.out]
        have := beZ_two g0 g1
        simp only [List.take] at this
        rw [this]
        congr 1
        omega
      · intro hp
        rw [if_neg (by omega)]
        congr 2
      · simp only [slen]
        omega
    · by_cases hone : n = 2 * k + 1
      · have hbw := HB.out (by omega)
        have hc0 := (hnx.cell (p := ⟨b, o + 2 * k, none⟩) hbw).trans (HC.out (2 * k) (by omega))
        have hr0 := HR.out (2 * k) (by omega)
        have hstep := md_one s zs k
        have hmb := md_bounds s zs hs (2 * k)
        obtain ⟨g0, hg0⟩ : ∃ g, g = zs.getD (2 * k) 0 := ⟨_, rfl⟩
        rw [← hg0] at hc0 hr0 hstep
        clear hg0
        obtain ⟨m, hm⟩ : ∃ m, m = md s zs (2 * k) := ⟨_, rfl⟩
        rw [← hm] at hmb hstep ⊢
        clear hm
        have haj := ha' (by omega)
        subst haj
        subst hone
        have HS := hide hstep
        have HNX := hide hnx
        have hn1 : 2 * k + 1 - 2 * k = 1 := by omega
        rw [hn1]
        obtain ⟨c', hc'⟩ : ∃ n', n' = c - 2 * k := ⟨_, rfl⟩
        rw [← hc']
        clear hstep hnx ha' hn1 hc'
        go_wp2
        go_ret
        refine ⟨?_, HNX.out⟩
        rw [HS.out]
        rfl
      · have : n - 2 * k = 0 := by omega
        have hn2 : n = 2 * k := by omega
        subst hn2
        rw [this]
        have HNX := hide hnx
        clear hnx ha' this
        go_wp2
        go_ret
        exact ⟨rfl, HNX.out⟩

set_option maxRecDepth 100000 in
theorem exact_long (a : Option Addr) (n c : Nat) (s : Int) (w : World) (hn : 4096 < n) :
    Calls Yba.prog 3 #[.int .u32 s, .slice a n c] w fun e w' => e = .returned (.bool true) ∧ Below w.heap.size w w' := by
  have t1 : (4096 : Int) < (n : Int) := by omega
  go_enter Yba.func3, Yba.ntmps3
  go_wp2
  go_ret
  exact ⟨rfl, Below.refl _ _⟩

set_option maxRecDepth 100000 in
set_option maxHeartbeats 400000 in
theorem exact_any (a : Option Addr) (b o n c : Nat) (s : Int) (zs : List Int) (w : World) (hs : 0 ≤ s ∧ s < 4294967296) (ha : 0 < n → a = some ⟨b, o, none⟩) (hnc : n ≤ c) (hcm : c ≤ 9223372036854775807) (hb : 0 < n → b < w.heap.size) (hn : n ≤ 4096)
    (hc : ∀ j, j < n → w.cell? ⟨b, o + j, none⟩ = some (.int .u8 (zs.getD j 0))) (hr : ∀ j, j < n → 0 ≤ zs.getD j 0 ∧ zs.getD j 0 < 256) :
    Calls Yba.prog 3 #[.int .u32 s, .slice a n c] w fun e w' => e = .returned (.bool true) ∧ Below w.heap.size w w' := by
  have HSUM := hide (sum_any a b o n c s zs w hs ha hnc hcm hb hc hr)
  have HMOD := hide (fun (wx : World) (hx : Below w.heap.size w wx) => model_any a b o n c s zs wx hs ha hn (fun j hj => (hx.cell (p := ⟨b, o + j, none⟩) (hb (by omega))).trans (hc j hj)) hr)
  have t1 : ¬ (4096 : Int) < (n : Int) := by omega
  clear ha hnc hcm hb hc hr
  obtain ⟨m, hm⟩ : ∃ m, m = md s zs n := ⟨_, rfl⟩
  rw [← hm] at HSUM HMOD
  clear hm
  go_enter Yba.func3, Yba.ntmps3
  go_wp2_with (first | (go_at_call 6; refine HSUM.out.mono ?_; rintro e wq ⟨rfl, hq⟩) | (go_at_call 7; refine (HMOD.out _ (by assumption)).mono ?_; rintro e wq2 ⟨rfl, rfl⟩))
  go_ret
  exact ⟨by simp, by assumption⟩

end Go.Proofs.Ybulkkxe
