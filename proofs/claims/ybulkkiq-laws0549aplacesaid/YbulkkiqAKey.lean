import Derived.Test.YbulkkiqProg
import Derived.WalkKit
import Derived.WalkSpells
import Derived.WalkLawsBesides
import Derived.OwnWalk
import Derived.Laws.AppendOwnNone
import Derived.Laws.BytesArg
namespace Go.Proofs.Ybulkkiq
open Go.RowKit

/-- The decimal digits of i, none of 0. -/
def dg : Nat → Nat → List Int
  | 0, _ => []
  | f + 1, i => if i = 0 then [] else dg f (i / 10) ++ [48 + (i : Int) % 10]
theorem dg_fuel : ∀ (f g i : Nat), i ≤ f → i ≤ g → dg f i = dg g i
  | 0, 0, _, _, _ => rfl
  | 0, g + 1, i, h, _ => by
    have : i = 0 := by omega
    subst this
    rfl
  | f + 1, 0, i, _, h => by
    have : i = 0 := by omega
    subst this
    rfl
  | f + 1, g + 1, i, h, h' => by
    unfold dg
    split
    · rfl
    · rw [dg_fuel f g (i / 10) (by omega) (by omega)]
theorem dg_step (n m : Nat) (h : 0 < m) (hm : m ≤ n) : dg n m = dg n (m / 10) ++ [48 + (m : Int) % 10] := by
  cases n with
  | zero => omega
  | succ f =>
    conv => lhs; unfold dg
    rw [if_neg (by omega), dg_fuel f (f + 1) (m / 10) (by omega) (by omega)]

/-- The number that digits write. -/
def valOf (l : List Int) : Int := l.foldl (fun a d => a * 10 + (d - 48)) 0
theorem valOf_snoc (l : List Int) (d : Int) : valOf (l ++ [d]) = valOf l * 10 + (d - 48) := by simp [valOf]
theorem valOf_dg : ∀ (f i : Nat), i ≤ f → valOf (dg f i) = i
  | 0, i, h => by
    have : i = 0 := by omega
    subst this
    rfl
  | f + 1, i, h => by
    unfold dg
    split
    · subst_vars; rfl
    · rw [valOf_snoc, valOf_dg f (i / 10) (by omega)]
      omega

def keyN (i : Nat) : List Int := if i = 0 then [48] else dg i i
theorem valOf_keyN (i : Nat) : valOf (keyN i) = i := by
  unfold keyN
  split
  · subst_vars; rfl
  · exact valOf_dg i i (Nat.le_refl _)
/-- Each digit is a byte. -/
theorem dg_byte : ∀ (f i : Nat), ∀ d ∈ dg f i, 0 ≤ d ∧ d < 256
  | 0, _, d, h => by simp [dg] at h
  | f + 1, i, d, h => by
    unfold dg at h
    split at h
    · simp at h
    · rw [List.mem_append] at h
      rcases h with h | h
      · exact dg_byte f (i / 10) d h
      · simp at h
        omega
theorem keyN_byte (i : Nat) : ∀ d ∈ keyN i, 0 ≤ d ∧ d < 256 := by
  unfold keyN
  split
  · simp
  · exact dg_byte i i
theorem str_inj {xs ys : List Int} (hx : ∀ d ∈ xs, 0 ≤ d ∧ d < 256) (hy : ∀ d ∈ ys, 0 ≤ d ∧ d < 256) (h : strOfNums xs = strOfNums ys) : xs = ys := by
  have h2 := congrArg (fun s : ByteArray => s.data.toList.map fun b => (b.toNat : Int)) h
  simp only [strOfNums_data, List.map_map] at h2
  have e : ∀ l : List Int, (∀ d ∈ l, 0 ≤ d ∧ d < 256) → l.map ((fun b : UInt8 => (b.toNat : Int)) ∘ fun n => UInt8.ofNat n.toNat) = l := by
    intro l hl
    conv => rhs; rw [← List.map_id l]
    apply List.map_congr_left
    intro d hd
    have := hl d hd
    simp [UInt8.toNat_ofNat']
    omega
  rw [e xs hx, e ys hy] at h2
  exact h2
theorem key_inj {i j : Nat} (h : strOfNums (keyN i) = strOfNums (keyN j)) : i = j := by
  have h2 := congrArg valOf (str_inj (keyN_byte i) (keyN_byte j) h)
  rw [valOf_keyN, valOf_keyN] at h2
  omega
theorem dg_len : ∀ (f i : Nat), i ≤ f → (dg f i).length ≤ i
  | 0, i, h => by simp [dg]
  | f + 1, i, h => by
    unfold dg
    split
    · simp
    · rw [List.length_append, List.length_singleton]
      have := dg_len f (i / 10) (by omega)
      omega
theorem keyN_size (i : Nat) (h : i ≤ 1024) : (strOfNums (keyN i)).size ≤ maxLen := by
  rw [strOfNums_size]
  unfold keyN maxLen
  split
  · simp
  · have := dg_len i i (Nat.le_refl _)
    omega

theorem Yba.infoK5 : (Yba.prog.info? 5).map (fun i => (i.zero, i.size, i.bytes)) = some (some (.int .u8 0), 1, 1) := by kernel_rfl

set_option maxRecDepth 100000 in
set_option maxHeartbeats 400000 in
theorem key_any (n : Nat) (w : World) (hn : n ≤ 1024) :
    Calls Yba.prog 7 #[.int .i64 n] w fun e w' => e = .returned (.string (strOfNums (keyN n))) ∧ Below w.heap.size w w' := by
  by_cases h0 : n = 0
  · subst h0
    go_enter Yba.func7, Yba.ntmps7
    go_wp2
    go_ret
    exact ⟨rfl, Below.refl _ _⟩
  · obtain ⟨i0, hi, hz0, hz1, hz2⟩ := info_parts Yba.infoK5
    have hpos : ¬ (n : Int) ≤ 0 := by omega
    go_enter Yba.func7, Yba.ntmps7
    go_wp2
    go_loopw [0, 3] (fun i v wr => ∃ (m : Nat) (L : List Int), i = .int .i64 m ∧ m ≤ n ∧ dg n n = dg n m ++ L ∧ L.length + m ≤ n ∧ wr.ownsRow w.heap.size 5 1 v L.length (L.map (Value.int .u8)) ∧ Below w.heap.size w wr) (fun i _ _ => (intOf i).toNat)
    case atStart => exact ⟨n, [], rfl, Nat.le_refl _, by simp, by simp, World.ownsRow_nil _ _ _ _, Below.refl _ _⟩
    case round =>
      obtain ⟨m, L, rfl, hm, hdg, hlen, hown, hnx⟩ := hrel
      by_cases hlt : 0 < m
      · have HD : Hid (dg n n = dg n m ++ L) := hdg
        clear hdg
        have hst := dg_step n m hlt hm
        have HD2 : Hid (dg n n = dg n (m / 10) ++ ((48 + (m : Int) % 10) :: L)) := by rw [HD.out, hst, List.append_assoc]; rfl
        clear hst
        have hsz := hnx.size
        rcases hown.2 with ⟨rfl, hL0⟩ | ⟨g, cp, cur, rfl, hgb, hgh, hlc, hcm, hcs, htk⟩
        · have eL : L = [] := List.eq_nil_of_length_eq_zero hL0
          subst eL
          have hrow := World.ownsRow_lit (base := w.heap.size) (e := 5) (size := 1) wr #[.int .u8 (48 + (m : Int) % 10)] 1 hnx.size (by decide) rfl
          have HROW := hrow
          have HB := (hnx.alloc hnx.size (.cells #[.int .u8 (48 + (m : Int) % 10)] 5))
          clear hown hL0 hrow
          go_wp2
          go_roundw
          case rel => exact ⟨m / 10, [48 + (m : Int) % 10], by go_num, by omega, HD2.out, by simp; omega, HROW, HB⟩
          case measure => simp [intOf]; omega
        · have HB := (hnx.alloc hnx.size (.cells #[.int .u8 (48 + (m : Int) % 10)] 5))
          go_wp2_with (at_builtin; refine wpList_append_own _ rfl _ _ 34 rfl w.heap.size 5 i0 (.int .u8 0) 1 1 Yba.underlying34 hi hz0 hz1 hz2 rfl (by decide) (.slice (some ⟨wr.heap.size, 0, none⟩) 1 1) 1 _ rfl (World.ownsRow_lit wr #[_] 1 hsz (by decide) rfl) ⟨g, 0, none⟩ L.length cp (L.map (Value.int .u8)) rfl (by simp) (by exact (hown.alloc _).cells rfl) (ints_oneCell .u8 L) (by unfold maxLen; omega) (by omega) (by simp; omega) ?_; intro v' w1 hown' hgrow _)
          have HB1 := HB.grown hgrow (by simp; omega) (fun k hk => by simp [Value.ownBlock] at hk; omega)
          have e3 : 1 + L.length = ((48 + (m : Int) % 10) :: L).length := by simp; omega
          rw [e3] at hown'
          clear hgrow hown HB
          go_wp2
          go_roundw
          case rel => exact ⟨m / 10, (48 + (m : Int) % 10) :: L, by go_num, by omega, HD2.out, by simp; omega, hown', HB1⟩
          case measure => simp [intOf]; omega
      · have hm0 : m = 0 := by omega
        subst hm0
        have e4 : keyN n = L := by
          unfold keyN
          rw [if_neg h0, hdg]
          have : dg n 0 = [] := by cases n <;> simp [dg]
          rw [this]
          rfl
        have hLpos : 0 < L.length := by
          rw [← e4]
          unfold keyN
          rw [if_neg h0, dg_step n n (by omega) (Nat.le_refl _)]
          simp
        rcases hown.2 with ⟨rfl, h⟩ | ⟨g, cp, cur, rfl, _⟩
        · omega
        have hconv := run_convert_bytes_arg (P := Yba.prog) wr 34 5 Yba.underlying34 Yba.underlying5 g 0 L.length cp L rfl (fun i hi => by rw [Nat.zero_add, hown.cellAt i (by omega)]; simp [List.getElem?_eq_getElem hi]) 9 Yba.underlying9
        have HE : Hid (keyN n = L) := e4
        clear hdg hown e4
        go_wp2
        go_ret
        exact ⟨by rw [HE.out]; rfl, hnx⟩

end Go.Proofs.Ybulkkiq
