import Derived.Test.YbulkkiqShelf
import Derived.Test.YbulkkiqWant
namespace Go.Proofs.Ybulkkiq
open Go.RowKit Go.Lib

theorem Yba.info5 : (Yba.prog.info? 5).map (fun i => (i.zero, i.size, i.bytes)) = some (some (.int .u8 0), 1, 1) := by kernel_rfl

/-- What the hexadecimal text of 'bits' digits is. -/
def hexL (xs : List Int) (bits : Nat) : List UInt8 := (Hx.encode (bytesOf xs)).drop (40 - (bits + 3) / 4)

theorem box_cell (xs : List Int) (w : World) (t : TypeId) (k : Nat) (h : k < xs.length) : (w.alloc (.cells (xs.map (Value.int .u8)).toArray t)).cell? ⟨w.heap.size, k, none⟩ = some (.int .u8 (xs.getD k 0)) := by
  rw [World.cell?_alloc_new]
  simp [List.getElem?_eq_getElem h]

/-- The digits written when j of the forty have been gone through, from place S on. -/
def digs (xs : List Int) (S j : Nat) : List Int := ((Hx.nums (bytesOf xs)).take j).drop S

theorem digs_start (xs : List Int) (S : Nat) : digs xs S S = [] := by
  unfold digs
  rw [List.drop_eq_nil_iff, List.length_take]
  omega
theorem digs_len (xs : List Int) (S j : Nat) (hx : xs.length = 20) (hj : j ≤ 40) : (digs xs S j).length = j - S := by
  unfold digs
  rw [List.length_drop, List.length_take, Hx.nums_length, bytesOf_length, hx]
  omega
theorem digs_step (xs : List Int) (S j : Nat) (z : Int) (hx : xs.length = 20) (hS : S ≤ j) (hj : j < 40) (hz : (Hx.nums (bytesOf xs)).getD j 0 = z) : digs xs S (j + 1) = digs xs S j ++ [z] := by
  have hl : j < (Hx.nums (bytesOf xs)).length := by rw [Hx.nums_length, bytesOf_length, hx]; omega
  unfold digs
  rw [List.take_succ_eq_append_getElem hl, List.drop_append_of_le_length (by rw [List.length_take]; omega)]
  rw [List.getD_eq_getElem?_getD, List.getElem?_eq_getElem hl] at hz
  simp at hz
  rw [hz]
theorem num_even (xs : List Int) (k : Nat) (h : k < xs.length) : (Hx.nums (bytesOf xs)).getD (2 * k) 0 = ((Hx.digit ((UInt8.ofNat (xs.getD k 0).toNat).toNat / 16)).toNat : Int) := by
  rw [Hx.nums_getD, (Hx.encode_at _ k _ (Hx.bytes_at xs k h)).1]
  rfl
theorem num_odd (xs : List Int) (k : Nat) (h : k < xs.length) : (Hx.nums (bytesOf xs)).getD (2 * k + 1) 0 = ((Hx.digit ((UInt8.ofNat (xs.getD k 0).toNat).toNat % 16)).toNat : Int) := by
  rw [Hx.nums_getD, (Hx.encode_at _ k _ (Hx.bytes_at xs k h)).2]
  rfl

theorem digs_str (xs : List Int) (bits : Nat) (hx : xs.length = 20) : strOfNums (digs xs (40 - (bits + 3) / 4) 40) = ⟨(hexL xs bits).toArray⟩ := by
  have h1 : digs xs (40 - (bits + 3) / 4) 40 = (Hx.nums (bytesOf xs)).drop (40 - (bits + 3) / 4) := by
    unfold digs
    rw [List.take_of_length_le (by rw [Hx.nums_length, bytesOf_length, hx]; omega)]
  have h2 := congrArg (fun s : ByteArray => s.data.toList) (Hx.strOfNums_nums (bytesOf xs))
  simp only [strOfNums_data] at h2
  rw [h1]
  unfold strOfNums hexL
  rw [List.map_drop, h2]
theorem ret_str {a b : ByteArray} (h : a = b) : Ending.returned (.string a) = .returned (.string b) := by rw [h]

set_option maxRecDepth 100000 in
set_option maxHeartbeats 400000 in
theorem hex_any (xs : List Int) (bits : Nat) (w : World) (hx : xs.length = 20) (hr : ∀ i, i < 20 → 0 ≤ xs.getD i 0 ∧ xs.getD i 0 < 256) (hb : bits ≤ 160) :
    Calls Yba.prog 16 #[.agg (xs.map (Value.int .u8)).toArray, .int .i64 bits] w fun e w' => e = .returned (.string ⟨(hexL xs bits).toArray⟩) ∧ Below w.heap.size w w' := by
  obtain ⟨i0, hi, hz0, hz1, hz2⟩ := info_parts Yba.info5
  have HX : Hid (xs.length = 20) := hx
  have HR : Hid (∀ i, i < 20 → 0 ≤ xs.getD i 0 ∧ xs.getD i 0 < 256) := hr
  clear hx hr
  go_enter Yba.func16, Yba.ntmps16
  go_wp2_with (at_make; refine wpList_make_own _ rfl _ _ 34 rfl (w.heap.size + 1) 5 i0 (.int .u8 0) 1 Yba.underlying34 hi hz0 hz1 .i64 .i64 _ ((bits + 3) / 4) rfl rfl (by omega) (by rw [hz2]; omega) (by unfold maxLen; omega) (by simp) ?_; intro w1 hown1 hgrow1)
  go_loopw [6, 7] (fun v i wr => ∃ j : Nat, 40 - (bits + 3) / 4 ≤ j ∧ j ≤ 40 ∧ i = .int .i64 j ∧ v = .slice (some ⟨w.heap.size + 1, 0, none⟩) (j - (40 - (bits + 3) / 4)) ((bits + 3) / 4) ∧
      wr.ownsRow (w.heap.size + 1) 5 1 (.slice (some ⟨w.heap.size + 1, 0, none⟩) (j - (40 - (bits + 3) / 4)) ((bits + 3) / 4)) (j - (40 - (bits + 3) / 4)) ((digs xs (40 - (bits + 3) / 4) j).map (Value.int .u8)) ∧
      Below (w.heap.size + 1) (w.alloc (.cells (xs.map (Value.int .u8)).toArray 22)) wr) (fun _ i _ => 40 - (RowKit.intOf i).toNat)
  case atStart =>
    refine ⟨40 - (bits + 3) / 4, Nat.le_refl _, by omega, by go_num, ?_, ?_, ?_⟩
    · rw [Nat.sub_self]
    · rw [Nat.sub_self, digs_start]; rw [World.size_alloc] at hown1; exact hown1
    · exact (Below.refl _ _).grown hgrow1 (by simp) (fun k hk => by cases hk)
  case round =>
    obtain ⟨j, hj1, hj2, rfl, rfl, hown, hnx⟩ := hrel
    by_cases hlt : j < 40
    · have hc := (hnx.cell (p := ⟨w.heap.size, j / 2, none⟩) (by simp)).trans (box_cell xs w 22 (j / 2) (by rw [HX.out]; omega))
      have hrj := HR.out (j / 2) (by omega)
      obtain ⟨z, hz⟩ : ∃ z, z = xs.getD (j / 2) 0 := ⟨_, rfl⟩
      rw [← hz] at hc hrj
      have HZ : Hid (z = xs.getD (j / 2) 0) := hz
      clear hz
      obtain ⟨hr0, hr1⟩ := hrj
      rcases Nat.mod_two_eq_zero_or_one j with he | ho
      · have hev : ((j : Int) % 2 == 0) = true := by rw [beq_iff_eq]; omega
        go_wp2_with (at_builtin; refine wpList_append_fits _ rfl _ _ 34 rfl (w.heap.size + 1) 5 i0 1 Yba.underlying34 hi hz1 (w.heap.size + 1) (j - (40 - (bits + 3) / 4)) ((bits + 3) / 4) _ rfl (hown.alloc _) ⟨wr.heap.size, 0, none⟩ 1 1 [_] rfl rfl (cell_one_new _ _ _) (by intro u hu; simp at hu; subst hu; rfl) (by omega) ?_; intro w2 hown2 hgrow2)
        have e1 : digs xs (40 - (bits + 3) / 4) (j + 1) = digs xs (40 - (bits + 3) / 4) j ++ [_] := digs_step xs _ j _ HX.out hj1 hlt (by rw [show j = 2 * (j / 2) by omega, num_even xs (j / 2) (by rw [HX.out]; omega), ← HZ.out, ← Hx.dig_hi z hr0 hr1 (by show _ < 16; omega)])
        have hb1 := hnx.grown ((World.grownBy_alloc wr _ _).trans hgrow2) (by have := hnx.size; simpa using this) (fun i hi => by cases hi; exact Nat.le_refl _)
        have e2 : j - (40 - (bits + 3) / 4) + 1 = j + 1 - (40 - (bits + 3) / 4) := by omega
        rw [e2] at hown2
        go_roundw
        case rel =>
          refine ⟨j + 1, by omega, by omega, by go_num, by rw [e2], ?_, hb1⟩
          rw [e1, List.map_append]
          exact hown2
        case measure => simp [RowKit.intOf]; omega
      · have hev : ((j : Int) % 2 == 0) = false := by rw [beq_eq_false_iff_ne]; omega
        go_wp2_with (at_builtin; refine wpList_append_fits _ rfl _ _ 34 rfl (w.heap.size + 1) 5 i0 1 Yba.underlying34 hi hz1 (w.heap.size + 1) (j - (40 - (bits + 3) / 4)) ((bits + 3) / 4) _ rfl (hown.alloc _) ⟨wr.heap.size, 0, none⟩ 1 1 [_] rfl rfl (cell_one_new _ _ _) (by intro u hu; simp at hu; subst hu; rfl) (by omega) ?_; intro w2 hown2 hgrow2)
        have e1 : digs xs (40 - (bits + 3) / 4) (j + 1) = digs xs (40 - (bits + 3) / 4) j ++ [_] := digs_step xs _ j _ HX.out hj1 hlt (by rw [show j = 2 * (j / 2) + 1 by omega, num_odd xs (j / 2) (by rw [HX.out]; omega), ← HZ.out, ← Hx.dig_lo z hr0 hr1 (by show _ < 16; omega)])
        have hb1 := hnx.grown ((World.grownBy_alloc wr _ _).trans hgrow2) (by have := hnx.size; simpa using this) (fun i hi => by cases hi; exact Nat.le_refl _)
        have e2 : j - (40 - (bits + 3) / 4) + 1 = j + 1 - (40 - (bits + 3) / 4) := by omega
        rw [e2] at hown2
        go_roundw
        case rel =>
          refine ⟨j + 1, by omega, by omega, by go_num, by rw [e2], ?_, hb1⟩
          rw [e1, List.map_append]
          exact hown2
        case measure => simp [RowKit.intOf]; omega
    · have hj : j = 40 := by omega
      subst hj
      have hd := digs_len xs (40 - (bits + 3) / 4) 40 HX.out (Nat.le_refl _)
      have g := run_convert_bytes_arg (P := Yba.prog) wr 34 5 Yba.underlying34 Yba.underlying5 (w.heap.size + 1) 0 (40 - (40 - (bits + 3) / 4)) ((bits + 3) / 4) (digs xs (40 - (bits + 3) / 4) 40) hd (fun i hi => by rw [Nat.zero_add, hown.cellAt i (by omega)]; simp [List.getElem?_eq_getElem (show i < (digs xs (40 - (bits + 3) / 4) 40).length by omega)]) 9 Yba.underlying9
      have hb1 : Below w.heap.size w wr := ((Below.refl _ w).alloc (Nat.le_refl _) _).trans (hnx.mono (by simp))
      have e3 : strOfNums (digs xs (40 - (bits + 3) / 4) 40) = ⟨(hexL xs bits).toArray⟩ := digs_str xs bits HX.out
      have H3 : Hid (_ = _) := e3
      clear e3
      go_wp2
      go_ret
      exact ⟨ret_str H3.out, hb1⟩

end Go.Proofs.Ybulkkiq
