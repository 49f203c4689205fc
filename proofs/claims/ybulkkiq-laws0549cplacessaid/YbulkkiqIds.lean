import Derived.Test.YbulkkiqHex
namespace Go.Proofs.Ybulkkiq
open Go.RowKit Go.Lib

theorem hide {p : Prop} (h : p) : Hid p := h

/-- An identifier's cells: its twenty bytes and its width. -/
def idCells (xs : List Int) (bits : Nat) : List Value := xs.map (Value.int .u8) ++ [.int .u8 bits]

theorem id_cell (xs : List Int) (bits : Nat) (w : World) (t : TypeId) (k : Nat) (h : k < xs.length) : (w.alloc (.cells (idCells xs bits).toArray t)).cell? ⟨w.heap.size, k, none⟩ = some (.int .u8 (xs.getD k 0)) := by
  rw [World.cell?_alloc_new]
  simp [idCells, List.getElem?_append, h]
theorem id_cell_bits (xs : List Int) (bits : Nat) (w : World) (t : TypeId) (hx : xs.length = 20) : (w.alloc (.cells (idCells xs bits).toArray t)).cell? ⟨w.heap.size, 20, none⟩ = some (.int .u8 bits) := by
  rw [World.cell?_alloc_new]
  simp [idCells, hx]

theorem ext_hex (xs : List Int) (bits : Nat) (hx : xs.length = 20) : (⟨(hexL xs bits).toArray⟩ : ByteArray) = (⟨(Hx.encode (bytesOf xs)).toArray⟩ : ByteArray).extract (40 - (bits + 3) / 4) 40 := by
  have hl : (Hx.encode (bytesOf xs)).length = 40 := by rw [Hx.encode_length, bytesOf_length, hx]
  refine congrArg ByteArray.mk ?_ |>.trans ?_ (b := (⟨((⟨(Hx.encode (bytesOf xs)).toArray⟩ : ByteArray).extract (40 - (bits + 3) / 4) 40).data⟩ : ByteArray))
  · rw [← Array.toList_inj, Lib.extract_data]
    simp only [hexL]
    rw [List.take_of_length_le (by rw [List.length_drop]; omega)]
  · rfl

set_option maxRecDepth 100000 in
set_option maxHeartbeats 400000 in
theorem string_any (xs : List Int) (bits : Nat) (w : World) (hx : xs.length = 20) (hr : ∀ i, i < 20 → 0 ≤ xs.getD i 0 ∧ xs.getD i 0 < 256) (hb : bits ≤ 160) :
    Calls Yba.prog 24 #[.agg (idCells xs bits).toArray] w fun e w' => e = .returned (.string ⟨(hexL xs bits).toArray⟩) ∧ Below w.heap.size w w' := by
  have h20 := id_cell_bits xs bits w 29 hx
  have hcon := Yba.hex_EncodeToString w.heap.size 0 20 20 xs (w.alloc (.cells (idCells xs bits).toArray 29)) hx hr (fun i hi => by rw [Nat.zero_add]; exact id_cell xs bits w 29 i (by omega)) (by simp) (by omega)
  have HC := hide hcon
  have HX := hide hx
  clear hcon hr hx
  go_enter Yba.func24, Yba.ntmps24
  go_wp2_with fail
  refine HC.out.mono ?_
  rintro e w1 ⟨rfl, hb1⟩
  have h20' := (hb1.cell (p := ⟨w.heap.size, 20, none⟩) (by simp)).trans h20
  have hs : (⟨(Hx.encode (bytesOf xs)).toArray⟩ : ByteArray).size = 40 := by
    show (Hx.encode (bytesOf xs)).toArray.size = 40
    rw [List.size_toArray, Hx.encode_length, bytesOf_length, HX.out]
  obtain ⟨s, es⟩ : ∃ s : ByteArray, s = ⟨(Hx.encode (bytesOf xs)).toArray⟩ := ⟨_, rfl⟩
  rw [← es] at hs ⊢
  have ES := hide es
  have hz : w.heap.size + 1 ≤ w1.heap.size := by have := hb1.size; simpa using this
  clear es h20 HC
  have hfin : (⟨(hexL xs bits).toArray⟩ : ByteArray) = s.extract (40 - (bits + 3) / 4) 40 := by rw [ES.out]; exact ext_hex xs bits HX.out
  have HF := hide hfin
  clear hfin
  go_wp2
  go_ret
  exact ⟨ret_str HF.out.symm, ((Below.refl _ w).alloc (Nat.le_refl _) _).trans (hb1.mono (by simp))⟩

end Go.Proofs.Ybulkkiq
