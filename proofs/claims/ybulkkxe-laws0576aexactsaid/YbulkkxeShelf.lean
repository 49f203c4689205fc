import Derived.Ground.MnProg
import Derived.Shelf.Bin.BEUint16
import Derived.Shelf.Bin.ReadersZ
import Derived.Test.YbulkkxeProg
namespace Go.Proofs
open Go.Shelf
def Yba.laysBin36_ren : Go.Shelf.Ren := ⟨fun | 36 => 8 | n => n, fun | 37 => 29 | 22 => 23 | 23 => 27 | 0 => 0 | 5 => 5 | 45 => 31 | n => n, fun | n => n⟩
theorem Yba.laysBin36 : Go.Proofs.LaysBin.n36 Yba.prog Yba.laysBin36_ren := {
  mixed := by kernel_rfl
  f36 := Yba.func8.trans (congrArg some (by kernel_rfl))
  t0 := Yba.underlying0
  a0 := Yba.isAgg0
  z0 := Yba.sizeOf0
  v0 := Yba.zeroValue0
  i0 := by kernel_rfl
  t5 := Yba.underlying5
  a5 := Yba.isAgg5
  z5 := Yba.sizeOf5
  v5 := Yba.zeroValue5
  i5 := by kernel_rfl
  t22 := Yba.underlying23
  a22 := Yba.isAgg23
  z22 := Yba.sizeOf23
  v22 := Yba.zeroValue23
  i22 := by kernel_rfl
  t23 := Yba.underlying27
  a23 := Yba.isAgg27
  z23 := Yba.sizeOf27
  v23 := Yba.zeroValue27
  i23 := by kernel_rfl
  t37 := Yba.underlying29
  a37 := Yba.isAgg29
  z37 := Yba.sizeOf29
  v37 := Yba.zeroValue29
  i37 := by kernel_rfl
  t45 := Yba.underlying31
  a45 := Yba.isAgg31
  z45 := Yba.sizeOf31
  v45 := Yba.zeroValue31
  i45 := by kernel_rfl }
open Go.RowKit in
theorem Yba.binary_BE_Uint16 (g o n c : Nat) (b0 b1 : UInt8) (w : World) (hn : 2 ≤ n) (c0 : w.cell? ⟨g, o, none⟩ = some (.int .u8 b0.toNat)) (c1 : w.cell? ⟨g, o + 1, none⟩ = some (.int .u8 b1.toNat)) :
    Calls Yba.prog 8 #[.agg #[], .slice (some ⟨g, o, none⟩) n c] w fun e w' => e = .returned (.int .u16 (Lib.beNat [b0, b1])) ∧ Below w.heap.size w w' := Any.binary_BE_Uint16 Yba.laysBin36 g o n c b0 b1 w hn c0 c1
open Go.RowKit in
theorem Yba.binary_BE_Uint16_z (a : Addr) (n c : Nat) (zs : List Int) (w : World) (hn : 2 ≤ n) (hl : 2 ≤ zs.length) (hcell : ∀ i, i < zs.length → w.cell? (a.add i) = some (.int .u8 (zs.getD i 0))) (hw : ∀ z ∈ zs, (Lit.int .u8 z).wf = true) :
    Calls Yba.prog 8 #[.agg #[], .slice (some a) n c] w fun e w' => e = .returned (.int .u16 (Lib.beZ (zs.take 2))) ∧ Below w.heap.size w w' := Any.binary_BE_Uint16_z Yba.laysBin36 a n c zs w hn hl hcell hw
end Go.Proofs
