import Derived.Ground.PaProg
import Derived.Shelf.Hex.Tagged
import Derived.Shelf.Slices.Equal
import Derived.Shelf.Slices.Empties2
import Derived.Shelf.Hex.Lens
import Derived.Shelf.Hex.Encode
import Derived.Shelf.Hex.More
import Derived.Test.YbulkkiqProg
namespace Go.Proofs
open Go.Shelf
def Yba.laysPa40_ren : Go.Shelf.Ren := ⟨fun | 40 => 40 | n => n, fun | 30 => 34 | 3 => 3 | 0 => 0 | 5 => 5 | 46 => 84 | 9 => 9 | n => n, fun | n => n⟩
theorem Yba.laysPa40 : Go.Proofs.Lays.p40 Yba.prog Yba.laysPa40_ren := {
  mixed := by kernel_rfl
  f40 := Yba.func40.trans (congrArg some (by kernel_rfl))
  t0 := Yba.underlying0
  a0 := Yba.isAgg0
  z0 := Yba.sizeOf0
  v0 := Yba.zeroValue0
  t3 := Yba.underlying3
  a3 := Yba.isAgg3
  z3 := Yba.sizeOf3
  v3 := Yba.zeroValue3
  t5 := Yba.underlying5
  a5 := Yba.isAgg5
  z5 := Yba.sizeOf5
  v5 := Yba.zeroValue5
  t9 := Yba.underlying9
  a9 := Yba.isAgg9
  z9 := Yba.sizeOf9
  v9 := Yba.zeroValue9
  t30 := Yba.underlying34
  a30 := Yba.isAgg34
  z30 := Yba.sizeOf34
  v30 := Yba.zeroValue34
  t46 := Yba.underlying84
  a46 := Yba.isAgg84
  z46 := Yba.sizeOf84
  v46 := Yba.zeroValue84 }
open Go.RowKit Go.Lib in
theorem Yba.hex_Encode_tag (T : TypeId) (bd od nd cd N : Nat) (f : Nat → Value) (bs os n cs : Nat) (xs : List Int) (w : World) (hx : xs.length = n) (hr : ∀ i, i < n → 0 ≤ xs.getD i 0 ∧ xs.getD i 0 < 256) (hsrc : ∀ i, i < n → w.cell? ⟨bs, os + i, none⟩ = some (.int .u8 (xs.getD i 0))) (hrow : w.rowIs bd T N f) (hfit : od + nd ≤ N) (hlen : 2 * n ≤ nd) (hne : bd ≠ bs) (hbig : n ≤ 4611686018427387903) :
    Calls Yba.prog 40 #[.slice (some ⟨bd, od, none⟩) nd cd, .slice (some ⟨bs, os, none⟩) n cs] w fun e w' => e = .returned (.int .i64 ((n : Int) * 2)) ∧ w'.rowIs bd T N (Hx.row f od (Lib.bytesOf xs) n) ∧ w.grownBy w' (some bd) := Any.hex_Encode_tag Yba.laysPa40 T bd od nd cd N f bs os n cs xs w hx hr hsrc hrow hfit hlen hne hbig
def Yba.lays193_ren : Go.Shelf.Ren := ⟨fun | 193 => 14 | n => n, fun | 31 => 71 | 9 => 9 | 4 => 4 | 3 => 3 | 0 => 0 | n => n, fun | n => n⟩
theorem Yba.lays193 : Go.Proofs.Lays.n193 Yba.prog Yba.lays193_ren := {
  mixed := by kernel_rfl
  f193 := Yba.func14.trans (congrArg some (by kernel_rfl))
  t0 := Yba.underlying0
  a0 := Yba.isAgg0
  z0 := Yba.sizeOf0
  v0 := Yba.zeroValue0
  t3 := Yba.underlying3
  a3 := Yba.isAgg3
  z3 := Yba.sizeOf3
  v3 := Yba.zeroValue3
  t4 := Yba.underlying4
  a4 := Yba.isAgg4
  z4 := Yba.sizeOf4
  v4 := Yba.zeroValue4
  t9 := Yba.underlying9
  a9 := Yba.isAgg9
  z9 := Yba.sizeOf9
  v9 := Yba.zeroValue9
  t31 := Yba.underlying71
  a31 := Yba.isAgg71
  z31 := Yba.sizeOf71
  v31 := Yba.zeroValue71 }
open Go.RowKit Go.Lib in
theorem Yba.slices_Equal_string (b1 o1 n c b2 o2 m d : Nat) (xs ys : List ByteArray) (w : World) (hx : n ≤ xs.length) (hy : m ≤ ys.length) (hbig : n ≤ 9223372036854775807) (hbig2 : m ≤ 9223372036854775807) (hc1 : ∀ j, j < xs.length → w.cell? ⟨b1, o1 + j, none⟩ = some (.string (xs.getD j ByteArray.empty))) (hc2 : ∀ j, j < ys.length → w.cell? ⟨b2, o2 + j, none⟩ = some (.string (ys.getD j ByteArray.empty))) :
    Calls Yba.prog 14 #[.slice (some ⟨b1, o1, none⟩) n c, .slice (some ⟨b2, o2, none⟩) m d] w fun e w' => e = .returned (.bool (decide (xs.take n = ys.take m))) ∧ ∃ q, w' = w.drewN q := Any.slices_Equal_string Yba.lays193 b1 o1 n c b2 o2 m d xs ys w hx hy hbig hbig2 hc1 hc2
open Go.RowKit Go.Lib in
theorem Yba.slices_Equal_string_empty (a1 a2 : Option Addr) (c m d : Nat) (w : World) (hbig2 : m ≤ 9223372036854775807) :
    Calls Yba.prog 14 #[.slice a1 0 c, .slice a2 m d] w fun e w' => e = .returned (.bool (decide (m = 0))) ∧ w' = w := Any.slices_Equal_string_empty Yba.lays193 a1 a2 c m d w hbig2
open Go.RowKit Go.Lib in
theorem Yba.slices_Equal_string_lens (a1 a2 : Option Addr) (n c m d : Nat) (w : World) (hnm : n ≠ m) :
    Calls Yba.prog 14 #[.slice a1 n c, .slice a2 m d] w fun e w' => e = .returned (.bool false) ∧ w' = w := Any.slices_Equal_string_lens Yba.lays193 a1 a2 n c m d w hnm
def Yba.laysPa41_ren : Go.Shelf.Ren := ⟨fun | 41 => 39 | n => n, fun | 3 => 3 | n => n, fun | n => n⟩
theorem Yba.laysPa41 : Go.Proofs.Lays.p41 Yba.prog Yba.laysPa41_ren := {
  mixed := by kernel_rfl
  f41 := Yba.func39.trans (congrArg some (by kernel_rfl))
  t3 := Yba.underlying3
  a3 := Yba.isAgg3
  z3 := Yba.sizeOf3
  v3 := Yba.zeroValue3 }
open Go.RowKit Go.Lib in
theorem Yba.hex_EncodedLen (n : Int) (h0 : 0 ≤ n) (h1 : n < 4611686018427387904) (w : World) :
    Calls Yba.prog 39 #[.int .i64 n] w fun e w' => e = .returned (.int .i64 (n * 2)) ∧ w' = w := Any.hex_EncodedLen Yba.laysPa41 n h0 h1 w
open Go.RowKit Go.Lib in
theorem Yba.hex_Encode (bd od nd cd N : Nat) (f : Nat → Value) (bs os n cs : Nat) (xs : List Int) (w : World) (hx : xs.length = n) (hr : ∀ i, i < n → 0 ≤ xs.getD i 0 ∧ xs.getD i 0 < 256) (hsrc : ∀ i, i < n → w.cell? ⟨bs, os + i, none⟩ = some (.int .u8 (xs.getD i 0))) (hrow : w.rowIs bd 5 N f) (hfit : od + nd ≤ N) (hlen : 2 * n ≤ nd) (hne : bd ≠ bs) (hbig : n ≤ 4611686018427387903) :
    Calls Yba.prog 40 #[.slice (some ⟨bd, od, none⟩) nd cd, .slice (some ⟨bs, os, none⟩) n cs] w fun e w' => e = .returned (.int .i64 ((n : Int) * 2)) ∧ w'.rowIs bd 5 N (Hx.row f od (Lib.bytesOf xs) n) ∧ w.grownBy w' (some bd) := Any.hex_Encode Yba.laysPa40 bd od nd cd N f bs os n cs xs w hx hr hsrc hrow hfit hlen hne hbig
def Yba.laysPah39_ren : Go.Shelf.Ren := ⟨fun | 39 => 34 | 41 => 39 | 40 => 40 | n => n, fun | 30 => 34 | 9 => 9 | 3 => 3 | 0 => 0 | 5 => 5 | 46 => 84 | n => n, fun | n => n⟩
theorem Yba.laysPah39 : Go.Proofs.Lays.ph39 Yba.prog Yba.laysPah39_ren := {
  mixed := by kernel_rfl
  f39 := Yba.func34.trans (congrArg some (by kernel_rfl))
  f40 := Yba.func40.trans (congrArg some (by kernel_rfl))
  f41 := Yba.func39.trans (congrArg some (by kernel_rfl))
  t0 := Yba.underlying0
  a0 := Yba.isAgg0
  z0 := Yba.sizeOf0
  v0 := Yba.zeroValue0
  t3 := Yba.underlying3
  a3 := Yba.isAgg3
  z3 := Yba.sizeOf3
  v3 := Yba.zeroValue3
  t5 := Yba.underlying5
  a5 := Yba.isAgg5
  z5 := Yba.sizeOf5
  v5 := Yba.zeroValue5
  t9 := Yba.underlying9
  a9 := Yba.isAgg9
  z9 := Yba.sizeOf9
  v9 := Yba.zeroValue9
  t30 := Yba.underlying34
  a30 := Yba.isAgg34
  z30 := Yba.sizeOf34
  v30 := Yba.zeroValue34
  t46 := Yba.underlying84
  a46 := Yba.isAgg84
  z46 := Yba.sizeOf84
  v46 := Yba.zeroValue84
  info5 := by kernel_rfl }
open Go.RowKit Go.Lib in
theorem Yba.hex_EncodeToString (bs os n cs : Nat) (xs : List Int) (w : World) (hx : xs.length = n) (hr : ∀ i, i < n → 0 ≤ xs.getD i 0 ∧ xs.getD i 0 < 256) (hsrc : ∀ i, i < n → w.cell? ⟨bs, os + i, none⟩ = some (.int .u8 (xs.getD i 0))) (hb : bs < w.heap.size) (hbig : 2 * n ≤ 281474976710656) :
    Calls Yba.prog 34 #[.slice (some ⟨bs, os, none⟩) n cs] w fun e w' => e = .returned (.string ⟨(Hx.encode (Lib.bytesOf xs)).toArray⟩) ∧ Below w.heap.size w w' := Any.hex_EncodeToString Yba.laysPah39 bs os n cs xs w hx hr hsrc hb hbig
open Go.RowKit Go.Lib in
theorem Yba.hex_Encode_nil (dst : Value) (w : World) :
    Calls Yba.prog 40 #[dst, .slice none 0 0] w fun e w' => e = .returned (.int .i64 0) ∧ w' = w := Any.hex_Encode_nil Yba.laysPa40 dst w
open Go.RowKit Go.Lib in
theorem Yba.hex_EncodeToString_nil (w : World) :
    Calls Yba.prog 34 #[.slice none 0 0] w fun e w' => e = .returned (.string ⟨#[]⟩) ∧ Below w.heap.size w w' := Any.hex_EncodeToString_nil Yba.laysPah39 w
open Go.RowKit Go.Lib in
theorem Yba.hex_EncodeToString_bytes (bs os cs : Nat) (l : List UInt8) (w : World) (hsrc : ∀ i (h : i < l.length), w.cell? ⟨bs, os + i, none⟩ = some (.int .u8 ((l[i]'h).toNat : Int))) (hb : bs < w.heap.size) (hbig : 2 * l.length ≤ 281474976710656) :
    Calls Yba.prog 34 #[.slice (some ⟨bs, os, none⟩) l.length cs] w fun e w' => e = .returned (.string ⟨(Hx.encode l).toArray⟩) ∧ Below w.heap.size w w' := Any.hex_EncodeToString_bytes Yba.laysPah39 bs os cs l w hsrc hb hbig
end Go.Proofs
