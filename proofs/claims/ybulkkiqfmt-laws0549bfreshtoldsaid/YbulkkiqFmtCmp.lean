-- MINE
import Derived.Test.YbulkkiqFmtEq
import Derived.Lib.BytesEntry
import Derived.Laws.Externs
import Derived.WalkLawsBesides
import Derived.Deep.MidRow
import Derived.BigQuiet
import Derived.OwnWalk
namespace Go.Proofs.YbulkkiqFmt
open Go.RowKit Go.Shelf
open Go.Extern.Stop (cell)

theorem hide {p : Prop} (h : p) : Hid p := h

/-- What bytes.Compare answers of two identifiers. -/
def cmpB (x y : UInt8) : Int := if x = y then 0 else if x < y then -1 else 1

theorem cmp_bytes (x y : UInt8) : Extern.BytealgCompare.cmp ⟨(bytesL x).toArray⟩ ⟨(bytesL y).toArray⟩ = cmpB x y := by
  have hs : ∀ z : UInt8, (⟨(bytesL z).toArray⟩ : ByteArray).size = 20 := fun z => rfl
  unfold Extern.BytealgCompare.cmp cmpB
  rw [hs, hs, show List.range (min 20 20) = [0, 1, 2, 3, 4, 5, 6, 7, 8, 9, 10, 11, 12, 13, 14, 15, 16, 17, 18, 19] from rfl]
  have g1 : ∀ z : UInt8, (⟨(bytesL z).toArray⟩ : ByteArray)[19]! = z := fun z => rfl
  have hf : ([0, 1, 2, 3, 4, 5, 6, 7, 8, 9, 10, 11, 12, 13, 14, 15, 16, 17, 18, 19] : List Nat).find? (fun i => (⟨(bytesL x).toArray⟩ : ByteArray)[i]! != (⟨(bytesL y).toArray⟩ : ByteArray)[i]!) = (match x != y with | true => some 19 | false => none) := by rfl
  rw [hf]
  by_cases h : x = y
  · simp [h]
  · have : (x != y) = true := by simpa using h
    simp [h, this, g1]

theorem load20 (b : Nat) (o : Nat) (x : UInt8) (w : World) (h : w.rangeAt b o ((bytesL x).map cell)) :
    (Extern.Bytes.loadBytes ⟨b, o, none⟩ 20 .empty).run Ybaf.prog w = .ok ⟨(bytesL x).toArray⟩ w := by
  have := Lib.run_loadBytesX (P := Ybaf.prog) (w := w) ((bytesL x).map fun z => (z.toNat : Int)) ⟨b, o, none⟩ .empty (fun j y hy => by
    have := h j (.int .u8 y) (by
      rw [List.getElem?_map] at hy ⊢
      cases e : (bytesL x)[j]? with
      | none => rw [e] at hy; simp at hy
      | some u => rw [e] at hy; simp at hy; subst hy; rfl)
    rw [Addr.add_lit]
    exact this)
  simp only [List.length_map] at this
  rw [show (bytesL x).length = 20 from rfl] at this
  rw [this]
  simp [Lib.bytesOf, Function.comp_def]

theorem call23 (b c : Nat) (x y : UInt8) (w : World) (hb : w.rangeAt b 0 ((bytesL x).map cell)) (hc : w.rangeAt c 0 ((bytesL y).map cell)) (k l : Nat) :
    (callFunc 23 #[.slice (some ⟨b, 0, none⟩) 20 k, .slice (some ⟨c, 0, none⟩) 20 l]).run Ybaf.prog w = .ok (.value (.int .i64 (cmpB x y))) w := by
  rw [run_callFunc_extern (e := Extern.BytealgCompare.compare) Ybaf.func23 (by kernel_rfl) (by kernel_rfl) (by kernel_rfl) (by kernel_rfl)]
  have hcc : ∀ u v, Extern.BytealgCompare.compare #[u, v] = (do pure (goInt (Extern.BytealgCompare.cmp (← Extern.Bytes.bytesOf u) (← Extern.Bytes.bytesOf v)))) := fun u v => rfl
  rw [hcc]
  simp only [Extern.Bytes.bytesOf, Sem.run_bind, load20 b 0 x w hb, load20 c 0 y w hc, Result.andThen_ok, Sem.run_pure, cmp_bytes]
  rfl

theorem compare17 (b c : Nat) (x y : UInt8) (w : World) (hb : w.rangeAt b 0 ((bytesL x).map cell)) (hc : w.rangeAt c 0 ((bytesL y).map cell)) (k l : Nat) :
    Calls Ybaf.prog 17 #[.slice (some ⟨b, 0, none⟩) 20 k, .slice (some ⟨c, 0, none⟩) 20 l] w fun e w' => e = .returned (.int .i64 (cmpB x y)) ∧ w' = w := by
  have h := call23 b c x y w hb hc k l
  go_enter Ybaf.func17, Ybaf.ntmps17
  go_wp2
  go_ret
  exact ⟨rfl, rfl⟩

end Go.Proofs.YbulkkiqFmt
